import PyProof.Rows.All
import Wide.All
import OpenK.AllK
import Wide.FinOn
import PySem.Challenge.RW_fq5039_01
set_option Elab.async false
set_option maxRecDepth 100000
set_option maxHeartbeats 8000000
/-! part Hd -/
section
open PySem PySem.W PyProof.Rows
namespace Mine
set_option maxRecDepth 100000 in
set_option maxHeartbeats 8000000 in
open_top hd for PySem.Challenge.rw_fq5039_01
end Mine
end
/-! part S1 -/
section
open PySem PySem.W PyProof.Rows PySem.Spec PySem.Calls
namespace Mine

theorem setOf_congr {prog : Program} {w : World} {h : Heap} {a : Addr} {S S' : Str → Bool} {n n' : Nat}
    (hS : h.SetOf (PySem.strKind prog w) a S n) (e : ∀ k, S k = S' k) (en : n = n') : h.SetOf (PySem.strKind prog w) a S' n' := by
  obtain rfl : S = S' := funext e
  subst en; exact hS

section
variable {prog : Program} {w : World} {A : Around} {R : Result → Shared → Prop} {I : Addr} {fp wr : List Addr} {G : Array GenState → Array GenState → Prop} {n : Nat} {P : Nat → Value → Prop} {St : Nat → Shared → Prop}

theorem setLoop (W : WalksS prog w A.in1 I fp wr G n P St) (D : Addr) (hDf : D ∉ fp) (val : Nat → Str) (hval : ∀ i v, P i v → ∃ t, v = .str (val i) t)
    (Sx : Nat → Str → Bool) (c : Nat → Nat) (hSx : ∀ i k, Sx (i + 1) k = (Sx i k || decide (k = val i))) (hc : ∀ i, c (i + 1) = if Sx i (val i) then c i else c i + 1) (hb : ∀ i, i < n → c i + 1 < scanBound) :
    ∀ (k i : Nat) (s : Shared), n - i = k → i ≤ n → St i s → s.heap.SetOf (PySem.strKind prog w) D (Sx i) (c i) →
      (∀ s', Moved (D :: wr) G s s' → s'.heap.SetOf (PySem.strKind prog w) D (Sx n) (c n) → R (.ok (.ret .none)) s') →
      codeAny (model prog w) A (.builtin "set.update.loop" ⟨[.ref D, .ref I], []⟩) R s := by
  have hDw : D ∉ wr := fun h => hDf (W.sub _ h)
  have hsub : ∀ b ∈ wr, b ∈ D :: wr := fun b hb => List.mem_cons_of_mem _ hb
  intro k
  induction k with
  | zero =>
    intro i s hk hi hst hS hR
    obtain rfl : i = n := by omega
    refine codeAny_builtin PyProof.Rows.F.entry_set_update_loop ?_
    rw [Around.under_plainId PyProof.Rows.F.plain_set_update_loop _]
    show wpAny _ A.in1 (pyNext (.ref I) >>= _) _ _ s
    refine wpAny_bind (W.done s _ _ hst fun s' hm => ?_)
    show wpAny _ A.in1 (PySem.ret Value.none) _ _ s'
    exact wpAny_pure (hR s' (hm.mono hsub) (by
      obtain ⟨o, es, ep, t, ho, rest⟩ := hS
      exact ⟨o, es, ep, t, hm.heap D _ hDw ho, rest⟩))
  | succ k ih =>
    intro i s hk hi hst hS hR
    have hlt : i < n := by omega
    refine codeAny_builtin PyProof.Rows.F.entry_set_update_loop ?_
    rw [Around.under_plainId PyProof.Rows.F.plain_set_update_loop _]
    show wpAny _ A.in1 (pyNext (.ref I) >>= _) _ _ s
    refine wpAny_bind (W.item i s _ _ hlt hst fun v s' hP hst' hm => ?_)
    obtain ⟨t, rfl⟩ := hval i v hP
    have hS' : s'.heap.SetOf (PySem.strKind prog w) D (Sx i) (c i) := by
      obtain ⟨o, es, ep, tb, ho, rest⟩ := hS
      exact ⟨o, es, ep, tb, hm.heap D _ hDw ho, rest⟩
    show wpAny _ A.in1 (holding [Value.str (val i) t] (setAdd D (.str (val i) t)) >>= _) _ _ s'
    refine wpAny_bind (wpAny_holding ?_)
    unfold setAdd
    refine wpAny_holding ?_
    refine wpAny_bind ((PySem.strKind prog w).pyHash (k := val i) (strKind_is _ _ _ _) ?_)
    refine wpAny_setAddHashed_of (knd := PySem.strKind prog w) (s := { s' with toks := s'.toks + 1 }) (strKind_is _ _ _ _) rfl hS' (hb i hlt) fun h' hsb hS2 => ?_
    have hSi : h'.SetOf (PySem.strKind prog w) D (Sx (i + 1)) (c (i + 1)) := setOf_congr hS2 (fun k' => (hSx i k').symm) (hc i).symm
    refine wpAny_pure ⟨plainId_quiet PyProof.Rows.F.plain_set_update_loop _, ih (i + 1) _ (by omega) hlt (W.frame _ s' _ _ hst' (Nat.le_succ _) fun b hb o e => ?_) hSi fun s'' hm'' hS'' => ?_⟩
    · rw [hsb.2 b (fun h : b = D => hDf (by rw [← h]; exact hb))]; exact e
    · refine hR s'' (Moved.trans W.gtrans ((hm.mono hsub).then_heap (Nat.le_succ _) fun b o hb e => ?_) hm'') hS''
      rw [hsb.2 b (fun h : b = D => hb (by rw [h]; exact List.mem_cons_self))]; exact e
end

theorem sub_tuple_set : isSubtype (.type "tuple") (.type "set") = pure false := by rw [isSubtype_type]; kernel_rfl
theorem sub_tuple_frozenset : isSubtype (.type "tuple") (.type "frozenset") = pure false := by rw [isSubtype_type]; kernel_rfl

section
variable {prog : Program} {w : World} {A : Around} {E : Value → Shared → Prop} {s : Shared}
def seen2 (x y : Str) : Nat → Str → Bool
  | 0, _ => false
  | 1, k => decide (k = x)
  | 2, k => decide (k = x) || decide (k = y)
  | n + 3, k => seen2 x y (n + 2) k || decide (k = x)
def val2 (x y : Str) : Nat → Str
  | 1 => y
  | _ => x
def cnt2 (x y : Str) : Nat → Nat
  | 0 => 0
  | n + 1 => if seen2 x y n (val2 x y n) then cnt2 x y n else cnt2 x y n + 1

set_option maxHeartbeats 3200000 in
theorem call_set_two {l : Addr} {x y : Str} {t u : Tok} {Q : Value → Shared → Prop}
    (hh : A.handled = none) (hl : s.heap.IsTuple l #[.str x t, .str y u])
    (h : ∀ (h' : Heap) (tk : Nat), h'.SetOf (PySem.strKind prog w) s.heap.objs.size (seen2 x y 2) (cnt2 x y 2) →
      (∀ b o, b < s.heap.objs.size → s.heap.get? b = some o → h'.get? b = some o) → Q (.ref s.heap.objs.size) { s with heap := h', toks := tk }) :
    wpAny (model prog w) A (call (.type "set") [.ref l]) Q E s := by
  obtain ⟨c, tl, hmro⟩ := PySem.F.called_set.mro
  have hmade := PySem.F.called_set.made
  have hsub := PySem.F.called_set.sub
  refine wpAny_call (codeAny_of_tree ?_)
  show wpAny _ _ (callAny (.type "set") _) _ _ _
  refine wpAny_pure ⟨Code.quiet_builtin _ (by decide +kernel), codeAny_builtin PySem.F.entry_type_call ?_⟩
  rw [Around.under_plain (weight_type_call_type "set" [.ref l] []) rfl]
  have h1 := PySem.F.called_set.notType
  have h2 := PySem.F.called_set.canCreate
  have hct := PySem.F.typeCall_set_1 (.ref l)
  repeat (any_goals (first | assumption | wp_step))
  refine codeAny_mono (code_set_new_1 (.ref l) (E := E) (Q₁ := fun obj s₁ => ∃ led : Bool, obj = .ref s.heap.objs.size ∧ s₁ = { s with heap := s.heap.push { cls := .type "set", dict := none, data := .set #[] 0 (.fresh 0 0 led) } }) fun led => ⟨led, rfl, rfl⟩) fun r s₁ hr => ?_
  cases r with
  | error e => exact hr
  | ok fl =>
    cases fl with
    | ret obj =>
      obtain ⟨led, rfl, rfl⟩ := hr
      have hS : (s.heap.push { cls := .type "set", dict := none, data := .set #[] 0 (.fresh 0 0 led) }).get? s.heap.objs.size = some { cls := .type "set", dict := none, data := .set #[] 0 (.fresh 0 0 led) } := Heap.get?_push_size _ rfl
      have hT : Shared.TypeIs { s with heap := s.heap.push { cls := .type "set", dict := none, data := .set #[] 0 (.fresh 0 0 led) } } (.ref s.heap.objs.size) "set" := ⟨_, hS, rfl⟩
      have hli := PySem.F.called_set.init.lookup
      have hbi := PySem.F.called_set.init.bind (.ref s.heap.objs.size)
      repeat (any_goals (first | assumption | wp_step))
      refine codeAny_mono (codeAny_call_builtin (R := wants (fun r s₂ => r = .none ∧ ∃ h' tk, s₂ = { s with heap := h', toks := tk } ∧
          h'.SetOf (PySem.strKind prog w) s.heap.objs.size (seen2 x y 2) (cnt2 x y 2) ∧
          (∀ b o, b < s.heap.objs.size → s.heap.get? b = some o → h'.get? b = some o)) E) PySem.F.called_set.init.plain PySem.F.entry_set_init (check_set_init_1 hT ?_)) fun r₂ s₂ hr₂ => ?_
      · obtain ⟨ol, hol, hcl, nl, hdl⟩ := hl
        obtain ⟨ocls, odict, odata, oslots⟩ := ol
        simp only at hcl hdl
        subst hcl; subst hdl
        have hol' : (s.heap.push { cls := .type "set", dict := none, data := .set #[] 0 (.fresh 0 0 led) }).get? l = some { cls := .type "tuple", dict := odict, data := .seq #[.str x t, .str y u] nl, slots := oslots } := Heap.get?_push_of_some _ hol
        have hsls := sub_tuple_set
        have hslf := sub_tuple_frozenset
        have hne : (Value.type "tuple" == Value.type "dict") = false := by decide
        have hl1 : (s.heap.push { cls := .type "set", dict := none, data := .set #[] 0 (.fresh 0 0 led) }).IsTuple l #[.str x t, .str y u] := ⟨_, hol', rfl, nl, rfl⟩
        unfold Builtin.«set.__init__» noKeywords Builtin.Frozenset.updateFrom
        generalize hPI : pyIter = PI
        wp_walk
        subst hPI
        refine wpAny_pyIter_tuple hl1 ?_
        refine wpAny_bind (wpAny_runValue ?_)
        have hlS : l < s.heap.objs.size := Heap.lt_size hol
        have hh3 : A.in1.in1.in1.handled = none := by simp [hh]
        have hneI : l ≠ (s.heap.push { cls := .type "set", dict := none, data := .set #[] 0 (.fresh 0 0 led) }).objs.size := by
          rw [Heap.size_push]; exact Nat.ne_of_lt (Nat.lt_succ_of_lt hlS)
        have hSf : s.heap.objs.size ∉ [(s.heap.push { cls := .type "set", dict := none, data := .set #[] 0 (.fresh 0 0 led) }).objs.size, l] := by
          rw [Heap.size_push]; simp only [List.mem_cons, List.mem_singleton, List.not_mem_nil, or_false, not_or]
          exact ⟨Nat.ne_of_lt (Nat.lt_succ_self _), Nat.ne_of_gt hlS⟩
        have hval : ∀ (i : Nat) (v : Value), (#[Value.str x t, .str y u])[i]? = some v → ∃ t, v = .str (val2 x y i) t := fun i v hv => by
          match i, hv with
          | 0, hv => exact ⟨t, (Option.some.inj hv).symm⟩
          | 1, hv => exact ⟨u, (Option.some.inj hv).symm⟩
        refine setLoop ((Walks.tuple hh3 _ l hneI #[.str x t, .str y u]).toS) s.heap.objs.size hSf (val2 x y) hval (seen2 x y) (cnt2 x y) ?_ (fun _ => rfl) ?_ 2 0 _ rfl (Nat.zero_le _)
          ⟨⟨_, Heap.get?_push_size _ rfl, rfl, rfl⟩, (hl1.push _)⟩ ?hS0 ?hR
        · intro i k
          match i with
          | 0 => simp [seen2, val2]
          | 1 => simp [seen2, val2]
          | n + 2 => simp [seen2, val2]
        · intro i hi
          have hi : i < 2 := hi
          have : cnt2 x y i ≤ i := by
            clear hi
            induction i with
            | zero => exact Nat.le_refl _
            | succ n ih => unfold cnt2; split <;> omega
          unfold scanBound; omega
        case hS0 =>
          have hget : ((s.heap.push { cls := .type "set", dict := none, data := .set #[] 0 (.fresh 0 0 led) }).push { cls := .type "tuple_iterator", data := .fields #[.ref l, .int 0 0] }).get? s.heap.objs.size
              = some { cls := .type "set", dict := none, data := .set #[] 0 (.fresh 0 0 led) } := Heap.get?_push_of_some _ hS
          exact setOf_congr ((PyProof.Rows.setObjOf_fresh (knd := PySem.strKind prog w) led).setOf hget (by unfold scanBound; omega)) (fun _ => rfl) rfl
        case hR =>
          intro s' hm hS'
          obtain ⟨h', g', d', tk', os'⟩ := s'
          have eg : g' = s.gens := hm.gens
          have ed : d' = s.drawn := hm.drawn
          have eo : os' = s.os := hm.os
          subst eg; subst ed; subst eo
          show wpAny _ _ _ _ _ _
          refine wpAny_pure ?_
          show wpAny _ _ (PySem.ret Value.none) _ _ _
          refine wpAny_pure ⟨rfl, h', tk', rfl, hS', fun b o hb e => ?_⟩
          have hb1 : b ≠ s.heap.objs.size := Nat.ne_of_lt hb
          have hb2 : b ≠ (s.heap.push { cls := .type "set", dict := none, data := .set #[] 0 (.fresh 0 0 led) }).objs.size := by
            rw [Heap.size_push]; exact Nat.ne_of_lt (Nat.lt_succ_of_lt hb)
          exact hm.heap b o (by simp only [List.mem_cons, List.mem_singleton, List.not_mem_nil, or_false, not_or]; exact ⟨hb1, hb2⟩) (Heap.get?_push_of_some _ (Heap.get?_push_of_some _ e))
      · cases r₂ with
        | error e => exact hr₂
        | ok fl₂ =>
          cases fl₂ with
          | ret r =>
            obtain ⟨rfl, h', tk, rfl, hS', hk'⟩ := hr₂
            repeat (any_goals (first | assumption | wp_step))
            exact h _ _ hS' hk'
          | _ => exact hr₂.elim
    | _ => exact hr.elim
end

section
variable {prog : Program} {w : World} {A : Around} {E : Value → Shared → Prop} {s : Shared} {h₀ : Heap} {L : Addr} {m : Str → Option Value} {news : List (Addr × Obj)}
theorem newSetTwo_N {l : Addr} {x y : Str} {t u : Tok} {Q : Value → Shared → Prop} (F : Fr h₀ L s.heap m) (N : News h₀ L s.heap news)
    (hh : A.handled = none) (hm : (l, ({ cls := .type "tuple", data := .seq [Value.str x t, .str y u].toArray } : Obj)) ∈ news)
    (h : ∀ D h' (tk : Nat) o, Fr h₀ L h' m → News h₀ L h' ((D, o) :: news) → (∀ p ∈ news, p.1 < D) →
      o.SetObjOf (PySem.strKind prog w) (seen2 x y 2) (if x = y then 1 else 2) → Q (.ref D) { s with heap := h', toks := tk }) :
    wpAny (model prog w) A (call (.type "set") [.ref l]) Q E s := by
  have hl' : s.heap.IsTuple l #[.str x t, .str y u] := ⟨_, (N _ hm).1, rfl, 0, rfl⟩
  refine call_set_two hh hl' fun h' tk hS hk => ?_
  obtain ⟨o, ho, hso⟩ := hS.objOf
  obtain ⟨oL, _, _, hL, _⟩ := F.ns
  have hLlt : L < s.heap.objs.size := Heap.lt_size hL
  have e2 : cnt2 x y 2 = if x = y then 1 else 2 := by
    by_cases e : x = y
    · subst e; simp [cnt2, seen2, val2]
    · have e' : ¬ y = x := fun q => e q.symm
      simp [cnt2, seen2, val2, e, e']
  rw [e2] at hso
  refine h _ h' tk o ⟨F.ns.at' fun o' e => hk L o' hLlt e, fun b o' e => hk b o' (Heap.lt_size (F.keep b o' e)) (F.keep b o' e), F.above⟩ (fun p hp => ?_) (fun p hp => Heap.lt_size (N p hp).1) hso
  rcases List.mem_cons.mp hp with rfl | hp
  · refine ⟨ho, Nat.ne_of_gt hLlt, ?_⟩
    cases hq : h₀.get? s.heap.objs.size with
    | none => rfl
    | some o' => exact absurd (Heap.lt_size (F.keep _ _ hq)) (Nat.lt_irrefl _)
  · exact ⟨hk _ _ (Heap.lt_size (N p hp).1) (N p hp).1, (N p hp).2.1, (N p hp).2.2⟩
end
end Mine
end
/-! part U1 -/
section
open PySem PySem.W PyProof.Rows PySem.Spec PySem.Calls
namespace Mine
abbrev listO (vs : List Value) (n : Nat := 0) : Obj := { cls := .type "list", data := .seq vs.toArray n }
abbrev tupO (vs : List Value) : Obj := { cls := .type "tuple", data := .seq vs.toArray }
def isIn (x g : Str) : Bool := !(Builtin.Str.occurrences g x 0 g.length 1).isEmpty
theorem strsAt : ∀ {vs : List Value} {xs : List Str}, StrsAre vs xs → ∀ (i : Nat) (v : Value), vs[i]? = some v → ∃ x t, xs[i]? = some x ∧ v = .str x t
  | _, _, .nil, i, v, h => by simp at h
  | _, _, .cons x t _, 0, v, h => ⟨x, t, rfl, by simpa using h.symm⟩
  | _, _, .cons x t r, i + 1, v, h => by simpa using strsAt r i v (by simpa using h)
theorem strsLen : ∀ {vs : List Value} {xs : List Str}, StrsAre vs xs → vs.length = xs.length
  | _, _, .nil => rfl
  | _, _, .cons _ _ r => by simp [strsLen r]
theorem strsSnoc {y : Str} {t : Tok} : ∀ {vs : List Value} {ys : List Str}, StrsAre vs ys → StrsAre (vs ++ [.str y t]) (ys ++ [y])
  | _, _, .nil => .cons y t .nil
  | _, _, .cons z u r => .cons z u (strsSnoc r)
theorem all_ne {l : List (Addr × Obj)} {a d : Addr} (h : ∀ p ∈ l, p.1 < a) (hd : @LE.le Nat _ a d) : ∀ p ∈ l, p.1 ≠ d := fun p hp e => Nat.lt_irrefl _ (Nat.lt_of_lt_of_le (e ▸ h p hp) hd)
theorem allLt_0 {d : Addr} : ∀ {l : List (Addr × Obj)}, AllLt d l → ∀ p ∈ l, p.1 ≠ d
  | [], _, _, h => nomatch h
  | _ :: _, x, p, h => by
    rcases List.mem_cons.mp h with rfl | h
    · exact Nat.ne_of_lt x.1
    · exact allLt_0 x.2 p h
theorem allLt_1 {d : Addr} {l : List (Addr × Obj)} {a0 : Prop} (h : a0 ∧ AllLt d l) : ∀ p ∈ l, p.1 ≠ d := allLt_0 h.2
theorem allLt_2 {d : Addr} {l : List (Addr × Obj)} {a0 a1 : Prop} (h : a0 ∧ a1 ∧ AllLt d l) : ∀ p ∈ l, p.1 ≠ d := allLt_0 h.2.2
theorem allLt_3 {d : Addr} {l : List (Addr × Obj)} {a0 a1 a2 : Prop} (h : a0 ∧ a1 ∧ a2 ∧ AllLt d l) : ∀ p ∈ l, p.1 ≠ d := allLt_0 h.2.2.2
theorem allLt_4 {d : Addr} {l : List (Addr × Obj)} {a0 a1 a2 a3 : Prop} (h : a0 ∧ a1 ∧ a2 ∧ a3 ∧ AllLt d l) : ∀ p ∈ l, p.1 ≠ d := allLt_0 h.2.2.2.2
theorem allLt_5 {d : Addr} {l : List (Addr × Obj)} {a0 a1 a2 a3 a4 : Prop} (h : a0 ∧ a1 ∧ a2 ∧ a3 ∧ a4 ∧ AllLt d l) : ∀ p ∈ l, p.1 ≠ d := allLt_0 h.2.2.2.2.2
theorem allLt_6 {d : Addr} {l : List (Addr × Obj)} {a0 a1 a2 a3 a4 a5 : Prop} (h : a0 ∧ a1 ∧ a2 ∧ a3 ∧ a4 ∧ a5 ∧ AllLt d l) : ∀ p ∈ l, p.1 ≠ d := allLt_0 h.2.2.2.2.2.2
theorem allLt_7 {d : Addr} {l : List (Addr × Obj)} {a0 a1 a2 a3 a4 a5 a6 : Prop} (h : a0 ∧ a1 ∧ a2 ∧ a3 ∧ a4 ∧ a5 ∧ a6 ∧ AllLt d l) : ∀ p ∈ l, p.1 ≠ d := allLt_0 h.2.2.2.2.2.2.2
theorem allLt_8 {d : Addr} {l : List (Addr × Obj)} {a0 a1 a2 a3 a4 a5 a6 a7 : Prop} (h : a0 ∧ a1 ∧ a2 ∧ a3 ∧ a4 ∧ a5 ∧ a6 ∧ a7 ∧ AllLt d l) : ∀ p ∈ l, p.1 ≠ d := allLt_0 h.2.2.2.2.2.2.2.2
theorem hereLen (x : Str) : (Str.ofString " " ++ x).length = x.length + 1 := by
  have : (Str.ofString " ").length = 1 := by decide
  rw [Str.length_append, this]; omega
theorem all_app {rl l : List (Addr × Obj)} {d : Addr} (h : ∀ p ∈ rl, d ≠ p.1) (h2 : ∀ p ∈ l, p.1 ≠ d) : ∀ p ∈ rl ++ l, p.1 ≠ d := fun p hp => (List.mem_append.mp hp).elim (fun q e => h p q e.symm) (h2 p)
section
variable {prog : Program} {w : World} {A : Around} {E : Value → Shared → Prop} {s : Shared} {h₀ : Heap} {L : Addr} {m : Str → Option Value} {env : Env} {news : List (Addr × Obj)}
theorem item_led {value slice : Expr} {l : Addr} {vs : List Value} {n : Nat} {k : Int} {u : Tok} {v : Value} {Q : Value → Shared → Prop}
    (N : News h₀ L s.heap news) (hm : (l, listO vs n) ∈ news) (h0 : 0 ≤ k) (hhi : k < 2 ^ 63) (hx : vs[k.toNat]? = some v) (h : Q v s)
    (hs : subscripted slice false (.ref l) (.int k u) = operate [.ref l, .int k u] (getItem (.ref l) (.int k u)) := by with_unfolding_all rfl) :
    wpAny (model prog w) A (subscriptTail value slice (.ref l) (.int k u)) Q E s :=
  have hl : s.heap.IsList l vs.toArray := ⟨_, (N _ hm).1, rfl, n, rfl⟩
  tail_any hl.typeIs slot_list_getitem.lookup (wpAny_getItem_list hl h0 hhi (by simpa using hx) h) hs
theorem ne_nil_led {a b : Addr} {ys : List Value} {n k : Nat} {Q : Value → Shared → Prop} (N : News h₀ L s.heap news) (ha : (a, listO ys n) ∈ news) (hb : (b, listO [] k) ∈ news) (hu : A.units < cLine)
    (h : Q (.bool (!ys.isEmpty)) s) : wpAny (model prog w) A (compareOp .NotEq (.ref a) (.ref b)) Q E s := by
  have la : s.heap.IsList a ys.toArray := ⟨_, (N _ ha).1, rfl, n, rfl⟩
  have lb : s.heap.IsList b ([] : List Value).toArray := ⟨_, (N _ hb).1, rfl, k, rfl⟩
  cases ys with
  | nil => exact (SeqAt.RcNeAt.lists (e := fun _ => true) la lb rfl hu (fun j h1 _ => absurd h1 (Nat.not_lt_zero _))) prog w E Q h
  | cons v r => exact (SeqAt.RcNeAt.lists_lengths la lb (by simp) hu) prog w E Q h

theorem in_isIn {x y : Str} {t u : Tok} {Q : Value → Shared → Prop} (h : Q (.bool (isIn y x)) s) : wpAny (model prog w) A (compareOp .In (.str y u) (.str x t)) Q E s := in_str h
theorem notin_isIn {x y : Str} {t u : Tok} {Q : Value → Shared → Prop} (h : Q (.bool (!isIn y x)) s) : wpAny (model prog w) A (compareOp .NotIn (.str y u) (.str x t)) Q E s := notIn_str h
open LCg in
theorem tup_st {ax I : Addr} {its : Array Value} {k : Nat} : ∀ i (h h' : Heap) (o : Obj) (nw : List (Addr × Obj)), (h.IsTupleIter I ax i ∧ h.IsTuple ax its) → h.get? I = some o → h'.get? I = some o → (∀ b o, h₀.get? b = some o → h'.get? b = some o) → News h₀ L h' nw → ((ax, ({ cls := .type "tuple", data := .seq its k } : Obj)) ∈ nw) → (h'.IsTupleIter I ax i ∧ h'.IsTuple ax its) :=
  fun i h h' o nw st e e' _ N S => ⟨by obtain ⟨o', q, r⟩ := st.1; rw [e] at q; cases q; exact ⟨o, e', r⟩, ⟨_, (N _ S).1, rfl, k, rfl⟩⟩

def CompSrcTup (prog : Program) (w : World) (A : Around) (h₀ : Heap) (L : Addr) (m : Str → Option Value) (env : Env) (ct elt : Expr) (x : Str) (scope : Scope) (cl : List (Str × Addr)) (Fin : Shared → List Value → List (Addr × Obj) → Prop) (xv : Value) (s₁ : Shared) : Prop :=
  ∃ ax its k news, xv = .ref ax ∧ A.handled = none ∧ Fr h₀ L s₁.heap m ∧ News h₀ L s₁.heap news ∧ (ax, ({ cls := .type "tuple", data := .seq its k } : Obj)) ∈ news ∧ its.size ≤ sizeLine ∧
    ∀ s₂ : Shared, (∃ h, s₂ = { s₁ with heap := h }) → LCt.CompRestT prog w A h₀ L m env ct elt x scope cl s₂ (fun nw => (ax, ({ cls := .type "tuple", data := .seq its k } : Obj)) ∈ nw) (fun i v => its[i]? = some v) (Fin s₂) its.size 0 [] news
theorem CompSrcTup.intro {ct elt : Expr} {x : Str} {scope : Scope} {cl : List (Str × Addr)} {Fin : Shared → List Value → List (Addr × Obj) → Prop} {ax : Addr} {its : Array Value} {k : Nat} {s₁ : Shared}
    (hh : A.handled = none) (F : Fr h₀ L s₁.heap m) (N : News h₀ L s₁.heap news) (hm : (ax, ({ cls := .type "tuple", data := .seq its k } : Obj)) ∈ news) (hsz : its.size ≤ sizeLine)
    (h : ∀ g, LCt.CompRestT prog w A h₀ L m env ct elt x scope cl { s₁ with heap := g } (fun nw => (ax, ({ cls := .type "tuple", data := .seq its k } : Obj)) ∈ nw) (fun i v => its[i]? = some v) (Fin { s₁ with heap := g }) its.size 0 [] news) :
    CompSrcTup prog w A h₀ L m env ct elt x scope cl Fin (.ref ax) s₁ := ⟨ax, its, k, news, rfl, hh, F, N, hm, hsz, fun _ ⟨g, e⟩ => e ▸ h g⟩
open LCg in
theorem ListComp_TT {ct elt iter : Expr} {x : Str} {px : Pos} {scope : Scope} {cl : List (Str × Addr)} {pos : Pos} {Q : Value → Shared → Prop} (_F₀ : Fr h₀ L s.heap m)
    (hclos : closureFor scope env = pure cl) (hcell : ∀ y ∈ scope.names, y.2 ≠ .cell) (hkind : scope.kind = .function)
    (hnames : ∀ y ∈ scope.names, y.2 = .local → scope.names.lookup y.1 = some .local) (hx : scope.names.lookup x = some .local)
    (h : wpAny (model prog w) A (eval iter env) (CompSrcTup prog w A h₀ L m env ct elt x scope cl (fun s₂ => LCg.FinE h₀ L m s₂ Q)) E s)
    (hs : ∀ x, foldedSetIterable iter env x = pure x := by intro _; rfl) :
    wpAny (model prog w) A (eval (.ListComp elt [⟨.Name x px, iter, [ct], 0⟩] scope pos) env) Q E s := by
  rw [eval_ListComp]
  refine wpAny_comprehension_free (use := none) rfl hs hclos hkind hnames (wpAny_mono h (fun xv s₁ h₁ => ?_) fun _ _ e => e)
  obtain ⟨ax, its, k, news, rfl, hh, F, N, S, hsz, R⟩ := h₁
  have hl : s₁.heap.IsTuple ax its := ⟨_, (N _ S).1, rfl, k, rfl⟩
  have hlt : ax < s₁.heap.objs.size := Heap.lt_size (N _ S).1
  refine wpAny_pyIter_tuple hl ?_
  have up : ∀ b o, s₁.heap.get? b = some o → (s₁.heap.push { cls := .type "tuple_iterator", data := .fields #[.ref ax, .int 0 0] }).get? b = some o := fun b o e => Heap.get?_push_of_some _ e
  refine LCt.block_T (Walks.tuple hh s₁.heap.objs.size ax (Nat.ne_of_lt hlt) its) hsz (fun i h st => by obtain ⟨o, e, _⟩ := st.1; exact ⟨o, e⟩) tup_st hcell hkind hx ⟨⟨_, Heap.get?_push_size _ rfl, rfl, rfl⟩, hl.push _⟩ (fun b hb => ?_)
    (F.keeps up) (N.grown up) (Nat.ne_of_lt F.ns.lt) (next_is_new F) (fun p hp => Nat.ne_of_lt (Heap.lt_size (N p hp).1)) S (R _ ⟨_, rfl⟩) ?_
  · show b < (s₁.heap.push _).objs.size
    rw [Heap.size_push]
    rcases List.mem_cons.mp hb with rfl | hb
    · exact Nat.lt_succ_self _
    · rw [List.mem_singleton.mp hb]; exact Nat.lt_succ_of_lt hlt
  · intro D C h tk m' ys news' F' N' o1 hn hC₀ hD₀ hCL hDL hCD offC fin
    refine ⟨m', hn, fun h'' hs'' => fin D h'' tk (F'.change hs'' hCL hC₀) (fun p hp => ?_) o1⟩
    refine ⟨hs''.extBut _ _ ?_ (N' p hp).1, (N' p hp).2⟩
    rcases List.mem_cons.mp hp with rfl | hp
    · exact Ne.symm hCD
    · exact offC p hp
end
def HitEl (hit : Bool) (g : Str) (news : List (Addr × Obj)) (y : Value) (news' : List (Addr × Obj)) : Prop := news' = news ∧ hit = true ∧ ∃ t : Tok, y = .str g t
def HitNo (hit : Bool) (news news' : List (Addr × Obj)) : Prop := news' = news ∧ hit = false
section
variable {prog : Program} {w : World} {A : Around} {h₀ : Heap} {L : Addr} {m : Str → Option Value} {env : Env} {ct elt : Expr} {x : Str} {scope : Scope} {cl : List (Str × Addr)} {s : Shared} {S : List (Addr × Obj) → Prop} {Fin : List Value → List (Addr × Obj) → Prop} {news : List (Addr × Obj)}
theorem hit_rest {vs : List Value} {gs : List Str} (hit : Str → Bool) (hg : StrsAre vs gs)
    (turn : ∀ g t I oI C oC D m₂ ys h tk (E' : Value → Shared → Prop), LCg.NsObj oC m₂ → m₂ x = some (.str g t) → Fr h₀ L h m → News h₀ L h ((I, oI) :: (C, oC) :: (D, LCg.lst ys) :: news) → LCg.Off3 I C D news → ((@Ne Nat I C) ∧ (@Ne Nat I D) ∧ (@Ne Nat C D)) →
      wpAny (model prog w) A (isTrue ct (compEnvC scope cl C env) (eval ct (compEnvC scope cl C env))) (fun b s' => if b = true then wpAny (model prog w) A (eval elt (compEnvC scope cl C env)) (LCg.CompEnd h₀ L m { s with heap := h, toks := tk } I oI C oC D (LCg.lst ys) S (fun y news' => HitEl (hit g) g news y news')) E' s'
        else LCg.CompEnd h₀ L m { s with heap := h, toks := tk } I oI C oC D (LCg.lst ys) S (fun _ news' => HitNo (hit g) news news') Value.none s') E' { s with heap := h, toks := tk })
    (fin : ∀ ys, ys.isEmpty = !gs.any hit → Fin ys news) : LCt.CompRestT prog w A h₀ L m env ct elt x scope cl s S (fun i v => vs.toArray[i]? = some v) Fin vs.toArray.size 0 [] news := by
  have hlen : vs.toArray.size = gs.length := by rw [List.size_toArray]; exact strsLen hg
  have key : ∀ (j i : Nat) (ys : List Value), i + j = gs.length → ys.isEmpty = !(gs.take i).any hit → LCt.CompRestT prog w A h₀ L m env ct elt x scope cl s S (fun i v => vs.toArray[i]? = some v) Fin j i ys news := by
    intro j
    induction j with
    | zero =>
      intro i ys hi hy
      refine LCt.CompRestT.zero (fin ys ?_)
      obtain rfl : i = gs.length := by omega
      rwa [List.take_length] at hy
    | succ j ih =>
      intro i ys hi hy
      refine LCt.CompRestT.succ ?_
      intro v I oI C oC D m₂ h tk E' hv hC hx F N off ne
      obtain ⟨g, t, hgi, rfl⟩ := strsAt hg i v (by simpa using hv)
      have hs : (gs.take (i + 1)).any hit = ((gs.take i).any hit || hit g) := by rw [List.take_add_one, hgi, List.any_append]; simp
      refine wpAny_mono (turn g t I oI C oC D m₂ ys h tk E' hC hx F N off ne) (fun b s₂ hq => ?_) fun _ _ e => e
      cases b with
      | true =>
        simp only [if_true] at hq ⊢
        refine wpAny_mono hq (fun y s₃ hr => ?_) fun _ _ e => e
        obtain ⟨h', tk', nw, e, F', N', off', hS, hn, ht, t', hy'⟩ := hr
        rw [hn] at N' off' hS
        refine ⟨h', tk', news, e, F', N', off', hS, ih (i + 1) _ (by omega) ?_⟩
        rw [hs, ht, Bool.or_true]; simp
      | false =>
        simp only [Bool.false_eq_true, if_false] at hq ⊢
        obtain ⟨h', tk', nw, e, F', N', off', hS, hn, ht⟩ := hq
        rw [hn] at N' off' hS
        refine ⟨h', tk', news, e, F', N', off', hS, ih (i + 1) _ (by omega) ?_⟩
        rw [hs, ht, Bool.or_false]; exact hy
  rw [hlen]
  exact key gs.length 0 [] (by omega) rfl
end
end Mine
end
/-! part U2 -/
section
open PySem PySem.W PyProof.Rows PySem.Spec PySem.Calls
namespace Mine
/-! a ledger in which one object is another -/
def updL (d : Addr) (o' : Obj) (l : List (Addr × Obj)) : List (Addr × Obj) := l.map fun p => if p.1 = d then (d, o') else p
theorem updL_fst {d : Addr} {o' : Obj} {l : List (Addr × Obj)} {p : Addr × Obj} (h : p ∈ updL d o' l) : ∃ q ∈ l, p.1 = q.1 := by
  obtain ⟨q, hq, rfl⟩ := List.mem_map.mp h
  refine ⟨q, hq, ?_⟩
  show (if q.1 = d then (d, o') else q).1 = q.1
  split
  · rename_i e; exact e.symm
  · rfl
theorem updL_other {d : Addr} {o' : Obj} {l : List (Addr × Obj)} {p : Addr × Obj} (h : p ∈ l) (hd : p.1 ≠ d) : p ∈ updL d o' l := List.mem_map.mpr ⟨p, h, if_neg hd⟩
theorem updL_self {d : Addr} {o o' : Obj} {l : List (Addr × Obj)} (h : (d, o) ∈ l) : (d, o') ∈ updL d o' l := List.mem_map.mpr ⟨_, h, if_pos rfl⟩
theorem updL_news {h₀ h h' : Heap} {L d : Addr} {o o' : Obj} {l : List (Addr × Obj)} (N : News h₀ L h l) (hd : (d, o) ∈ l) (hs : Heap.SameBut d h h') (ho : h'.get? d = some o') : News h₀ L h' (updL d o' l) := by
  intro p hp
  obtain ⟨q, hq, rfl⟩ := List.mem_map.mp hp
  have n := N q hq
  show h'.get? (if q.1 = d then (d, o') else q).1 = some (if q.1 = d then (d, o') else q).2 ∧ (if q.1 = d then (d, o') else q).1 ≠ L ∧ h₀.get? (if q.1 = d then (d, o') else q).1 = none
  by_cases e : q.1 = d
  · rw [if_pos e]; exact ⟨ho, e ▸ n.2⟩
  · rw [if_neg e]; exact ⟨(hs.2 q.1 e).trans n.1, n.2⟩

/-! rows of ints -/
structure MatIn (nx : List (Addr × Obj)) (D : Addr) (R : Nat → Addr) (n w : Nat) (M : Nat → Nat → Int) : Prop where
  top : ∃ k, (D, listO ((List.range n).map fun i => Value.ref (R i)) k) ∈ nx
  row : ∀ i, i < n → ∃ vs k, (R i, listO vs k) ∈ nx ∧ IntsAre vs ((List.range w).map (M i))
  inj : ∀ i j, i < n → j < n → R i = R j → i = j
  off : ∀ i, i < n → R i ≠ D
  small : n ≤ 1000 ∧ w ≤ 1000
def setM (M : Nat → Nat → Int) (i j : Nat) (x : Int) : Nat → Nat → Int := fun a b => if a = i ∧ b = j then x else M a b
theorem MatIn.sub {nx nx' : List (Addr × Obj)} {D : Addr} {R : Nat → Addr} {n w : Nat} {M : Nat → Nat → Int} (X : MatIn nx D R n w M) (h : ∀ p ∈ nx, p ∈ nx') : MatIn nx' D R n w M :=
  ⟨X.top.imp fun _ => h _, fun i hi => let ⟨vs, k, a, b⟩ := X.row i hi; ⟨vs, k, h _ a, b⟩, X.inj, X.off, X.small⟩
theorem ints_set' {x : Int} {u : Tok} {vs : List Value} {ns : List Int} (h : IntsAre vs ns) (j : Nat) : IntsAre (vs.set j (.int x u)) (ns.set j x) := PySem.W.ints_set h j
theorem range_set (w j : Nat) (f : Nat → Int) (x : Int) : ((List.range w).map f).set j x = (List.range w).map fun b => if b = j then x else f b := by
  apply List.ext_getElem
  · simp
  · intro i h1 h2
    simp only [List.getElem_set, List.getElem_map, List.getElem_range]
    by_cases e : j = i
    · subst e; simp
    · rw [if_neg e, if_neg fun q => e q.symm]
section
variable {prog : Program} {w : World} {A : Around} {E : Value → Shared → Prop} {s : Shared} {h₀ : Heap} {L : Addr} {m : Str → Option Value} {env : Env} {news cur : List (Addr × Obj)} {D : Addr} {R : Nat → Addr} {n w' : Nat} {M : Nat → Nat → Int}
theorem row_ref {value slice : Expr} {k : Int} {u : Tok} {Q : Value → Shared → Prop} (N : News h₀ L s.heap cur) (hc : ∀ p ∈ news, p ∈ cur) (X : MatIn news D R n w' M) (h0 : 0 ≤ k) (hk : k < n) (h : Q (.ref (R k.toNat)) s)
    (hs : subscripted slice false (.ref D) (.int k u) = operate [.ref D, .int k u] (getItem (.ref D) (.int k u)) := by with_unfolding_all rfl) :
    wpAny (model prog w) A (subscriptTail value slice (.ref D) (.int k u)) Q E s := by
  obtain ⟨e, hm⟩ := X.top
  refine item_led N (hc _ hm) h0 (by have := X.small.1; omega) ?_ h hs
  have : k.toNat < n := by omega
  simp [this]
theorem row_refI {k : Int} {u : Tok} {Q : Value → Shared → Prop} (N : News h₀ L s.heap cur) (hc : ∀ p ∈ news, p ∈ cur) (X : MatIn news D R n w' M) (h0 : 0 ≤ k) (hk : k < n) (h : Q (.ref (R k.toNat)) s) :
    wpAny (model prog w) A (getItem (.ref D) (.int k u)) Q E s := by
  obtain ⟨e, hm⟩ := X.top
  have hl : s.heap.IsList D ((List.range n).map fun i => Value.ref (R i)).toArray := ⟨_, (N _ (hc _ hm)).1, rfl, e, rfl⟩
  refine wpAny_getItem_list hl h0 (by have := X.small.1; omega) ?_ h
  have : k.toNat < n := by omega
  simp [this]
theorem cell_int {value slice : Expr} {i : Nat} {k : Int} {u : Tok} {Q : Value → Shared → Prop} (N : News h₀ L s.heap cur) (hc : ∀ p ∈ news, p ∈ cur) (X : MatIn news D R n w' M) (hi : i < n) (h0 : 0 ≤ k) (hk : k < w') (h : ∀ t, Q (.int (M i k.toNat) t) s)
    (hs : subscripted slice false (.ref (R i)) (.int k u) = operate [.ref (R i), .int k u] (getItem (.ref (R i)) (.int k u)) := by with_unfolding_all rfl) :
    wpAny (model prog w) A (subscriptTail value slice (.ref (R i)) (.int k u)) Q E s := by
  obtain ⟨vs, e, hm, hv⟩ := X.row i hi
  have hl : s.heap.IsList (R i) vs.toArray := ⟨_, (N _ (hc _ hm)).1, rfl, e, rfl⟩
  refine item_anyK hl hv h0 (by simpa using hk) (by have := X.small.2; omega) (fun t => ?_) hs
  have hlt : k.toNat < w' := by omega
  have e1 : ((List.range w').map (M i)).getD k.toNat 0 = M i k.toNat := by simp [List.getD, hlt]
  rw [e1]
  exact h t
theorem cell_set {i : Nat} {k x : Int} {t u : Tok} {fr : List (Addr × Obj)} {Q : Unit → Shared → Prop} (F : Fr h₀ L s.heap m) (N : News h₀ L s.heap cur) (hf : ∀ p ∈ fr, p ∈ cur) (hfr : ∀ p ∈ fr, p.1 ≠ R i) (hc : ∀ p ∈ news, p ∈ cur) (X : MatIn news D R n w' M) (hi : i < n) (h0 : 0 ≤ k) (hk : k < w')
    (h : ∀ h' o', Fr h₀ L h' m → News h₀ L h' (fr ++ updL (R i) o' news) → MatIn (updL (R i) o' news) D R n w' (setM M i k.toNat x) → Q () { s with heap := h' }) :
    wpAny (model prog w) A (setItem (.ref (R i)) (.int k t) (.int x u)) Q E s := by
  obtain ⟨vs, e, hm, hv⟩ := X.row i hi
  have z := N _ (hc _ hm)
  have hl : vs.length = w' := by rw [hv.length]; simp
  have hlt : k.toNat < w' := by omega
  have hsb : Heap.SameBut (R i) s.heap (s.heap.update (R i) (Obj.mapSeq (·.setIfInBounds k.toNat (.int x u)))) := Heap.SameBut.update ..
  have hnew := PySem.IsL.update z.1 (·.setIfInBounds k.toNat (.int x u))
  refine ki_setAt z.1 h0 (by have := X.small.2; omega) (by rw [List.size_toArray]; omega) (h _ (listO (vs.set k.toNat (.int x u)) e) (F.change hsb z.2.1 z.2.2) (fun p hp => (List.mem_append.mp hp).elim (fun q => ⟨(hsb.2 _ (hfr p q)).trans (N p (hf p q)).1, (N p (hf p q)).2⟩) (fun q => updL_news (fun p hp => N p (hc p hp)) hm hsb ?_ p q)) ?_)
  · have e1 : vs.toArray.setIfInBounds k.toNat (.int x u) = (vs.set k.toNat (.int x u)).toArray := by
      apply Array.toList_inj.mp
      simp
    have e2 : (vs.set k.toNat (.int x u)).toArray.size = vs.toArray.size := by simp
    simp only [e1, e2, beq_self_eq_true, if_true] at hnew
    exact hnew
  · refine ⟨?_, fun a ha => ?_, X.inj, X.off, X.small⟩
    · obtain ⟨k', hk'⟩ := X.top
      exact ⟨k', updL_other hk' fun q => X.off i hi q.symm⟩
    · by_cases e1 : a = i
      · subst e1
        refine ⟨_, e, updL_self hm, ?_⟩
        have q := ints_set' (x := x) (u := u) hv k.toNat
        rw [range_set] at q
        have e2 : (List.range w').map (setM M a k.toNat x a) = (List.range w').map fun b => if b = k.toNat then x else M a b := by
          apply List.map_congr_left; intro b _; simp [setM]
        rw [e2]; exact q
      · obtain ⟨vs', k', hm', hv'⟩ := X.row a ha
        refine ⟨vs', k', updL_other hm' fun q => e1 (X.inj _ _ ha hi q), ?_⟩
        have e2 : (List.range w').map (setM M i k.toNat x a) = (List.range w').map (M a) := by
          apply List.map_congr_left; intro b _; simp [setM, e1]
        rw [e2]; exact hv'
end

/-! loops over a growing ledger -/
def TurnG (h₀ : Heap) (L : Addr) (x : Str) (stored : List Str) (m₀ : Str → Option Value) (wr : List Addr) (own : List (Addr × Obj)) (J : List (Addr × Obj) → Prop) (s₁ s₂ : Shared) : Prop :=
  ∃ h' tk m' nx, s₂ = { s₁ with heap := h', toks := tk } ∧ Fr h₀ L h' m' ∧ (∀ z, z ≠ x → stored.contains z = false → m' z = m₀ z) ∧ News h₀ L h' (own ++ nx) ∧ (∀ p ∈ nx, p.1 ∉ wr) ∧ J nx
def TurnPost (h₀ : Heap) (L : Addr) (x : Str) (stored : List Str) (m₀ : Str → Option Value) (wr : List Addr) (own : List (Addr × Obj)) (J : List (Addr × Obj) → Prop) (s₁ : Shared) (Q : Flow → Shared → Prop) (f : Flow) (s₂ : Shared) : Prop :=
  match f with
  | .ret v => Q (.ret v) s₂
  | .brk => Q .next s₂
  | _ => TurnG h₀ L x stored m₀ wr own J s₁ s₂
section
variable {prog : Program} {w : World} {A : Around} {E : Value → Shared → Prop} {s : Shared} {env : Env} {h₀ : Heap} {x : Str} {body : List Stmt} {Q : Flow → Shared → Prop}
theorem loopG {I : Addr} {fp wr : List Addr} {n : Nat} {P : Nat → Value → Prop} {St : Nat → Heap → Prop} {m₀ : Str → Option Value} {news : List (Addr × Obj)} (stored : List Str) (J : Nat → List (Addr × Obj) → Prop)
    (W : Walks prog w A I fp wr n P St) (hLf : env.locals ∉ fp) (hwr : ∀ b ∈ wr, h₀.get? b = none) (hlv : ∀ i h, St i h → ∀ b ∈ wr, ∃ o, h.get? b = some o) (hnw : ∀ p ∈ news, p.1 ∉ wr) (hst : St 0 s.heap) (F : Fr h₀ env.locals s.heap m₀) (N : News h₀ env.locals s.heap news) (hj : J 0 news)
    (turn : ∀ i v (u : Str → Option Value) nw h tk own, i < n → P i v → (∀ b ∈ wr, ∃ o, (b, o) ∈ own) → (∀ p ∈ own, p.1 ∈ fp) → (∀ p ∈ nw, p.1 ∉ wr) → J i nw → Fr h₀ env.locals h (fun y => if y = x then some v else if stored.contains y then u y else m₀ y) → News h₀ env.locals h (own ++ nw) →
      wpAny (model prog w) A (execs body env) (TurnPost h₀ env.locals x stored m₀ wr own (J (i + 1)) { s with heap := h, toks := tk } Q) E { s with heap := h, toks := tk })
    (done : ∀ (u : Str → Option Value) nw h tk, J n nw → Fr h₀ env.locals h (fun y => if y = x then u y else if stored.contains y then u y else m₀ y) → News h₀ env.locals h nw → Q .next { s with heap := h, toks := tk }) :
    LoopAtV prog w A h₀ env x body Q E (.ref I) s := by
  let J' : Nat → (Str → Option Value) → List (Addr × Obj) → Prop := fun i m₁ nw => (∀ z, z ≠ x → stored.contains z = false → m₁ z = m₀ z) ∧ J i nw
  have shape : ∀ (m₁ : Str → Option Value), (∀ z, z ≠ x → stored.contains z = false → m₁ z = m₀ z) → ∀ y, y ≠ x → (if stored.contains y then m₁ y else m₀ y) = m₁ y := fun m₁ hm y hy => by
    cases e : stored.contains y with
    | true => simp
    | false => simp only [Bool.false_eq_true, if_false]; exact (hm y hy e).symm
  refine ⟨I, fp, wr, n, P, St, m₀, news, J', rfl, W, hLf, hwr, hnw, hst, F, N, ⟨fun _ _ _ => rfl, hj⟩, ?_, ?_⟩
  · rintro i v m₁ nw s₁ own ⟨hh', tk', rfl⟩ hin hP ⟨hm, hJ⟩ hoff hown _ hlo hst₁ F₁ N₁
    have F₂ : Fr h₀ env.locals hh' (fun y => if y = x then some v else if stored.contains y then m₁ y else m₀ y) := by
      have e : (fun y => if y = x then some v else if stored.contains y then m₁ y else m₀ y) = fun y => if y = x then some v else m₁ y := by
        funext y
        by_cases hy : y = x
        · rw [if_pos hy, if_pos hy]
        · rw [if_neg hy, if_neg hy]; exact shape m₁ hm y hy
      rw [e]; exact F₁
    refine wpAny_mono (turn i v m₁ nw hh' tk' own hin hP (fun b hb => ?_) hown hoff hJ F₂ N₁) (fun f s₂ p => ?_) fun _ _ e => e
    · obtain ⟨o, ho⟩ := hlv _ _ hst₁ b hb
      exact ⟨o, hlo b (W.sub b hb) (hwr b hb) o ho⟩
    have fin : TurnG h₀ env.locals x stored m₀ wr own (J (i + 1)) { s with heap := hh', toks := tk' } s₂ → LoopStepU h₀ env.locals wr own (J' (i + 1)) { s with heap := hh', toks := tk' } .next s₂ := by
      rintro ⟨h', tk, m', nx, e, F', hm', N', hn, hj'⟩
      exact ⟨rfl, h', tk, m', nx, e, F', N', hn, hm', hj'⟩
    cases f with
    | ret v => exact .ret p
    | brk => exact .brk p
    | next => exact .next (fin p)
    | cont => exact .cont (fin p)
  · rintro h' tk m' nw F' N' _ ⟨hm, hJ⟩
    refine done m' nw h' tk hJ ?_ N'
    have e : (fun y => if y = x then m' y else if stored.contains y then m' y else m₀ y) = m' := by
      funext y
      by_cases hy : y = x
      · rw [if_pos hy]
      · rw [if_neg hy]; exact shape m' hm y hy
    rw [e]; exact F'

theorem rangeG {r : Addr} {a₀ b₀ c₀ : Int} {t₀ u₀ v₀ : Tok} {n : Nat} {m₀ : Str → Option Value} {news : List (Addr × Obj)} (stored : List Str) (J : Nat → List (Addr × Obj) → Prop)
    (hh : A.handled = none) (hr : IsRange s.heap r a₀ b₀ c₀ t₀ u₀ v₀) (hsmall : Builtin.Range.small a₀ b₀ c₀ = true) (hn : Builtin.Range.rangeSize a₀ b₀ c₀ = (n : Int)) (F : Fr h₀ env.locals s.heap m₀) (N : News h₀ env.locals s.heap news) (hj : J 0 news)
    (turn : ∀ (i : Nat) t (u : Str → Option Value) nw h tk I oI, i < n → (∀ p ∈ nw, p.1 ≠ I) → J i nw → Fr h₀ env.locals h (fun y => if y = x then some (.int (a₀ + i * c₀) t) else if stored.contains y then u y else m₀ y) → News h₀ env.locals h ((I, oI) :: nw) →
      wpAny (model prog w) A (execs body env) (TurnPost h₀ env.locals x stored m₀ [I] [(I, oI)] (J (i + 1)) { s with heap := h, toks := tk } Q) E { s with heap := h, toks := tk })
    (done : ∀ (u : Str → Option Value) nw h tk, J n nw → Fr h₀ env.locals h (fun y => if y = x then u y else if stored.contains y then u y else m₀ y) → News h₀ env.locals h nw → Q .next { s with heap := h, toks := tk }) :
    wpAny (model prog w) A (pyIter (.ref r)) (fun it s₂ => LoopAtV prog w A h₀ env x body Q E it s₂) E s := by
  refine wpAny_pyIter_range hr hsmall ?_
  refine loopG (fp := [s.heap.objs.size]) (wr := [s.heap.objs.size]) (n := n) (P := fun i v => ∃ t, v = .int (a₀ + i * c₀) t)
      (St := fun i h => IsRangeIter h s.heap.objs.size (a₀ + (i : Nat) * c₀) ((n : Int) - (i : Nat)) c₀) stored J (Walks.range hh _ a₀ c₀ n) ?_ ?_ (fun i h st b hb => ?_) ?_ (by show IsRangeIter _ _ _ _ _; rw [hn]; simpa using Heap.get?_push_size _ rfl) (F.push _) (fun p hp => ⟨Heap.get?_push_of_some _ (N p hp).1, (N p hp).2⟩) hj ?_ done
  · intro hm
    exact absurd F.ns.lt ((List.mem_singleton.mp hm) ▸ Nat.lt_irrefl _)
  · intro b hb
    rw [List.mem_singleton.mp hb]
    exact next_is_new F
  · rw [List.mem_singleton.mp hb]; exact ⟨_, st⟩
  · intro p hp hI
    exact absurd (Heap.lt_size (N p hp).1) ((List.mem_singleton.mp hI) ▸ Nat.lt_irrefl _)
  · rintro i v u nw h tk own hi ⟨t, rfl⟩ hwo hof hoff hJ F₁ N₁
    obtain ⟨oI, hoI⟩ := hwo _ (List.mem_singleton.mpr rfl)
    have N₂ : News h₀ env.locals h ((s.heap.objs.size, oI) :: nw) := fun p hp => by
      rcases List.mem_cons.mp hp with rfl | hp
      · exact N₁ _ (List.mem_append_left _ hoI)
      · exact N₁ _ (List.mem_append_right _ hp)
    refine wpAny_mono (turn i t u nw h tk _ oI hi (fun p hp q => hoff p hp (List.mem_singleton.mpr q)) hJ F₁ N₂) (fun f s₂ p => ?_) fun _ _ e => e
    have fin : TurnG h₀ env.locals x stored m₀ [s.heap.objs.size] [(s.heap.objs.size, oI)] (J (i + 1)) { s with heap := h, toks := tk } s₂ → TurnG h₀ env.locals x stored m₀ [s.heap.objs.size] own (J (i + 1)) { s with heap := h, toks := tk } s₂ := by
      rintro ⟨h', tk', m', nx, e, F', hm', N', hn', hj'⟩
      refine ⟨h', tk', m', nx, e, F', hm', fun p hp => ?_, hn', hj'⟩
      rcases List.mem_append.mp hp with hp | hp
      · have e1 : p.1 = s.heap.objs.size := List.mem_singleton.mp (hof p hp)
        have e2 := (N₁ p (List.mem_append_left _ hp)).1
        have e3 := (N₁ _ (List.mem_append_left _ hoI)).1
        rw [e1] at e2
        have e4 : p.2 = oI := by rw [e2] at e3; exact Option.some.inj e3
        have e5 : p = (s.heap.objs.size, oI) := Prod.ext e1 e4
        rw [e5]; exact N' _ (List.mem_cons_self)
      · exact N' p (List.mem_append_right _ hp)
    cases f with
    | ret v => exact p
    | brk => exact p
    | next => exact fin p
    | cont => exact fin p
end
end Mine
end
/-! part U3 -/
section
open PySem PySem.W PyProof.Rows PySem.Spec PySem.Calls
namespace Mine
/-! stops of my own -/
def MyIter (prog : Program) (w : World) (A : Around) (h₀ : Heap) (env : Env) (x : Str) (body : List Stmt) (Q : Flow → Shared → Prop) (E : Value → Shared → Prop) (xv : Value) (s₁ : Shared) : Prop :=
  wpAny (model prog w) A (pyIter xv) (fun it s₂ => LoopAtV prog w A h₀ env x body Q E it s₂) E s₁
def MySrc (prog : Program) (w : World) (A : Around) (h₀ : Heap) (L : Addr) (m : Str → Option Value) (env : Env) (elt : Expr) (x : Str) (scope : Scope) (cl : List (Str × Addr)) (Fin : Shared → List Value → List (Addr × Obj) → Prop) (xv : Value) (s₁ : Shared) : Prop :=
  LCg.CompSrc prog w A h₀ L m env elt x scope cl Fin xv s₁
section
variable {prog : Program} {w : World} {A : Around} {E : Value → Shared → Prop} {s : Shared} {h₀ : Heap} {L : Addr} {m : Str → Option Value} {env : Env} {news : List (Addr × Obj)}
theorem For_My {x : Str} {body : List Stmt} {Q : Flow → Shared → Prop} {px pos : Pos} {iter : Expr} (_F : Fr h₀ env.locals s.heap m) (hx : env.kindOf x = some .local)
    (hp : (env.scope.kind == .class || (env.scope.kind == .module && env.locals != env.globals)) = false)
    (h : wpAny (model prog w) A (eval iter env) (fun xv s₁ => MyIter prog w A h₀ env x body Q E xv s₁) E s)
    (hs : ∀ x, foldedSetIterable iter env x = pure x := by intro _; rfl)
    (hE : PassesOwn (model prog w) A env E := by passes_own) :
    wpAny (model prog w) A (exec (.For (.Name x px) iter body [] pos) env) Q E s := For_invV h₀ hx hp h hs hE
theorem ListComp_My {elt iter : Expr} {x : Str} {px : Pos} {scope : Scope} {cl : List (Str × Addr)} {pos : Pos} {Q : Value → Shared → Prop} (F₀ : Fr h₀ L s.heap m)
    (hclos : closureFor scope env = pure cl) (hcell : ∀ y ∈ scope.names, y.2 ≠ .cell) (hkind : scope.kind = .function)
    (hnames : ∀ y ∈ scope.names, y.2 = .local → scope.names.lookup y.1 = some .local) (hx : scope.names.lookup x = some .local)
    (h : wpAny (model prog w) A (eval iter env) (MySrc prog w A h₀ L m env elt x scope cl (fun s₂ => LCg.FinE h₀ L m s₂ Q)) E s)
    (hs : ∀ x, foldedSetIterable iter env x = pure x := by intro _; rfl) :
    wpAny (model prog w) A (eval (.ListComp elt [⟨.Name x px, iter, [], 0⟩] scope pos) env) Q E s := LCg.ListComp_U F₀ hclos hcell hkind hnames hx h hs
theorem MySrc.range {elt : Expr} {x : Str} {scope : Scope} {cl : List (Str × Addr)} {Fin : Shared → List Value → List (Addr × Obj) → Prop} {r : Addr} {a b : Int} {t u v : Tok} {n : Nat} {s₁ : Shared}
    (hh : A.handled = none) (F : Fr h₀ L s₁.heap m) (N : News h₀ L s₁.heap news) (hr : IsRange s₁.heap r a b 1 t u v) (hsm : Builtin.Range.small a b 1 = true) (hn : Builtin.Range.rangeSize a b 1 = ((n : Nat) : Int)) (hsz : n ≤ sizeLine)
    (h : ∀ g, LCg.CompRest prog w A h₀ L m env elt x scope cl { s₁ with heap := g } (fun _ => True) (fun i v => ∃ t, v = .int (a + (i : Int)) t) (Fin { s₁ with heap := g }) n 0 [] news) :
    MySrc prog w A h₀ L m env elt x scope cl Fin (.ref r) s₁ := LCg.CompSrc.range hh F N hr hsm hn hsz h
end
/-! rows of noughts made by a comprehension -/
def RowEl (wd : Nat) (news : List (Addr × Obj)) (y : Value) (news' : List (Addr × Obj)) : Prop :=
  ∃ r vs k, y = .ref r ∧ news' = (r, listO vs k) :: news ∧ IntsAre vs (List.replicate wd 0) ∧ ∀ p ∈ news, p.1 ≠ r
theorem rep_flat (k : Nat) : (List.replicate k [(0 : Int)]).flatten = List.replicate k 0 := by
  induction k with
  | zero => rfl
  | succ k ih => rw [List.replicate_succ, List.replicate_succ, List.flatten_cons, ih]; rfl
section
variable {prog : Program} {w : World} {A : Around} {h₀ : Heap} {L : Addr} {m : Str → Option Value} {env : Env} {elt : Expr} {x : Str} {scope : Scope} {cl : List (Str × Addr)} {s : Shared} {S : List (Addr × Obj) → Prop} {Fin : List Value → List (Addr × Obj) → Prop} {news : List (Addr × Obj)}
theorem rows_range {n wd : Nat} {a : Int}
    (turn : ∀ rl k t I oI C oC D m₂ ys h tk (E' : Value → Shared → Prop), LCg.NsObj oC m₂ → m₂ x = some (.int k t) → Fr h₀ L h m → News h₀ L h ((I, oI) :: (C, oC) :: (D, LCg.lst ys) :: (rl ++ news)) → LCg.Off3 I C D (rl ++ news) → ((@Ne Nat I C) ∧ (@Ne Nat I D) ∧ (@Ne Nat C D)) →
      wpAny (model prog w) A (eval elt (compEnvC scope cl C env)) (LCg.CompEnd h₀ L m { s with heap := h, toks := tk } I oI C oC D (LCg.lst ys) S (fun y news' => RowEl wd (rl ++ news) y news')) E' { s with heap := h, toks := tk })
    (fin : ∀ (rs : List Addr) rl, rs.length = n → (∀ i j, i < n → j < n → rs.getD i 0 = rs.getD j 0 → i = j) → (∀ p ∈ news, ∀ i, i < n → p.1 ≠ rs.getD i 0) → (∀ p ∈ rl, ∀ q ∈ news, q.1 ≠ p.1) → (∀ i, i < n → ∃ vs k, (rs.getD i 0, listO vs k) ∈ rl ∧ IntsAre vs (List.replicate wd 0)) → Fin (rs.map Value.ref) (rl ++ news)) :
    LCg.CompRest prog w A h₀ L m env elt x scope cl s S (fun i v => ∃ t, v = .int (a + (i : Int)) t) Fin n 0 [] news := by
  have key : ∀ (j i : Nat) (rs : List Addr) rl, i + j = n → rs.length = i → (∀ a b, a < i → b < i → rs.getD a 0 = rs.getD b 0 → a = b) → (∀ p ∈ news, ∀ a, a < i → p.1 ≠ rs.getD a 0) → (∀ p ∈ rl, ∀ q ∈ news, q.1 ≠ p.1) → (∀ a, a < i → ∃ vs k, (rs.getD a 0, listO vs k) ∈ rl ∧ IntsAre vs (List.replicate wd 0)) →
      LCg.CompRest prog w A h₀ L m env elt x scope cl s S (fun i v => ∃ t, v = .int (a + (i : Int)) t) Fin j i (rs.map Value.ref) (rl ++ news) := by
    intro j
    induction j with
    | zero =>
      intro i rs rl hi hl h1 h2 h3 h4
      obtain rfl : i = n := by omega
      exact LCg.CompRest.zero (fin rs rl hl h1 h2 h3 h4)
    | succ j ih =>
      intro i rs rl hi hl h1 h2 h3 h4
      refine LCg.CompRest.succ ?_
      rintro v I oI C oC D m₂ h tk E' ⟨t, rfl⟩ hC hx F N off ne
      refine wpAny_mono (turn rl _ t I oI C oC D m₂ _ h tk E' hC hx F N off ne) (fun y s₂ hq => ?_) fun _ _ e => e
      obtain ⟨h', tk', nw, e, F', N', off', hS, r, vs, k, hy, hn, hv, hne⟩ := hq
      rw [hn] at N' off' hS
      refine ⟨h', tk', (r, listO vs k) :: (rl ++ news), e, F', N', off', hS, ?_⟩
      have e1 : rs.map Value.ref ++ [y] = (rs ++ [r]).map Value.ref := by rw [hy]; simp
      have at1 : ∀ b, b < i → (rs ++ [r]).getD b 0 = rs.getD b 0 := fun b hb => by
        rw [List.getD_eq_getElem?_getD, List.getD_eq_getElem?_getD, List.getElem?_append_left (by omega)]
      have at2 : (rs ++ [r]).getD i 0 = r := by rw [← hl]; simp
      show LCg.CompRest prog w A h₀ L m env elt x scope cl s S (fun i v => ∃ t, v = Value.int (a + ↑i) t) Fin j (i + 1) (rs.map Value.ref ++ [y]) ((r, listO vs k) :: (rl ++ news))
      rw [e1]
      refine ih (i + 1) (rs ++ [r]) ((r, listO vs k) :: rl) (by omega) (by rw [List.length_append, List.length_singleton, hl]) (fun a b ha hb q => ?_) (fun p hp a ha => ?_) (fun p hp q hq => ?_) fun a ha => ?_
      · rcases Nat.lt_succ_iff_lt_or_eq.mp ha with ha | ha <;> rcases Nat.lt_succ_iff_lt_or_eq.mp hb with hb | hb
        · rw [at1 a ha, at1 b hb] at q; exact h1 a b ha hb q
        · subst hb; rw [at1 a ha, at2] at q
          obtain ⟨vs', k', hm, _⟩ := h4 a ha
          exact absurd q (hne _ (List.mem_append_left _ hm))
        · subst ha; rw [at1 b hb, at2] at q
          obtain ⟨vs', k', hm, _⟩ := h4 b hb
          exact absurd q.symm (hne _ (List.mem_append_left _ hm))
        · omega
      · rcases Nat.lt_succ_iff_lt_or_eq.mp ha with ha | ha
        · rw [at1 a ha]; exact h2 p hp a ha
        · subst ha; rw [at2]; exact hne p (List.mem_append_right _ hp)
      · rcases List.mem_cons.mp hp with rfl | hp
        · exact hne q (List.mem_append_right _ hq)
        · exact h3 p hp q hq
      · rcases Nat.lt_succ_iff_lt_or_eq.mp ha with ha | ha
        · rw [at1 a ha]
          obtain ⟨vs', k', hm, hv'⟩ := h4 a ha
          exact ⟨vs', k', List.mem_cons_of_mem _ hm, hv'⟩
        · subst ha; rw [at2]; exact ⟨vs, k, List.mem_cons_self, hv⟩
  exact key n 0 [] [] (by omega) rfl (fun _ _ h => absurd h (Nat.not_lt_zero _)) (fun _ _ _ h => absurd h (Nat.not_lt_zero _)) (fun _ h => nomatch h) fun _ h => absurd h (Nat.not_lt_zero _)
end
theorem off1_mem {D : Addr} : ∀ {l : List (Addr × Obj)}, LCg.Off1 D l → ∀ p ∈ l, p.1 ≠ D
  | [], _, _, h => nomatch h
  | _ :: _, x, p, h => by
    rcases List.mem_cons.mp h with rfl | h
    · exact x.1
    · exact off1_mem x.2 p h
theorem mat_of {D : Addr} {rs : List Addr} {rl nx : List (Addr × Obj)} {n wd : Nat} (hl : rs.length = n) (h1 : ∀ i j, i < n → j < n → rs.getD i 0 = rs.getD j 0 → i = j) (h4 : ∀ i, i < n → ∃ vs k, (rs.getD i 0, listO vs k) ∈ rl ∧ IntsAre vs (List.replicate wd 0))
    (ht : (D, LCg.lst (rs.map Value.ref)) ∈ nx) (hr : ∀ p ∈ rl, p ∈ nx) (ho : ∀ p ∈ rl, p.1 ≠ D) (hs : n ≤ 1000 ∧ wd ≤ 1000) : MatIn nx D (fun i => rs.getD i 0) n wd (fun _ _ => 0) := by
  refine ⟨⟨rs.length, ?_⟩, fun i hi => ?_, h1, fun i hi => ?_, hs⟩
  · have e : (List.range n).map (fun i => Value.ref (rs.getD i 0)) = rs.map Value.ref := by
      apply List.ext_getElem
      · simp [hl]
      · intro i a b
        have hi : i < rs.length := by simpa using b
        simp [List.getD_eq_getElem?_getD, hi]
    rw [e]
    have e2 : (rs.map Value.ref).length = rs.length := List.length_map _
    have e3 : LCg.lst (rs.map Value.ref) = listO (rs.map Value.ref) rs.length := by show listO _ _ = _; rw [e2]
    rw [← e3]; exact ht
  · obtain ⟨vs, k, hm, hv⟩ := h4 i hi
    refine ⟨vs, k, hr _ hm, ?_⟩
    have e : (List.range wd).map (fun _ => (0 : Int)) = List.replicate wd 0 := by
      apply List.ext_getElem <;> simp
    show IntsAre vs ((List.range wd).map fun _ => (0 : Int))
    rw [e]; exact hv
  · obtain ⟨vs, k, hm, _⟩ := h4 i hi
    exact ho _ hm
theorem allLt_mem {d : Addr} : ∀ {l : List (Addr × Obj)}, AllLt d l → ∀ p ∈ l, @LT.lt Nat _ p.1 d
  | [], _, _, h => nomatch h
  | _ :: _, x, p, h => by
    rcases List.mem_cons.mp h with rfl | h
    · exact x.1
    · exact allLt_mem x.2 p h
theorem rowInts {vs : List Value} {n : Nat} (h : IntsAre vs (List.replicate ((n : Int) + 1).toNat [(0 : Int)]).flatten) : IntsAre vs (List.replicate (n + 1) 0) := by
  rw [rep_flat] at h
  have e : ((n : Int) + 1).toNat = n + 1 := by omega
  rwa [e] at h
theorem news_perm4 {h₀ h : Heap} {L : Addr} {d e1 e2 e3 e4 : Addr × Obj} {rl news : List (Addr × Obj)} (N : News h₀ L h (d :: (rl ++ (e1 :: e2 :: e3 :: e4 :: news)))) : News h₀ L h (d :: e1 :: e2 :: e3 :: e4 :: (rl ++ news)) := fun p hp => N p (by
  simp only [List.mem_cons, List.mem_append] at hp ⊢
  rcases hp with h | h | h | h | h | h | h
  · exact .inl h
  · exact .inr (.inr (.inl h))
  · exact .inr (.inr (.inr (.inl h)))
  · exact .inr (.inr (.inr (.inr (.inl h))))
  · exact .inr (.inr (.inr (.inr (.inr (.inl h)))))
  · exact .inr (.inl h)
  · exact .inr (.inr (.inr (.inr (.inr (.inr h))))))
theorem MatIn.filter {nx : List (Addr × Obj)} {D I : Addr} {R : Nat → Addr} {n w : Nat} {M : Nat → Nat → Int} (X : MatIn nx D R n w M) (hD : D ≠ I) (hR : ∀ i, i < n → R i ≠ I) : MatIn (nx.filter fun p => decide (p.1 ≠ I)) D R n w M :=
  ⟨X.top.imp fun _ h => List.mem_filter.mpr ⟨h, by simpa using hD⟩, fun i hi => let ⟨vs, k, a, b⟩ := X.row i hi; ⟨vs, k, List.mem_filter.mpr ⟨a, by simpa using hR i hi⟩, b⟩, X.inj, X.off, X.small⟩
theorem far_pack {h₀ h : Heap} {L D : Addr} {rs : List Addr} {e1 e2 e3 e4 e3o : Addr × Obj} {rl news : List (Addr × Obj)} {n wd : Nat} (N : News h₀ L h ((D, LCg.lst (rs.map Value.ref)) :: e1 :: e2 :: e3 :: e4 :: (rl ++ news)))
    (hl : rs.length = n) (h1 : ∀ i j, i < n → j < n → rs.getD i 0 = rs.getD j 0 → i = j) (h2 : ∀ p ∈ e1 :: e2 :: e3o :: e4 :: news, ∀ i, i < n → p.1 ≠ rs.getD i 0) (h4 : ∀ i, i < n → ∃ vs k, (rs.getD i 0, listO vs k) ∈ rl ∧ IntsAre vs (List.replicate wd 0))
    (off : LCg.Off1 D (rl ++ (e1 :: e2 :: e3o :: e4 :: news))) (e : e3o.1 = e3.1) (hs : n ≤ 1000 ∧ wd ≤ 1000) :
    ∃ (R : Nat → Addr) (keep : List (Addr × Obj)), MatIn ((D, LCg.lst (rs.map Value.ref)) :: e1 :: e2 :: e3 :: e4 :: (rl ++ news)) D R n wd (fun _ _ => 0) ∧ (∀ p ∈ keep, p ∈ ((D, LCg.lst (rs.map Value.ref)) :: e1 :: e2 :: e3 :: e4 :: (rl ++ news))) ∧ (∀ p ∈ keep, ∀ i, i < n → p.1 ≠ R i) ∧ e3 ∈ keep ∧ e4 ∈ keep ∧ ∀ p ∈ news, p ∈ keep := by
  have _ := N
  refine ⟨fun i => rs.getD i 0, e3 :: e4 :: news, mat_of hl h1 h4 (List.Mem.head _) (fun p hp => .tail _ (.tail _ (.tail _ (.tail _ (.tail _ (List.mem_append_left _ hp)))))) (fun p hp => off1_mem off _ (List.mem_append_left _ hp)) hs, fun p hp => ?_, fun p hp i hi => ?_, List.Mem.head _, List.Mem.tail _ (List.Mem.head _), fun p hp => List.Mem.tail _ (List.Mem.tail _ hp)⟩
  · rcases List.mem_cons.mp hp with rfl | hp
    · exact .tail _ (.tail _ (.tail _ (.head _)))
    · rcases List.mem_cons.mp hp with rfl | hp
      · exact .tail _ (.tail _ (.tail _ (.tail _ (.head _))))
      · exact .tail _ (.tail _ (.tail _ (.tail _ (.tail _ (List.mem_append_right _ hp)))))
  · rcases List.mem_cons.mp hp with rfl | hp
    · rw [← e]; exact h2 e3o (.tail _ (.tail _ (.head _))) i hi
    · exact h2 p (.tail _ (.tail _ (.tail _ hp))) i hi
end Mine
end
/-! part U4 -/
section
open PySem PySem.W PyProof.Rows PySem.Spec PySem.Calls
namespace Mine
section
variable {prog : Program} {w : World} {A A₀ : Around} {s : Shared} {K : Frag} {L : Addr} {h₀ base : Heap} {m mg mb : Str → Option Value} {news : List (Addr × Obj)} {p : Program} {loose : List Str} {mean : ExcName → Option Value}
theorem restC {env : Env} {outer : List Env} {R : Result → Shared → Prop} {name qual : Str} {params : Arguments} {body : List Stmt} {scope : Scope} {dV kV doc pm cdv ct oc : Value} {an od : Option Addr} {osl : Array (Option Value)} {f : Addr} {args : Args} {vs : List Value} {g₁ : Addr → Option (List (Str × Value))} {binds : Addr → List (Str × Value)}
    (B : Below A₀ base outer h₀) (F : Fr h₀ L s.heap m) (X₀ : K.In h₀) (N : News h₀ L s.heap news) (T : Top p loose mean mg mb h₀) (hA : A.frames = some (env :: outer)) (hf : env.frame = some L) (hke : env.scope.kind = .function)
    (ho : K.lookup f = some ⟨oc, od, .func (fnOf name qual params body scope dV kV doc pm an cdv ct), osl⟩) (hcd : codeIn K cdv qual = true) (hroom : A.depth < recursionLimit)
    (hv : args.pos.drop (params.posonlyargs.length + params.args.length) = vs)
    (hp : peek1 K ⟨prog, w.params⟩ (bindArgs (fnOf name qual params body scope dV kV doc pm an cdv ct) args) = some (({ cls := .type "tuple", data := .seq vs.toArray } : Obj), g₁))
    (hg : ∀ D, g₁ D = some (binds D)) (hkind : ∀ D, ((binds D).all fun y => scope.names.lookup y.1 == some .local || scope.names.lookup y.1 == some .cell) = true)
    (hnd : ((cellsFrom 0 scope.names []).map (·.1)).Nodup)
    (h : ∀ D g L' h₁ tk cells, (∀ p ∈ news, p.1 < D) → Fr h₀ L g m → Fr g L' h₁ (bindL (envOfC qual scope L' f cdv).kindOf (binds D) fun _ => none) → News g L' h₁ (cells ++ ((D, ({ cls := .type "tuple", data := .seq vs.toArray } : Obj)) :: news)) →
      CellsAre (bindC (envOfC qual scope L' f cdv).kindOf (binds D) fun _ => none) (cellsFrom (L' + 1) scope.names []) cells → Below A base (env :: outer) g → K.In g → Top p loose mean mg mb g → (∀ p ∈ news, p.1 < L') → @LT.lt Nat _ D L' →
      wpAny (model prog w) (A.deeper (envOfC qual scope L' f cdv)) (execs body (envOfC qual scope L' f cdv))
        (fun fl s' => LeaveK h₀ L m g R (match fl with | .ret v => v | _ => .none) s')
        (fun e s' => wpAny (model prog w) (A.deeper (envOfC qual scope L' f cdv)) (leaving (envOfC qual scope L' f cdv) e) (fun _ s'' => R (.error e) s'') (fun e' s'' => R (.error e') s'') s')
        { s with heap := h₁, toks := tk })
    (hco : scope.isCoroutine = false) (hgen : scope.isGenerator = false) (hk : scope.kind = .function) : codeAny (model prog w) A (.call (.ref f) args) R s := by
  have _ := hv
  refine codeAny_call_function (fd := fnOf name qual params body scope dV kV doc pm an cdv ct) (body := body) hroom ((X₀.keeps F.keep) _ _ ho) rfl hco hgen rfl (codeRec_of (X₀.keeps F.keep) hcd) ?_
  refine wp_of_peek1 (o := ({ cls := .type "tuple", data := .seq vs.toArray } : Obj)) F N (X₀.keeps F.keep) rfl (r := binds) (fun D h' F' N' l => ?_) _ g₁ hp hg
  obtain ⟨FG, BG, st, lv⟩ := groundX (R := R) (s := { s with heap := h' }) B F' N' hA hf hke
  refine wpAny_newFunctionEnv_cells hk (kindsX (hkind D) _) fun env' he s' x => ?_
  subst he
  refine ⟨(T.nolimit.keeps F'.keep).keeps x.toInCall.keep, codeAny_func ?_⟩
  obtain ⟨h₁, tk, rfl, _⟩ := x.done
  have hk₁ := x.toInCall.keep
  obtain ⟨cells, NC, Y⟩ := Cl.news (h₀ := h') (Nat.le_refl _) fun n c hm => ⟨x.cell n c (lookup_of_mem_nodup (cellsFrom_names scope.names 0 (h'.objs.size + 1) [] [] rfl ▸ hnd) hm), x.above n c hm⟩
  refine wpAny_mono (h D _ h'.objs.size h₁ tk cells l FG ⟨x.toInCall.ns, fun b o e => hk₁ b o (of_hideAll _ e), Nat.le_of_eq (hideAll_size _ _)⟩ (fun p hp => ?_) Y BG (X₀.keeps st) (T.keeps st) (fun p hp => Heap.lt_size (N' p (.tail _ hp)).1) (Heap.lt_size (N' _ (.head _)).1)) (fun fl s' hl => lv _ _ hl) fun _ _ y => y
  rcases List.mem_append.mp hp with hp | hp
  · refine ⟨(NC p hp).1, (NC p hp).2.1, ?_⟩
    cases q : (hideAll h' (((D, ({ cls := .type "tuple", data := .seq vs.toArray } : Obj)) :: news).map (·.1))).get? p.1 with
    | none => rfl
    | some o => have := of_hideAll _ q; rw [(NC p hp).2.2] at this; cases this
  · exact ⟨hk₁ _ _ (N' p hp).1, Nat.ne_of_lt (Heap.lt_size (N' p hp).1), hideAll_none _ (List.mem_map_of_mem hp)⟩
end
section
variable {M : Model} {A : Around} {E : Value → Shared → Prop} {s : Shared} {env : Env} {o e : Expr} {name : Str} {apos pos p : Pos}
theorem StarCall {Q : Value → Shared → Prop}
    (h : wpAny M A (eval o env) (fun ov s₁ => wpAny M A (getAttr ov name true) (fun f s₂ => wpAny M A (callWith pos f [] (backTo pos (starEach [.Starred e p] env)) []) Q E s₂) E s₁) E s)
    (he : eval (.Call (.Attribute o name apos) [.Starred e p] [] pos) env = (do
      let ov ← eval o env
      standAt apos.atName
      let (f, first) ← holding [ov] (do pure (← getAttr ov name true, []))
      callWith pos f first (backTo pos (starEach [.Starred e p] env)) []) := by rfl) :
    wpAny M A (eval (.Call (.Attribute o name apos) [.Starred e p] [] pos) env) Q E s := by
  rw [he]
  refine wpAny_bind (wpAny_mono h (fun ov s₁ h₁ => wpAny_bind (wpAny_standAt (wpAny_bind (wpAny_holding (wpAny_bind (wpAny_mono h₁ (fun f s₂ h₂ => wpAny_pure ?_) fun _ _ x => x)))))) fun _ _ x => x)
  exact h₂
end
section
open Builtin Builtin.ObjectAttr
variable {prog : Program} {w : World} {A : Around} {E : Value → Shared → Prop} {s : Shared} {K : Frag} {x C p L : Addr} {ox : Obj} {name : Str} {h₀ : Heap} {m : Str → Option Value} {es : List DictEntry} {n : Nat} {Q : Value → Shared → Prop} {fv : Value} {rest : List Value}
theorem get_smI {expr : Bool} (F : Fr h₀ L s.heap m) (X₀ : K.In h₀) (I : InstAt s.heap x ox C (some (dictOf es n))) (hg : plainGet K C name = true) (hh : hasDictIn K C = true) (ha : findIn K (.ref C) name = some (some (.ref p)))
    (hgf : specialIn K (.ref p) "__get__" = some (some (.builtin "staticmethod.__get__"))) (hts : takesIn K (.ref p) = some false) (hc : copiedNames.contains name = false) (hl : getL name es = some none) (hp : recIn K p "staticmethod" = some (fv :: rest)) (hv : handedIn fv = true)
    (h : Q fv { s with toks := s.toks + 1 }) : wpAny (model prog w) A (getAttr (.ref x) name expr) Q E s :=
  get_bind (X₀.keeps F.keep) I (plainGet_of hg).1 (findObj_fn hh ha hgf hts hc (by show lookIn name (dictOf es n) = _; rw [lookIn_dict, hl])) (plainGet_of hg).2
    (wpAny_call (sm_get (s := { s with toks := s.toks + 1 }) (X₀.keeps F.keep) hp (handed_on hv h)))
end
end Mine
end
/-! part U5 -/
section
open PySem PySem.W PyProof.Rows PySem.Spec PySem.Calls
namespace Mine
/-! the table of a def's lambdas, in whatever state -/
def TabOk (P : Addr) (qual : Str) (nx : List (Addr × Obj)) : List Value → Prop
  | [] => True
  | .int _ _ :: .int _ _ :: v :: rest => (∃ c oc vs t, v = .ref c ∧ (c, oc) ∈ nx ∧ oc.data = .fields vs ∧ vs[1]? = some (.str qual t) ∧ c ≠ P) ∧ TabOk P qual nx rest
  | _ => False
theorem TabOk.triples {P : Addr} {qual : Str} {nx : List (Addr × Obj)} : ∀ {l : List Value}, TabOk P qual nx l → TriplesOk l
  | [], _ => trivial
  | .int _ _ :: .int _ _ :: _ :: rest, h => by
    have h2 : TabOk P qual nx rest := h.2
    exact (TabOk.triples h2 : TriplesOk rest)
theorem TabOk.get {P : Addr} {qual : Str} {nx : List (Addr × Obj)} {pos : Pos} {v : Value} : ∀ {l : List Value}, TabOk P qual nx l → codeAmong pos l = some v → ∃ c oc vs t, v = .ref c ∧ (c, oc) ∈ nx ∧ oc.data = .fields vs ∧ vs[1]? = some (.str qual t) ∧ c ≠ P
  | [], _, e => by cases e
  | .int _ _ :: .int _ _ :: u :: _, h, e => by
    simp only [codeAmong] at e
    split at e
    · cases e; exact h.1
    · exact TabOk.get h.2 e
theorem TabOk.sub {P : Addr} {qual : Str} {nx nx' : List (Addr × Obj)} (k : ∀ p ∈ nx, p.1 ≠ P → p ∈ nx') : ∀ {l : List Value}, TabOk P qual nx l → TabOk P qual nx' l
  | [], _ => trivial
  | .int _ _ :: .int _ _ :: _ :: _, ⟨⟨c, oc, vs, t, e, hm, r1, r2, hne⟩, h⟩ => ⟨⟨c, oc, vs, t, e, k _ hm hne, r1, r2, hne⟩, TabOk.sub k h⟩
theorem TabOk.snoc {P : Addr} {qual : Str} {nx : List (Addr × Obj)} {a b : Int} {ta tb : Tok} {v : Value} (hv : ∃ c oc vs t, v = .ref c ∧ (c, oc) ∈ nx ∧ oc.data = .fields vs ∧ vs[1]? = some (.str qual t) ∧ c ≠ P) : ∀ {l : List Value}, TabOk P qual nx l → TabOk P qual nx (l ++ [.int a ta, .int b tb, v])
  | [], _ => ⟨hv, trivial⟩
  | .int _ _ :: .int _ _ :: _ :: _, h => ⟨h.1, TabOk.snoc hv h.2⟩
def TabIn (P : Addr) (qual : Str) (nx : List (Addr × Obj)) : Prop := ∃ ps, (P, tabObj ps) ∈ nx ∧ TabOk P qual nx ps.toList
theorem TabIn.sub {P : Addr} {qual : Str} {nx nx' : List (Addr × Obj)} (X : TabIn P qual nx) (k : ∀ p ∈ nx, p ∈ nx') : TabIn P qual nx' :=
  let ⟨ps, a, b⟩ := X; ⟨ps, k _ a, b.sub fun p hp _ => k p hp⟩
def NotF (o : Obj) : Prop := ∀ vs, o.data ≠ .fields vs
theorem ne_tab {h₀ h : Heap} {L P a : Addr} {o : Obj} {qual : Str} {nx nx' : List (Addr × Obj)} (N : News h₀ L h nx) (hm : (a, o) ∈ nx) (X : TabIn P qual nx') (k : ∀ p ∈ nx', p ∈ nx) (hf : NotF o) : a ≠ P := fun e => by
  obtain ⟨ps, ht, _⟩ := X
  have h1 := (N _ hm).1
  have h2 := (N _ (k _ ht)).1
  rw [show (a, o).1 = (P, tabObj ps).1 from e, h2] at h1
  have h3 : o = tabObj ps := (Option.some.inj h1).symm
  exact hf ps (by rw [h3])
section
variable {M : Model} {A : Around} {E : Value → Shared → Prop} {s : Shared} {h₀ : Heap} {L a c P : Addr} {m mg mb : Str → Option Value} {cn : Str} {cs : Scope} {ccd : Value} {cl : List (Str × Addr)} {nx : List (Addr × Obj)}
  {p : Program} {loose : List Str} {mean : ExcName → Option Value} {name qual : Str} {params : Arguments} {body : Expr} {scope : Scope} {pos : Pos} {firstLine : Nat} {clos : List (Str × Addr)}
theorem lam_led {Q : Value → Shared → Prop} (F : Fr h₀ L s.heap m) (N : News h₀ L s.heap nx) (T : Top p loose mean mg mb h₀) (C : CodeHd h₀ c P) (hcd : ccd = .ref c) (X : TabIn P qual nx) (hcl : closureFor scope (envX cn cs L a ccd cl) = pure clos)
    (h : ∀ f c' ctv oc vs t nx' h' tk, Fr h₀ L h' m → News h₀ L h' ((f, kla_obj name qual params body scope clos ((mg "__name__").getD .none) c' ctv) :: nx') → TabIn P qual nx' → (c', oc) ∈ nx' → oc.data = .fields vs → vs[1]? = some (.str qual t) → (∀ p ∈ nx, p.1 ≠ P → p ∈ nx') →
      (∀ p ∈ nx, p.1 < f) → Q (.ref f) { s with heap := h', toks := tk }) :
    wpAny M A (makeFunction name qual params (.expr body) scope (envX cn cs L a ccd cl) [] [] [] pos firstLine) Q E s := by
  obtain ⟨ps, hmem, hok⟩ := X
  have hm := N (P, tabObj ps) hmem
  have hgs := T.g.keeps F.keep
  obtain ⟨bm, ob, b1, b2, b3, b4, b5, b6⟩ := T.bmain
  have hgP : mainGlobals ≠ P := fun q => by
    obtain ⟨o, es, ep, e, hd, _⟩ := hgs
    rw [q, hm.1] at e; cases e; cases hd
  have hbP : bm ≠ P := fun q => by
    have e := F.keep _ _ b3
    rw [q, hm.1] at e; cases e; cases b4
  have hbG : bm ≠ mainGlobals := fun q => by
    obtain ⟨o, es, ep, e, hd, _⟩ := T.g
    rw [q, e] at b3; cases b3; rw [hd] at b6; cases b6
  cases hf : codeAmong pos ps.toList with
  | some cv =>
    obtain ⟨c', oc, vs, t, rfl, hcm, hcd1, hcd2, hcP⟩ := hok.get hf
    refine kla_makeFunctionHit (mg := mg) hcl rfl hgs hcd (C.keeps F.keep) hm.1 hok.triples hf ⟨bm, ob, b1, b2, hbG, hbP, F.keep _ _ b3, b4, b5, b6⟩ fun ctv h' tk hk hsz => ?_
    have hLs : L < h'.objs.size := Nat.lt_of_lt_of_le F.ns.lt hsz
    have fresh : ∀ b, L < b → h₀.get? b = none := fun b hb => Heap.get?_none_of_le (Nat.le_trans F.above (Nat.le_of_lt hb))
    refine h h'.objs.size c' ctv oc vs t nx _ tk ⟨(F.ns.keeps hk).push _, fun b o e => Heap.get?_push_of_some _ (hk b o (F.keep b o e)), F.above⟩ (fun q hq => ?_) ⟨ps, hmem, hok⟩ hcm hcd1 hcd2 (fun p hp _ => hp) (fun q hq => Nat.lt_of_lt_of_le (Heap.lt_size (N q hq).1) hsz)
    rcases List.mem_cons.mp hq with rfl | hq
    · exact ⟨Heap.get?_push_size _ rfl, Nat.ne_of_gt hLs, fresh _ hLs⟩
    · exact ⟨Heap.get?_push_of_some _ (hk _ _ (N q hq).1), (N q hq).2⟩
  | none =>
    refine kla_makeFunction (mg := mg) hcl rfl hgs hcd (C.keeps F.keep) hm.1 hok.triples hf hgP ⟨bm, ob, b1, b2, hbG, hbP, F.keep _ _ b3, b4, b5, b6⟩ fun c' ctv h' tk hx hge hlt hrec htb => ?_
    obtain ⟨c₂, oc, vs, t, e2, hoc, hd, hv⟩ := hrec
    cases e2
    have hLs : L < s.heap.objs.size := F.ns.lt
    have hLc : L < c' := Nat.lt_of_lt_of_le hLs hge
    have hPc : c' ≠ P := fun q => Nat.lt_irrefl _ (Nat.lt_of_lt_of_le (q ▸ Heap.lt_size hm.1) hge)
    have old : ∀ b o, h₀.get? b = some o → h'.get? b = some o := fun b o e => hx b o (fun q => by rw [q, hm.2.2] at e; cases e) (F.keep b o e)
    have fresh : ∀ b, L < b → h₀.get? b = none := fun b hb => Heap.get?_none_of_le (Nat.le_trans F.above (Nat.le_of_lt hb))
    have keep1 : ∀ q ∈ nx, q.1 ≠ P → q ∈ (c', oc) :: updL P (tabObj (ps ++ #[rawInt pos.line, rawInt pos.col, .ref c'])) nx := fun q hq hn => .tail _ (updL_other hq hn)
    refine h h'.objs.size c' ctv oc vs t ((c', oc) :: updL P (tabObj (ps ++ #[rawInt pos.line, rawInt pos.col, .ref c'])) nx) _ tk ⟨(F.ns.extBut hx hm.2.1.symm).push _, fun b o e => Heap.get?_push_of_some _ (old b o e), F.above⟩ (fun q hq => ?_)
      ⟨_, .tail _ (updL_self hmem), ?_⟩ (.head _) hd hv keep1 (fun q hq => Nat.lt_of_lt_of_le (Heap.lt_size (N q hq).1) (Nat.le_trans hge (Nat.le_of_lt hlt)))
    · rcases List.mem_cons.mp hq with rfl | hq
      · exact ⟨Heap.get?_push_size _ rfl, Nat.ne_of_gt (Nat.lt_trans hLc hlt), fresh _ (Nat.lt_trans hLc hlt)⟩
      · rcases List.mem_cons.mp hq with rfl | hq
        · exact ⟨Heap.get?_push_of_some _ hoc, Nat.ne_of_gt hLc, fresh _ hLc⟩
        · obtain ⟨q', hq', e⟩ := List.mem_map.mp hq
          by_cases hn : q'.1 = P
          · rw [if_pos hn] at e
            subst e
            exact ⟨Heap.get?_push_of_some _ htb, hm.2⟩
          · rw [if_neg hn] at e
            subst e
            exact ⟨Heap.get?_push_of_some _ (hx _ _ hn (N _ hq').1), (N _ hq').2⟩
    · have e : (ps ++ #[rawInt pos.line, rawInt pos.col, Value.ref c']).toList = ps.toList ++ [rawInt pos.line, rawInt pos.col, .ref c'] := by simp
      rw [e]
      exact TabOk.snoc ⟨c', oc, vs, t, rfl, .head _, hd, hv, hPc⟩ (hok.sub keep1)
end
end Mine
end
/-! part U6 -/
section
open PySem PySem.W PyProof.Rows PySem.Spec PySem.Calls
namespace Mine
/-! map(f, tuple) -/
theorem mro_mp : mroOf (.type "map") = pure [.type "map", .type "object"] := by rw [mroOf_type]; kernel_rfl
theorem lookup_mp_new : typeLookup (.type "map") "__new__" = pure (some (.builtin "map.__new__")) := by rw [typeLookup_type, builtinLookup_eq_fast]; kernel_rfl
theorem owner_mp : Manifest.owners.lookup (String.ofList ['p', 'a', 'm'].reverse) = some Manifest.sig_map := by kernel_rfl
theorem slot_mp_init : Slot "map" "__init__" "object.__init__" :=
  .of (owner := "object") (n := "__init__") (by rw [typeLookup_type, builtinLookup_eq_fast]; kernel_rfl) (by decide +kernel) (by decide +kernel) (by decide +kernel)
    (by first | exact .inl (by decide +kernel) | exact .inr (by decide +kernel)) (by rw [isSubtype_type]; kernel_rfl)
theorem slot_mp_iter : Slot "map" "__iter__" "map.__iter__" :=
  .of (owner := "map") (n := "__iter__") (by rw [typeLookup_type, builtinLookup_eq_fast]; kernel_rfl) (by decide +kernel) (by decide +kernel) (by decide +kernel)
    (by first | exact .inl (by decide +kernel) | exact .inr (by decide +kernel)) (by rw [isSubtype_type]; kernel_rfl)
theorem args_mp_iter (a : Value) : argsOk "map.__iter__" ⟨[a], []⟩ := by
  unfold argsOk; rw [signature?_of (id := "map.__iter__") (n := ['_', '_', 'r', 'e', 't', 'i', '_', '_']) (o := ['p', 'a', 'm']) (by kernel_rfl) owner_mp]; kernel_rfl
theorem slot_mp_next : Slot "map" "__next__" "map.__next__" :=
  .of (owner := "map") (n := "__next__") (by rw [typeLookup_type, builtinLookup_eq_fast]; kernel_rfl) (by decide +kernel) (by decide +kernel) (by decide +kernel)
    (by first | exact .inl (by decide +kernel) | exact .inr (by decide +kernel)) (by rw [isSubtype_type]; kernel_rfl)
theorem entry_mp_next : entryFor table "map.__next__" = some Builtin.«map.__next__» := entryFor_of_tree (by kernel_rfl)
theorem args_mp_next (a : Value) : argsOk "map.__next__" ⟨[a], []⟩ := by
  unfold argsOk; rw [signature?_of (id := "map.__next__") (n := ['_', '_', 't', 'x', 'e', 'n', '_', '_']) (o := ['p', 'a', 'm']) (by kernel_rfl) owner_mp]; kernel_rfl
theorem entry_mp_iter : entryFor table "map.__iter__" = some Builtin.«dict_keyiterator.__iter__» :=
  entryFor_alias (id' := "dict_keyiterator.__iter__") (by kernel_rfl) (by first | rfl | decide +kernel | (unfold String.splitOn; simp +decide [String.splitOnAux])) (by decide +kernel) (by kernel_rfl)
theorem called_mp : TypeCalled "map" "map.__new__" "object.__init__" :=
  ⟨by decide +kernel, by decide +kernel, ⟨_, _, mro_mp⟩, madeBy_type mro_mp lookup_mp_new (by decide +kernel), by decide +kernel, by rw [isSubtype_type]; kernel_rfl, slot_mp_init⟩
theorem typeCall_mp (a b : Value) : checkTypeCall "map" ⟨[a, b], []⟩ = pure () := by kernel_rfl
theorem newCall_mp (a b : Value) : checkBuiltinCall "map.__new__" ⟨[.type "map", a, b], []⟩ = pure () := by kernel_rfl
theorem entry_mp_new : entryFor table "map.__new__" = some Builtin.«map.__new__» := entryFor_of_tree (by kernel_rfl)
theorem sub_mp : isSubtype (.type "map") (.type "map") = pure true := by rw [isSubtype_type]; kernel_rfl

abbrev mapObj (T : Addr) (fv : Value) : Obj := { cls := .type "map", data := .fields #[.ref T, fv] }
abbrev oneT (I : Addr) : Obj := { cls := .type "tuple", data := .seq #[.ref I] }
abbrev mpH1 (h : Heap) (l : Addr) : Heap := h.push { cls := .type "tuple_iterator", data := .fields #[.ref l, .int 0 0] }
abbrev mpH2 (h : Heap) (l : Addr) : Heap := (mpH1 h l).push (oneT h.objs.size)
abbrev mpH3 (h : Heap) (l : Addr) (fv : Value) : Heap := (mpH2 h l).push (mapObj (mpH1 h l).objs.size fv)

theorem meets_mp_new (fv : Value) (l : Addr) (xs : Array Value) :
    Meets (Builtin.«map.__new__» ⟨[.type "map", fv, .ref l], []⟩) (fun _ R s => s.heap.IsTuple l xs ∧
      R (.ok (.ret (.ref (mpH2 s.heap l).objs.size))) { s with heap := mpH3 s.heap l fv }) :=
  .of_wp fun prog w A R s h => by
    obtain ⟨hp, g, d, tk, os⟩ := s; obtain ⟨hl, h⟩ := h
    have hsub := sub_mp
    have hL : Heap.IsTuple (Shared.heap ⟨hp, g, d, tk, os⟩) l xs := hl
    wp_walk using wpAny_pyIter_tuple hL
    exact ⟨_, rfl, h⟩

section
variable {prog : Program} {w : World} {A : Around} {E : Value → Shared → Prop} {s : Shared}
theorem nextOf_tup_item {it t : Addr} {i : Nat} {items : Array Value} {x : Value} {Q : Value → Shared → Prop} (hit : s.heap.IsTupleIter it t i)
    (ht : s.heap.IsTuple t items) (hx : items[i]? = some x)
    (hQ : ∀ h', h'.IsTupleIter it t (i + 1) → Heap.SameBut it s.heap h' → Q x { s with heap := h' }) :
    wpAny (model prog w) A (Builtin.SmallTypes.nextOf (.ref it)) Q E s := by
  obtain ⟨o, ho, hc, hd⟩ := id hit
  obtain ⟨ol, hol, _, nl, hdl⟩ := ht
  unfold Builtin.SmallTypes.nextOf
  refine wpAny_bind (wpAny_callSpecial?_slot (name := Str.ofString "__next__") hit.typeIs F.slot_tuple_iterator_next
    (wpAny_call_entry F.slot_tuple_iterator_next hit.typeIs F.entry_tuple_iterator_next ?_ (F.args_tuple_iterator_next_1 _)))
  show wpAny _ _ (field (.ref it) 0 >>= _) _ _ s
  refine wpAny_bind (wpAny_field ho hd (x := .ref t) rfl ?_)
  show wpAny _ _ (if (Value.ref t == Value.none) = true then _ else _) _ _ s
  rw [if_neg (show ¬ ((Value.ref t == Value.none) = true) from Bool.false_ne_true)]
  show wpAny _ _ (field (.ref it) 1 >>= _) _ _ s
  refine wpAny_bind (wpAny_field ho hd (x := .int i 0) rfl ?_)
  show wpAny _ _ (seqItems? (.ref t) >>= _) _ _ s
  refine wpAny_bind (wpAny_seqItems hol hdl ?_)
  simp only [Int.toNat_natCast, hx]
  refine wpAny_bind (wpAny_setField ho hd (by simp) (wpAny_pure ⟨x, rfl, wpAny_pure (hQ _ ?_ (Heap.SameBut.update ..))⟩))
  exact ⟨_, Heap.get?_update_self _ ho (Obj.isFreed_of_fields (Obj.data_mapFields hd _)), (Obj.cls_mapFields ..).trans hc, by
    rw [Obj.data_mapFields hd]; simp [rawInt]⟩
theorem nextOf_tup_end {it t : Addr} {i : Nat} {items : Array Value} {Q : Value → Shared → Prop} (hh : A.handled = none)
    (hit : s.heap.IsTupleIter it t i) (ht : s.heap.IsTuple t items) (hx : items[i]? = none)
    (hE : ∀ h' e, Heap.ExtBut it s.heap h' → (∃ o, h'.get? e = some o ∧ o.cls = .type "StopIteration") → E (.ref e) { s with heap := h' }) :
    wpAny (model prog w) A (Builtin.SmallTypes.nextOf (.ref it)) Q E s := by
  obtain ⟨o, ho, hc, hd⟩ := id hit
  obtain ⟨ol, hol, _, nl, hdl⟩ := ht
  unfold Builtin.SmallTypes.nextOf
  refine wpAny_bind (wpAny_callSpecial?_slot (name := Str.ofString "__next__") hit.typeIs F.slot_tuple_iterator_next
    (wpAny_call_entry F.slot_tuple_iterator_next hit.typeIs F.entry_tuple_iterator_next ?_ (F.args_tuple_iterator_next_1 _)))
  show wpAny _ _ (field (.ref it) 0 >>= _) _ _ s
  refine wpAny_bind (wpAny_field ho hd (x := .ref t) rfl ?_)
  show wpAny _ _ (if (Value.ref t == Value.none) = true then _ else _) _ _ s
  rw [if_neg (show ¬ ((Value.ref t == Value.none) = true) from Bool.false_ne_true)]
  show wpAny _ _ (field (.ref it) 1 >>= _) _ _ s
  refine wpAny_bind (wpAny_field ho hd (x := .int i 0) rfl ?_)
  show wpAny _ _ (seqItems? (.ref t) >>= _) _ _ s
  refine wpAny_bind (wpAny_seqItems hol hdl ?_)
  simp only [Int.toNat_natCast, hx]
  refine wpAny_bind (wpAny_rule (wpAny_bind (wpAny_setField ho hd (by simp) ?_)))
  show wpAny _ _ (newExc (.type "StopIteration") [] >>= _) _ _ _
  refine wpAny_bind ?_
  simp only [newExc, newTuple]
  refine wpAny_bind (wpAny_newObj_type ?_ (by size_fits))
  refine wpAny_bind (m := firstArgMember _ _) (wpAny_of_eq (a := Value.none) (by first | rfl | (simp only [firstArgMember]; rfl)) ?_)
  refine wpAny_newObj_type ?_ (by size_fits)
  simp only [raiseNew]
  refine wpAny_bind (wpAny_handled ?_)
  first | rw [show A.in1.handled = none from hh] | rw [hh]
  refine wpAny_bind (wpAny_pure (wpAny_throw ?_))
  exact hE _ _ (((Heap.SameBut.update ..).extBut.push _).push _) ⟨_, Heap.get?_push_size _ rfl, rfl⟩

theorem mp_next_item {M T I l : Addr} {fv x : Value} {i : Nat} {items : Array Value} {Q : Option Value → Shared → Prop} (hM : s.heap.get? M = some (mapObj T fv)) (hT : s.heap.get? T = some (oneT I)) (hMI : M ≠ I)
    (hit : s.heap.IsTupleIter I l i) (hl : s.heap.IsTuple l items) (hx : items[i]? = some x)
    (h : ∀ h' E', h'.IsTupleIter I l (i + 1) → Heap.SameBut I s.heap h' → wpAny (model prog w) A.in1 (call fv [x]) (fun r s' => Q (some r) s') E' { s with heap := h' }) :
    wpAny (model prog w) A (pyNext (.ref M)) Q E s := by
  have hTy : s.TypeIs (.ref M) "map" := ⟨_, hM, rfl⟩
  unfold pyNext
  refine wpAny_bind (wpAny_attempt (wpAny_callSpecial?_slot (name := Str.ofString "__next__") hTy slot_mp_next
    (wpAny_call_entry slot_mp_next hTy entry_mp_next ?_ (args_mp_next _))))
  show wpAny _ _ (field (.ref M) 0 >>= _) _ _ _
  refine wpAny_bind (wpAny_field hM rfl (x := .ref T) rfl ?_)
  refine wpAny_bind (wpAny_seqItems hT rfl ?_)
  simp only [List.forIn_cons, List.forIn_nil, ← Array.forIn_toList]
  refine wpAny_bind ?_
  refine wpAny_bind (wpAny_bind (wpAny_holding (nextOf_tup_item hit hl hx fun h' hi hs => wpAny_pure (wpAny_pure ?_))))
  have hM' : h'.get? M = some (mapObj T fv) := hs.extBut _ _ hMI hM
  show wpAny _ _ (field (.ref M) 1 >>= _) _ _ _
  refine wpAny_bind (wpAny_field hM' rfl (x := fv) rfl ?_)
  refine wpAny_bind (wpAny_holding ?_)
  refine wpAny_mono (h h' _ hi hs) (fun r s' hq => ?_) fun _ _ e => e
  exact wpAny_bind (wpAny_letGo (wpAny_pure ⟨_, rfl, wpAny_pure hq⟩))
theorem mp_next_end {M T I l : Addr} {fv : Value} {i : Nat} {items : Array Value} {Q : Option Value → Shared → Prop} (hh : A.handled = none) (hM : s.heap.get? M = some (mapObj T fv)) (hT : s.heap.get? T = some (oneT I))
    (hit : s.heap.IsTupleIter I l i) (hl : s.heap.IsTuple l items) (hx : items[i]? = none)
    (hQ : ∀ h', Heap.ExtBut I s.heap h' → Q none { s with heap := h' }) :
    wpAny (model prog w) A (pyNext (.ref M)) Q E s := by
  have hTy : s.TypeIs (.ref M) "map" := ⟨_, hM, rfl⟩
  unfold pyNext
  refine wpAny_bind (wpAny_attempt (wpAny_callSpecial?_slot (name := Str.ofString "__next__") hTy slot_mp_next
    (wpAny_call_entry slot_mp_next hTy entry_mp_next ?_ (args_mp_next _))))
  show wpAny _ _ (field (.ref M) 0 >>= _) _ _ _
  refine wpAny_bind (wpAny_field hM rfl (x := .ref T) rfl ?_)
  refine wpAny_bind (wpAny_seqItems hT rfl ?_)
  simp only [List.forIn_cons, List.forIn_nil, ← Array.forIn_toList]
  refine wpAny_bind ?_
  refine wpAny_bind (wpAny_bind (wpAny_holding (nextOf_tup_end hh hit hl hx fun h' x he' hx' => ?_)))
  obtain ⟨o, ho, hc⟩ := hx'
  refine wpAny_bind (wpAny_isInstance (T := "StopIteration") (b := true) ⟨o, ho, hc⟩ isSubtype_stop ?_)
  exact wpAny_pure (hQ _ he')
theorem mp_iter {M T : Addr} {fv : Value} {Q : Value → Shared → Prop} (hM : s.heap.get? M = some (mapObj T fv)) (h : Q (.ref M) s) : wpAny (model prog w) A (pyIter (.ref M)) Q E s := by
  have hT : s.TypeIs (.ref M) "map" := ⟨_, hM, rfl⟩
  refine wpAny_pyIter_slot hT slot_mp_iter (wpAny_call_entry slot_mp_iter hT entry_mp_iter ?_ (args_mp_iter _))
  show wpAny _ _ (ret (.ref M)) _ _ s
  exact wpAny_pure ⟨_, rfl, "map", _, hT, slot_mp_next.lookup, h⟩
end
end Mine
end
/-! part U7 -/
section
open PySem PySem.W PyProof.Rows PySem.Spec PySem.Calls
namespace Mine
abbrev tupIt (oi : Obj) (l : Addr) (i : Nat) : Prop := oi.cls = .type "tuple_iterator" ∧ oi.data = .fields #[.ref l, .int i 0]
section
variable {prog : Program} {w : World} {A : Around} {E : Value → Shared → Prop} {s : Shared} {h₀ : Heap} {L : Addr} {m : Str → Option Value} {news rest : List (Addr × Obj)} {M T I l : Addr} {fv : Value} {xs : List Value} {oi : Obj}
theorem mp_make {Q : Value → Shared → Prop} (F : Fr h₀ L s.heap m) (N : News h₀ L s.heap news) (hl : (l, ({ cls := .type "tuple", data := .seq xs.toArray } : Obj)) ∈ news)
    (h : ∀ M T I oi h', Fr h₀ L h' m → News h₀ L h' ((M, mapObj T fv) :: (T, oneT I) :: (I, oi) :: news) → tupIt oi l 0 → (∀ p ∈ news, p.1 < I) → I < T → T < M → Q (.ref M) { s with heap := h' }) :
    wpAny (model prog w) A (call (.type "map") [fv, .ref l]) Q E s := by
  have hl' : s.heap.IsTuple l xs.toArray := ⟨_, (N _ hl).1, rfl, 0, rfl⟩
  refine callType_new called_mp (by decide) (typeCall_mp _ _) (newCall_mp _ _) (fun obj => PySem.F.args_object_init_3 obj _ _) entry_mp_new (meets_mp_new fv l xs.toArray) ⟨hl', ?_⟩
  have z1 : (mpH1 s.heap l).objs.size = s.heap.objs.size + 1 := Heap.size_push ..
  have z2 : (mpH2 s.heap l).objs.size = s.heap.objs.size + 2 := by rw [Heap.size_push, z1]
  have g3 : (mpH3 s.heap l fv).get? (mpH2 s.heap l).objs.size = some _ := Heap.get?_push_size _ rfl
  have g2 : (mpH3 s.heap l fv).get? (mpH1 s.heap l).objs.size = some _ := Heap.get?_push_of_some _ (Heap.get?_push_size _ rfl)
  have g1 : (mpH3 s.heap l fv).get? s.heap.objs.size = some _ := Heap.get?_push_of_some _ (Heap.get?_push_of_some _ (Heap.get?_push_size _ rfl))
  have hLs : L < s.heap.objs.size := F.ns.lt
  have fresh : ∀ b, L < b → h₀.get? b = none := fun b hb => Heap.get?_none_of_le (Nat.le_trans F.above (Nat.le_of_lt hb))
  have old : ∀ b o, s.heap.get? b = some o → (mpH3 s.heap l fv).get? b = some o := fun b o e => Heap.get?_push_of_some _ (Heap.get?_push_of_some _ (Heap.get?_push_of_some _ e))
  have l1 : L < (mpH1 s.heap l).objs.size := by rw [z1]; exact Nat.lt_succ_of_lt hLs
  have l2 : L < (mpH2 s.heap l).objs.size := by rw [z2]; exact Nat.lt_succ_of_lt (Nat.lt_succ_of_lt hLs)
  refine ⟨⟨_, g3, rfl⟩, h (mpH2 s.heap l).objs.size (mpH1 s.heap l).objs.size s.heap.objs.size { cls := .type "tuple_iterator", data := .fields #[.ref l, .int 0 0] } _ (F.keeps old) (fun p hp => ?_) ⟨rfl, rfl⟩ (fun p hp => Heap.lt_size (N p hp).1) (by rw [z1]; exact Nat.lt_succ_self _) (by rw [z1, z2]; exact Nat.lt_succ_self _)⟩
  rcases List.mem_cons.mp hp with rfl | hp
  · exact ⟨g3, Nat.ne_of_gt l2, fresh _ l2⟩
  · rcases List.mem_cons.mp hp with rfl | hp
    · exact ⟨g2, Nat.ne_of_gt l1, fresh _ l1⟩
    · rcases List.mem_cons.mp hp with rfl | hp
      · exact ⟨g1, Nat.ne_of_gt hLs, fresh _ hLs⟩
      · exact ⟨old _ _ (N p hp).1, (N p hp).2⟩

theorem mp_upd {h h' : Heap} {o' : Obj} (N : News h₀ L h ((M, mapObj T fv) :: (T, oneT I) :: (I, oi) :: rest)) (hr : ∀ p ∈ rest, p.1 < I) (hIT : I < T) (hTM : T < M) (hs : Heap.SameBut I h h') (ho : h'.get? I = some o') :
    News h₀ L h' ((M, mapObj T fv) :: (T, oneT I) :: (I, o') :: rest) := fun p hp => by
  have nI := N (I, oi) (.tail _ (.tail _ (.head _)))
  rcases List.mem_cons.mp hp with rfl | hp
  · have n := N (M, mapObj T fv) (.head _)
    exact ⟨hs.extBut _ _ (Nat.ne_of_gt (Nat.lt_trans hIT hTM)) n.1, n.2⟩
  · rcases List.mem_cons.mp hp with rfl | hp
    · have n := N (T, oneT I) (.tail _ (.head _))
      exact ⟨hs.extBut _ _ (Nat.ne_of_gt hIT) n.1, n.2⟩
    · rcases List.mem_cons.mp hp with rfl | hp
      · exact ⟨ho, nI.2⟩
      · have n := N p (.tail _ (.tail _ (.tail _ hp)))
        exact ⟨hs.extBut _ _ (Nat.ne_of_lt (hr p hp)) n.1, n.2⟩
theorem mp_out {h h' : Heap} (N : News h₀ L h ((M, mapObj T fv) :: (T, oneT I) :: (I, oi) :: rest)) (hr : ∀ p ∈ rest, p.1 < I) (hs : Heap.ExtBut I h h') : News h₀ L h' rest := fun p hp => by
  have n := N p (.tail _ (.tail _ (.tail _ hp)))
  exact ⟨hs _ _ (Nat.ne_of_lt (hr p hp)) n.1, n.2⟩
theorem fr_extBut {h h' : Heap} {b : Addr} (F : Fr h₀ L h m) (hs : Heap.ExtBut b h h') (hb : h₀.get? b = none) (hL : b ≠ L) : Fr h₀ L h' m :=
  ⟨F.ns.at' fun o e => hs _ _ (Ne.symm hL) e, fun a o e => hs _ _ (fun q => by rw [q, hb] at e; cases e) (F.keep a o e), F.above⟩

theorem all_loop_mp {R : Result → Shared → Prop} (bs : List Bool) (hlen : bs.length = xs.length) (hh : A.handled = none) (hr : ∀ p ∈ rest, p.1 < I) (hIT : I < T) (hTM : T < M) (hl : (l, ({ cls := .type "tuple", data := .seq xs.toArray } : Obj)) ∈ rest)
    (hf : ∀ i v, xs[i]? = some v → ∀ (s' : Shared) (Q E : Value → Shared → Prop) oi, Fr h₀ L s'.heap m → News h₀ L s'.heap ((M, mapObj T fv) :: (T, oneT I) :: (I, oi) :: rest) →
      (∀ h' tk, Fr h₀ L h' m → News h₀ L h' ((M, mapObj T fv) :: (T, oneT I) :: (I, oi) :: rest) → Q (.bool (bs.getD i false)) { s' with heap := h', toks := tk }) → wpAny (model prog w) A.in1.in1 (call fv [v]) Q E s') :
    ∀ (k i : Nat) (s : Shared) (oi : Obj), xs.length - i = k → i ≤ xs.length → Fr h₀ L s.heap m → News h₀ L s.heap ((M, mapObj T fv) :: (T, oneT I) :: (I, oi) :: rest) → tupIt oi l i →
    (∀ h' tk, Fr h₀ L h' m → News h₀ L h' rest → R (.ok (.ret (.bool ((bs.drop i).all id)))) { s with heap := h', toks := tk }) →
    codeAny (model prog w) A (.builtin "all.loop" ⟨[.ref M], []⟩) R s := by
  intro k
  induction k with
  | zero =>
    intro i s oi hk hi F N hit hR
    have hin : i = xs.length := by omega
    refine codeAny_builtin PySem.F.entry_all_loop ?_
    rw [Around.under_plainId PySem.F.plain_all_loop _]
    show wpAny _ A.in1 (pyNext (.ref M) >>= _) _ _ s
    have nI := N (I, oi) (.tail _ (.tail _ (.head _)))
    refine wpAny_bind (mp_next_end hh (N _ (.head _)).1 (N _ (.tail _ (.head _))).1 ⟨oi, nI.1, hit⟩ ⟨_, (N _ (.tail _ (.tail _ (.tail _ hl)))).1, rfl, 0, rfl⟩ (by rw [hin]; simp) fun h' hs => ?_)
    refine wpAny_bind (wpAny_rule (wpAny_pure ?_))
    have := hR h' s.toks (fr_extBut F hs nI.2.2 nI.2.1) (mp_out N hr hs)
    rw [List.drop_of_length_le (by omega)] at this
    exact this
  | succ k ih =>
    intro i s oi hk hi F N hit hR
    have hlt : i < xs.length := by omega
    have hd : bs.drop i = bs.getD i false :: bs.drop (i + 1) := by
      rw [List.drop_eq_getElem_cons (by omega)]; simp [List.getElem?_eq_getElem (show i < bs.length by omega)]
    refine codeAny_builtin PySem.F.entry_all_loop ?_
    rw [Around.under_plainId PySem.F.plain_all_loop _]
    show wpAny _ A.in1 (pyNext (.ref M) >>= _) _ _ s
    have nI := N (I, oi) (.tail _ (.tail _ (.head _)))
    have hx : xs[i]? = some xs[i] := List.getElem?_eq_getElem hlt
    refine wpAny_bind (mp_next_item (N _ (.head _)).1 (N _ (.tail _ (.head _))).1 (Nat.ne_of_gt (Nat.lt_trans hIT hTM)) ⟨oi, nI.1, hit⟩ ⟨_, (N _ (.tail _ (.tail _ (.tail _ hl)))).1, rfl, 0, rfl⟩ (show xs.toArray[i]? = some xs[i] by rw [List.getElem?_toArray]; exact hx) fun h' E' hi' hs => ?_)
    obtain ⟨o', ho', hc', hd'⟩ := hi'
    refine hf i _ hx { s with heap := h' } _ _ o' (fr_extBut F hs.extBut nI.2.2 nI.2.1) (mp_upd N hr hIT hTM hs ho') fun h'' tk F' N' => ?_
    refine wpAny_bind (wpAny_holding (wpAny_truthy_bool ?_))
    refine wpAny_bind (wpAny_letGo ?_)
    cases hb : bs.getD i false with
    | true =>
      simp only [if_true]
      refine wpAny_pure ⟨plainId_quiet PySem.F.plain_all_loop _, ih (i + 1) _ o' (by omega) hlt F' N' ⟨hc', hd'⟩ fun h3 tk3 F3 N3 => ?_⟩
      have := hR h3 tk3 F3 N3
      rw [hd, List.all_cons, hb] at this
      exact this
    | false =>
      simp only [Bool.false_eq_true, if_false]
      refine wpAny_bind (wpAny_rule (wpAny_pure ?_))
      have := hR h'' tk F' (fun p hp => N' p (.tail _ (.tail _ (.tail _ hp))))
      rw [hd, List.all_cons, hb] at this
      exact this
theorem all_mp {Q : Value → Shared → Prop} (bs : List Bool) (F : Fr h₀ L s.heap m) (N : News h₀ L s.heap ((M, mapObj T fv) :: (T, oneT I) :: (I, oi) :: rest)) (hit : tupIt oi l 0) (hlen : bs.length = xs.length) (hh : A.handled = none)
    (hr : ∀ p ∈ rest, p.1 < I) (hIT : I < T) (hTM : T < M) (hl : (l, ({ cls := .type "tuple", data := .seq xs.toArray } : Obj)) ∈ rest)
    (hf : ∀ i v, xs[i]? = some v → ∀ (s' : Shared) (Q E : Value → Shared → Prop) oi, Fr h₀ L s'.heap m → News h₀ L s'.heap ((M, mapObj T fv) :: (T, oneT I) :: (I, oi) :: rest) →
      (∀ h' tk, Fr h₀ L h' m → News h₀ L h' ((M, mapObj T fv) :: (T, oneT I) :: (I, oi) :: rest) → Q (.bool (bs.getD i false)) { s' with heap := h', toks := tk }) → wpAny (model prog w) A.in1.in1 (call fv [v]) Q E s')
    (h : ∀ h' tk, Fr h₀ L h' m → News h₀ L h' rest → Q (.bool (bs.all id)) { s with heap := h', toks := tk }) : wpAny (model prog w) A (call (.builtin "all") [.ref M]) Q E s := by
  refine call_function_tree PySem.F.kind_all PySem.F.plain_all PySem.F.entry_all (PySem.F.args_all1 _) ?_
  unfold Builtin.«all»
  refine wpAny_bind (m := oneArg "all" _) (wpAny_pure ?_)
  refine wpAny_bind (mp_iter (N _ (.head _)).1 ?_)
  exact wpAny_pure ⟨plainId_quiet PySem.F.plain_all_loop _, all_loop_mp bs hlen hh hr hIT hTM hl hf xs.length 0 s oi rfl (Nat.zero_le _) F N hit fun h' tk F' N' => by simpa using h h' tk F' N'⟩

theorem any_loop_mp {R : Result → Shared → Prop} (bs : List Bool) (hlen : bs.length = xs.length) (hh : A.handled = none) (hr : ∀ p ∈ rest, p.1 < I) (hIT : I < T) (hTM : T < M) (hl : (l, ({ cls := .type "tuple", data := .seq xs.toArray } : Obj)) ∈ rest)
    (hf : ∀ i v, xs[i]? = some v → ∀ (s' : Shared) (Q E : Value → Shared → Prop) oi, Fr h₀ L s'.heap m → News h₀ L s'.heap ((M, mapObj T fv) :: (T, oneT I) :: (I, oi) :: rest) →
      (∀ h' tk, Fr h₀ L h' m → News h₀ L h' ((M, mapObj T fv) :: (T, oneT I) :: (I, oi) :: rest) → Q (.bool (bs.getD i false)) { s' with heap := h', toks := tk }) → wpAny (model prog w) A.in1.in1 (call fv [v]) Q E s') :
    ∀ (k i : Nat) (s : Shared) (oi : Obj), xs.length - i = k → i ≤ xs.length → Fr h₀ L s.heap m → News h₀ L s.heap ((M, mapObj T fv) :: (T, oneT I) :: (I, oi) :: rest) → tupIt oi l i →
    (∀ h' tk, Fr h₀ L h' m → News h₀ L h' rest → R (.ok (.ret (.bool ((bs.drop i).any id)))) { s with heap := h', toks := tk }) →
    codeAny (model prog w) A (.builtin "any.loop" ⟨[.ref M], []⟩) R s := by
  intro k
  induction k with
  | zero =>
    intro i s oi hk hi F N hit hR
    have hin : i = xs.length := by omega
    refine codeAny_builtin PySem.F.entry_any_loop ?_
    rw [Around.under_plainId PySem.F.plain_any_loop _]
    show wpAny _ A.in1 (pyNext (.ref M) >>= _) _ _ s
    have nI := N (I, oi) (.tail _ (.tail _ (.head _)))
    refine wpAny_bind (mp_next_end hh (N _ (.head _)).1 (N _ (.tail _ (.head _))).1 ⟨oi, nI.1, hit⟩ ⟨_, (N _ (.tail _ (.tail _ (.tail _ hl)))).1, rfl, 0, rfl⟩ (by rw [hin]; simp) fun h' hs => ?_)
    refine wpAny_bind (wpAny_rule (wpAny_pure ?_))
    have := hR h' s.toks (fr_extBut F hs nI.2.2 nI.2.1) (mp_out N hr hs)
    rw [List.drop_of_length_le (by omega)] at this
    exact this
  | succ k ih =>
    intro i s oi hk hi F N hit hR
    have hlt : i < xs.length := by omega
    have hd : bs.drop i = bs.getD i false :: bs.drop (i + 1) := by
      rw [List.drop_eq_getElem_cons (by omega)]; simp [List.getElem?_eq_getElem (show i < bs.length by omega)]
    refine codeAny_builtin PySem.F.entry_any_loop ?_
    rw [Around.under_plainId PySem.F.plain_any_loop _]
    show wpAny _ A.in1 (pyNext (.ref M) >>= _) _ _ s
    have nI := N (I, oi) (.tail _ (.tail _ (.head _)))
    have hx : xs[i]? = some xs[i] := List.getElem?_eq_getElem hlt
    refine wpAny_bind (mp_next_item (N _ (.head _)).1 (N _ (.tail _ (.head _))).1 (Nat.ne_of_gt (Nat.lt_trans hIT hTM)) ⟨oi, nI.1, hit⟩ ⟨_, (N _ (.tail _ (.tail _ (.tail _ hl)))).1, rfl, 0, rfl⟩ (show xs.toArray[i]? = some xs[i] by rw [List.getElem?_toArray]; exact hx) fun h' E' hi' hs => ?_)
    obtain ⟨o', ho', hc', hd'⟩ := hi'
    refine hf i _ hx { s with heap := h' } _ _ o' (fr_extBut F hs.extBut nI.2.2 nI.2.1) (mp_upd N hr hIT hTM hs ho') fun h'' tk F' N' => ?_
    refine wpAny_bind (wpAny_holding (wpAny_truthy_bool ?_))
    refine wpAny_bind (wpAny_letGo ?_)
    cases hb : bs.getD i false with
    | false =>
      simp only [Bool.false_eq_true, if_false]
      refine wpAny_pure ⟨plainId_quiet PySem.F.plain_any_loop _, ih (i + 1) _ o' (by omega) hlt F' N' ⟨hc', hd'⟩ fun h3 tk3 F3 N3 => ?_⟩
      have := hR h3 tk3 F3 N3
      rw [hd, List.any_cons, hb] at this
      exact this
    | true =>
      simp only [if_true]
      refine wpAny_bind (wpAny_rule (wpAny_pure ?_))
      have := hR h'' tk F' (fun p hp => N' p (.tail _ (.tail _ (.tail _ hp))))
      rw [hd, List.any_cons, hb] at this
      exact this
theorem any_mp {Q : Value → Shared → Prop} (bs : List Bool) (F : Fr h₀ L s.heap m) (N : News h₀ L s.heap ((M, mapObj T fv) :: (T, oneT I) :: (I, oi) :: rest)) (hit : tupIt oi l 0) (hlen : bs.length = xs.length) (hh : A.handled = none)
    (hr : ∀ p ∈ rest, p.1 < I) (hIT : I < T) (hTM : T < M) (hl : (l, ({ cls := .type "tuple", data := .seq xs.toArray } : Obj)) ∈ rest)
    (hf : ∀ i v, xs[i]? = some v → ∀ (s' : Shared) (Q E : Value → Shared → Prop) oi, Fr h₀ L s'.heap m → News h₀ L s'.heap ((M, mapObj T fv) :: (T, oneT I) :: (I, oi) :: rest) →
      (∀ h' tk, Fr h₀ L h' m → News h₀ L h' ((M, mapObj T fv) :: (T, oneT I) :: (I, oi) :: rest) → Q (.bool (bs.getD i false)) { s' with heap := h', toks := tk }) → wpAny (model prog w) A.in1.in1 (call fv [v]) Q E s')
    (h : ∀ h' tk, Fr h₀ L h' m → News h₀ L h' rest → Q (.bool (bs.any id)) { s with heap := h', toks := tk }) : wpAny (model prog w) A (call (.builtin "any") [.ref M]) Q E s := by
  refine call_function_tree PySem.F.kind_any PySem.F.plain_any PySem.F.entry_any (PySem.F.args_any1 _) ?_
  unfold Builtin.«any»
  refine wpAny_bind (m := oneArg "any" _) (wpAny_pure ?_)
  refine wpAny_bind (mp_iter (N _ (.head _)).1 ?_)
  exact wpAny_pure ⟨plainId_quiet PySem.F.plain_any_loop _, any_loop_mp bs hlen hh hr hIT hTM hl hf xs.length 0 s oi rfl (Nat.zero_le _) F N hit fun h' tk F' N' => by simpa using h h' tk F' N'⟩

/-! max(map(len, (x, y))) -/
theorem Walks.mpLen {prog : Program} {w : World} {A : Around} (hh : A.handled = none) (M T I l : Addr) (hMI : M ≠ I) (hTI : T ≠ I) (hlI : l ≠ I) (items : Array Value) (lens : Nat → Nat)
    (hstr : ∀ i v, items[i]? = some v → ∃ x t, v = .str x t ∧ x.length = lens i ∧ (x.length : Int) < 2 ^ 63) :
    Walks prog w A M [M, T, I, l] [I] items.size (fun i v => ∃ t, v = .int (lens i : Nat) t) (fun i h => h.get? M = some (mapObj T (.builtin "len")) ∧ h.get? T = some (oneT I) ∧ h.IsTupleIter I l i ∧ h.IsTuple l items) where
  sub := fun b hb => by simp at hb; simp [hb]
  frame := fun _ _ _ st hk => ⟨hk M (by simp) _ st.1, hk T (by simp) _ st.2.1, by obtain ⟨o, ho, r⟩ := st.2.2.1; exact ⟨o, hk I (by simp) _ ho, r⟩, by obtain ⟨o, ho, r⟩ := st.2.2.2; exact ⟨o, hk l (by simp) _ ho, r⟩⟩
  item := fun i s Q E hi st hQ => by
    have hx : items[i]? = some items[i] := Array.getElem?_eq_getElem hi
    refine mp_next_item st.1 st.2.1 hMI st.2.2.1 st.2.2.2 hx fun h' E' hi' hs => ?_
    obtain ⟨x, t, e, e2, hfit⟩ := hstr i _ hx
    rw [e]
    refine len_str (by omega) ?_
    refine hQ _ h' _ ⟨_, by rw [e2]⟩ ⟨hs.extBut _ _ hMI st.1, hs.extBut _ _ hTI st.2.1, hi', st.2.2.2.extBut hs.extBut hlI⟩ fun b o hb e => hs.extBut b o (fun h => hb (by simp [h])) e
  done := fun s Q E st hQ => mp_next_end hh st.1 st.2.1 st.2.2.1 st.2.2.2 (by simp) fun h' he' => hQ h' s.toks fun b o hb e => he' b o (fun h => hb (by simp [h])) e
  self := fun _ _ _ _ st hQ => mp_iter st.1 hQ
theorem max_mp {x y : Str} {t u : Tok} {Q : Value → Shared → Prop} (F : Fr h₀ L s.heap m) (N : News h₀ L s.heap ((M, mapObj T (.builtin "len")) :: (T, oneT I) :: (I, oi) :: rest)) (hit : tupIt oi l 0) (hh : A.handled = none)
    (hr : ∀ p ∈ rest, p.1 < I) (hIT : I < T) (hTM : T < M) (hl : (l, ({ cls := .type "tuple", data := .seq [Value.str x t, .str y u].toArray } : Obj)) ∈ rest) (hx : (x.length : Int) < 2 ^ 63) (hy : (y.length : Int) < 2 ^ 63)
    (h : ∀ h' tk t', Fr h₀ L h' m → News h₀ L h' rest → Q (.int (max x.length y.length : Nat) t') { s with heap := h', toks := tk }) : wpAny (model prog w) A (call (.builtin "max") [.ref M]) Q E s := by
  have nI := N (I, oi) (.tail _ (.tail _ (.head _)))
  have nl := N _ (.tail _ (.tail _ (.tail _ hl)))
  have nM := N _ (.head _)
  have nT := N _ (.tail _ (.head _))
  refine call_max_walk (mp_iter nM.1 ?_)
  have W := Walks.mpLen (prog := prog) (w := w) (A := A.in1.in1) hh M T I l (Nat.ne_of_gt (Nat.lt_trans hIT hTM)) (Nat.ne_of_gt hIT) (Nat.ne_of_lt (hr _ hl)) #[Value.str x t, .str y u] (fun i => match i with | 0 => x.length | _ => y.length)
    (fun i v hv => by
      match i, hv with
      | 0, hv => exact ⟨x, t, (Option.some.inj hv).symm, rfl, hx⟩
      | 1, hv => exact ⟨y, u, (Option.some.inj hv).symm, rfl, hy⟩)
  refine ⟨M, _, _, _, _, _, _, rfl, W.of_in1, ⟨nM.1, nT.1, ⟨oi, nI.1, hit⟩, ⟨_, nl.1, rfl, 0, rfl⟩⟩, ?_, Nat.zero_lt_succ _, CmpOf.ints_gt (fun i => ((match i with | 0 => x.length | _ => y.length : Nat) : Int)) (fun i v hv => hv), fun v h' tk hP hk => ?_⟩
  · intro b hb
    simp only [List.mem_cons, List.not_mem_nil, or_false] at hb
    rcases hb with rfl | rfl | rfl | rfl
    · exact Heap.lt_size nM.1
    · exact Heap.lt_size nT.1
    · exact Heap.lt_size nI.1
    · exact Heap.lt_size nl.1
  · obtain ⟨t', rfl⟩ := hP
    have hk' : Heap.ExtBut I s.heap h' := fun b o hb e => hk b o (by simpa using hb) e
    have e : ((match argBest (fun i j => decide (((match i with | 0 => x.length | _ => y.length : Nat) : Int) > ((match j with | 0 => x.length | _ => y.length : Nat) : Int))) 1 with | 0 => x.length | _ => y.length : Nat)) = max x.length y.length := by
      simp only [argBest]
      by_cases hc : (y.length : Int) > x.length
      · rw [if_pos (by simpa using hc)]
        show y.length = _
        omega
      · rw [if_neg (by simpa using hc)]
        show x.length = _
        omega
    have := h h' tk t' (fr_extBut F hk' nI.2.2 nI.2.1) (mp_out N hr hk')
    rw [← e] at this
    exact this
end
end Mine
end
/-! part U8 -/
section
open PySem PySem.W PyProof.Rows PySem.Spec PySem.Calls
namespace Mine
/-! a for over a tuple of the ledger, any target, a growing ledger -/
def TupTurn (h₀ : Heap) (L I : Addr) (oI : Obj) (J : (Str → Option Value) → List (Addr × Obj) → Prop) (s : Shared) (Q : Flow → Shared → Prop) (f : Flow) (s₃ : Shared) : Prop :=
  match f with
  | .ret v => Q (.ret v) s₃
  | .brk => Q .next s₃
  | _ => ∃ h' tk m' nx, s₃ = { s with heap := h', toks := tk } ∧ Fr h₀ L h' m' ∧ News h₀ L h' ((I, oI) :: nx) ∧ (∀ p ∈ nx, p.1 ≠ I) ∧ J m' nx
def TupSrc (prog : Program) (w : World) (A : Around) (h₀ : Heap) (env : Env) (target : Expr) (body : List Stmt) (Q : Flow → Shared → Prop) (E : Value → Shared → Prop) (xv : Value) (s : Shared) : Prop :=
  ∃ (t : Addr) (xs : List Value) (m : Str → Option Value) (news : List (Addr × Obj)) (J : Nat → (Str → Option Value) → List (Addr × Obj) → Prop), xv = .ref t ∧ A.handled = none ∧ Fr h₀ env.locals s.heap m ∧ News h₀ env.locals s.heap news ∧ J 0 m news ∧
    (∀ i m nx, J i m nx → (t, ({ cls := .type "tuple", data := .seq xs.toArray } : Obj)) ∈ nx) ∧
    (∀ (i : Nat) v h tk I oI m nx, xs[i]? = some v → J i m nx → tupIt oI t (i + 1) → (∀ p ∈ nx, p.1 ≠ I) → (∀ p ∈ news, p.1 < I) → Fr h₀ env.locals h m → News h₀ env.locals h ((I, oI) :: nx) →
      wpAny (model prog w) A (assign target env v) (fun _ s₂ => wpAny (model prog w) A (execs body env) (TupTurn h₀ env.locals I oI (J (i + 1)) s Q) E s₂) E { s with heap := h, toks := tk }) ∧
    (∀ h tk m nx, J xs.length m nx → Fr h₀ env.locals h m → News h₀ env.locals h nx → Q .next { s with heap := h, toks := tk })
section
variable {prog : Program} {w : World} {A : Around} {E : Value → Shared → Prop} {s : Shared} {env : Env} {h₀ : Heap} {target : Expr} {body : List Stmt} {Q : Flow → Shared → Prop}
theorem TupTurn.next {L I : Addr} {oI : Obj} {J : (Str → Option Value) → List (Addr × Obj) → Prop} {h' : Heap} {tk : Nat} {m' : Str → Option Value} {nx : List (Addr × Obj)} (F : Fr h₀ L h' m') (N : News h₀ L h' ((I, oI) :: nx)) (hn : ∀ p ∈ nx, p.1 ≠ I) (j : J m' nx) :
    TupTurn h₀ L I oI J s Q .next { s with heap := h', toks := tk } := ⟨h', tk, m', nx, rfl, F, N, hn, j⟩
theorem TupTurn.ret {L I : Addr} {oI : Obj} {J : (Str → Option Value) → List (Addr × Obj) → Prop} {v : Value} {s₃ : Shared} (h : Q (.ret v) s₃) : TupTurn h₀ L I oI J s Q (.ret v) s₃ := h
theorem For_tup {iter : Expr} {pos : Pos} {m : Str → Option Value} (_F : Fr h₀ env.locals s.heap m) (h : wpAny (model prog w) A (eval iter env) (fun xv s₁ => TupSrc prog w A h₀ env target body Q E xv s₁) E s)
    (hs : ∀ x, foldedSetIterable iter env x = pure x := by intro _; rfl)
    (hE : PassesOwn (model prog w) A env E := by passes_own) :
    wpAny (model prog w) A (exec (.For target iter body [] pos) env) Q E s := by
  refine wpAny_For (wpAny_mono h (fun xv s₁ h₁ => ?_) fun _ _ e => e) hs
  obtain ⟨t, xs, m, news, J, rfl, hh, F, N, hj, ht, turn, done⟩ := h₁
  have ht0 := ht _ _ _ hj
  have hT : s₁.heap.IsTuple t xs.toArray := ⟨_, (N _ ht0).1, rfl, 0, rfl⟩
  refine wpAny_pyIter_tuple hT ?_
  have hLs : env.locals < s₁.heap.objs.size := F.ns.lt
  have hIn : h₀.get? s₁.heap.objs.size = none := Heap.get?_none_of_le (Nat.le_trans F.above (Nat.le_of_lt hLs))
  generalize hIe : s₁.heap.objs.size = I at hIn hLs
  have hIL : I ≠ env.locals := Nat.ne_of_gt hLs
  have hlt : ∀ p ∈ news, p.1 < I := fun p hp => hIe ▸ Heap.lt_size (N p hp).1
  refine codeAny_forLoop_any (R := fun r s' => match r with | .ok f => Q f s' | .error e => cameBackBy (model prog w) A env E e s')
    (fun k s' => ∃ h' tk m' nx i oI, s' = { s₁ with heap := h', toks := tk } ∧ tupIt oI t i ∧ Fr h₀ env.locals h' m' ∧ News h₀ env.locals h' ((I, oI) :: nx) ∧ (∀ p ∈ nx, p.1 ≠ I) ∧ J i m' nx ∧ i ≤ xs.length ∧ k = xs.length + 1 - i) ?_ (xs.length + 1)
    ⟨_, _, m, news, 0, { cls := .type "tuple_iterator", data := .fields #[.ref t, .int 0 0] }, rfl, ⟨rfl, rfl⟩, F.push _, ?_, fun p hp => Nat.ne_of_lt (hlt p hp), hj, Nat.zero_le _, rfl⟩
  · rintro k s' ⟨h', tk, m', nx, i, oI, rfl, hit, F', N', hn, hJ, hi, rfl⟩
    have nI := N' (I, oI) (.head _)
    have nt := N' _ (.tail _ (ht _ _ _ hJ))
    have hT' : h'.IsTuple t xs.toArray := ⟨_, nt.1, rfl, 0, rfl⟩
    by_cases hlt2 : i < xs.length
    · have hx : xs[i]? = some xs[i] := List.getElem?_eq_getElem hlt2
      refine wpAny_pyNext_tuple_item (s := { s₁ with heap := h', toks := tk }) ⟨oI, nI.1, hit⟩ hT' (x := xs[i]) (by rw [List.getElem?_toArray]; exact hx) fun h2 hi2 hs2 => ?_
      refine letGo_tupleiter hi2 ?_
      obtain ⟨o2, ho2, hc2, hd2⟩ := hi2
      have F2 := fr_extBut F' hs2.extBut nI.2.2 nI.2.1
      have N2 : News h₀ env.locals h2 ((I, o2) :: nx) := fun p hp => by
        rcases List.mem_cons.mp hp with rfl | hp
        · exact ⟨ho2, nI.2⟩
        · have n := N' p (.tail _ hp)
          exact ⟨hs2.extBut _ _ (hn p hp) n.1, n.2⟩
      refine wpAny_mono (turn i _ h2 tk I o2 m' nx hx hJ ⟨hc2, hd2⟩ hn hlt F2 N2) (fun _ s₂ h₂ => wpAny_mono h₂ (fun f s₃ h₃ => ?_) hE) hE
      have fin : (∃ h' tk m' nx, s₃ = { s₁ with heap := h', toks := tk } ∧ Fr h₀ env.locals h' m' ∧ News h₀ env.locals h' ((I, o2) :: nx) ∧ (∀ p ∈ nx, p.1 ≠ I) ∧ J (i + 1) m' nx) → _ := fun ⟨h3, tk3, m3, nx3, e, F3, N3, hn3, hJ3⟩ =>
        (⟨xs.length + 1 - (i + 1), by omega, h3, tk3, m3, nx3, i + 1, o2, e, ⟨hc2, hd2⟩, F3, N3, hn3, hJ3, hlt2, rfl⟩ : ∃ k', k' < xs.length + 1 - i ∧ ∃ h' tk m' nx i oI, s₃ = { s₁ with heap := h', toks := tk } ∧ tupIt oI t i ∧ Fr h₀ env.locals h' m' ∧ News h₀ env.locals h' ((I, oI) :: nx) ∧ (∀ p ∈ nx, p.1 ≠ I) ∧ J i m' nx ∧ i ≤ xs.length ∧ k' = xs.length + 1 - i)
      cases f with
      | ret v => exact h₃
      | brk => exact h₃
      | next => exact fin h₃
      | cont => exact fin h₃
    · have hin : i = xs.length := by omega
      subst hin
      refine wpAny_pyNext_tuple_end (s := { s₁ with heap := h', toks := tk }) hh ⟨oI, nI.1, hit⟩ hT' (by simp) fun h2 hs2 => wpAny_execs_nil ?_
      exact done h2 tk m' nx hJ (fr_extBut F' hs2 nI.2.2 nI.2.1) fun p hp => by
        have n := N' p (.tail _ hp)
        exact ⟨hs2 _ _ (hn p hp) n.1, n.2⟩
  · intro p hp
    rcases List.mem_cons.mp hp with rfl | hp
    · exact ⟨hIe ▸ Heap.get?_push_size _ rfl, hIL, hIn⟩
    · exact ⟨Heap.get?_push_of_some _ (N p hp).1, (N p hp).2⟩
end
def NotC (o : Obj) : Prop := ∀ vs, o.data = .fields vs → ∀ q t, vs[1]? ≠ some (.str q t)
theorem NotC.cell {o : Obj} {v : Option Value} (h : o.data = .cell v) : NotC o := fun vs e => by rw [h] at e; cases e
theorem NotC.iter {o : Obj} {l : Addr} {i : Nat} (h : tupIt o l i) : NotC o := fun vs e q t hq => by
  rw [h.2] at e; cases e; cases hq
theorem TabOk.filt {h₀ h : Heap} {L P c : Addr} {oc : Obj} {qual : Str} {nx : List (Addr × Obj)} (N : News h₀ L h nx) (hc : (c, oc) ∈ nx) (hn : NotC oc) : ∀ {l : List Value}, TabOk P qual nx l → TabOk P qual (nx.filter fun p => decide (p.1 ≠ c)) l
  | [], _ => trivial
  | .int _ _ :: .int _ _ :: _ :: _, ⟨⟨c', o', vs, t, e, hm, r1, r2, hne⟩, h⟩ => ⟨⟨c', o', vs, t, e, List.mem_filter.mpr ⟨hm, by
      simp only [ne_eq, decide_eq_true_eq]
      intro q
      have h1 := (N _ hm).1
      have h2 := (N _ hc).1
      rw [show ((c', o') : Addr × Obj).1 = (c, oc).1 from q, h2] at h1
      have h3 : oc = o' := Option.some.inj h1
      exact hn vs (h3 ▸ r1) qual t r2⟩, r1, r2, hne⟩, TabOk.filt N hc hn h⟩
theorem TabIn.filt {h₀ h : Heap} {L P c : Addr} {oc : Obj} {qual : Str} {nx : List (Addr × Obj)} (N : News h₀ L h nx) (hc : (c, oc) ∈ nx) (hn : NotC oc) (hP : c ≠ P) (X : TabIn P qual nx) : TabIn P qual (nx.filter fun p => decide (p.1 ≠ c)) :=
  let ⟨ps, a, b⟩ := X; ⟨ps, List.mem_filter.mpr ⟨a, by simpa using Ne.symm hP⟩, b.filt N hc hn⟩
/-! the loop over the groups: its target is a cell -/
def GrpTurn (h₀ : Heap) (L I : Addr) (oI : Obj) (cell P : Addr) (qual : Str) (m : Str → Option Value) (keep : List (Addr × Obj)) (bad : Prop) (s : Shared) (Q : Flow → Shared → Prop) (f : Flow) (s₃ : Shared) : Prop :=
  match f with
  | .ret v => Q (.ret v) s₃
  | .brk => Q .next s₃
  | _ => ∃ h' tk nx oc v, s₃ = { s with heap := h', toks := tk } ∧ Fr h₀ L h' m ∧ News h₀ L h' nx ∧ (I, oI) ∈ nx ∧ (cell, oc) ∈ nx ∧ oc.data = .cell v ∧ TabIn P qual nx ∧ (∀ p ∈ keep, p ∈ nx) ∧ bad
section
variable {prog : Program} {w : World} {A : Around} {E : Value → Shared → Prop} {s : Shared} {env : Env} {h₀ : Heap} {target : Expr} {body : List Stmt} {Q : Flow → Shared → Prop}
theorem GrpTurn.next {L I cell P : Addr} {qual : Str} {oI oc : Obj} {m : Str → Option Value} {keep nx : List (Addr × Obj)} {bad : Prop} {h' : Heap} {tk : Nat} {v : Option Value} (F : Fr h₀ L h' m) (N : News h₀ L h' nx) (h1 : (I, oI) ∈ nx) (h2 : (cell, oc) ∈ nx) (h3 : oc.data = .cell v) (X : TabIn P qual nx) (hk : ∀ p ∈ keep, p ∈ nx) (b : bad) :
    GrpTurn h₀ L I oI cell P qual m keep bad s Q .next { s with heap := h', toks := tk } := ⟨h', tk, nx, oc, v, rfl, F, N, h1, h2, h3, X, hk, b⟩
theorem GrpTurn.ret {L I cell P : Addr} {qual : Str} {oI : Obj} {m : Str → Option Value} {keep : List (Addr × Obj)} {bad : Prop} {v : Value} {s₃ : Shared} (h : Q (.ret v) s₃) : GrpTurn h₀ L I oI cell P qual m keep bad s Q (.ret v) s₃ := h
theorem grpSrc {t cell P : Addr} {qual : Str} {xs : List Value} {m : Str → Option Value} {nx1 keep : List (Addr × Obj)} {oc : Obj} {vg : Option Value} (bad : Nat → Prop) (hh : A.handled = none) (F : Fr h₀ env.locals s.heap m) (N : News h₀ env.locals s.heap nx1)
    (q1 : (cell, oc) ∈ nx1) (dc : oc.data = .cell vg) (hP : cell ≠ P) (TI : TabIn P qual nx1) (hk : ∀ p ∈ keep, p ∈ nx1) (hkc : ∀ p ∈ keep, p.1 ≠ cell) (ht : (t, ({ cls := .type "tuple", data := .seq xs.toArray } : Obj)) ∈ keep)
    (turn : ∀ (i : Nat) v h tk I oI oc vg nt, xs[i]? = some v → (∀ j, j < i → bad j) → tupIt oI t (i + 1) → (∀ p ∈ nt, p.1 ≠ cell) → I ≠ cell → (∀ p ∈ nt, p.1 ≠ I) → oc.data = .cell vg → TabIn P qual nt → (∀ p ∈ keep, p ∈ nt) → Fr h₀ env.locals h m → News h₀ env.locals h ((I, oI) :: (cell, oc) :: nt) →
      wpAny (model prog w) A (assign target env v) (fun _ s₂ => wpAny (model prog w) A (execs body env) (GrpTurn h₀ env.locals I oI cell P qual m keep (bad i) s Q) E s₂) E { s with heap := h, toks := tk })
    (done : ∀ h tk nt, (∀ j, j < xs.length → bad j) → TabIn P qual nt → (∀ p ∈ keep, p ∈ nt) → Fr h₀ env.locals h m → News h₀ env.locals h nt → Q .next { s with heap := h, toks := tk }) :
    TupSrc prog w A h₀ env target body Q E (.ref t) s := by
  have fk : ∀ {nx : List (Addr × Obj)} {c : Addr} {p : Addr × Obj}, p ∈ nx → p.1 ≠ c → p ∈ nx.filter fun p => decide (p.1 ≠ c) := fun hp hn => List.mem_filter.mpr ⟨hp, by simpa using hn⟩
  have fo : ∀ {nx : List (Addr × Obj)} {c : Addr} {p : Addr × Obj}, p ∈ (nx.filter fun p => decide (p.1 ≠ c)) → p ∈ nx ∧ p.1 ≠ c := fun hp => by
    have := List.mem_filter.mp hp
    exact ⟨this.1, by simpa using this.2⟩
  let J : Nat → (Str → Option Value) → List (Addr × Obj) → Prop := fun i m' nx => m' = m ∧ ∃ oc vg nt, nx = (cell, oc) :: nt ∧ oc.data = .cell vg ∧ (∀ p ∈ nt, p.1 ≠ cell) ∧ TabIn P qual nt ∧ (∀ p ∈ keep, p ∈ nt) ∧ ∀ j, j < i → bad j
  have tP : ∀ {h : Heap} {nx : List (Addr × Obj)} {I : Addr} {oI : Obj} {k : Nat}, News h₀ env.locals h nx → (I, oI) ∈ nx → tupIt oI t k → TabIn P qual nx → I ≠ P := fun {_ _ I oI _} N hm hit X e => by
    obtain ⟨ps, hp, _⟩ := X
    have h1 := (N _ hm).1
    have h2 := (N _ hp).1
    rw [show (I, oI).1 = (P, tabObj ps).1 from e, h2] at h1
    have h3 : tabObj ps = oI := Option.some.inj h1
    have h4 := hit.1
    rw [← h3] at h4
    cases h4
  refine ⟨t, xs, m, (cell, oc) :: nx1.filter (fun p => decide (p.1 ≠ cell)), J, rfl, hh, F, ?_, ⟨rfl, oc, vg, _, rfl, dc, fun p hp => (fo hp).2, TI.filt N q1 (.cell dc) hP, fun p hp => fk (hk p hp) (hkc p hp), fun j hj => absurd hj (Nat.not_lt_zero _)⟩, ?_, ?_, ?_⟩
  · intro p hp
    rcases List.mem_cons.mp hp with rfl | hp
    · exact N _ q1
    · exact N _ (fo hp).1
  · rintro i m' nx ⟨_, oc, vg, nt, rfl, _, _, _, hk', _⟩
    exact .tail _ (hk' _ ht)
  · rintro i v h tk I oI m' nx hx ⟨rfl, oc, vg, nt, rfl, dc', hoff, TI', hk', hb⟩ hit hnI hlt F' N'
    have hIc : I ≠ cell := fun e => hnI _ (.head _) e.symm
    refine wpAny_mono (turn i v h tk I oI oc vg nt hx hb hit hoff hIc (fun p hp => hnI p (.tail _ hp)) dc' TI' hk' F' N') (fun _ s₂ h₂ => wpAny_mono h₂ (fun f s₃ h₃ => ?_) fun _ _ e => e) fun _ _ e => e
    have fin : (∃ h' tk nx oc v, s₃ = { s with heap := h', toks := tk } ∧ Fr h₀ env.locals h' m' ∧ News h₀ env.locals h' nx ∧ (I, oI) ∈ nx ∧ (cell, oc) ∈ nx ∧ oc.data = .cell v ∧ TabIn P qual nx ∧ (∀ p ∈ keep, p ∈ nx) ∧ bad i) →
        ∃ h' tk m'' nx, s₃ = { s with heap := h', toks := tk } ∧ Fr h₀ env.locals h' m'' ∧ News h₀ env.locals h' ((I, oI) :: nx) ∧ (∀ p ∈ nx, p.1 ≠ I) ∧ J (i + 1) m'' nx := by
      rintro ⟨h', tk', nx, oc', v', e, F3, N3, hI3, hc3, dc3, TI3, hk3, hb3⟩
      have TIa := TI3.filt N3 hc3 (.cell dc3) hP
      have Na : News h₀ env.locals h' (nx.filter fun p => decide (p.1 ≠ cell)) := fun p hp => N3 p (fo hp).1
      have hIa := fk hI3 hIc
      have TIb := TIa.filt Na hIa (.iter hit) (tP Na hIa hit TIa)
      refine ⟨h', tk', m', (cell, oc') :: (nx.filter fun p => decide (p.1 ≠ cell)).filter (fun p => decide (p.1 ≠ I)), e, F3, fun p hp => ?_, fun p hp => ?_, rfl, oc', v', _, rfl, dc3, fun p hp => (fo (fo hp).1).2, TIb, fun p hp => fk (fk (hk3 p hp) (hkc p hp)) (hnI p (.tail _ (hk' p hp))), fun j hj => ?_⟩
      · rcases List.mem_cons.mp hp with rfl | hp
        · exact N3 _ hI3
        · rcases List.mem_cons.mp hp with rfl | hp
          · exact N3 _ hc3
          · exact N3 _ (fo (fo hp).1).1
      · rcases List.mem_cons.mp hp with rfl | hp
        · exact Ne.symm hIc
        · exact (fo hp).2
      · rcases Nat.lt_succ_iff_lt_or_eq.mp hj with hj | rfl
        · exact hb j hj
        · exact hb3
    cases f with
    | ret v => exact h₃
    | brk => exact h₃
    | next => exact fin h₃
    | cont => exact fin h₃
  · rintro h tk m' nx ⟨rfl, oc, vg, nt, rfl, _, _, TI', hk', hb⟩ F' N'
    exact done h tk nt hb TI' hk' F' fun p hp => N' p (.tail _ hp)
end
end Mine
end
/-! part U9 -/
section
open PySem PySem.W PyProof.Rows PySem.Spec PySem.Calls
namespace Mine
section
variable {M : Model} {A : Around} {E : Value → Shared → Prop} {s : Shared} {K : Frag} {env : Env} {pos p : Pos} {first : List Value} {Q : Value → Shared → Prop} {e : Expr} {h₀ : Heap} {L : Addr} {news : List (Addr × Obj)} {q g : Addr} {self : Value}
theorem callWith_SM (_X : K.In h₀) (_N : News h₀ L s.heap news) (_q : (q, methodObj (.ref g) self) ∈ news) (hf : fnIn K g = true)
    (h : wpAny M A (eval e env) (fun v s₁ => StarOf M A E v (fun vs s₂ => MethP K q g self s₂.heap ∧ wpAny M A (call (.ref q) (first ++ vs)) Q E s₂) s₁) E s)
    (he : starEach [.Starred e p] env = [(true, eval e env)] := by rfl) :
    wpAny M A (callWith pos (.ref q) first (backTo pos (starEach [.Starred e p] env)) []) Q E s := by
  rw [he]
  exact ks_call rfl (keeps_M hf) (ks_lone h)
end
section
variable {prog : Program} {w : World} {A : Around} {E : Value → Shared → Prop} {s : Shared} {h₀ : Heap} {L : Addr} {m : Str → Option Value} {news : List (Addr × Obj)}
theorem all_texts {R : Result → Shared → Prop} {I l : Addr} {items : Array Value} (hh : A.handled = none) (hli : l ≠ I) (bs : List Bool) (hlen : bs.length = items.size)
    (hs : ∀ i v, items[i]? = some v → ∃ x t, v = .str x t ∧ (x.length : Int) < 2 ^ 63 ∧ bs.getD i false = ((x.length : Int) != 0)) :
    ∀ (k i : Nat) (s : Shared), items.size - i = k → i ≤ items.size → s.heap.IsTupleIter I l i → s.heap.IsTuple l items →
      (∀ h' tk, Heap.ExtBut I s.heap h' → R (.ok (.ret (.bool ((bs.drop i).all id)))) { s with heap := h', toks := tk }) → codeAny (model prog w) A (.builtin "all.loop" ⟨[.ref I], []⟩) R s := by
  intro k
  induction k with
  | zero =>
    intro i s hk hi hit hl hR
    refine codeAny_builtin F.entry_all_loop ?_
    rw [Around.under_plainId F.plain_all_loop _]
    show wpAny _ A.in1 (pyNext (.ref I) >>= _) _ _ s
    refine wpAny_bind (wpAny_pyNext_tuple_end hh hit hl (by rw [Array.getElem?_eq_none]; omega) fun h' he => wpAny_bind (wpAny_rule (wpAny_pure ?_)))
    have := hR h' s.toks he
    rw [List.drop_of_length_le (by omega)] at this
    exact this
  | succ k ih =>
    intro i s hk hi hit hl hR
    have hlt : i < items.size := by omega
    have hd : bs.drop i = bs.getD i false :: bs.drop (i + 1) := by
      rw [List.drop_eq_getElem_cons (by omega)]; simp [List.getElem?_eq_getElem (show i < bs.length by omega)]
    have hx : items[i]? = some items[i] := Array.getElem?_eq_getElem hlt
    obtain ⟨x, t, ev, hfit, eb⟩ := hs i _ hx
    refine codeAny_builtin F.entry_all_loop ?_
    rw [Around.under_plainId F.plain_all_loop _]
    show wpAny _ A.in1 (pyNext (.ref I) >>= _) _ _ s
    refine wpAny_bind (wpAny_pyNext_tuple_item hit hl hx fun h' hit' hs' => ?_)
    rw [ev]
    refine wpAny_bind (wpAny_holding (P.truthy_str (by omega) ?_))
    refine wpAny_bind (wpAny_letGo ?_)
    rw [← eb]
    cases hb : bs.getD i false with
    | true =>
      simp only [if_true]
      refine wpAny_pure ⟨plainId_quiet F.plain_all_loop _, ih (i + 1) _ (by omega) hlt hit' (hl.extBut hs'.extBut hli) fun h3 tk3 he3 => ?_⟩
      have := hR h3 tk3 (fun b o hb e => he3 b o hb (hs'.extBut b o hb e))
      rw [hd, List.all_cons, hb] at this
      exact this
    | false =>
      simp only [Bool.false_eq_true, if_false]
      refine wpAny_bind (wpAny_rule (wpAny_pure ?_))
      have := hR h' (s.toks + 1 + 1) hs'.extBut
      rw [hd, List.all_cons, hb] at this
      exact this
theorem all_tup2 {l : Addr} {x y : Str} {t u : Tok} {Q : Value → Shared → Prop} (F : Fr h₀ L s.heap m) (N : News h₀ L s.heap news) (hh : A.handled = none) (hm : (l, ({ cls := .type "tuple", data := .seq [Value.str x t, .str y u].toArray } : Obj)) ∈ news)
    (hx : x.length ≤ 100) (hy : y.length ≤ 100)
    (h : ∀ h' tk, Fr h₀ L h' m → News h₀ L h' news → Q (.bool (((x.length : Int) != 0) && ((y.length : Int) != 0))) { s with heap := h', toks := tk }) :
    wpAny (model prog w) A (call (.builtin "all") [.ref l]) Q E s := by
  have hT : s.heap.IsTuple l #[.str x t, .str y u] := ⟨_, (N _ hm).1, rfl, 0, rfl⟩
  have hlt : l < s.heap.objs.size := Heap.lt_size (N _ hm).1
  refine call_function_tree PySem.F.kind_all PySem.F.plain_all PySem.F.entry_all (PySem.F.args_all1 _) ?_
  unfold Builtin.«all»
  refine wpAny_bind (m := oneArg "all" _) (wpAny_pure ?_)
  refine wpAny_bind (wpAny_pyIter_tuple hT ?_)
  refine wpAny_pure ⟨plainId_quiet PySem.F.plain_all_loop _, all_texts hh (Nat.ne_of_lt hlt) [((x.length : Int) != 0), ((y.length : Int) != 0)] rfl (fun i v hv => ?_) 2 0 _ rfl (Nat.zero_le _) ⟨_, Heap.get?_push_size _ rfl, rfl, rfl⟩ (hT.push _) fun h' tk he => ?_⟩
  · match i, hv with
    | 0, hv => exact ⟨x, t, (Option.some.inj hv).symm, by omega, rfl⟩
    | 1, hv => exact ⟨y, u, (Option.some.inj hv).symm, by omega, rfl⟩
  · have hk' : ∀ b o, s.heap.get? b = some o → h'.get? b = some o := fun b o e => he b o (fun hm => by rw [hm] at e; exact Nat.lt_irrefl _ (Heap.lt_size e)) (Heap.get?_push_of_some _ e)
    have := h h' tk (F.keeps hk') (N.grown hk')
    simpa using this
end
end Mine
end
/-! part U10 -/
section
open PySem PySem.W PyProof.Rows PySem.Spec PySem.Calls
namespace Mine
/-! loops over any iterator that the ledger knows -/
def OffL (nx own : List (Addr × Obj)) : Prop := ∀ p ∈ nx, ∀ q ∈ own, p.1 ≠ q.1
def SideO (o : Obj) : Prop := NotC o ∧ ∀ ps, o ≠ tabObj ps
structure GIter (prog : Program) (w : World) (A : Around) (target : Expr) (h₀ : Heap) (L I : Addr) (n : Nat) (Own : Nat → List (Addr × Obj) → Prop) (P : Nat → Value → List (Addr × Obj) → Prop) : Prop where
  item : ∀ i own nx m (s : Shared) (Q : Value → Shared → Prop) (E : Value → Shared → Prop), i < n → Own i own → Fr h₀ L s.heap m → News h₀ L s.heap (own ++ nx) → OffL nx own →
    (∀ v own' ex h' tk, Own (i + 1) own' → P i v ex → Fr h₀ L h' m → News h₀ L h' (own' ++ (ex ++ nx)) → OffL (ex ++ nx) own' → Q v { s with heap := h', toks := tk }) →
    wpAny (model prog w) A (pyNext (.ref I)) (fun r s₁ => ∃ v, r = some v ∧ wpAny (model prog w) A (letOwnedTupleGo target (.ref I) v) (fun _ s₂ => Q v s₂) E s₁) E s
  done : ∀ own nx m (s : Shared) (Q : Option Value → Shared → Prop) (E : Value → Shared → Prop), Own n own → Fr h₀ L s.heap m → News h₀ L s.heap (own ++ nx) → OffL nx own →
    (∀ h' tk, Fr h₀ L h' m → News h₀ L h' nx → Q none { s with heap := h', toks := tk }) → wpAny (model prog w) A (pyNext (.ref I)) Q E s
  side : ∀ i own, Own i own → ∀ q ∈ own, SideO q.2
def GTurn (h₀ : Heap) (L : Addr) (own : List (Addr × Obj)) (J : (Str → Option Value) → List (Addr × Obj) → Prop) (s : Shared) (Q : Flow → Shared → Prop) (f : Flow) (s₃ : Shared) : Prop :=
  match f with
  | .ret v => Q (.ret v) s₃
  | .brk => Q .next s₃
  | _ => ∃ h' tk m' nx, s₃ = { s with heap := h', toks := tk } ∧ Fr h₀ L h' m' ∧ News h₀ L h' (own ++ nx) ∧ OffL nx own ∧ J m' nx
def GSrc (prog : Program) (w : World) (A : Around) (h₀ : Heap) (env : Env) (target : Expr) (body : List Stmt) (Q : Flow → Shared → Prop) (E : Value → Shared → Prop) (it : Value) (s : Shared) : Prop :=
  ∃ (I : Addr) (n : Nat) (Own : Nat → List (Addr × Obj) → Prop) (P : Nat → Value → List (Addr × Obj) → Prop) (own : List (Addr × Obj)) (m : Str → Option Value) (news : List (Addr × Obj)) (J : Nat → (Str → Option Value) → List (Addr × Obj) → Prop),
    it = .ref I ∧ GIter prog w A target h₀ env.locals I n Own P ∧ Own 0 own ∧ Fr h₀ env.locals s.heap m ∧ News h₀ env.locals s.heap (own ++ news) ∧ OffL news own ∧ J 0 m news ∧
    (∀ i v own ex h tk m nx, i < n → Own (i + 1) own → P i v ex → J i m nx → OffL (ex ++ nx) own → Fr h₀ env.locals h m → News h₀ env.locals h (own ++ (ex ++ nx)) →
      wpAny (model prog w) A (assign target env v) (fun _ s₂ => wpAny (model prog w) A (execs body env) (GTurn h₀ env.locals own (J (i + 1)) s Q) E s₂) E { s with heap := h, toks := tk }) ∧
    (∀ h tk m nx, J n m nx → Fr h₀ env.locals h m → News h₀ env.locals h nx → Q .next { s with heap := h, toks := tk })
section
variable {prog : Program} {w : World} {A : Around} {E : Value → Shared → Prop} {s : Shared} {env : Env} {h₀ : Heap} {target : Expr} {body : List Stmt} {Q : Flow → Shared → Prop}
theorem For_G {iter : Expr} {pos : Pos} {m : Str → Option Value} (_F : Fr h₀ env.locals s.heap m)
    (h : wpAny (model prog w) A (eval iter env) (fun xv s₁ => wpAny (model prog w) A (pyIter xv) (fun it s₂ => GSrc prog w A h₀ env target body Q E it s₂) E s₁) E s)
    (hs : ∀ x, foldedSetIterable iter env x = pure x := by intro _; rfl)
    (hE : PassesOwn (model prog w) A env E := by passes_own) :
    wpAny (model prog w) A (exec (.For target iter body [] pos) env) Q E s := by
  refine wpAny_For (wpAny_mono h (fun xv s₀ h₁ => wpAny_mono h₁ (fun it s₁ h₂ => ?_) fun _ _ e => e) fun _ _ e => e) hs
  obtain ⟨I, n, Own, P, own, m, news, J, rfl, G, ho, F, N, hoff, hj, turn, done⟩ := h₂
  refine codeAny_forLoop_any (R := fun r s' => match r with | .ok f => Q f s' | .error e => cameBackBy (model prog w) A env E e s')
    (fun k s' => ∃ h' tk m' nx i own, s' = { s₁ with heap := h', toks := tk } ∧ Own i own ∧ Fr h₀ env.locals h' m' ∧ News h₀ env.locals h' (own ++ nx) ∧ OffL nx own ∧ J i m' nx ∧ i ≤ n ∧ k = n + 1 - i) ?_ (n + 1)
    ⟨_, _, m, news, 0, own, rfl, ho, F, N, hoff, hj, Nat.zero_le _, rfl⟩
  rintro k s' ⟨h', tk, m', nx, i, own, rfl, hO, F', N', hn, hJ, hi, rfl⟩
  by_cases hlt : i < n
  · refine wpAny_mono (G.item i own nx m' { s₁ with heap := h', toks := tk } (fun v s₂ => wpAny (model prog w) A (assign target env v) (fun _ s₂ => wpAny (model prog w) A (execs body env) (fun f s₃ => match f with
            | .next | .cont => ∃ k', k' < n + 1 - i ∧ ∃ h' tk m' nx i own, s₃ = { s₁ with heap := h', toks := tk } ∧ Own i own ∧ Fr h₀ env.locals h' m' ∧ News h₀ env.locals h' (own ++ nx) ∧ OffL nx own ∧ J i m' nx ∧ i ≤ n ∧ k' = n + 1 - i
            | .brk => Q .next s₃
            | .ret v => Q (.ret v) s₃) (notedBy (model prog w) A env fun e s' => cameBackBy (model prog w) A env E e s') s₂) (notedBy (model prog w) A env fun e s' => cameBackBy (model prog w) A env E e s') s₂)
        (notedBy (model prog w) A env fun e s' => cameBackBy (model prog w) A env E e s') hlt hO F' N' hn fun v own' ex h2 tk2 hO2 hP F2 N2 hoff2 => ?_) (fun r s₂ h₂ => ?_) fun _ _ e => e
    · refine wpAny_mono (turn i v own' ex h2 tk2 m' nx hlt hO2 hP hJ hoff2 F2 N2) (fun _ s₂ h₂ => wpAny_mono h₂ (fun f s₃ h₃ => ?_) hE) hE
      have fin : (∃ h' tk m' nx, s₃ = { s₁ with heap := h', toks := tk } ∧ Fr h₀ env.locals h' m' ∧ News h₀ env.locals h' (own' ++ nx) ∧ OffL nx own' ∧ J (i + 1) m' nx) → _ := fun ⟨h3, tk3, m3, nx3, e, F3, N3, hn3, hJ3⟩ =>
        (⟨n + 1 - (i + 1), by omega, h3, tk3, m3, nx3, i + 1, own', e, hO2, F3, N3, hn3, hJ3, hlt, rfl⟩ : ∃ k', k' < n + 1 - i ∧ ∃ h' tk m' nx i own, s₃ = { s₁ with heap := h', toks := tk } ∧ Own i own ∧ Fr h₀ env.locals h' m' ∧ News h₀ env.locals h' (own ++ nx) ∧ OffL nx own ∧ J i m' nx ∧ i ≤ n ∧ k' = n + 1 - i)
      cases f with
      | ret v => exact h₃
      | brk => exact h₃
      | next => exact fin h₃
      | cont => exact fin h₃
    · obtain ⟨v, rfl, h₂⟩ := h₂
      exact h₂
  · have hin : i = n := by omega
    subst hin
    refine G.done own nx m' { s₁ with heap := h', toks := tk } _ _ hO F' N' hn fun h2 tk2 F2 N2 => wpAny_execs_nil ?_
    exact done h2 tk2 m' nx hJ F2 N2
theorem GTurn.ret {L : Addr} {own : List (Addr × Obj)} {J : (Str → Option Value) → List (Addr × Obj) → Prop} {v : Value} {s₃ : Shared} (h : Q (.ret v) s₃) : GTurn h₀ L own J s Q (.ret v) s₃ := h
end
/-! ranges -/
theorem itR_side {x left c : Int} : SideO { cls := .type "range_iterator", data := .fields #[rawInt x, rawInt left, rawInt c] } :=
  ⟨(fun vs e q t h => by cases e; cases h), (fun ps e => by have := congrArg Obj.cls e; cases this)⟩
theorem GIter.range {prog : Program} {w : World} {A : Around} {h₀ : Heap} {L : Addr} (hh : A.handled = none) (x : Str) (px : Pos) (I : Addr) (a c : Int) (n : Nat) :
    GIter prog w A (.Name x px) h₀ L I n (fun i own => own = [(I, { cls := .type "range_iterator", data := .fields #[rawInt (a + (i : Nat) * c), rawInt ((n : Int) - (i : Nat)), rawInt c] })]) (fun i v ex => ex = [] ∧ ∃ t, v = .int (a + i * c) t) where
  item := fun i own nx m s Q E hi hO F N hoff hQ => by
    subst hO
    have W := Walks.range (prog := prog) (w := w) (A := A) hh I a c n
    have nI := N _ (.head _)
    refine W.item i s _ _ hi nI.1 fun v h' tk hP hst hk => ?_
    refine ⟨v, rfl, ?_⟩
    have hs : Heap.ExtBut I s.heap h' := fun b o hb e => hk b o (by simpa using hb) e
    have hgo : wpAny (model prog w) A (letOwnedTupleGo (.Name x px) (.ref I) v) (fun _ s₂ => Q v s₂) E { s with heap := h', toks := tk } := by
      show wpAny _ _ (pure ()) _ _ _
      refine wpAny_pure (hQ v _ [] h' tk rfl ⟨rfl, hP⟩ (fr_extBut F hs nI.2.2 nI.2.1) (fun p hp => ?_) (fun p hp q hq => by
        rcases List.mem_cons.mp hq with rfl | hq
        · have z := hoff p hp _ (.head _)
          exact z
        · cases hq))
      rcases List.mem_cons.mp hp with rfl | hp
      · exact ⟨hst, nI.2⟩
      · have n := N p (.tail _ hp)
        exact ⟨hs _ _ (hoff p hp _ (.head _)) n.1, n.2⟩
    exact hgo
  done := fun own nx m s Q E hO F N hoff hQ => by
    subst hO
    have W := Walks.range (prog := prog) (w := w) (A := A) hh I a c n
    have nI := N _ (.head _)
    refine W.done s _ _ nI.1 fun h' tk hk => ?_
    have hs : Heap.ExtBut I s.heap h' := fun b o hb e => hk b o (by simpa using hb) e
    exact hQ h' tk (fr_extBut F hs nI.2.2 nI.2.1) fun p hp => by
      have n := N p (.tail _ hp)
      exact ⟨hs _ _ (hoff p hp _ (.head _)) n.1, n.2⟩
  side := fun i own hO q hq => by
    subst hO
    rcases List.mem_cons.mp hq with rfl | hq
    · exact itR_side
    · cases hq
/-! a matrix of ints and a code table under such a loop -/
theorem TabOk.filtL {h₀ h : Heap} {L P : Addr} {qual : Str} {own nx : List (Addr × Obj)} (N : News h₀ L h nx) (hc : ∀ q ∈ own, q ∈ nx ∧ NotC q.2) : ∀ {l : List Value}, TabOk P qual nx l → TabOk P qual (nx.filter fun p => own.all fun q => decide (p.1 ≠ q.1)) l
  | [], _ => trivial
  | .int _ _ :: .int _ _ :: _ :: _, ⟨⟨c', o', vs, t, e, hm, r1, r2, hne⟩, h⟩ => ⟨⟨c', o', vs, t, e, List.mem_filter.mpr ⟨hm, by
      rw [List.all_eq_true]
      intro q hq
      simp only [ne_eq, decide_eq_true_eq]
      intro z
      obtain ⟨q1, q2⟩ := hc q hq
      have h1 := (N _ hm).1
      have h2 := (N _ q1).1
      rw [show ((c', o') : Addr × Obj).1 = q.1 from z, h2] at h1
      have h3 : q.2 = o' := Option.some.inj h1
      exact q2 vs (h3 ▸ r1) qual t r2⟩, r1, r2, hne⟩, TabOk.filtL N hc h⟩
theorem TabIn.filtL {h₀ h : Heap} {L P : Addr} {qual : Str} {own nx : List (Addr × Obj)} (N : News h₀ L h nx) (hc : ∀ q ∈ own, q ∈ nx ∧ SideO q.2) (X : TabIn P qual nx) : TabIn P qual (nx.filter fun p => own.all fun q => decide (p.1 ≠ q.1)) := by
  obtain ⟨ps, a, b⟩ := X
  refine ⟨ps, List.mem_filter.mpr ⟨a, ?_⟩, b.filtL N fun q hq => ⟨(hc q hq).1, (hc q hq).2.1⟩⟩
  rw [List.all_eq_true]
  intro q hq
  simp only [ne_eq, decide_eq_true_eq]
  intro z
  have h1 := (N _ a).1
  have h2 := (N _ (hc q hq).1).1
  rw [show ((P, tabObj ps) : Addr × Obj).1 = q.1 from z, h2] at h1
  exact (hc q hq).2.2 ps (Option.some.inj h1)
theorem MatIn.sub2 {nx nx' : List (Addr × Obj)} {D : Addr} {R : Nat → Addr} {n w : Nat} {M : Nat → Nat → Int} (X : MatIn nx D R n w M) (h : ∀ p ∈ nx, (∃ vs k, p.2 = listO vs k) → p ∈ nx') : MatIn nx' D R n w M :=
  ⟨X.top.imp fun _ z => h _ z ⟨_, _, rfl⟩, fun i hi => let ⟨vs, k, a, b⟩ := X.row i hi; ⟨vs, k, h _ a ⟨_, _, rfl⟩, b⟩, X.inj, X.off, X.small⟩
theorem MatIn.tab {h₀ h : Heap} {L P : Addr} {qual : Str} {cur nx nx' : List (Addr × Obj)} {D : Addr} {R : Nat → Addr} {n w : Nat} {M : Nat → Nat → Int} (X : MatIn nx D R n w M) (N : News h₀ L h cur) (hn : ∀ p ∈ nx, p ∈ cur) (TI : TabIn P qual cur) (hk : ∀ p ∈ cur, p.1 ≠ P → p ∈ nx') : MatIn nx' D R n w M :=
  X.sub2 fun p hp ⟨vs, k, e⟩ => hk p (hn p hp) (by
    obtain ⟨a, o⟩ := p
    exact ne_tab N (hn _ hp) TI (fun _ z => z) (fun vs' e' => by rw [show o = listO vs k from e] at e'; cases e'))
def MTurn (h₀ : Heap) (L P : Addr) (qual : Str) (stored : List Str) (m₀ : Str → Option Value) (own keep : List (Addr × Obj)) (D : Addr) (R : Nat → Addr) (n w' : Nat) (J : (Nat → Nat → Int) → Prop) (s : Shared) (Q : Flow → Shared → Prop) (f : Flow) (s₃ : Shared) : Prop :=
  match f with
  | .ret v => Q (.ret v) s₃
  | .brk => Q .next s₃
  | _ => ∃ h' tk m' nx M, s₃ = { s with heap := h', toks := tk } ∧ Fr h₀ L h' m' ∧ (∀ z, stored.contains z = false → m' z = m₀ z) ∧ News h₀ L h' nx ∧ (∀ q ∈ own, q ∈ nx) ∧ (∀ p ∈ keep, p ∈ nx) ∧ TabIn P qual nx ∧ MatIn nx D R n w' M ∧ J M
section
variable {prog : Program} {w : World} {A : Around} {E : Value → Shared → Prop} {s : Shared} {env : Env} {h₀ : Heap} {target : Expr} {body : List Stmt} {Q : Flow → Shared → Prop}
theorem matG {I P : Addr} {qual : Str} {k : Nat} {Own : Nat → List (Addr × Obj) → Prop} {Pv : Nat → Value → List (Addr × Obj) → Prop} {own₀ news keep : List (Addr × Obj)} {m₀ : Str → Option Value} {D : Addr} {R : Nat → Addr} {n w' : Nat} {M₀ : Nat → Nat → Int} (stored : List Str) (J : Nat → (Nat → Nat → Int) → Prop)
    (G : GIter prog w A target h₀ env.locals I k Own Pv) (ho : Own 0 own₀) (F : Fr h₀ env.locals s.heap m₀) (N : News h₀ env.locals s.heap (own₀ ++ news)) (hoff : OffL news own₀) (hkeep : ∀ p ∈ keep, p ∈ news) (TI : TabIn P qual news) (X : MatIn news D R n w' M₀) (hj : J 0 M₀)
    (turn : ∀ i v own ex h tk (u : Str → Option Value) nx M, i < k → Own (i + 1) own → Pv i v ex → J i M → OffL (ex ++ nx) own → (∀ p ∈ keep, p ∈ nx) → TabIn P qual nx → MatIn nx D R n w' M → Fr h₀ env.locals h (fun y => if stored.contains y then u y else m₀ y) → News h₀ env.locals h (own ++ (ex ++ nx)) →
      wpAny (model prog w) A (assign target env v) (fun _ s₂ => wpAny (model prog w) A (execs body env) (MTurn h₀ env.locals P qual stored m₀ own keep D R n w' (J (i + 1)) s Q) E s₂) E { s with heap := h, toks := tk })
    (done : ∀ h tk (u : Str → Option Value) nx M, J k M → (∀ p ∈ keep, p ∈ nx) → TabIn P qual nx → MatIn nx D R n w' M → Fr h₀ env.locals h (fun y => if stored.contains y then u y else m₀ y) → News h₀ env.locals h nx → Q .next { s with heap := h, toks := tk }) :
    GSrc prog w A h₀ env target body Q E (.ref I) s := by
  have shape : ∀ (m' : Str → Option Value), (∀ z, stored.contains z = false → m' z = m₀ z) → (fun y => if stored.contains y then m' y else m₀ y) = m' := fun m' hm => by
    funext y
    cases e : stored.contains y with
    | true => simp
    | false => simp only [Bool.false_eq_true, if_false]; exact (hm y e).symm
  refine ⟨I, k, Own, Pv, own₀, m₀, news, fun i m' nx => (∀ z, stored.contains z = false → m' z = m₀ z) ∧ (∀ p ∈ keep, p ∈ nx) ∧ TabIn P qual nx ∧ ∃ M, MatIn nx D R n w' M ∧ J i M, rfl, G, ho, F, N, hoff, ⟨fun _ _ => rfl, hkeep, TI, M₀, X, hj⟩, ?_, ?_⟩
  · rintro i v own ex h tk m' nx hi hO hP ⟨hm, hk, hT, M, hM, hJ⟩ hof F' N'
    have F2 : Fr h₀ env.locals h (fun y => if stored.contains y then m' y else m₀ y) := by rw [shape m' hm]; exact F'
    refine wpAny_mono (turn i v own ex h tk m' nx M hi hO hP hJ hof hk hT hM F2 N') (fun _ s₂ h₂ => wpAny_mono h₂ (fun f s₃ h₃ => ?_) fun _ _ e => e) fun _ _ e => e
    have fin : (∃ h' tk m' nx M, s₃ = { s with heap := h', toks := tk } ∧ Fr h₀ env.locals h' m' ∧ (∀ z, stored.contains z = false → m' z = m₀ z) ∧ News h₀ env.locals h' nx ∧ (∀ q ∈ own, q ∈ nx) ∧ (∀ p ∈ keep, p ∈ nx) ∧ TabIn P qual nx ∧ MatIn nx D R n w' M ∧ J (i + 1) M) →
        ∃ h' tk m' nx, s₃ = { s with heap := h', toks := tk } ∧ Fr h₀ env.locals h' m' ∧ News h₀ env.locals h' (own ++ nx) ∧ OffL nx own ∧ (∀ z, stored.contains z = false → m' z = m₀ z) ∧ (∀ p ∈ keep, p ∈ nx) ∧ TabIn P qual nx ∧ ∃ M, MatIn nx D R n w' M ∧ J (i + 1) M := by
      rintro ⟨h3, tk3, m3, nx3, M3, e, F3, hm3, N3, hown, hk3, T3, X3, hJ3⟩
      have offs : ∀ p ∈ nx, (own.all fun q => decide (p.1 ≠ q.1)) = true := fun p hp => by
        rw [List.all_eq_true]
        intro q hq
        simpa using hof p (List.mem_append_right _ hp) q hq
      refine ⟨h3, tk3, m3, nx3.filter fun p => own.all fun q => decide (p.1 ≠ q.1), e, F3, fun p hp => ?_, fun p hp q hq => ?_, hm3, fun p hp => List.mem_filter.mpr ⟨hk3 p hp, offs p (hk p hp)⟩, T3.filtL N3 fun q hq => ⟨hown q hq, G.side _ _ hO q hq⟩, M3, ⟨?_, fun a ha => ?_, X3.inj, X3.off, X3.small⟩, hJ3⟩
      · rcases List.mem_append.mp hp with hp | hp
        · exact N3 p (hown p hp)
        · exact N3 p (List.mem_filter.mp hp).1
      · have z := (List.mem_filter.mp hp).2
        rw [List.all_eq_true] at z
        simpa using z q hq
      · obtain ⟨c, hc⟩ := hM.top
        obtain ⟨c', hc'⟩ := X3.top
        have z := offs _ hc
        exact ⟨c', List.mem_filter.mpr ⟨hc', z⟩⟩
      · obtain ⟨vs, c, hc, _⟩ := hM.row a ha
        obtain ⟨vs', c', hc', hv'⟩ := X3.row a ha
        have z := offs _ hc
        exact ⟨vs', c', List.mem_filter.mpr ⟨hc', z⟩, hv'⟩
    cases f with
    | ret v => exact h₃
    | brk => exact h₃
    | next => exact fin h₃
    | cont => exact fin h₃
  · rintro h tk m' nx ⟨hm, hk, hT, M, hM, hJ⟩ F' N'
    exact done h tk m' nx M hJ hk hT hM (by rw [shape m' hm]; exact F') N'
theorem rangeM {r P : Addr} {a₀ b₀ c₀ : Int} {t₀ u₀ v₀ : Tok} {k : Nat} {qual : Str} {news keep : List (Addr × Obj)} {m₀ : Str → Option Value} {D : Addr} {R : Nat → Addr} {n w' : Nat} {M₀ : Nat → Nat → Int} {x : Str} {px : Pos} (stored : List Str) (J : Nat → (Nat → Nat → Int) → Prop)
    (hh : A.handled = none) (hr : IsRange s.heap r a₀ b₀ c₀ t₀ u₀ v₀) (hsmall : Builtin.Range.small a₀ b₀ c₀ = true) (hn : Builtin.Range.rangeSize a₀ b₀ c₀ = (k : Int)) (F : Fr h₀ env.locals s.heap m₀) (N : News h₀ env.locals s.heap news) (hkeep : ∀ p ∈ keep, p ∈ news) (TI : TabIn P qual news) (X : MatIn news D R n w' M₀) (hj : J 0 M₀)
    (turn : ∀ (i : Nat) t I oI h tk (u : Str → Option Value) nx M, i < k → J i M → OffL nx [(I, oI)] → (∀ p ∈ keep, p ∈ nx) → TabIn P qual nx → MatIn nx D R n w' M → Fr h₀ env.locals h (fun y => if stored.contains y then u y else m₀ y) → News h₀ env.locals h ((I, oI) :: nx) →
      wpAny (model prog w) A (assign (.Name x px) env (.int (a₀ + i * c₀) t)) (fun _ s₂ => wpAny (model prog w) A (execs body env) (MTurn h₀ env.locals P qual stored m₀ [(I, oI)] keep D R n w' (J (i + 1)) s Q) E s₂) E { s with heap := h, toks := tk })
    (done : ∀ h tk (u : Str → Option Value) nx M, J k M → (∀ p ∈ keep, p ∈ nx) → TabIn P qual nx → MatIn nx D R n w' M → Fr h₀ env.locals h (fun y => if stored.contains y then u y else m₀ y) → News h₀ env.locals h nx → Q .next { s with heap := h, toks := tk }) :
    wpAny (model prog w) A (pyIter (.ref r)) (fun it s₂ => GSrc prog w A h₀ env (.Name x px) body Q E it s₂) E s := by
  refine wpAny_pyIter_range hr hsmall ?_
  have hLs : env.locals < s.heap.objs.size := F.ns.lt
  refine matG (keep := keep) (own₀ := [(s.heap.objs.size, { cls := .type "range_iterator", data := .fields #[rawInt (a₀ + (0 : Nat) * c₀), rawInt ((k : Int) - (0 : Nat)), rawInt c₀] })]) stored J (GIter.range hh x px s.heap.objs.size a₀ c₀ k) rfl (F.push _) (fun p hp => ?_) (fun p hp q hq => ?_) hkeep TI X hj (fun i v own ex h tk u nx M hi hO hP hJ hof hk hT hM F' N' => ?_) done
  · rcases List.mem_cons.mp hp with rfl | hp
    · refine ⟨?_, Nat.ne_of_gt hLs, Heap.get?_none_of_le (Nat.le_trans F.above (Nat.le_of_lt hLs))⟩
      rw [hn]
      simpa using Heap.get?_push_size s.heap rfl
    · exact ⟨Heap.get?_push_of_some _ (N p hp).1, (N p hp).2⟩
  · rcases List.mem_cons.mp hq with rfl | hq
    · exact Nat.ne_of_lt (Heap.lt_size (N p hp).1)
    · cases hq
  · obtain ⟨rfl, t, rfl⟩ := hP
    subst hO
    exact turn i t _ _ h tk u nx M hi hJ hof hk hT hM F' N'
end
end Mine
end
/-! part U11 -/
section
open PySem PySem.W PyProof.Rows PySem.Spec PySem.Calls
namespace Mine
/-! enumerate(zip(text, text), start=1) -/
abbrev zipO (f0 f1 : Value) (TI TO : Addr) : Obj := { cls := .type "zip", data := .fields #[f0, f1, .bool false, .ref TI, .ref TO] }
abbrev pairO (a b : Value) : Obj := { cls := .type "tuple", data := .seq #[a, b] }
abbrev strIt (oi : Obj) (x : Str) (t : Tok) (i : Nat) : Prop := oi.cls = .type "str_ascii_iterator" ∧ oi.data = .fields #[.str x t, .int i 0]
theorem wp_alive {M : Model} {A : Around} {E : Value → Shared → Prop} {s : Shared} {a : Addr} {Q : Option Obj → Shared → Prop} (h : Q (s.heap.get? a) s) : wpAny M A (loadIfAlive a) Q E s :=
  fun Γ p _ => by
    show Sem.wp M Γ (.loadIfAlive a .pure) _ _ p s
    rw [Sem.wp, Sem.wp]
    exact h
theorem siAt {h h' : Heap} {a : Addr} {ty : String} {x : Str} {t : Tok} {i : Nat} (X : h.IsStrIter a ty x t i) (k : ∀ o, h.get? a = some o → h'.get? a = some o) : h'.IsStrIter a ty x t i :=
  let ⟨o, e, r⟩ := X; ⟨o, k o e, r⟩
structure ZD (z TI TO i1 i2 : Addr) : Prop where
  TIz : TI ≠ z
  TOz : TO ≠ z
  i1z : i1 ≠ z
  i2z : i2 ≠ z
  TITO : TI ≠ TO
  TIi1 : TI ≠ i1
  TIi2 : TI ≠ i2
  TOi1 : TO ≠ i1
  TOi2 : TO ≠ i2
  i12 : i1 ≠ i2
section
variable {prog : Program} {w : World} {A : Around} {E : Value → Shared → Prop} {s : Shared}
theorem owned_free {z TI TO : Addr} {f0 : Value} {f1 : Bool} {Q : Bool → Shared → Prop} (hz : s.heap.get? z = some (zipO f0 (.bool f1) TI TO)) (hf : f0 = .none ∨ ∃ n, f0 = rawInt n)
    (h1 : Q true s) (h2 : ∀ h', h'.get? z = some (zipO f0 (.bool true) TI TO) → Heap.SameBut z s.heap h' → Q false { s with heap := h' }) :
    wpAny (model prog w) A (Builtin.SmallTypes.ownedTupleIsFree (.ref z)) Q E s := by
  unfold Builtin.SmallTypes.ownedTupleIsFree
  rcases hf with rfl | ⟨n, rfl⟩
  · exact wpAny_bind (wpAny_field hz rfl (x := .none) rfl (wpAny_pure h1))
  · refine wpAny_bind (wpAny_field hz rfl (x := rawInt n) rfl ?_)
    refine wpAny_bind (wp_alive ?_)
    cases s.heap.get? n.toNat with
    | none => exact wpAny_pure h1
    | some o =>
      show wpAny _ _ (field (.ref z) 1 >>= _) _ _ _
      refine wpAny_bind (wpAny_field hz rfl (x := .bool f1) rfl ?_)
      cases f1 with
      | true => exact wpAny_pure (h2 s.heap hz (Heap.SameBut.refl ..))
      | false =>
        refine wpAny_bind (wpAny_setField_rec hz (by simp) fun h' hz' hs' => ?_)
        exact wpAny_pure (h2 h' hz' hs')
theorem zip2_next {z TI TO i1 i2 : Addr} {x y : Str} {t u : Tok} {k : Nat} {c d : Nat} {f0 a b : Value} {f1 : Bool} {Q : Value → Shared → Prop} (D : ZD z TI TO i1 i2) (hz : s.heap.get? z = some (zipO f0 (.bool f1) TI TO)) (hf : f0 = .none ∨ ∃ n, f0 = rawInt n)
    (hTI : s.heap.get? TI = some (pairO (.ref i1) (.ref i2))) (hTO : s.heap.get? TO = some (pairO a b)) (h1 : s.heap.IsStrIter i1 "str_ascii_iterator" x t k) (h2 : s.heap.IsStrIter i2 "str_ascii_iterator" y u k) (hx : x.cps[k]? = some c) (hy : y.cps[k]? = some d)
    (hQ : ∀ Z h' tk f0' f a b ta tb, (f0' = Value.none ∨ ∃ n, f0' = rawInt n) → h'.get? z = some (zipO f0' (.bool f) TI TO) → h'.get? TO = some (pairO a b) → h'.IsStrIter i1 "str_ascii_iterator" x t (k + 1) → h'.IsStrIter i2 "str_ascii_iterator" y u (k + 1) → h'.get? Z = some (pairO (.str ⟨#[c]⟩ ta) (.str ⟨#[d]⟩ tb)) → s.heap.objs.size ≤ Z →
      (∀ b o, b ≠ z → b ≠ TO → b ≠ i1 → b ≠ i2 → s.heap.get? b = some o → h'.get? b = some o) → Q (.ref Z) { s with heap := h', toks := tk }) :
    wpAny (model prog w) A (Builtin.«zip.__next__» ⟨[.ref z], []⟩) (fun fin s' => ∃ v, fin = .done (.ret v) ∧ Q v s') E s := by
  show wpAny _ _ (field (.ref z) 2 >>= _) _ _ _
  refine wpAny_bind (wpAny_field hz rfl (x := .bool false) rfl ?_)
  show wpAny _ _ (field (.ref z) 3 >>= _) _ _ _
  refine wpAny_bind (wpAny_field hz rfl (x := .ref TI) rfl ?_)
  refine wpAny_bind (wpAny_seqItems hTI rfl ?_)
  show wpAny _ _ (Builtin.SmallTypes.ownedTupleIsFree (.ref z) >>= _) _ _ _
  refine wpAny_bind (owned_free hz hf ?_ fun h₀ hz₀ hs₀ => ?_)
  · simp only [if_true]
    refine wpAny_bind (wpAny_rule ?_)
    refine wpAny_bind (wpAny_field hz rfl (x := .ref TO) rfl ?_)
    refine wpAny_bind (wpAny_setField_rec hz (by simp) fun h₁ hz₁ hs₁ => ?_)
    replace hz₁ : h₁.get? z = some (zipO .ellipsis (.bool f1) TI TO) := hz₁
    refine wpAny_bind ?_
    simp only [List.zipIdx_cons, List.zipIdx_nil, List.forIn_cons, List.forIn_nil]
    refine wpAny_bind (wpAny_bind (wpAny_onRaise ?_))
    show wpAny _ _ (Builtin.SmallTypes.nextOf (.ref i1) >>= _) _ _ _
    refine wpAny_bind (wpAny_nextOf_ascii_item (h1.extBut hs₁.extBut D.i1z) hx fun h₂ h1₂ hs₂ => wpAny_pure ?_)
    have hTO₂ : h₂.get? TO = some (pairO a b) := hs₂.extBut _ _ D.TOi1 (hs₁.extBut _ _ D.TOz hTO)
    refine wpAny_bind (wpAny_seqItems hTO₂ rfl ?_)
    refine wpAny_bind (wpAny_updateSeq_pair hTO₂ fun h₃ hTO₃ hs₃ => ?_)
    refine wpAny_bind (wpAny_letGo (wpAny_pure ?_))
    refine wpAny_bind (wpAny_bind (wpAny_onRaise ?_))
    show wpAny _ _ (Builtin.SmallTypes.nextOf (.ref i2) >>= _) _ _ _
    refine wpAny_bind (wpAny_nextOf_ascii_item (((h2.extBut hs₁.extBut D.i2z).extBut hs₂.extBut D.i12.symm).extBut hs₃.extBut D.TOi2.symm) hy fun h₄ h2₄ hs₄ => wpAny_pure ?_)
    have hTO₄ : h₄.get? TO = some (pairO (.str ⟨#[c]⟩ s.toks) b) := hs₄.extBut _ _ D.TOi2 hTO₃
    refine wpAny_bind (wpAny_seqItems hTO₄ rfl ?_)
    refine wpAny_bind (wpAny_updateSeq_pair hTO₄ fun h₅ hTO₅ hs₅ => ?_)
    replace hTO₅ : h₅.get? TO = some (pairO (.str ⟨#[c]⟩ s.toks) (.str ⟨#[d]⟩ (s.toks + 1))) := hTO₅
    refine wpAny_bind (wpAny_letGo (wpAny_pure (wpAny_pure ?_)))
    refine wpAny_bind (wpAny_seqItems hTO₅ rfl ?_)
    refine wpAny_bind (wpAny_newTuple ?_)
    have hsz : h₅.objs.size = s.heap.objs.size := by rw [hs₅.1, hs₄.1, hs₃.1, hs₂.1, hs₁.1]
    have hz₅ : h₅.get? z = some (zipO .ellipsis (.bool f1) TI TO) := hs₅.extBut _ _ D.TOz.symm (hs₄.extBut _ _ D.i2z.symm (hs₃.extBut _ _ D.TOz.symm (hs₂.extBut _ _ D.i1z.symm hz₁)))
    have hk₅ : ∀ c o, c ≠ z → c ≠ TO → c ≠ i1 → c ≠ i2 → s.heap.get? c = some o → h₅.get? c = some o := fun c o c1 c2 c3 c4 e =>
      hs₅.extBut _ _ c2 (hs₄.extBut _ _ c4 (hs₃.extBut _ _ c2 (hs₂.extBut _ _ c3 (hs₁.extBut _ _ c1 e))))
    have h1₅ : h₅.IsStrIter i1 "str_ascii_iterator" x t (k + 1) := ((h1₂.extBut hs₃.extBut D.TOi1.symm).extBut hs₄.extBut D.i12).extBut hs₅.extBut D.TOi1.symm
    have h2₅ : h₅.IsStrIter i2 "str_ascii_iterator" y u (k + 1) := h2₄.extBut hs₅.extBut D.TOi2.symm
    have hzlt : z < h₅.objs.size := Heap.lt_size hz₅
    show wpAny _ _ (Builtin.SmallTypes.ownedTupleHandOut (.ref z) (.ref h₅.objs.size) >>= _) _ _ _
    refine wpAny_bind ?_
    unfold Builtin.SmallTypes.ownedTupleHandOut
    have hz₆ : (h₅.push { cls := .type "tuple", data := .seq #[.str ⟨#[c]⟩ s.toks, .str ⟨#[d]⟩ (s.toks + 1)] }).get? z = some (zipO .ellipsis (.bool f1) TI TO) := Heap.get?_push_of_some _ hz₅
    refine wpAny_bind (wpAny_setField_rec hz₆ (by simp) fun h₇ hz₇ hs₇ => ?_)
    replace hz₇ : h₇.get? z = some (zipO (rawInt h₅.objs.size) (.bool f1) TI TO) := hz₇
    refine wpAny_setField_rec hz₇ (by simp) fun h₈ hz₈ hs₈ => ?_
    replace hz₈ : h₈.get? z = some (zipO (rawInt h₅.objs.size) (.bool false) TI TO) := hz₈
    have up : ∀ c o, c ≠ z → h₅.get? c = some o → h₈.get? c = some o := fun c o c1 e => hs₈.extBut _ _ c1 (hs₇.extBut _ _ c1 (Heap.get?_push_of_some _ e))
    have hT₈ : h₈.get? h₅.objs.size = some (pairO (.str ⟨#[c]⟩ s.toks) (.str ⟨#[d]⟩ (s.toks + 1))) := hs₈.extBut _ _ (Nat.ne_of_gt hzlt) (hs₇.extBut _ _ (Nat.ne_of_gt hzlt) (Heap.get?_push_size _ rfl))
    refine wpAny_pure ⟨_, rfl, ?_⟩
    exact hQ h₅.objs.size h₈ _ _ _ _ _ _ _ (.inr ⟨_, rfl⟩) hz₈ (up _ _ D.TOz hTO₅) (siAt h1₅ fun o e => up _ o D.i1z e) (siAt h2₅ fun o e => up _ o D.i2z e) hT₈ (Nat.le_of_eq hsz.symm) fun c o c1 c2 c3 c4 e => up c o c1 (hk₅ c o c1 c2 c3 c4 e)
  · simp only [Bool.false_eq_true, if_false, ← Array.forIn_toList]
    refine wpAny_bind ?_
    simp only [List.forIn_cons, List.forIn_nil]
    refine wpAny_bind (wpAny_bind (wpAny_holding ?_))
    show wpAny _ _ (Builtin.SmallTypes.nextOf (.ref i1) >>= _) _ _ _
    refine wpAny_bind (wpAny_nextOf_ascii_item (h1.extBut hs₀.extBut D.i1z) hx fun h₂ h1₂ hs₂ => wpAny_pure ?_)
    refine wpAny_pure ?_
    refine wpAny_bind (wpAny_bind (wpAny_holding ?_))
    show wpAny _ _ (Builtin.SmallTypes.nextOf (.ref i2) >>= _) _ _ _
    refine wpAny_bind (wpAny_nextOf_ascii_item ((h2.extBut hs₀.extBut D.i2z).extBut hs₂.extBut D.i12.symm) hy fun h₄ h2₄ hs₄ => wpAny_pure ?_)
    refine wpAny_pure ?_
    refine wpAny_pure ?_
    show wpAny _ _ (newTuple [.str ⟨#[c]⟩ s.toks, .str ⟨#[d]⟩ (s.toks + 1)] >>= _) _ _ _
    refine wpAny_bind (wpAny_newTuple ?_)
    have hsz : h₄.objs.size = s.heap.objs.size := by rw [hs₄.1, hs₂.1, hs₀.1]
    have up : ∀ c' o, h₄.get? c' = some o → (h₄.push { cls := .type "tuple", data := .seq #[.str ⟨#[c]⟩ s.toks, .str ⟨#[d]⟩ (s.toks + 1)] }).get? c' = some o := fun c' o e => Heap.get?_push_of_some _ e
    have kp : ∀ c o, c ≠ z → c ≠ i1 → c ≠ i2 → s.heap.get? c = some o → h₄.get? c = some o := fun c o c1 c3 c4 e => hs₄.extBut _ _ c4 (hs₂.extBut _ _ c3 (hs₀.extBut _ _ c1 e))
    have hz₄ : h₄.get? z = some (zipO f0 (.bool true) TI TO) := hs₄.extBut _ _ D.i2z.symm (hs₂.extBut _ _ D.i1z.symm hz₀)
    refine wpAny_pure ⟨_, rfl, ?_⟩
    refine hQ h₄.objs.size _ _ _ _ _ _ _ _ hf (up _ _ hz₄) (up _ _ (kp _ _ D.TOz D.TOi1 D.TOi2 hTO)) (siAt (h1₂.extBut hs₄.extBut D.i12) fun o e => up _ o e) (siAt h2₄ fun o e => up _ o e) (Heap.get?_push_size _ rfl) (Nat.le_of_eq hsz.symm) fun c o c1 c2 c3 c4 e => up c o (kp c o c1 c3 c4 e)
theorem zip2_end {z TI TO i1 i2 : Addr} {x y : Str} {t u : Tok} {k : Nat} {c : Nat} {f0 a b : Value} {f1 : Bool} {Q : Fin → Shared → Prop} (hh : A.handled = none) (D : ZD z TI TO i1 i2) (hz : s.heap.get? z = some (zipO f0 (.bool f1) TI TO)) (hf : f0 = .none ∨ ∃ n, f0 = rawInt n)
    (hTI : s.heap.get? TI = some (pairO (.ref i1) (.ref i2))) (hTO : s.heap.get? TO = some (pairO a b)) (h1 : s.heap.IsStrIter i1 "str_ascii_iterator" x t k) (h2 : s.heap.IsStrIter i2 "str_ascii_iterator" y u k) (hx : x.cps[k]? = some c) (hy : y.cps[k]? = none)
    (hE : ∀ h' e tk, (∀ b o, b ≠ z → b ≠ TO → b ≠ i1 → b ≠ i2 → s.heap.get? b = some o → h'.get? b = some o) → (∃ o, h'.get? e = some o ∧ o.cls = .type "StopIteration") → E (.ref e) { s with heap := h', toks := tk }) :
    wpAny (model prog w) A (Builtin.«zip.__next__» ⟨[.ref z], []⟩) Q E s := by
  show wpAny _ _ (field (.ref z) 2 >>= _) _ _ _
  refine wpAny_bind (wpAny_field hz rfl (x := .bool false) rfl ?_)
  show wpAny _ _ (field (.ref z) 3 >>= _) _ _ _
  refine wpAny_bind (wpAny_field hz rfl (x := .ref TI) rfl ?_)
  refine wpAny_bind (wpAny_seqItems hTI rfl ?_)
  show wpAny _ _ (Builtin.SmallTypes.ownedTupleIsFree (.ref z) >>= _) _ _ _
  refine wpAny_bind (owned_free hz hf ?_ fun h₀ hz₀ hs₀ => ?_)
  · simp only [if_true]
    refine wpAny_bind (wpAny_rule ?_)
    refine wpAny_bind (wpAny_field hz rfl (x := .ref TO) rfl ?_)
    refine wpAny_bind (wpAny_setField_rec hz (by simp) fun h₁ hz₁ hs₁ => ?_)
    replace hz₁ : h₁.get? z = some (zipO .ellipsis (.bool f1) TI TO) := hz₁
    refine wpAny_bind ?_
    simp only [List.zipIdx_cons, List.zipIdx_nil, List.forIn_cons, List.forIn_nil]
    refine wpAny_bind (wpAny_bind (wpAny_onRaise ?_))
    show wpAny _ _ (Builtin.SmallTypes.nextOf (.ref i1) >>= _) _ _ _
    refine wpAny_bind (wpAny_nextOf_ascii_item (h1.extBut hs₁.extBut D.i1z) hx fun h₂ h1₂ hs₂ => wpAny_pure ?_)
    have hTO₂ : h₂.get? TO = some (pairO a b) := hs₂.extBut _ _ D.TOi1 (hs₁.extBut _ _ D.TOz hTO)
    refine wpAny_bind (wpAny_seqItems hTO₂ rfl ?_)
    refine wpAny_bind (wpAny_updateSeq_pair hTO₂ fun h₃ hTO₃ hs₃ => ?_)
    refine wpAny_bind (wpAny_letGo (wpAny_pure ?_))
    refine wpAny_bind (wpAny_bind (wpAny_onRaise ?_))
    show wpAny _ _ (Builtin.SmallTypes.nextOf (.ref i2) >>= _) _ _ _
    refine wpAny_bind (wpAny_nextOf_ascii_end hh (((h2.extBut hs₁.extBut D.i2z).extBut hs₂.extBut D.i12.symm).extBut hs₃.extBut D.TOi2.symm) hy fun h₄ e hs₄ he => ?_)
    obtain ⟨oe, hoe, hce⟩ := he
    have hz₄ : h₄.get? z = some (zipO .ellipsis (.bool f1) TI TO) := hs₄ _ _ D.i2z.symm (hs₃.extBut _ _ D.TOz.symm (hs₂.extBut _ _ D.i1z.symm hz₁))
    have hez : e ≠ z := fun x => by subst x; rw [hz₄] at hoe; cases hoe; simp at hce
    refine wpAny_setField_rec hz₄ (by simp) fun h₅ _ hs₅ => hE h₅ e _ (fun c o c1 c2 c3 c4 x => hs₅.extBut _ _ c1 (hs₄ _ _ c4 (hs₃.extBut _ _ c2 (hs₂.extBut _ _ c3 (hs₁.extBut _ _ c1 x))))) ⟨oe, hs₅.extBut _ _ hez hoe, hce⟩
  · simp only [Bool.false_eq_true, if_false, ← Array.forIn_toList]
    refine wpAny_bind ?_
    simp only [List.forIn_cons, List.forIn_nil]
    refine wpAny_bind (wpAny_bind (wpAny_holding ?_))
    show wpAny _ _ (Builtin.SmallTypes.nextOf (.ref i1) >>= _) _ _ _
    refine wpAny_bind (wpAny_nextOf_ascii_item (h1.extBut hs₀.extBut D.i1z) hx fun h₂ h1₂ hs₂ => wpAny_pure ?_)
    refine wpAny_pure ?_
    refine wpAny_bind (wpAny_bind (wpAny_holding ?_))
    show wpAny _ _ (Builtin.SmallTypes.nextOf (.ref i2) >>= _) _ _ _
    refine wpAny_bind (wpAny_nextOf_ascii_end hh ((h2.extBut hs₀.extBut D.i2z).extBut hs₂.extBut D.i12.symm) hy fun h₄ e hs₄ he => ?_)
    exact hE h₄ e _ (fun c o c1 c2 c3 c4 x => hs₄ _ _ c4 (hs₂.extBut _ _ c3 (hs₀.extBut _ _ c1 x))) he

abbrev enumO (it : Addr) (f0 : Value) (i : Int) (old : Value) : Obj := { cls := .type "enumerate", dict := none, data := .fields #[f0, .bool false, .ref it, rawInt i, .none, old], slots := #[] }
theorem enum_gen {e it : Addr} {idx : Int} {old : Value} {R : Value → Heap → Nat → Prop} {Q : Value → Shared → Prop} (he : s.heap.get? e = some (enumO it .none idx old))
    (hdraw : ∀ (Q' E' : Value → Shared → Prop), (∀ x h' tk, R x h' tk → h'.get? e = some (enumO it .none idx old) → Q' x { s with heap := h', toks := tk }) → wpAny (model prog w) A (Builtin.SmallTypes.nextOf (.ref it)) Q' E' s)
    (hQ : ∀ x h₁ tk T h', R x h₁ tk → h'.get? T = some (pairO (.int idx tk) x) → h₁.objs.size ≤ T → h'.get? e = some (enumO it (rawInt T) (idx + 1) x) → (∀ b o, b ≠ e → h₁.get? b = some o → h'.get? b = some o) → Q (.ref T) { s with heap := h', toks := tk + 1 }) :
    wpAny (model prog w) A (Builtin.«enumerate.__next__» ⟨[.ref e], []⟩) (fun fin s' => ∃ v, fin = .done (.ret v) ∧ Q v s') E s := by
  obtain ⟨hp, g, d, tk₀, os⟩ := s
  show wpAny _ _ (field (.ref e) 2 >>= _) _ _ _
  refine wpAny_bind (wpAny_field he rfl (x := .ref it) rfl ?_)
  refine wpAny_bind (hdraw _ _ fun x h₁ tk hR he₁ => ?_)
  show wpAny _ _ (field (.ref e) 3 >>= _) _ _ ⟨h₁, g, d, tk, os⟩
  refine wpAny_bind (wpAny_field he₁ rfl (x := rawInt idx) rfl ?_)
  show wpAny _ _ (field (.ref e) 4 >>= _) _ _ ⟨h₁, g, d, tk, os⟩
  refine wpAny_bind (wpAny_field he₁ rfl (x := .none) rfl ?_)
  show wpAny _ _ (mkInt idx >>= _) _ _ ⟨h₁, g, d, tk, os⟩
  refine wpAny_bind (wpAny_mkInt ?_)
  show wpAny _ _ (setField (.ref e) 3 (rawInt (idx + 1)) >>= _) _ _ ⟨h₁, g, d, tk + 1, os⟩
  refine wpAny_bind (wpAny_setField_rec he₁ (by simp) fun h₂ he₂ hs₂ => ?_)
  replace he₂ : h₂.get? e = some (enumO it .none (idx + 1) old) := he₂
  show wpAny _ _ (setField (.ref e) 4 .none >>= _) _ _ ⟨h₂, g, d, tk + 1, os⟩
  refine wpAny_bind (wpAny_setField_rec he₂ (by simp) fun h₃ he₃ hs₃ => ?_)
  replace he₃ : h₃.get? e = some (enumO it .none (idx + 1) old) := he₃
  replace hs₂ : Heap.SameBut e h₁ h₂ := hs₂
  replace hs₃ : Heap.SameBut e h₂ h₃ := hs₃
  show wpAny _ _ (newTuple [.int idx tk, x] >>= _) _ _ ⟨h₃, g, d, tk + 1, os⟩
  refine wpAny_bind (wpAny_newTuple ?_)
  have he₄ : (h₃.push { cls := .type "tuple", data := .seq #[.int idx tk, x] }).get? e = some (enumO it .none (idx + 1) old) := Heap.get?_push_of_some _ he₃
  generalize hh₄ : h₃.push { cls := .type "tuple", data := .seq #[.int idx tk, x] } = h₄ at he₄
  have hsz : h₃.objs.size = h₁.objs.size := by rw [hs₃.1, hs₂.1]
  have hel : e < h₁.objs.size := Heap.lt_size he₁
  have ht₄ : h₄.get? h₁.objs.size = some { cls := .type "tuple", data := .seq #[.int idx tk, x] } := by rw [← hh₄, ← hsz]; exact Heap.get?_push_size _ rfl
  have hk₄ : ∀ b o, b ≠ e → h₁.get? b = some o → h₄.get? b = some o := fun b o hbe hb => by
    rw [← hh₄]; exact Heap.get?_push_of_some _ (hs₃.extBut b o hbe (hs₂.extBut b o hbe hb))
  show wpAny _ _ (Builtin.SmallTypes.ownedTupleIsFree (.ref e) >>= _) _ _ ⟨h₄, g, d, tk + 1, os⟩
  rw [hsz]
  refine wpAny_bind ?_
  unfold Builtin.SmallTypes.ownedTupleIsFree
  refine wpAny_bind (wpAny_field he₄ rfl (x := .none) rfl (wpAny_pure ?_))
  simp only [if_true]
  refine wpAny_bind (wpAny_rule ?_)
  refine wpAny_bind (wpAny_field he₄ rfl (x := old) rfl ?_)
  refine wpAny_bind (wpAny_setField_rec he₄ (by simp) fun h₅ he₅ hs₅ => ?_)
  replace hs₅ : Heap.SameBut e h₄ h₅ := hs₅
  replace he₅ : h₅.get? e = some (enumO it .none (idx + 1) x) := he₅
  show wpAny _ _ (Builtin.SmallTypes.ownedTupleHandOut (.ref e) (.ref h₁.objs.size) >>= _) _ _ ⟨h₅, g, d, tk + 1, os⟩
  refine wpAny_bind ?_
  unfold Builtin.SmallTypes.ownedTupleHandOut
  refine wpAny_bind (wpAny_setField_rec he₅ (by simp) fun h₆ he₆ hs₆ => ?_)
  replace hs₆ : Heap.SameBut e h₅ h₆ := hs₆
  replace he₆ : h₆.get? e = some (enumO it (rawInt h₁.objs.size) (idx + 1) x) := he₆
  refine wpAny_setField_rec he₆ (by simp) fun h₇ he₇ hs₇ => ?_
  replace hs₇ : Heap.SameBut e h₆ h₇ := hs₇
  replace he₇ : h₇.get? e = some (enumO it (rawInt h₁.objs.size) (idx + 1) x) := he₇
  refine wpAny_bind (wpAny_letGo (wpAny_pure ⟨_, rfl, hQ x h₁ tk h₁.objs.size h₇ hR ?_ (Nat.le_refl _) he₇ ?_⟩))
  · exact hs₇.extBut _ _ (Nat.ne_of_gt hel) (hs₆.extBut _ _ (Nat.ne_of_gt hel) (hs₅.extBut _ _ (Nat.ne_of_gt hel) ht₄))
  · exact fun b o hbe hb => hs₇.extBut b o hbe (hs₆.extBut b o hbe (hs₅.extBut b o hbe (hk₄ b o hbe hb)))
end
end Mine
end
/-! part U12 -/
section
open PySem PySem.W PyProof.Rows PySem.Spec PySem.Calls
namespace Mine
section
variable {prog : Program} {w : World} {A : Around} {E : Value → Shared → Prop} {s : Shared}
theorem nextOf_zip {z TI TO i1 i2 : Addr} {x y : Str} {t u : Tok} {k : Nat} {c d : Nat} {f0 a b : Value} {f1 : Bool} {Q : Value → Shared → Prop} (D : ZD z TI TO i1 i2) (hz : s.heap.get? z = some (zipO f0 (.bool f1) TI TO)) (hf : f0 = .none ∨ ∃ n, f0 = rawInt n)
    (hTI : s.heap.get? TI = some (pairO (.ref i1) (.ref i2))) (hTO : s.heap.get? TO = some (pairO a b)) (h1 : s.heap.IsStrIter i1 "str_ascii_iterator" x t k) (h2 : s.heap.IsStrIter i2 "str_ascii_iterator" y u k) (hx : x.cps[k]? = some c) (hy : y.cps[k]? = some d)
    (hQ : ∀ Z h' tk f0' f a b ta tb, (f0' = Value.none ∨ ∃ n, f0' = rawInt n) → h'.get? z = some (zipO f0' (.bool f) TI TO) → h'.get? TO = some (pairO a b) → h'.IsStrIter i1 "str_ascii_iterator" x t (k + 1) → h'.IsStrIter i2 "str_ascii_iterator" y u (k + 1) → h'.get? Z = some (pairO (.str ⟨#[c]⟩ ta) (.str ⟨#[d]⟩ tb)) → s.heap.objs.size ≤ Z →
      (∀ b o, b ≠ z → b ≠ TO → b ≠ i1 → b ≠ i2 → s.heap.get? b = some o → h'.get? b = some o) → Q (.ref Z) { s with heap := h', toks := tk }) :
    wpAny (model prog w) A (Builtin.SmallTypes.nextOf (.ref z)) Q E s := by
  have hT : s.TypeIs (.ref z) "zip" := ⟨_, hz, rfl⟩
  unfold Builtin.SmallTypes.nextOf
  refine wpAny_bind (wpAny_callSpecial?_slot (name := Str.ofString "__next__") hT F.slot_zip_next
    (wpAny_call_entry F.slot_zip_next hT F.entry_zip_next (zip2_next D hz hf hTI hTO h1 h2 hx hy fun Z h' tk f0' f a b ta tb a1 a2 a3 a4 a5 a6 a7 a8 => wpAny_pure (hQ Z h' tk f0' f a b ta tb a1 a2 a3 a4 a5 a6 a7 a8)) (F.args_zip_next_1 _)))
theorem nextOf_zip_end {z TI TO i1 i2 : Addr} {x y : Str} {t u : Tok} {k : Nat} {c : Nat} {f0 a b : Value} {f1 : Bool} {Q : Value → Shared → Prop} (hh : A.handled = none) (D : ZD z TI TO i1 i2) (hz : s.heap.get? z = some (zipO f0 (.bool f1) TI TO)) (hf : f0 = .none ∨ ∃ n, f0 = rawInt n)
    (hTI : s.heap.get? TI = some (pairO (.ref i1) (.ref i2))) (hTO : s.heap.get? TO = some (pairO a b)) (h1 : s.heap.IsStrIter i1 "str_ascii_iterator" x t k) (h2 : s.heap.IsStrIter i2 "str_ascii_iterator" y u k) (hx : x.cps[k]? = some c) (hy : y.cps[k]? = none)
    (hE : ∀ h' e tk, (∀ b o, b ≠ z → b ≠ TO → b ≠ i1 → b ≠ i2 → s.heap.get? b = some o → h'.get? b = some o) → (∃ o, h'.get? e = some o ∧ o.cls = .type "StopIteration") → E (.ref e) { s with heap := h', toks := tk }) :
    wpAny (model prog w) A (Builtin.SmallTypes.nextOf (.ref z)) Q E s := by
  have hT : s.TypeIs (.ref z) "zip" := ⟨_, hz, rfl⟩
  unfold Builtin.SmallTypes.nextOf
  exact wpAny_bind (wpAny_callSpecial?_slot (name := Str.ofString "__next__") hT F.slot_zip_next
    (wpAny_call_entry F.slot_zip_next hT F.entry_zip_next (zip2_end hh D hz hf hTI hTO h1 h2 hx hy hE) (F.args_zip_next_1 _)))
end
def EzOwn (e z TI TO i1 i2 : Addr) (x y : Str) (t u : Tok) (i : Nat) (own : List (Addr × Obj)) : Prop :=
  ∃ (f0 : Value) (f1 : Bool) (a b old : Value) (o1 o2 : Obj), (f0 = .none ∨ ∃ n, f0 = rawInt n) ∧ strIt o1 x t i ∧ strIt o2 y u i ∧
    own = [(e, enumO z .none ((i : Int) + 1) old), (z, zipO f0 (.bool f1) TI TO), (TI, pairO (.ref i1) (.ref i2)), (TO, pairO a b), (i1, o1), (i2, o2)]
def EzP (x y : Str) (i : Nat) (v : Value) (ex : List (Addr × Obj)) : Prop :=
  ∃ (T Z : Addr) (ti ta tb : Tok) (c d : Nat), v = .ref T ∧ ex = [(T, pairO (.int ((i : Int) + 1) ti) (.ref Z)), (Z, pairO (.str ⟨#[c]⟩ ta) (.str ⟨#[d]⟩ tb))] ∧ x.cps[i]? = some c ∧ y.cps[i]? = some d
theorem side_pair {a b : Value} : SideO (pairO a b) := ⟨(fun vs e => by cases e), (fun ps e => by have := congrArg Obj.cls e; cases this)⟩
theorem side_str {o : Obj} {x : Str} {t : Tok} {i : Nat} (h : strIt o x t i) : SideO o :=
  ⟨(fun vs e q t hq => by rw [h.2] at e; cases e; cases hq), (fun ps e => by have := h.1; rw [e] at this; cases this)⟩
theorem side_zip {f0 : Value} {f1 : Bool} {TI TO : Addr} : SideO (zipO f0 (.bool f1) TI TO) := ⟨(fun vs e q t h => by cases e; cases h), (fun ps e => by have := congrArg Obj.cls e; cases this)⟩
theorem side_enum {f0 old : Value} {i : Int} {z : Addr} : SideO (enumO z f0 i old) := ⟨(fun vs e q t h => by cases e; cases h), (fun ps e => by have := congrArg Obj.cls e; cases this)⟩
theorem GIter.ez {prog : Program} {w : World} {A : Around} {h₀ : Heap} {L : Addr} (hh : A.handled = none) (elts : List Expr) {x1} (pos : Pos) (e z TI TO i1 i2 : Addr) (x y : Str) (t u : Tok) (n : Nat) (D : ZD z TI TO i1 i2) (De : e ≠ z ∧ e ≠ TI ∧ e ≠ TO ∧ e ≠ i1 ∧ e ≠ i2)
    (hx : n < x.cps.size) (hy : y.cps.size = n) :
    GIter prog w A (.Tuple elts x1 pos) h₀ L e n (EzOwn e z TI TO i1 i2 x y t u) (EzP x y) where
  item := fun i own nx m s Q E hi hO F N hoff hQ => by
    obtain ⟨f0, f1, a, b, old, o1, o2, hf, ho1, ho2, rfl⟩ := hO
    have ne := N (e, _) (.head _)
    have nz := N (z, _) (.tail _ (.head _))
    have nTI := N (TI, _) (.tail _ (.tail _ (.head _)))
    have nTO := N (TO, _) (.tail _ (.tail _ (.tail _ (.head _))))
    have n1 := N (i1, _) (.tail _ (.tail _ (.tail _ (.tail _ (.head _)))))
    have n2 := N (i2, _) (.tail _ (.tail _ (.tail _ (.tail _ (.tail _ (.head _))))))
    have hc : x.cps[i]? = some x.cps[i] := Array.getElem?_eq_getElem (by omega)
    have hd : y.cps[i]? = some y.cps[i] := Array.getElem?_eq_getElem (by omega)
    have hTy : s.TypeIs (.ref e) "enumerate" := ⟨_, ne.1, rfl⟩
    have hLs : L < s.heap.objs.size := F.ns.lt
    have fresh : ∀ b, L < b → h₀.get? b = none := fun b hb => Heap.get?_none_of_le (Nat.le_trans F.above (Nat.le_of_lt hb))
    unfold pyNext
    refine wpAny_bind (wpAny_attempt (wpAny_callSpecial?_slot (name := Str.ofString "__next__") hTy PySem.F.slot_enumerate_next
      (wpAny_call_entry PySem.F.slot_enumerate_next hTy PySem.F.entry_enumerate_next (enum_gen
        (R := fun v h' _ => ∃ Z f0' f a b ta tb, v = .ref Z ∧ (f0' = Value.none ∨ ∃ n, f0' = rawInt n) ∧ h'.get? z = some (zipO f0' (.bool f) TI TO) ∧ h'.get? TO = some (pairO a b) ∧ h'.IsStrIter i1 "str_ascii_iterator" x t (i + 1) ∧ h'.IsStrIter i2 "str_ascii_iterator" y u (i + 1) ∧ h'.get? Z = some (pairO (.str ⟨#[x.cps[i]]⟩ ta) (.str ⟨#[y.cps[i]]⟩ tb)) ∧ s.heap.objs.size ≤ Z ∧
          (∀ b o, b ≠ z → b ≠ TO → b ≠ i1 → b ≠ i2 → s.heap.get? b = some o → h'.get? b = some o)) ne.1
        (fun Q' E' hq => nextOf_zip D nz.1 hf nTI.1 nTO.1 ⟨o1, n1.1, ho1⟩ ⟨o2, n2.1, ho2⟩ hc hd fun Z h' tk f0' f a b ta tb a1 a2 a3 a4 a5 a6 a7 a8 => hq (.ref Z) h' tk ⟨Z, f0', f, a, b, ta, tb, rfl, a1, a2, a3, a4, a5, a6, a7, a8⟩ (a8 e _ De.1 De.2.2.1 De.2.2.2.1 De.2.2.2.2 ne.1))
        fun v h₁ tk T h' hR hT hTl he hk => ?_) (PySem.F.args_enumerate_next_1 _))))
    obtain ⟨Z, f0', f, a', b', ta, tb, rfl, b1, b2, b3, b4, b5, b6, b7, b8⟩ := hR
    refine wpAny_pure ⟨.ref T, rfl, ?_⟩
    refine wpAny_letOwnedTupleGo_enum he fun h3 he3 hs3 => ?_
    obtain ⟨p1, hp1, hp1'⟩ := b4
    obtain ⟨p2, hp2, hp2'⟩ := b5
    have k1 : ∀ b o, b ≠ e → h₁.get? b = some o → h3.get? b = some o := fun b o hb q => hs3.extBut b o hb (hk b o hb q)
    have kS : ∀ b o, b ≠ e → b ≠ z → b ≠ TO → b ≠ i1 → b ≠ i2 → s.heap.get? b = some o → h3.get? b = some o := fun b o c0 c1 c2 c3 c4 q => k1 b o c0 (b8 b o c1 c2 c3 c4 q)
    have nn : ∀ {q : Addr} {o : Obj}, h₀.get? q = some o → q ≠ e ∧ q ≠ z ∧ q ≠ TO ∧ q ≠ i1 ∧ q ≠ i2 := fun {q o} hq =>
      ⟨(fun r => by rw [r, ne.2.2] at hq; cases hq), (fun r => by rw [r, nz.2.2] at hq; cases hq), (fun r => by rw [r, nTO.2.2] at hq; cases hq), (fun r => by rw [r, n1.2.2] at hq; cases hq), (fun r => by rw [r, n2.2.2] at hq; cases hq)⟩
    have FL : ∀ o, s.heap.get? L = some o → h₁.get? L = some o := fun o q => b8 L o (Ne.symm nz.2.1) (Ne.symm nTO.2.1) (Ne.symm n1.2.1) (Ne.symm n2.2.1) q
    have hL1 : L < h₁.objs.size := by
      obtain ⟨o, _, _, q, _⟩ := F.ns
      exact Heap.lt_size (FL o q)
    have hTL : L < T := Nat.lt_of_lt_of_le hL1 hTl
    have hZL : L < Z := Nat.lt_of_lt_of_le hLs b7
    have low1 : ∀ {q : Addr} {o : Obj}, h₁.get? q = some o → q ≠ T := fun hq => Nat.ne_of_lt (Nat.lt_of_lt_of_le (Heap.lt_size hq) hTl)
    have lowZ : ∀ {q : Addr} {o : Obj}, s.heap.get? q = some o → q ≠ Z := fun hq => Nat.ne_of_lt (Nat.lt_of_lt_of_le (Heap.lt_size hq) b7)
    have heT : e ≠ T := low1 (b8 e _ De.1 De.2.2.1 De.2.2.2.1 De.2.2.2.2 ne.1)
    have hTI1 : h₁.get? TI = some (pairO (.ref i1) (.ref i2)) := b8 TI _ D.TIz D.TITO D.TIi1 D.TIi2 nTI.1
    have hQ' := hQ (.ref T) [(e, enumO z .none (((i + 1 : Nat) : Int) + 1) (.ref Z)), (z, zipO f0' (.bool f) TI TO), (TI, pairO (.ref i1) (.ref i2)), (TO, pairO a' b'), (i1, p1), (i2, p2)] [(T, pairO (.int ((i : Int) + 1) tk) (.ref Z)), (Z, pairO (.str ⟨#[x.cps[i]]⟩ ta) (.str ⟨#[y.cps[i]]⟩ tb))] h3 (tk + 1)
      ⟨f0', f, a', b', .ref Z, p1, p2, b1, hp1', hp2', rfl⟩ ⟨T, Z, tk, ta, tb, _, _, rfl, rfl, hc, hd⟩
      ⟨F.ns.at' fun o q => k1 L o (Ne.symm ne.2.1) (FL o q), fun q o hq => by obtain ⟨c0, c1, c2, c3, c4⟩ := nn hq; exact kS q o c0 c1 c2 c3 c4 (F.keep q o hq), F.above⟩
    refine hQ' (fun p hp => ?_) fun p hp q hq => ?_
    · simp only [List.cons_append, List.nil_append, List.mem_cons] at hp
      rcases hp with rfl | rfl | rfl | rfl | rfl | rfl | rfl | rfl | hp
      · refine ⟨?_, ne.2⟩
        have ee : ((i + 1 : Nat) : Int) + 1 = (i : Int) + 1 + 1 := by push_cast; rfl
        rw [ee]
        exact he3
      · exact ⟨k1 _ _ De.1.symm b2, nz.2⟩
      · exact ⟨k1 _ _ De.2.1.symm hTI1, nTI.2⟩
      · exact ⟨k1 _ _ De.2.2.1.symm b3, nTO.2⟩
      · exact ⟨k1 _ _ De.2.2.2.1.symm hp1, n1.2⟩
      · exact ⟨k1 _ _ De.2.2.2.2.symm hp2, n2.2⟩
      · exact ⟨hs3.extBut _ _ heT.symm hT, Nat.ne_of_gt hTL, fresh _ hTL⟩
      · exact ⟨k1 _ _ (lowZ ne.1).symm b6, Nat.ne_of_gt hZL, fresh _ hZL⟩
      · have np := N p (.tail _ (.tail _ (.tail _ (.tail _ (.tail _ (.tail _ hp))))))
        have of : ∀ q ∈ [(e, enumO z .none ((i : Int) + 1) old), (z, zipO f0 (.bool f1) TI TO), (TI, pairO (.ref i1) (.ref i2)), (TO, pairO a b), (i1, o1), (i2, o2)], p.1 ≠ q.1 := hoff p hp
        exact ⟨kS _ _ (of _ (.head _)) (of _ (.tail _ (.head _))) (of _ (.tail _ (.tail _ (.tail _ (.head _))))) (of _ (.tail _ (.tail _ (.tail _ (.tail _ (.head _)))))) (of _ (.tail _ (.tail _ (.tail _ (.tail _ (.tail _ (.head _))))))) np.1, np.2⟩
    · have ad : ∃ o, (q.1, o) ∈ [(e, enumO z .none ((i : Int) + 1) old), (z, zipO f0 (.bool f1) TI TO), (TI, pairO (.ref i1) (.ref i2)), (TO, pairO a b), (i1, o1), (i2, o2)] := by
        simp only [List.mem_cons, List.not_mem_nil, or_false] at hq
        rcases hq with rfl | rfl | rfl | rfl | rfl | rfl
        · exact ⟨_, .head _⟩
        · exact ⟨_, .tail _ (.head _)⟩
        · exact ⟨_, .tail _ (.tail _ (.head _))⟩
        · exact ⟨_, .tail _ (.tail _ (.tail _ (.head _)))⟩
        · exact ⟨_, .tail _ (.tail _ (.tail _ (.tail _ (.head _))))⟩
        · exact ⟨_, .tail _ (.tail _ (.tail _ (.tail _ (.tail _ (.head _)))))⟩
      have a1 : ∃ o, h₁.get? q.1 = some o := by
        simp only [List.mem_cons, List.not_mem_nil, or_false] at hq
        rcases hq with rfl | rfl | rfl | rfl | rfl | rfl
        · exact ⟨_, b8 e _ De.1 De.2.2.1 De.2.2.2.1 De.2.2.2.2 ne.1⟩
        · exact ⟨_, b2⟩
        · exact ⟨_, hTI1⟩
        · exact ⟨_, b3⟩
        · exact ⟨_, hp1⟩
        · exact ⟨_, hp2⟩
      obtain ⟨o, ho⟩ := ad
      obtain ⟨o', ho'⟩ := a1
      simp only [List.cons_append, List.nil_append, List.mem_cons] at hp
      rcases hp with rfl | rfl | hp
      · exact (low1 ho').symm
      · exact (lowZ (N (q.1, o) (List.mem_append_left _ ho)).1).symm
      · exact hoff p hp (q.1, o) ho
  done := fun own nx m s Q E hO F N hoff hQ => by
    obtain ⟨f0, f1, a, b, old, o1, o2, hf, ho1, ho2, rfl⟩ := hO
    have ne := N (e, _) (.head _)
    have nz := N (z, _) (.tail _ (.head _))
    have nTI := N (TI, _) (.tail _ (.tail _ (.head _)))
    have nTO := N (TO, _) (.tail _ (.tail _ (.tail _ (.head _))))
    have n1 := N (i1, _) (.tail _ (.tail _ (.tail _ (.tail _ (.head _)))))
    have n2 := N (i2, _) (.tail _ (.tail _ (.tail _ (.tail _ (.tail _ (.head _))))))
    have hc : x.cps[n]? = some x.cps[n] := Array.getElem?_eq_getElem (by omega)
    have hd : y.cps[n]? = none := Array.getElem?_eq_none (by omega)
    have hTy : s.TypeIs (.ref e) "enumerate" := ⟨_, ne.1, rfl⟩
    unfold pyNext
    refine wpAny_bind (wpAny_attempt (wpAny_callSpecial?_slot (name := Str.ofString "__next__") hTy PySem.F.slot_enumerate_next
      (wpAny_call_entry PySem.F.slot_enumerate_next hTy PySem.F.entry_enumerate_next ?_ (PySem.F.args_enumerate_next_1 _))))
    show wpAny _ _ (field (.ref e) 2 >>= _) _ _ _
    refine wpAny_bind (wpAny_field ne.1 rfl (x := .ref z) rfl ?_)
    refine wpAny_bind (nextOf_zip_end hh D nz.1 hf nTI.1 nTO.1 ⟨o1, n1.1, ho1⟩ ⟨o2, n2.1, ho2⟩ hc hd fun h' ex tk hk hx' => ?_)
    obtain ⟨o, ho, hcl⟩ := hx'
    refine wpAny_bind (wpAny_isInstance (T := "StopIteration") (b := true) ⟨o, ho, hcl⟩ isSubtype_stop ?_)
    have nn : ∀ {q : Addr} {o : Obj}, h₀.get? q = some o → q ≠ z ∧ q ≠ TO ∧ q ≠ i1 ∧ q ≠ i2 := fun {q o} hq =>
      ⟨(fun r => by rw [r, nz.2.2] at hq; cases hq), (fun r => by rw [r, nTO.2.2] at hq; cases hq), (fun r => by rw [r, n1.2.2] at hq; cases hq), (fun r => by rw [r, n2.2.2] at hq; cases hq)⟩
    refine wpAny_pure (hQ h' tk ⟨F.ns.at' fun o q => hk L o (Ne.symm nz.2.1) (Ne.symm nTO.2.1) (Ne.symm n1.2.1) (Ne.symm n2.2.1) q, fun q o hq => by obtain ⟨c1, c2, c3, c4⟩ := nn hq; exact hk q o c1 c2 c3 c4 (F.keep q o hq), F.above⟩ fun p hp => ?_)
    have np := N p (.tail _ (.tail _ (.tail _ (.tail _ (.tail _ (.tail _ hp))))))
    have of : ∀ q ∈ [(e, enumO z .none ((n : Int) + 1) old), (z, zipO f0 (.bool f1) TI TO), (TI, pairO (.ref i1) (.ref i2)), (TO, pairO a b), (i1, o1), (i2, o2)], p.1 ≠ q.1 := hoff p hp
    exact ⟨hk _ _ (of _ (.tail _ (.head _))) (of _ (.tail _ (.tail _ (.tail _ (.head _))))) (of _ (.tail _ (.tail _ (.tail _ (.tail _ (.head _)))))) (of _ (.tail _ (.tail _ (.tail _ (.tail _ (.tail _ (.head _))))))) np.1, np.2⟩
  side := fun i own hO q hq => by
    obtain ⟨f0, f1, a, b, old, o1, o2, hf, ho1, ho2, rfl⟩ := hO
    simp only [List.mem_cons, List.not_mem_nil, or_false] at hq
    rcases hq with rfl | rfl | rfl | rfl | rfl | rfl
    · exact side_enum
    · exact side_zip
    · exact side_pair
    · exact side_pair
    · exact side_str ho1
    · exact side_str ho2
/-! stops of my own -/
def MyG (prog : Program) (w : World) (A : Around) (h₀ : Heap) (env : Env) (target : Expr) (body : List Stmt) (Q : Flow → Shared → Prop) (E : Value → Shared → Prop) (xv : Value) (s₁ : Shared) : Prop :=
  wpAny (model prog w) A (pyIter xv) (fun it s₂ => GSrc prog w A h₀ env target body Q E it s₂) E s₁
section
variable {prog : Program} {w : World} {A : Around} {E : Value → Shared → Prop} {s : Shared} {env : Env} {h₀ : Heap} {L : Addr} {m : Str → Option Value}
theorem For_MyG {iter target : Expr} {body : List Stmt} {Q : Flow → Shared → Prop} {pos : Pos} {m : Str → Option Value} (F : Fr h₀ env.locals s.heap m)
    (h : wpAny (model prog w) A (eval iter env) (fun xv s₁ => MyG prog w A h₀ env target body Q E xv s₁) E s)
    (hs : ∀ x, foldedSetIterable iter env x = pure x := by intro _; rfl)
    (hE : PassesOwn (model prog w) A env E := by passes_own) :
    wpAny (model prog w) A (exec (.For target iter body [] pos) env) Q E s := For_G F h hs hE
theorem Assign_My {elt iter : Expr} {x y : Str} {px py : Pos} {scope : Scope} {cl : List (Str × Addr)} {pos spos : Pos} {Q : Flow → Shared → Prop} (F₀ : Fr h₀ L s.heap m) (hLe : env.locals = L)
    (hsw : swapsWith (.ListComp elt [⟨.Name x px, iter, [], 0⟩] scope pos) (some (.Name y py)) spos.line env = pure true)
    (hclos : closureFor scope env = pure cl) (hcell : ∀ z ∈ scope.names, z.2 ≠ .cell) (hkind : scope.kind = .function)
    (hnames : ∀ z ∈ scope.names, z.2 = .local → scope.names.lookup z.1 = some .local) (hx : scope.names.lookup x = some .local)
    (hy : env.kindOf y = some .local) (hp : (env.scope.kind == .class || (env.scope.kind == .module && env.locals != env.globals)) = false)
    (h : wpAny (model prog w) A (eval iter env) (MySrc prog w A h₀ L m env elt x scope cl (fun s₂ => LCg.FinA h₀ L m s₂ y Q)) E s)
    (hs : ∀ x, foldedSetIterable iter env x = pure x := by intro _; rfl) :
    wpAny (model prog w) A (exec (.Assign [.Name y py] (.ListComp elt [⟨.Name x px, iter, [], 0⟩] scope pos) spos) env) Q E s :=
  LCg.Assign_ListComp_U F₀ hLe hsw hclos hcell hkind hnames hx hy hp h hs
/-! enumerate(zip(text, text), start=1): the objects -/
abbrev sIt (x : Str) (t : Tok) : Obj := { cls := .type "str_ascii_iterator", data := .fields #[.str x t, .int 0 0] }
set_option maxHeartbeats 3200000 in
theorem meets_zip_str {x y : Str} {t u : Tok} (hx : x.cps.all (· < 128) = true) (hy : y.cps.all (· < 128) = true) :
    Meets (Builtin.«zip.__new__» ⟨[.type "zip", .str x t, .str y u], []⟩) (fun _ R s =>
      R (.ok (.ret (.ref ((((s.heap.push (sIt x t)).push (sIt y u)).push (pairO (.ref s.heap.objs.size) (.ref (s.heap.push (sIt x t)).objs.size))).push (pairO .none .none)).objs.size)))
        { s with heap := ((((s.heap.push (sIt x t)).push (sIt y u)).push (pairO (.ref s.heap.objs.size) (.ref (s.heap.push (sIt x t)).objs.size))).push (pairO .none .none)).push (zipO .none (.bool false) ((s.heap.push (sIt x t)).push (sIt y u)).objs.size (((s.heap.push (sIt x t)).push (sIt y u)).push (pairO (.ref s.heap.objs.size) (.ref (s.heap.push (sIt x t)).objs.size))).objs.size) }) :=
  .of_wp fun prog w A R s h => by
    obtain ⟨hp, g, d, tk, os⟩ := s
    have hsub := sub_zip
    wp_walk using wpAny_pyIter_ascii hx, wpAny_pyIter_ascii hy
    exact ⟨_, rfl, h⟩
end
end Mine
end
/-! part U13 -/
section
open PySem PySem.W PyProof.Rows PySem.Spec PySem.Calls
open Sem (wp)
open AutoSeq1 (wpAny_loadPart')
namespace Mine
section
variable {prog : Program} {w : World} {A : Around} {E : Value → Shared → Prop} {s : Shared}
theorem callTypeKw {T newId initId : String} {Bn Bi : Builtin} {args : List Value} {kw : List (Str × Value)} {S : PySem.Spec} {Q Q₁ : Value → Shared → Prop} (ft : TypeCalled T newId initId)
    (hct : checkTypeCall T ⟨args, kw⟩ = pure ()) (hcn : checkBuiltinCall newId ⟨.type T :: args, kw⟩ = pure ())
    (entryN : entryFor table newId = some Bn) (entryI : entryFor table initId = some Bi) (g : Meets (Bn ⟨.type T :: args, kw⟩) S)
    (h : S A.in1 (wants Q₁ E) s)
    (hnext : ∀ obj s₁, Q₁ obj s₁ → s₁.TypeIs obj T ∧ argsOk initId ⟨obj :: args, kw⟩ ∧ ∃ Si, Meets (Bi ⟨obj :: args, kw⟩) Si ∧ Si A.in1 (wants (fun r s₂ => r = .none ∧ Q obj s₂) E) s₁) :
    wpAny (model prog w) A (call (.type T) args kw) Q E s := by
  obtain ⟨c, tl, hmro⟩ := ft.mro
  have hmade := ft.made
  have hsub := ft.sub
  refine wpAny_call (codeAny_of_tree ?_)
  show wpAny _ _ (callAny (.type T) _) _ _ _
  refine wpAny_pure ⟨Code.quiet_builtin _ (by decide +kernel), codeAny_builtin PySem.F.entry_type_call ?_⟩
  rw [Around.under_plain (weight_type_call_type T args kw) (units_type_call_type T args kw)]
  have h1 := ft.notType
  have h2 := ft.canCreate
  repeat (any_goals (first | assumption | wp_step))
  refine codeAny_mono (codeAny_call_builtin ft.plain entryN (wpAny_of_eq hcn (g prog w A.in1 _ s h))) fun r s₁ hr => ?_
  cases r with
  | error e => exact hr
  | ok fl =>
    cases fl with
    | ret obj =>
      obtain ⟨hT, hok, Si, gi, hsi⟩ := hnext _ _ hr
      have hli := ft.init.lookup
      have hbi := ft.init.bind obj
      repeat (any_goals (first | assumption | wp_step))
      refine codeAny_mono (codeAny_call_builtin ft.init.plain entryI (ft.init.check _ _ _ _ _ _ _ _ hT hok (gi prog w A.in1 _ s₁ hsi))) fun r₂ s₂ hr₂ => ?_
      cases r₂ with
      | error e => exact hr₂
      | ok fl₂ =>
        cases fl₂ with
        | ret r =>
          obtain ⟨rfl, hq⟩ := hr₂
          repeat (any_goals (first | assumption | wp_step))
        | _ => exact hr₂.elim
    | _ => exact hr.elim
abbrev kwS (v : Value) : List (Str × Value) := [(Str.ofString "start", v)]
theorem typeCall_enk (a v : Value) : checkTypeCall "enumerate" ⟨[a], kwS v⟩ = pure () := by kernel_rfl
theorem newCall_enk (a v : Value) : checkBuiltinCall "enumerate.__new__" ⟨[.type "enumerate", a], kwS v⟩ = pure () := by kernel_rfl
theorem args_init_kw (a b v : Value) : argsOk "object.__init__" ⟨[a, b], kwS v⟩ := by
  unfold argsOk; rw [signature?_of (id := "object.__init__") (n := ['_', '_', 't', 'i', 'n', 'i', '_', '_']) (o := ['t', 'c', 'e', 'j', 'b', 'o']) (by kernel_rfl) PySem.F.owner_object]; kernel_rfl
theorem init_kw {T newId : String} {self : Value} {a v : Value} (hl : typeLookup (.type T) "__init__" = pure (some (.builtin "object.__init__")))
    (hm : Bind.madeBy (.type T) = pure (some newId)) (hne : (some newId != some "object.__new__") = true) :
    Meets (Builtin.«object.__init__» ⟨[self, a], kwS v⟩) (fun _ R s => s.TypeIs self T ∧ R (.ok (.ret .none)) s) := by
  refine Meets.of_wp fun prog w A R s hs => ?_
  obtain ⟨hT, hq⟩ := hs
  repeat (any_goals (first | assumption | wp_step))
  exact ⟨_, rfl, hq⟩
theorem meets_enk (z TI TO : Addr) (tk : Tok) :
    Meets (Builtin.«enumerate.__new__» ⟨[.type "enumerate", .ref z], kwS (.int 1 tk)⟩) (fun _ R s => s.heap.get? z = some (zipO .none (.bool false) TI TO) ∧
      R (.ok (.ret (.ref s.heap.objs.size))) { s with heap := s.heap.push (enumO z .none 1 .none) }) :=
  .of_wp fun prog w A R s h => by
    obtain ⟨hp, g, d, tk, os⟩ := s; obtain ⟨hl, h⟩ := h
    have hsub := sub_enumerate
    have hL : IsZip (Shared.heap ⟨hp, g, d, tk, os⟩) z TI TO .none := hl
    wp_walk using wpAny_loadPart' hl
    refine wpAny_stack_any fun st => wpAny_pure ?_
    split
    · rename_i c _ _ _ _ _
      cases (c == Value.type "enumerate")
      · wp_walk using wpAny_loadPart' hl, wpAny_pyIter_zip hL
        exact ⟨_, rfl, h⟩
      · wp_walk using wpAny_loadPart' hl, wpAny_pyIter_zip hL
        exact ⟨_, rfl, h⟩
    · wp_walk using wpAny_loadPart' hl, wpAny_pyIter_zip hL
      exact ⟨_, rfl, h⟩
end
end Mine
end
/-! part U14 -/
section
open PySem PySem.W PyProof.Rows PySem.Spec PySem.Calls
namespace Mine
section
variable {prog : Program} {w : World} {A : Around} {E : Value → Shared → Prop} {s : Shared} {h₀ : Heap} {L : Addr} {m : Str → Option Value} {news : List (Addr × Obj)}
theorem zip_make {x y : Str} {t u : Tok} {Q : Value → Shared → Prop} (F : Fr h₀ L s.heap m) (N : News h₀ L s.heap news) (hx : x.cps.all (· < 128) = true) (hy : y.cps.all (· < 128) = true)
    (h : ∀ z TI TO i1 i2 h', Fr h₀ L h' m → News h₀ L h' ((z, zipO .none (.bool false) TI TO) :: (TI, pairO (.ref i1) (.ref i2)) :: (TO, pairO .none .none) :: (i1, sIt x t) :: (i2, sIt y u) :: news) → (∀ p ∈ news, p.1 < i1) → i1 < i2 → i2 < TI → TI < TO → TO < z → Q (.ref z) { s with heap := h' }) :
    wpAny (model prog w) A (call (.type "zip") [.str x t, .str y u]) Q E s := by
  refine callType_new PySem.F.called_zip (by decide) (PySem.F.typeCall_zip_2 _ _) (PySem.F.newCall_zip_2 _ _) (fun obj => PySem.F.args_object_init_3 obj _ _) PySem.F.entry_zip_new (meets_zip_str hx hy) ?_
  show _ ∧ _
  generalize e1 : s.heap.push (sIt x t) = h1
  generalize e2 : h1.push (sIt y u) = h2
  generalize e3 : h2.push (pairO (.ref s.heap.objs.size) (.ref h1.objs.size)) = h3
  generalize e4 : h3.push (pairO .none .none) = h4
  generalize e5 : h4.push (zipO .none (.bool false) h2.objs.size h3.objs.size) = h5
  have z1 : h1.objs.size = s.heap.objs.size + 1 := by rw [← e1]; exact Heap.size_push ..
  have z2 : h2.objs.size = h1.objs.size + 1 := by rw [← e2]; exact Heap.size_push ..
  have z3 : h3.objs.size = h2.objs.size + 1 := by rw [← e3]; exact Heap.size_push ..
  have z4 : h4.objs.size = h3.objs.size + 1 := by rw [← e4]; exact Heap.size_push ..
  have u5 : ∀ b o, h4.get? b = some o → h5.get? b = some o := fun b o q => by rw [← e5]; exact Heap.get?_push_of_some _ q
  have u4 : ∀ b o, h3.get? b = some o → h5.get? b = some o := fun b o q => u5 b o (by rw [← e4]; exact Heap.get?_push_of_some _ q)
  have u3 : ∀ b o, h2.get? b = some o → h5.get? b = some o := fun b o q => u4 b o (by rw [← e3]; exact Heap.get?_push_of_some _ q)
  have u2 : ∀ b o, h1.get? b = some o → h5.get? b = some o := fun b o q => u3 b o (by rw [← e2]; exact Heap.get?_push_of_some _ q)
  have u1 : ∀ b o, s.heap.get? b = some o → h5.get? b = some o := fun b o q => u2 b o (by rw [← e1]; exact Heap.get?_push_of_some _ q)
  have g5 : h5.get? h4.objs.size = some (zipO .none (.bool false) h2.objs.size h3.objs.size) := by rw [← e5]; exact Heap.get?_push_size _ rfl
  have g4 : h5.get? h3.objs.size = some (pairO .none .none) := u5 _ _ (by rw [← e4]; exact Heap.get?_push_size _ rfl)
  have g3 : h5.get? h2.objs.size = some (pairO (.ref s.heap.objs.size) (.ref h1.objs.size)) := u4 _ _ (by rw [← e3]; exact Heap.get?_push_size _ rfl)
  have g2 : h5.get? h1.objs.size = some (sIt y u) := u3 _ _ (by rw [← e2]; exact Heap.get?_push_size _ rfl)
  have g1 : h5.get? s.heap.objs.size = some (sIt x t) := u2 _ _ (by rw [← e1]; exact Heap.get?_push_size _ rfl)
  have hLs : L < s.heap.objs.size := F.ns.lt
  have fresh : ∀ b, L < b → h₀.get? b = none := fun b hb => Heap.get?_none_of_le (Nat.le_trans F.above (Nat.le_of_lt hb))
  have l1 : s.heap.objs.size < h1.objs.size := by rw [z1]; exact Nat.lt_succ_self _
  have l2 : h1.objs.size < h2.objs.size := by rw [z2]; exact Nat.lt_succ_self _
  have l3 : h2.objs.size < h3.objs.size := by rw [z3]; exact Nat.lt_succ_self _
  have l4 : h3.objs.size < h4.objs.size := by rw [z4]; exact Nat.lt_succ_self _
  have L1 := Nat.lt_trans hLs l1
  have L2 := Nat.lt_trans L1 l2
  have L3 := Nat.lt_trans L2 l3
  have L4 := Nat.lt_trans L3 l4
  refine ⟨⟨_, g5, rfl⟩, h h4.objs.size h2.objs.size h3.objs.size s.heap.objs.size h1.objs.size h5 (F.keeps u1) (fun p hp => ?_) (fun p hp => Heap.lt_size (N p hp).1) l1 l2 l3 l4⟩
  simp only [List.mem_cons] at hp
  rcases hp with rfl | rfl | rfl | rfl | rfl | hp
  · exact ⟨g5, Nat.ne_of_gt L4, fresh _ L4⟩
  · exact ⟨g3, Nat.ne_of_gt L2, fresh _ L2⟩
  · exact ⟨g4, Nat.ne_of_gt L3, fresh _ L3⟩
  · exact ⟨g1, Nat.ne_of_gt hLs, fresh _ hLs⟩
  · exact ⟨g2, Nat.ne_of_gt L1, fresh _ L1⟩
  · exact ⟨u1 _ _ (N p hp).1, (N p hp).2⟩
theorem enum_make {z TI TO : Addr} {tk : Tok} {Q : Value → Shared → Prop} (F : Fr h₀ L s.heap m) (N : News h₀ L s.heap news) (hz : (z, zipO .none (.bool false) TI TO) ∈ news)
    (h : ∀ e h', Fr h₀ L h' m → News h₀ L h' ((e, enumO z .none 1 .none) :: news) → (∀ p ∈ news, p.1 < e) → Q (.ref e) { s with heap := h' }) :
    wpAny (model prog w) A (call (.type "enumerate") [.ref z] (kwS (.int 1 tk))) Q E s := by
  refine callTypeKw PySem.F.called_enumerate (typeCall_enk _ _) (newCall_enk _ _) PySem.F.entry_enumerate_new PySem.F.entry_object_init (meets_enk z TI TO tk) (Q₁ := fun obj s₁ => obj = .ref s.heap.objs.size ∧ s₁ = { s with heap := s.heap.push (enumO z .none 1 .none) }) ⟨(N _ hz).1, rfl, rfl⟩ ?_
  rintro obj s₁ ⟨rfl, rfl⟩
  have g : (s.heap.push (enumO z .none 1 .none)).get? s.heap.objs.size = some (enumO z .none 1 .none) := Heap.get?_push_size _ rfl
  have hT : Shared.TypeIs { s with heap := s.heap.push (enumO z .none 1 .none) } (.ref s.heap.objs.size) "enumerate" := ⟨_, g, rfl⟩
  refine ⟨hT, args_init_kw _ _ _, _, init_kw PySem.F.called_enumerate.init.lookup PySem.F.called_enumerate.made (by decide), hT, rfl, ?_⟩
  have hLs : L < s.heap.objs.size := F.ns.lt
  refine h _ _ (F.push _) (fun p hp => ?_) fun p hp => Heap.lt_size (N p hp).1
  rcases List.mem_cons.mp hp with rfl | hp
  · exact ⟨g, Nat.ne_of_gt hLs, Heap.get?_none_of_le (Nat.le_trans F.above (Nat.le_of_lt hLs))⟩
  · exact ⟨Heap.get?_push_of_some _ (N p hp).1, (N p hp).2⟩
end
section
variable {prog : Program} {w : World} {A : Around} {E : Value → Shared → Prop} {s : Shared} {env : Env} {h₀ : Heap} {body : List Stmt} {Q : Flow → Shared → Prop}
theorem ezM {e z TI TO i1 i2 P : Addr} {x y : Str} {t u : Tok} {qual : Str} {news keep : List (Addr × Obj)} {m₀ : Str → Option Value} {D : Addr} {R : Nat → Addr} {n w' k : Nat} {M₀ : Nat → Nat → Int} {elts : List Expr} {x1} {pos : Pos} (stored : List Str) (J : Nat → (Nat → Nat → Int) → Prop)
    (hh : A.handled = none) (F : Fr h₀ env.locals s.heap m₀) (N : News h₀ env.locals s.heap ((e, enumO z .none 1 .none) :: (z, zipO .none (.bool false) TI TO) :: (TI, pairO (.ref i1) (.ref i2)) :: (TO, pairO .none .none) :: (i1, sIt x t) :: (i2, sIt y u) :: news))
    (hl : ∀ p ∈ news, p.1 < i1) (l1 : i1 < i2) (l2 : i2 < TI) (l3 : TI < TO) (l4 : TO < z) (l5 : z < e) (hx : k < x.cps.size) (hy : y.cps.size = k)
    (hkeep : ∀ p ∈ keep, p ∈ news) (T : TabIn P qual news) (X : MatIn news D R n w' M₀) (hj : J 0 M₀)
    (turn : ∀ (i : Nat) v own ex h tk (u : Str → Option Value) nx M, i < k → EzP x y i v ex → J i M → OffL (ex ++ nx) own → (∀ p ∈ keep, p ∈ nx) → TabIn P qual nx → MatIn nx D R n w' M → Fr h₀ env.locals h (fun y => if stored.contains y then u y else m₀ y) → News h₀ env.locals h (own ++ (ex ++ nx)) →
      wpAny (model prog w) A (assign (.Tuple elts x1 pos) env v) (fun _ s₂ => wpAny (model prog w) A (execs body env) (MTurn h₀ env.locals P qual stored m₀ own keep D R n w' (J (i + 1)) s Q) E s₂) E { s with heap := h, toks := tk })
    (done : ∀ h tk (u : Str → Option Value) nx M, J k M → (∀ p ∈ keep, p ∈ nx) → TabIn P qual nx → MatIn nx D R n w' M → Fr h₀ env.locals h (fun y => if stored.contains y then u y else m₀ y) → News h₀ env.locals h nx → Q .next { s with heap := h, toks := tk }) :
    MyG prog w A h₀ env (.Tuple elts x1 pos) body Q E (.ref e) s := by
  have a1 := l1
  have a2 := Nat.lt_trans l1 l2
  have a3 := Nat.lt_trans a2 l3
  have a4 := Nat.lt_trans a3 l4
  have a5 := Nat.lt_trans a4 l5
  have b3 := Nat.lt_trans l2 l3
  have b4 := Nat.lt_trans b3 l4
  have b5 := Nat.lt_trans b4 l5
  have c4 := Nat.lt_trans l3 l4
  have c5 := Nat.lt_trans c4 l5
  have d5 := Nat.lt_trans l4 l5
  refine wpAny_pyIter_enum (N _ (.head _)).1 ?_
  refine matG (keep := keep) (own₀ := [(e, enumO z .none 1 .none), (z, zipO .none (.bool false) TI TO), (TI, pairO (.ref i1) (.ref i2)), (TO, pairO .none .none), (i1, sIt x t), (i2, sIt y u)]) stored J
    (GIter.ez hh elts pos e z TI TO i1 i2 x y t u k ⟨Nat.ne_of_lt c4, Nat.ne_of_lt l4, Nat.ne_of_lt a4, Nat.ne_of_lt b4, Nat.ne_of_lt l3, Nat.ne_of_gt a2, Nat.ne_of_gt l2, Nat.ne_of_gt a3, Nat.ne_of_gt b3, Nat.ne_of_lt l1⟩
      ⟨Nat.ne_of_gt l5, Nat.ne_of_gt c5, Nat.ne_of_gt d5, Nat.ne_of_gt a5, Nat.ne_of_gt b5⟩ hx hy)
    ⟨.none, false, .none, .none, .none, sIt x t, sIt y u, .inl rfl, ⟨rfl, rfl⟩, ⟨rfl, rfl⟩, rfl⟩ F N (fun p hp q hq => ?_) hkeep T X hj (fun i v own ex h tk u nx M hi _ hP hJ hof hk hT hM F' N' => turn i v own ex h tk u nx M hi hP hJ hof hk hT hM F' N') done
  have h1 := hl p hp
  simp only [List.mem_cons, List.not_mem_nil, or_false] at hq
  rcases hq with rfl | rfl | rfl | rfl | rfl | rfl
  · exact Nat.ne_of_lt (Nat.lt_trans h1 a5)
  · exact Nat.ne_of_lt (Nat.lt_trans h1 a4)
  · exact Nat.ne_of_lt (Nat.lt_trans h1 a2)
  · exact Nat.ne_of_lt (Nat.lt_trans h1 a3)
  · exact Nat.ne_of_lt h1
  · exact Nat.ne_of_lt (Nat.lt_trans h1 a1)
end
end Mine
end
/-! part U15 -/
section
open PySem PySem.W PyProof.Rows PySem.Spec PySem.Calls
namespace Mine
def Stop (P : Prop) : Prop := P
theorem Stop.out {P : Prop} (h : Stop P) : P := h
theorem Stop.mk {P : Prop} (h : P) : Stop P := h
theorem MatIn.tab2 {P : Addr} {nx nx' : List (Addr × Obj)} {D : Addr} {R : Nat → Addr} {n w : Nat} {M : Nat → Nat → Int} (X : MatIn nx D R n w M) (hD : D ≠ P) (hR : ∀ i, i < n → R i ≠ P) (hk : ∀ p ∈ nx, p.1 ≠ P → p ∈ nx') : MatIn nx' D R n w M :=
  ⟨X.top.imp fun _ z => hk _ z hD, fun i hi => let ⟨vs, k, a, b⟩ := X.row i hi; ⟨vs, k, hk _ a (hR i hi), b⟩, X.inj, X.off, X.small⟩
section
variable {M : Model} {A : Around} {E : Value → Shared → Prop} {s : Shared} {env : Env}
theorem execs_cut {st : Stmt} {rest : List Stmt} {Q : Flow → Shared → Prop} (P : Shared → Prop) (h1 : wpAny M A (exec st env) (fun f s' => match f with | .next => P s' | _ => False) E s) (h2 : ∀ s', P s' → wpAny M A (execs rest env) Q E s') :
    wpAny M A (execs (st :: rest) env) Q E s := by
  refine wpAny_execs_cons (wpAny_mono h1 (fun f s' h => ?_) fun _ _ e => e)
  cases f with
  | next => exact h2 s' h
  | _ => exact h.elim
end
def dpT (lo : Bool) (v h : Nat → Int) (d : Nat → Nat → Int) : Nat → Nat → Int
  | 0, 0 => 0
  | i + 1, 0 => if lo then 0 else dpT lo v h d i 0 + v i
  | 0, j + 1 => dpT lo v h d 0 j + h j
  | i + 1, j + 1 => min (min (dpT lo v h d i (j + 1) + v i) (dpT lo v h d (i + 1) j + h j)) (dpT lo v h d i j + d i j)
theorem cell_pack {D : Addr} {rs : List Addr} {rl base : List (Addr × Obj)} {n wd : Nat}
    (hl : rs.length = n) (h1 : ∀ i j, i < n → j < n → rs.getD i 0 = rs.getD j 0 → i = j) (h2 : ∀ p ∈ base, ∀ i, i < n → p.1 ≠ rs.getD i 0) (h4 : ∀ i, i < n → ∃ vs k, (rs.getD i 0, listO vs k) ∈ rl ∧ IntsAre vs (List.replicate wd 0))
    (off : LCg.Off1 D (rl ++ base)) (hs : n ≤ 1000 ∧ wd ≤ 1000) :
    ∃ (R : Nat → Addr) (keep : List (Addr × Obj)), MatIn ((D, LCg.lst (rs.map Value.ref)) :: (rl ++ base)) D R n wd (fun _ _ => 0) ∧ (∀ p ∈ keep, p ∈ ((D, LCg.lst (rs.map Value.ref)) :: (rl ++ base))) ∧ (∀ p ∈ keep, ∀ i, i < n → p.1 ≠ R i) ∧ (∀ p ∈ keep, p.1 ≠ 172) ∧ ∀ p ∈ base, p.1 ≠ 172 → p ∈ keep :=
  ⟨fun i => rs.getD i 0, base.filter fun p => decide (p.1 ≠ 172), mat_of hl h1 h4 (List.Mem.head _) (fun p hp => .tail _ (List.mem_append_left _ hp)) (fun p hp => off1_mem off _ (List.mem_append_left _ hp)) hs,
    fun p hp => .tail _ (List.mem_append_right _ (List.mem_filter.mp hp).1), fun p hp i hi => h2 p (List.mem_filter.mp hp).1 i hi, fun p hp => by simpa using (List.mem_filter.mp hp).2, fun p hp hn => List.mem_filter.mpr ⟨hp, by simpa using hn⟩⟩
theorem rowInts2 {vs : List Value} {n : Nat} {k : Int} (h : IntsAre vs (List.replicate k.toNat [(0 : Int)]).flatten) (hk : k = (n : Int) + 1) : IntsAre vs (List.replicate (n + 1) 0) := by
  subst hk; exact rowInts h
theorem TabOk.upd {h₀ h : Heap} {L P b : Addr} {qual : Str} {nx : List (Addr × Obj)} {ob oS : Obj} (N : News h₀ L h nx) (hb : (b, ob) ∈ nx) (hn : NotF ob) : ∀ {l : List Value}, TabOk P qual nx l → TabOk P qual (updL b oS nx) l
  | [], _ => trivial
  | .int _ _ :: .int _ _ :: _ :: _, ⟨⟨c', o', vs, t, e, hm, r1, r2, hne⟩, h⟩ => ⟨⟨c', o', vs, t, e, updL_other hm (fun q => by
      have h1 := (N _ hm).1
      have h2 := (N _ hb).1
      rw [show ((c', o') : Addr × Obj).1 = (b, ob).1 from q, h2] at h1
      have h3 : ob = o' := Option.some.inj h1
      exact hn vs (h3 ▸ r1)), r1, r2, hne⟩, TabOk.upd N hb hn h⟩
theorem TabIn.upd {h₀ h : Heap} {L P b : Addr} {qual : Str} {nx : List (Addr × Obj)} {ob oS : Obj} (N : News h₀ L h nx) (hb : (b, ob) ∈ nx) (hn : NotF ob) (hP : b ≠ P) (X : TabIn P qual nx) : TabIn P qual (updL b oS nx) :=
  let ⟨ps, a, c⟩ := X; ⟨ps, updL_other a (Ne.symm hP), c.upd N hb hn⟩
theorem notF_list {vs : List Value} {k : Nat} : NotF (listO vs k) := fun _ e => by cases e
def CallMid {h₀ hx : Heap} {L : Addr} {m : Str → Option Value} (_ : Fr h₀ L hx m) (s : Shared) (qual : Str) (stored : List Str) (keep : List (Addr × Obj)) (D : Addr) (R : Nat → Addr) (n w' : Nat) (J : (Nat → Nat → Int) → Prop) (s' : Shared) : Prop :=
  ∃ (h : Heap) (tk : Nat) (u : Str → Option Value) (nx : List (Addr × Obj)) (M : Nat → Nat → Int), s' = { s with heap := h, toks := tk } ∧ J M ∧ (∀ p ∈ keep, p ∈ nx) ∧ TabIn 172 qual nx ∧ MatIn nx D R n w' M ∧ Fr h₀ L h (fun y => if stored.contains y then u y else m y) ∧ News h₀ L h nx
theorem CallMid.none {h₀ hx : Heap} {L : Addr} {m : Str → Option Value} {F₀ : Fr h₀ L hx m} {s : Shared} {qual : Str} {stored : List Str} {keep : List (Addr × Obj)} {D : Addr} {R : Nat → Addr} {n w' : Nat} {J : (Nat → Nat → Int) → Prop} {h : Heap} {tk : Nat} {nx : List (Addr × Obj)} {M : Nat → Nat → Int}
    (j : J M) (hk : ∀ p ∈ keep, p ∈ nx) (T : TabIn 172 qual nx) (X : MatIn nx D R n w' M) (F : Fr h₀ L h m) (N : News h₀ L h nx) : CallMid F₀ s qual stored keep D R n w' J { s with heap := h, toks := tk } :=
  ⟨h, tk, m, nx, M, rfl, j, hk, T, X, by simpa using F, N⟩
theorem tabIn_of {h₀ h : Heap} {L P : Addr} {qual : Str} {nx news : List (Addr × Obj)} (_ : News h₀ L h nx) (X : TabIn P qual news) (hk : ∀ p ∈ news, p ∈ nx) : TabIn P qual nx := X.sub hk
end Mine
end
/-! part C2 -/
section
open PySem PySem.W PyProof.Rows PySem.Spec PySem.Calls
namespace Mine
def LsEl (news : List (Addr × Obj)) (y : Value) (news' : List (Addr × Obj)) : Prop := news' = news ∧ ∃ (r : Str) (t : Tok), y = .str r t ∧ r.length ≤ 1
def LsNo (news news' : List (Addr × Obj)) : Prop := news' = news
theorem lsEl {news news' : List (Addr × Obj)} {y : Value} {r : Str} {t : Tok} (hl : r.length ≤ 1) (hn : news' = news) (hy : y = .str r t) : LsEl news y news' := ⟨hn, r, t, hy, hl⟩
theorem strs_snoc {y : Str} {t : Tok} : ∀ {vs : List Value} {ys : List Str}, StrsAre vs ys → StrsAre (vs ++ [.str y t]) (ys ++ [y])
  | _, _, .nil => .cons y t .nil
  | _, _, .cons z u r => .cons z u (strs_snoc r)
section
variable {prog : Program} {w : World} {A : Around} {h₀ : Heap} {L : Addr} {m : Str → Option Value} {env : Env} {ct elt : Expr} {x : Str} {scope : Scope} {cl : List (Str × Addr)} {s : Shared} {S : List (Addr × Obj) → Prop} {Fin : List Value → List (Addr × Obj) → Prop} {news : List (Addr × Obj)}
theorem ls_range {n : Nat} {a : Int}
    (turn : ∀ k t I oI C oC D m₂ ys h tk (E' : Value → Shared → Prop), a ≤ k → k < a + (n : Int) → LCg.NsObj oC m₂ → m₂ x = some (.int k t) → Fr h₀ L h m → News h₀ L h ((I, oI) :: (C, oC) :: (D, LCg.lst ys) :: news) → LCg.Off3 I C D news → ((@Ne Nat I C) ∧ (@Ne Nat I D) ∧ (@Ne Nat C D)) →
      wpAny (model prog w) A (isTrue ct (compEnvC scope cl C env) (eval ct (compEnvC scope cl C env))) (fun b s' => if b = true then wpAny (model prog w) A (eval elt (compEnvC scope cl C env)) (LCg.CompEnd h₀ L m { s with heap := h, toks := tk } I oI C oC D (LCg.lst ys) S (fun y news' => LsEl news y news')) E' s'
        else LCg.CompEnd h₀ L m { s with heap := h, toks := tk } I oI C oC D (LCg.lst ys) S (fun _ news' => LsNo news news') Value.none s') E' { s with heap := h, toks := tk })
    (fin : ∀ ys xs, StrsAre ys xs → xs.length ≤ n → (∀ q ∈ xs, q.length ≤ 1) → Fin ys news) : LCt.CompRestT prog w A h₀ L m env ct elt x scope cl s S (fun i v => ∃ t, v = .int (a + (i : Int)) t) Fin n 0 [] news := by
  have key : ∀ (j i : Nat) (ys : List Value) (xs : List Str), i + j = n → StrsAre ys xs → xs.length ≤ i → (∀ q ∈ xs, q.length ≤ 1) → LCt.CompRestT prog w A h₀ L m env ct elt x scope cl s S (fun i v => ∃ t, v = .int (a + (i : Int)) t) Fin j i ys news := by
    intro j
    induction j with
    | zero => intro i ys xs hi hy hl h1; exact LCt.CompRestT.zero (fin ys xs hy (by omega) h1)
    | succ j ih =>
      intro i ys xs hi hy hl h1
      refine LCt.CompRestT.succ ?_
      rintro v I oI C oC D m₂ h tk E' ⟨t, rfl⟩ hC hx F N off ne
      refine wpAny_mono (turn _ t I oI C oC D m₂ ys h tk E' (by omega) (by omega) hC hx F N off ne) (fun b s₂ hq => ?_) fun _ _ e => e
      cases b with
      | true =>
        simp only [if_true] at hq ⊢
        refine wpAny_mono hq (fun y s₃ hr => ?_) fun _ _ e => e
        obtain ⟨h', tk', nw, e, F', N', off', hS, hn, r, t', hy', hr'⟩ := hr
        rw [hn] at N' off' hS
        refine ⟨h', tk', news, e, F', N', off', hS, ?_⟩
        rw [hy']
        refine ih (i + 1) _ (xs ++ [r]) (by omega) (strs_snoc hy) (by rw [List.length_append, List.length_singleton]; omega) fun q hq => ?_
        rcases List.mem_append.mp hq with hq | hq
        · exact h1 q hq
        · rw [List.mem_singleton.mp hq]; exact hr'
      | false =>
        simp only [Bool.false_eq_true, if_false] at hq ⊢
        obtain ⟨h', tk', nw, e, F', N', off', hS, hn⟩ := hq
        rw [hn] at N' off' hS
        exact ⟨h', tk', news, e, F', N', off', hS, ih (i + 1) _ xs (by omega) hy (by omega) h1⟩
  exact key n 0 [] [] (by omega) .nil (Nat.zero_le _) fun _ h => nomatch h
end
local macro_rules | `(tactic| k_room) => `(tactic| ktr_room)
local macro_rules | `(tactic| k_units) => `(tactic| ktr_units)
local macro_rules | `(tactic| walk_at "CompSrcT") => `(tactic| (k_here; k_dflt ((refine LCt.CompSrcT.range (by rfl) (by k_asm) (by k_asm) (by assumption) (by decide) (by rfl) (by exact Nat.le_of_ble_eq_true rfl) ?_); intro g'; (refine' ls_range (fun k' t' I' oI' C' oC' D' m' ys' h' tk' E' hlo' hhi' hC' hx' F' N' off' ne' => ?_) ?_))))
theorem item_le (x : Str) (k : Int) : (Txt.item x k).length ≤ 1 := by
  exact Nat.le_refl _
theorem join_len {l : List Str} {n : Nat} (h : ∀ q ∈ l, q.length ≤ 1) (hn : l.length ≤ n) : (PySem.Txt.join (PySem.Str.ofString "") l).length ≤ n := by
  show (Builtin.Str.glued (PySem.Str.ofString "") l).length ≤ n
  rw [StrLaws.glued_eq_join]
  cases l with
  | nil => exact Nat.zero_le _
  | cons a r =>
    have z : (PySem.Str.ofString "").length = 0 := by decide
    rw [len_join_cons, z]
    have h2 := PyProof.Rows.sumLen_le_of_bound id 1 (a :: r) (by simpa using h)
    simp only [List.map_id, Nat.one_mul, Nat.mul_zero, Nat.add_zero] at h2 ⊢
    omega
section
variable {prog : Program} {w : World} {A : Around} {E : Value → Shared → Prop} {s : Shared} {t : Tok} {Q : Value → Shared → Prop} {D : Addr} {ys : List Value} {xs : List Str}
theorem join_ls {n : Nat} (hl : s.heap.IsList D ys.toArray) (hc : StrsAre ys xs) (h1 : ∀ q ∈ xs, q.length ≤ 1) (hn : xs.length ≤ n) (hs : n ≤ 1000)
    (h : ∀ g t' k, g.length ≤ n → Q (.str g t') { s with toks := k }) : wpAny (model prog w) A (call (.builtin "str.join") [.str (PySem.Str.ofString "") t, .ref D]) Q E s := by
  have hc' : CarriedAll ys (xs.map fun a => PyData.str (id a)) := hc.carried
  refine KT.join_B (x := PySem.Str.ofString "") (g := id) 1 hl hc' h1 (by omega) (by decide) fun t' k => h _ t' k ?_
  rw [List.map_id]
  exact join_len h1 hn
end
local macro_rules | `(tactic| walk_at "CompEnd") => `(tactic| first
  | (refine' LCg.CompEnd.intro ?F ?N _ ?sub ?off ?S (lsEl (item_le _ _) rfl rfl); (case F => assumption); (case N => assumption); (case sub => kcf_all); (case off => assumption); (case S => trivial))
  | (refine' LCg.CompEnd.intro ?F ?N _ ?sub ?off ?S (rfl : LsNo _ _); (case F => assumption); (case N => assumption); (case sub => kcf_all); (case off => assumption); (case S => trivial)))
local macro_rules | `(tactic| walk_at "ite") => `(tactic| first | (refine split_dec ?_ ?_ <;> intro _) | (refine split_bool ?_ ?_ <;> intro _))
local macro_rules | `(tactic| walk_at "call builtin:str.join") => `(tactic| (k_here; k_dflt (refine' join_ls (n := 8) ?l ?c ?o ?n ?s ?_; (case l => exact News.isList (by k_asm) (by k_mem)); (case c => assumption); (case o => assumption); (case n => assumption); (case s => decide); k_whole); intro g' t' k' hg'))
set_option maxHeartbeats 8000000 in
theorem letters_ok {w : World} {p : Program} {loose : List Str} {mean : ExcName → Option Value} {mg mb : Str → Option Value}
    {dp un : Nat} {gd : Option (List Code)} {cn : Str} {nms : List (Str × NameKind)} {ig ic : Bool} {mo : List (Str × Const)} {a : Addr} {ccd : Value} {cl : List (Str × Addr)} {outer : List Env} {A₀ : Around} {base h₀ : Heap} {L : Addr} {m : Str → Option Value} {s : Shared} {Q E : Value → Shared → Prop}
    {news : List (Addr × Obj)} {n : Int} {t1 : Tok}
    (B : Below A₀ base outer h₀) (F : Fr h₀ L s.heap m) (X : (hd.heap_39 w.params).In h₀) (N : News h₀ L s.heap news) (T : Top p loose mean mg mb h₀)
    (hd : dp + 5 < recursionLimit) (hu : un + 40 < cLine)
    (ret : ∀ g t h' tk', g.length ≤ 8 → Fr h₀ L h' m → News h₀ L h' news → Q (.str g t) { s with heap := h', toks := tk' }) :
    wpAny (model PySem.Challenge.rw_fq5039_01.row.prog w) (ktrTop dp un gd cn ⟨.function, nms, ig, ic, mo⟩ L a ccd cl outer) (call (.ref 216) [.int n t1]) Q E s := by
  w_on
  revert X
  k_fill
  intro X
  w_strict k_steps
  exact ret _ _ _ _ (by assumption) (by k_asm) (cb_drop (by k_asm) (by intro p hp; k_ownIn))
end Mine
end
/-! part C1 -/
section
open PySem PySem.W PyProof.Rows PySem.Spec PySem.Calls
namespace Mine
local macro_rules | `(tactic| k_room) => `(tactic| ktr_room)
local macro_rules | `(tactic| k_units) => `(tactic| ktr_units)
local macro_rules | `(tactic| walk_at "ite") => `(tactic| first | (refine split_dec ?_ ?_ <;> intro _) | (refine split_bool ?_ ?_ <;> intro _))
local macro_rules | `(tactic| k_mem) => `(tactic| first | exact List.Mem.head _ | (refine' List.Mem.tail _ ?_; k_mem) | assumption | (refine' List.mem_append_right _ ?_; k_mem))
local macro_rules | `(tactic| k_all) => `(tactic| first | assumption | exact allLt_0 (by assumption) | exact allLt_1 (by assumption) | exact allLt_2 (by assumption) | exact allLt_3 (by assumption) | exact allLt_4 (by assumption) | exact allLt_5 (by assumption) | exact allLt_6 (by assumption) | exact allLt_7 (by assumption) | exact allLt_8 (by assumption) | (refine' all_app ?kaR ?kaN; (case kaR => assumption); (case kaN => k_all)) | (refine' all_ne ?kaH ?kaD; (case kaH => assumption); (case kaD => (try dsimp only); omega)))
local macro_rules | `(tactic| walk_at "call type:set cons nil") => `(tactic| (k_here; (with_reducible show wpAny _ _ (call (Value.type "set") [Value.ref _]) _ _ _); k_dflt (refine' newSetTwo_N ?k1 ?k2 ?k3 ?k4 ?_; (case k1 => k_asm); (case k2 => k_asm); (case k3 => exact rfl); (case k4 => k_mem); k_whole); intro d' h' tk' o' F' N' l1 hs'; (try k_lt l1)))
section
variable {w : World} {p : Program} {loose : List Str} {mean : ExcName → Option Value} {mg mb : Str → Option Value}
    {dp un : Nat} {gd : Option (List Code)} {cn : Str} {nms : List (Str × NameKind)} {ig ic : Bool} {mo : List (Str × Const)} {a : Addr} {ccd : Value} {cl : List (Str × Addr)} {outer : List Env} {A₀ : Around} {base h₀ : Heap} {L : Addr} {m : Str → Option Value} {s : Shared} {Q E : Value → Shared → Prop}
    {news : List (Addr × Obj)}

theorem ident_ok {x y : Str} {t1 t2 : Tok}
    (B : Below A₀ base outer h₀) (F : Fr h₀ L s.heap m) (X : (hd.heap_39 w.params).In h₀) (N : News h₀ L s.heap news) (T : Top p loose mean mg mb h₀)
    (hd : dp + 5 < recursionLimit) (hu : un + 40 < cLine)
    (ret : ∀ (t : Tok) h' tk', Fr h₀ L h' m → News h₀ L h' news → Q (.bool (decide (x = y))) { s with heap := h', toks := tk' }) :
    wpAny (model PySem.Challenge.rw_fq5039_01.row.prog w) (ktrTop dp un gd cn ⟨.function, nms, ig, ic, mo⟩ L a ccd cl outer) (call (.ref 95) [.str x t1, .str y t2]) Q E s := by
  w_on
  revert X
  k_fill
  intro X
  w_strict k_steps
  refine cb_retB ret ?_ (by assumption) (cb_drop (by k_asm) (by intro p hp; k_ownIn))
  by_cases e : x = y
  · rw [if_pos e, decide_eq_true e]; rfl
  · rw [if_neg e, decide_eq_false e]; rfl
end
end Mine
end
/-! part C3 -/
section
open PySem PySem.W PyProof.Rows PySem.Spec PySem.Calls
namespace Mine
local macro_rules | `(tactic| k_room) => `(tactic| ktr_room)
local macro_rules | `(tactic| k_units) => `(tactic| ktr_units)
local macro_rules | `(tactic| walk_at "ite") => `(tactic| first | (refine split_dec ?_ ?_ <;> intro _) | (refine split_bool ?_ ?_ <;> intro _))

local macro_rules | `(tactic| walk_at "eval ListComp") => `(tactic| (k_here; k_dflt (refine ListComp_TT (by k_asm) (by with_unfolding_all rfl) (by decide) (by rfl) (by decide) (by rfl) ?_)))
local macro_rules | `(tactic| walk_at "subscriptTail") => `(tactic| (k_here; (with_reducible show wpAny _ _ (subscriptTail _ _ (Value.ref _) (Value.int _ _)) _ _ _); k_dflt (refine' item_led ?N ?m ?a ?b ?x ?_ ?s; (case N => k_asm); (case m => k_mem); (case a => decide); (case b => decide); (case x => rfl); (case s => with_unfolding_all rfl); k_whole)))
local macro_rules | `(tactic| k_mem) => `(tactic| first | exact List.Mem.head _ | (refine' List.Mem.tail _ ?_; k_mem) | assumption)
local macro_rules | `(tactic| walk_at "compareOp In str str") => `(tactic| refine in_isIn ?_)
local macro_rules | `(tactic| walk_at "compareOp NotEq ref ref") => `(tactic| (k_here; k_dflt (refine' ne_nil_led ?N ?a ?b ?u ?_; (case N => k_asm); (case a => k_mem); (case b => k_mem); (case u => k_units); k_whole)))
local macro_rules | `(tactic| walk_at "CompEnd") => `(tactic| k_dflt (first
  | (refine' LCg.CompEnd.intro ?F ?N _ ?sub ?off ?S (⟨rfl, ?hit, _, rfl⟩ : HitEl _ _ _ _ _); (case F => assumption); (case N => assumption); (case sub => kcf_all); (case off => assumption); (case S => k_mem); (case hit => (simp_all; done)))
  | (refine' LCg.CompEnd.intro ?F ?N _ ?sub ?off ?S (⟨rfl, ?hit⟩ : HitNo _ _ _); (case F => assumption); (case N => assumption); (case sub => kcf_all); (case off => assumption); (case S => k_mem); (case hit => (simp_all; done)))))
section
variable {w : World} {p : Program} {loose : List Str} {mean : ExcName → Option Value} {mg mb : Str → Option Value}
    {dp un : Nat} {gd : Option (List Code)} {cn : Str} {nms : List (Str × NameKind)} {ig ic : Bool} {mo : List (Str × Const)} {a : Addr} {ccd : Value} {cl : List (Str × Addr)} {outer : List Env} {A₀ : Around} {base h₀ : Heap} {L : Addr} {m : Str → Option Value} {s : Shared} {Q E : Value → Shared → Prop}
    {news : List (Addr × Obj)}

def pairHit (g1 g2 g3 : Str) (x y : Str) : Bool := [g1, g2, g3].any fun g => isIn x g && isIn y g
def pairC (g1 g2 g3 : Str) (c0 c1 c2 : Int) (x y : Str) : Int :=
  if x = y then c0 else if pairHit g1 g2 g3 x y then c1 else c2
theorem pair_e1 {g1 g2 g3 x y : Str} {c0 c1 c2 : Int} {ys : List Value} (h1 : ys.isEmpty = !([g1, g2, g3].any fun g => isIn x g && isIn y g)) (h2 : (!ys.isEmpty) = true) (h0 : (x == y) = false) : c1 = pairC g1 g2 g3 c0 c1 c2 x y := by
  have h0' : x ≠ y := by simpa using h0
  have h3 : pairHit g1 g2 g3 x y = true := by rw [h1, Bool.not_not] at h2; exact h2
  rw [pairC, if_neg h0', if_pos h3]
theorem pair_e2 {g1 g2 g3 x y : Str} {c0 c1 c2 : Int} {ys : List Value} (h1 : ys.isEmpty = !([g1, g2, g3].any fun g => isIn x g && isIn y g)) (h2 : (!ys.isEmpty) = false) (h0 : (x == y) = false) : c2 = pairC g1 g2 g3 c0 c1 c2 x y := by
  have h0' : x ≠ y := by simpa using h0
  have h3 : pairHit g1 g2 g3 x y = false := by rw [h1, Bool.not_not] at h2; exact h2
  rw [pairC, if_neg h0', if_neg (by rw [h3]; exact Bool.false_ne_true)]
theorem pair_ok {x y g1 g2 g3 : Str} {t1 t2 u1 u2 u3 v0 v1 v2 : Tok} {c0 c1 c2 : Int} {ca ga : Addr}
    (B : Below A₀ base outer h₀) (F : Fr h₀ L s.heap m) (X : (hd.heap_39 w.params).In h₀) (N : News h₀ L s.heap news) (T : Top p loose mean mg mb h₀)
    (hc : (ca, ({ cls := .type "list", data := .seq [Value.int c0 v0, .int c1 v1, .int c2 v2].toArray } : Obj)) ∈ news)
    (hg : (ga, ({ cls := .type "tuple", data := .seq [Value.str g1 u1, .str g2 u2, .str g3 u3].toArray } : Obj)) ∈ news)
    (hd : dp + 5 < recursionLimit) (hu : un + 40 < cLine)
    (ret : ∀ t h' tk', Fr h₀ L h' m → News h₀ L h' news → Q (.int (pairC g1 g2 g3 c0 c1 c2 x y) t) { s with heap := h', toks := tk' }) :
    wpAny (model PySem.Challenge.rw_fq5039_01.row.prog w) (ktrTop dp un gd cn ⟨.function, nms, ig, ic, mo⟩ L a ccd cl outer) (call (.ref 199) [.str x t1, .str y t2, .ref ca, .ref ga]) Q E s := by
  w_on
  revert X
  k_fill
  intro X
  w_strict k_steps
  · exact cb_retI ret (by simp_all [pairC]) (by assumption) (cb_drop (by k_asm) (by intro p hp; k_ownIn))
  · refine CompSrcTup.intro (by rfl) (by k_asm) (by k_asm) (by k_mem) (Nat.le_of_ble_eq_true rfl) fun g' => ?_
    refine hit_rest (fun g => isIn x g && isIn y g) (.cons g1 u1 (.cons g2 u2 (.cons g3 u3 .nil))) (fun g t I' oI' C' oC' D' m' ys' h' tk' E' hC' hx' F' N' off' ne' => ?_) ?_
    all_goals w_strict k_steps
    all_goals exact cb_retI ret (by first | exact pair_e1 (by assumption) (by assumption) (by assumption) | exact pair_e2 (by assumption) (by assumption) (by assumption)) (by assumption) (cb_drop (by k_asm) (by intro p hp; k_ownIn))
def stepC (g1 g2 g3 free : Str) (c0 c1 c2 : Int) (x y : Str) : Int := if x ≠ y ∧ isIn x free = true then c1 else pairC g1 g2 g3 c0 c1 c2 x y
local macro_rules | `(tactic| walk_at "call ref") => `(tactic| (k_here; (with_reducible show wpAny _ _ (call (Value.ref 199) _) _ _ _); k_dflt (refine' pair_ok ?k1 ?k2 ?k3 ?k4 ?k5 ?k6 ?k7 ?k8 ?k9 ?_; (case k1 => k_asm); (case k2 => k_asm); (case k3 => k_asm); (case k4 => k_asm); (case k5 => k_asm); (case k6 => k_mem); (case k7 => k_mem); (case k8 => ktr_room); (case k9 => ktr_units); k_whole); intro t9 h9 tk9 F9 N9; (try k_sweep)))
theorem step_ok {x y g1 g2 g3 fr : Str} {t1 t2 u1 u2 u3 v0 v1 v2 t3 : Tok} {c0 c1 c2 : Int} {ca ga : Addr}
    (B : Below A₀ base outer h₀) (F : Fr h₀ L s.heap m) (X : (hd.heap_39 w.params).In h₀) (N : News h₀ L s.heap news) (T : Top p loose mean mg mb h₀)
    (hc : (ca, ({ cls := .type "list", data := .seq [Value.int c0 v0, .int c1 v1, .int c2 v2].toArray } : Obj)) ∈ news)
    (hg : (ga, ({ cls := .type "tuple", data := .seq [Value.str g1 u1, .str g2 u2, .str g3 u3].toArray } : Obj)) ∈ news)
    (hd : dp + 10 < recursionLimit) (hu : un + 80 < cLine)
    (ret : ∀ t h' tk', Fr h₀ L h' m → News h₀ L h' news → Q (.int (stepC g1 g2 g3 fr c0 c1 c2 x y) t) { s with heap := h', toks := tk' }) :
    wpAny (model PySem.Challenge.rw_fq5039_01.row.prog w) (ktrTop dp un gd cn ⟨.function, nms, ig, ic, mo⟩ L a ccd cl outer) (call (.ref 206) [.str x t1, .str y t2, .ref ca, .ref ga, .str fr t3]) Q E s := by
  w_on
  revert X
  k_fill
  intro X
  w_strict k_steps
  all_goals exact cb_retI ret (by simp_all [stepC]) (by assumption) (cb_drop (by k_asm) (by intro p hp; k_ownIn))
end
end Mine
end
/-! part U16 -/
section
open PySem PySem.W PyProof.Rows PySem.Spec PySem.Calls
namespace Mine
/-! the forward table, step by step -/
theorem dp_lo {V H : Nat → Int} {D : Nat → Nat → Int} : ∀ a, dpT true V H D a 0 = 0
  | 0 => by rw [dpT]
  | a + 1 => by rw [dpT]; rfl
section
variable {g1 g2 g3 fr Xs Ys : Str} {c0 c1 c2 : Int} {lo : Bool} {V H : Nat → Int} {D : Nat → Nat → Int} {M : Nat → Nat → Int} {n1 m1 i b9 : Nat}
theorem dp_col (hVe : (fun k : Nat => stepC g1 g2 g3 fr c0 c1 c2 (Txt.item Xs (k : Int)) (Txt.item Xs ((k : Int) + 1))) = V) (hlo : (!lo) = true) (hb : b9 = i + 1) (hi : i < n1)
    (hJ : ∀ a b, a ≤ n1 → b ≤ m1 → M a b = if b = 0 ∧ a ≤ i then dpT lo V H D a 0 else 0) :
    ∀ a b, a ≤ n1 → b ≤ m1 → setM M b9 (Int.toNat 0) (M ((b9 : Int) - 1).toNat (Int.toNat 0) + stepC g1 g2 g3 fr c0 c1 c2 (Txt.item Xs ((b9 : Int) - 1)) (Txt.item Xs (b9 : Int))) a b = if b = 0 ∧ a ≤ i + 1 then dpT lo V H D a 0 else 0 := by
  intro a b h1 h2
  subst hb
  have e1 : ((i + 1 : Nat) : Int) - 1 = (i : Int) := by omega
  have e2 : ((i + 1 : Nat) : Int) = (i : Int) + 1 := by omega
  have e3 : (i : Int).toNat = i := by omega
  have e4 : Int.toNat 0 = 0 := rfl
  have hlo' : lo = false := by simpa using hlo
  show (if a = i + 1 ∧ b = Int.toNat 0 then _ else M a b) = _
  rw [e4]
  by_cases hc : a = i + 1 ∧ b = 0
  · obtain ⟨rfl, rfl⟩ := hc
    rw [if_pos ⟨rfl, rfl⟩, if_pos ⟨rfl, Nat.le_refl _⟩, e1, e2, e3, hJ i 0 (by omega) (by omega), if_pos ⟨rfl, Nat.le_refl _⟩, dpT, hlo', if_neg Bool.false_ne_true, ← hVe]
  · rw [if_neg hc, hJ a b h1 h2]
    by_cases hd : b = 0 ∧ a ≤ i
    · rw [if_pos hd, if_pos ⟨hd.1, by omega⟩]
    · rw [if_neg hd, if_neg (by omega)]
theorem dp_row (hHe : (fun k : Nat => stepC g1 g2 g3 fr c0 c1 c2 (Txt.item Ys (k : Int)) (Txt.item Ys ((k : Int) + 1))) = H) (hb : b9 = i + 1) (hi : i < m1)
    (hJ : ∀ a b, a ≤ n1 → b ≤ m1 → M a b = if b = 0 then dpT lo V H D a 0 else if a = 0 ∧ b ≤ i then dpT lo V H D 0 b else 0) :
    ∀ a b, a ≤ n1 → b ≤ m1 → setM M (Int.toNat 0) (b9 : Int).toNat (M (Int.toNat 0) ((b9 : Int) - 1).toNat + stepC g1 g2 g3 fr c0 c1 c2 (Txt.item Ys ((b9 : Int) - 1)) (Txt.item Ys (b9 : Int))) a b = if b = 0 then dpT lo V H D a 0 else if a = 0 ∧ b ≤ i + 1 then dpT lo V H D 0 b else 0 := by
  intro a b h1 h2
  subst hb
  have e1 : ((i + 1 : Nat) : Int) - 1 = (i : Int) := by omega
  have e2 : ((i + 1 : Nat) : Int) = (i : Int) + 1 := by omega
  have e3 : (i : Int).toNat = i := by omega
  have e4 : Int.toNat 0 = 0 := rfl
  have e5 : ((i + 1 : Nat) : Int).toNat = i + 1 := by omega
  show (if a = Int.toNat 0 ∧ b = ((i + 1 : Nat) : Int).toNat then _ else M a b) = _
  rw [e4, e5]
  by_cases hc : a = 0 ∧ b = i + 1
  · obtain ⟨rfl, rfl⟩ := hc
    rw [if_pos ⟨rfl, rfl⟩, if_neg (by omega), if_pos ⟨rfl, Nat.le_refl _⟩, e1, e2, e3, hJ 0 i (by omega) (by omega)]
    have step : dpT lo V H D 0 (i + 1) = dpT lo V H D 0 i + H i := by rw [dpT]
    rw [step, ← hHe]
    by_cases hz : i = 0
    · subst hz; rw [if_pos rfl]
    · rw [if_neg hz, if_pos ⟨rfl, Nat.le_refl _⟩]
  · rw [if_neg hc, hJ a b h1 h2]
    by_cases hz : b = 0
    · rw [if_pos hz, if_pos hz]
    · rw [if_neg hz, if_neg hz]
      by_cases hd : a = 0 ∧ b ≤ i
      · rw [if_pos hd, if_pos ⟨hd.1, by omega⟩]
      · rw [if_neg hd, if_neg (by omega)]
end
theorem item_at {x : Str} {i c : Nat} (h : x.cps[i]? = some c) : (⟨#[c]⟩ : Str) = Txt.item x (i : Int) := by
  have hlt : i < x.cps.size := by
    rw [Array.getElem?_eq_some_iff] at h; exact h.1
  show _ = (⟨#[(Txt.charAt x i).getD 0]⟩ : Str)
  have e : Txt.charAt x i = some c := by
    unfold Txt.charAt
    have e2 : seqIndex? (i : Int) x.length = some i := by
      unfold seqIndex?
      have h1 : ¬ ((i : Int) < 0) := by omega
      have h2 : i < x.length := hlt
      simp [h1, h2]
    rw [e2]; exact h
  rw [e]; rfl
section
variable {M : Model} {A : Around} {E : Value → Shared → Prop} {s : Shared} {env : Env}
theorem callWith_tyKw {T : String} {e1 e2 : Expr} {k : Str} {p pos : Pos} {Q : Value → Shared → Prop}
    (h : wpAny M A (spliced (backTo pos (starEach [e1] env))) (fun vs s₁ => wpAny M A (eval e2 env) (fun v s₂ => wpAny M A (call (.type T) vs [(k, v)]) Q E s₂) E s₁) E s)
    (he : starEach [e1] env = (false, eval e1 env) :: starEach [] env := by rfl) (hp : (backTo pos (starEach [e1] env)).any (·.1) = false := by rfl) :
    wpAny M A (callWith pos (.type T) [] (backTo pos (starEach [e1] env)) (backToKw pos (keywordEach [⟨some k, e2, p⟩] env))) Q E s := by
  have h2 : wpAny M A (evalArgs (.type T) true (backTo pos (starEach [e1] env)) (backToKw pos (keywordEach [⟨some k, e2, p⟩] env))) (fun a s₁ => wpAny M A (call (.type T) ([] ++ a.pos) a.kw) Q E s₁) E s :=
    evalArgs_kw2 rfl (wpAny_mono h (fun vs s₁ h₁ => kwAll_cons (wpAny_mono h₁ (fun v s₂ h₂ => kwAll_nil h₂) fun _ _ x => x)) fun _ _ x => x) he
  unfold callWith
  refine wpAny_bind (wpAny_holding (wpAny_mono h2 (fun a s₁ h₁ => wpAny_bind (wpAny_standAt ?_)) fun _ _ x => x))
  have hkw : (backToKw pos (keywordEach [⟨some k, e2, p⟩] env)).any (·.1.isNone) = false := rfl
  simp only [hp, hkw, Bool.or_false]
  refine wpAny_bind (wpAny_pure ?_)
  exact wpAny_bind (wpAny_mono h₁ (fun r s₂ hr => wpAny_bind (wpAny_holding (wpAny_point (wpAny_pure hr)))) fun _ _ x => x)
end
end Mine
end
/-! part U17 -/
section
open PySem PySem.W PyProof.Rows PySem.Spec PySem.Calls
namespace Mine
theorem slice1_cps {X : Str} (h : 1 ≤ X.length) : (Txt.slice X (some 1) none).cps = (X.cps.toList.drop 1).toArray := by
  rw [slice_from_eq (b := (X.length : Int)) (by omega) (by omega) rfl]
  have e : ((X.length : Int) - 1).toNat = (X.cps.toList.drop 1).length := by
    have : X.cps.toList.length = X.length := by simp [Str.length]
    rw [List.length_drop]; omega
  show ((X.cps.toList.drop (1 : Int).toNat).take _).toArray = _
  have e1 : (1 : Int).toNat = 1 := rfl
  rw [e1, e, List.take_length]
theorem slice1_size {X : Str} {n : Nat} (h : X.length = n + 1) : (Txt.slice X (some 1) none).cps.size = n := by
  rw [slice1_cps (by omega)]
  have : X.cps.toList.length = X.length := by simp [Str.length]
  simp only [List.size_toArray, List.length_drop]; omega
theorem slice1_at {X : Str} {i d : Nat} (h : 1 ≤ X.length) (e : (Txt.slice X (some 1) none).cps[i]? = some d) : X.cps[i + 1]? = some d := by
  rw [slice1_cps h] at e
  rw [List.getElem?_toArray, List.getElem?_drop] at e
  rw [← Array.getElem?_toList, Nat.add_comm]; exact e
theorem slice1_ascii {X : Str} (h : 1 ≤ X.length) (ha : X.cps.all (· < 128) = true) : (Txt.slice X (some 1) none).cps.all (· < 128) = true := by
  rw [slice1_cps h]
  have ha' : X.cps.toList.all (· < 128) = true := by rw [Array.all_toList]; exact ha
  rw [List.all_eq_true] at ha'
  rw [List.all_toArray, List.all_eq_true]
  exact fun c hc => ha' c (List.mem_of_mem_drop hc)
theorem sp_ascii {u : Str} (ha : u.cps.all (· < 128) = true) : (Str.ofString " " ++ u).cps.all (· < 128) = true := by
  show ((Str.ofString " ").cps ++ u.cps).all (· < 128) = true
  have h : ((Str.ofString " ").cps.all fun x => decide (x < 128)) = true := by decide +kernel
  rw [Array.all_append, ha, h]
  rfl
theorem sp_len {u : Str} : (Str.ofString " " ++ u).length = u.length + 1 := by
  show ((Str.ofString " ").cps ++ u.cps).size = u.cps.size + 1
  rw [Array.size_append]
  have : (Str.ofString " ").cps.size = 1 := rfl
  omega
theorem hideQ {M : Model} {A : Around} {E : Value → Shared → Prop} {s : Shared} {target : Expr} {env : Env} {v : Value} {body : List Stmt} {Q : Flow → Shared → Prop}
    (h : ∀ q : Flow → Shared → Prop, (∀ f s, Q f s → q f s) → wpAny M A (assign target env v) (fun _ s₂ => wpAny M A (execs body env) q E s₂) E s) :
    wpAny M A (assign target env v) (fun _ s₂ => wpAny M A (execs body env) Q E s₂) E s := h Q fun _ _ x => x
theorem toksAll {M : Model} {A : Around} {E : Value → Shared → Prop} {α : Type} {t : Sem α} {Q : α → Shared → Prop} {h : Heap} {g : Array GenState} {d} {X : Nat} {o}
    (H : ∀ tk, wpAny M A t Q E ⟨h, g, d, tk, o⟩) : wpAny M A t Q E ⟨h, g, d, X, o⟩ := H X
theorem min3_led {prog : Program} {w : World} {A : Around} {E : Value → Shared → Prop} {s : Shared} {h₀ : Heap} {L : Addr} {m : Str → Option Value} {news : List (Addr × Obj)} {a b c : Int} {t u x : Tok} {Q : Value → Shared → Prop} (F : Fr h₀ L s.heap m) (N : News h₀ L s.heap news) (hh : A.handled = none)
    (h : ∀ h' tk t', Fr h₀ L h' m → News h₀ L h' news → Q (.int (min (min a b) c) t') { s with heap := h', toks := tk }) :
    wpAny (model prog w) A (call (.builtin "min") [.int a t, .int b u, .int c x]) Q E s := by
  refine min_three_ints hh fun h' tk hk => ?_
  have H := fun t' => h h' tk t' (F.keeps hk) (N.grown hk)
  by_cases h1 : b < a
  · rw [if_pos h1]
    by_cases h2 : c < b
    · rw [if_pos h2, show c = min (min a b) c by omega]; exact H x
    · rw [if_neg h2]
      have := H u
      rw [show min (min a b) c = b by omega] at this; exact this
  · rw [if_neg h1]
    by_cases h2 : c < a
    · rw [if_pos h2, show c = min (min a b) c by omega]; exact H x
    · rw [if_neg h2]
      have := H t
      rw [show min (min a b) c = a by omega] at this; exact this
end Mine
end
/-! part U18 -/
section
open PySem PySem.W PyProof.Rows PySem.Spec PySem.Calls
namespace Mine
theorem nc_mem {l : List Str} {z a : Str} (h : l.contains z = false) (ha : a ∈ l) : ¬ z = a := fun e => by
  subst e
  have : l.contains z = true := List.elem_eq_true_of_mem ha
  rw [this] at h; cases h
section
variable {g1 g2 g3 fr Xs Ys : Str} {c0 c1 c2 : Int} {lo : Bool} {V H : Nat → Int} {D : Nat → Nat → Int} {M : Nat → Nat → Int} {n1 m1 i j ch dh ch2 dh2 : Nat}
theorem dp_cell (hVe : (fun k : Nat => stepC g1 g2 g3 fr c0 c1 c2 (Txt.item Xs (k : Int)) (Txt.item Xs ((k : Int) + 1))) = V)
    (hHe : (fun k : Nat => stepC g1 g2 g3 fr c0 c1 c2 (Txt.item Ys (k : Int)) (Txt.item Ys ((k : Int) + 1))) = H)
    (hDe : (fun i j : Nat => pairC g1 g2 g3 c0 c1 c2 (Txt.item Xs ((i : Int) + 1)) (Txt.item Ys ((j : Int) + 1))) = D) (hX : 1 ≤ Xs.length) (hY : 1 ≤ Ys.length)
    (h1 : Xs.cps[i]? = some ch) (h2 : (Txt.slice Xs (some 1) none).cps[i]? = some dh) (h3 : Ys.cps[j]? = some ch2) (h4 : (Txt.slice Ys (some 1) none).cps[j]? = some dh2) (hi : i < n1) (hj : j < m1)
    (hJ : ∀ a b, a ≤ n1 → b ≤ m1 → M a b = if b = 0 ∨ a ≤ i ∨ (a = i + 1 ∧ b ≤ j) then dpT lo V H D a b else 0) :
    ∀ a b, a ≤ n1 → b ≤ m1 → setM M ((i : Int) + 1).toNat ((j : Int) + 1).toNat (min (min (M ((i : Int) + 1 - 1).toNat ((j : Int) + 1).toNat + stepC g1 g2 g3 fr c0 c1 c2 ⟨#[ch]⟩ ⟨#[dh]⟩) (M ((i : Int) + 1).toNat ((j : Int) + 1 - 1).toNat + stepC g1 g2 g3 fr c0 c1 c2 ⟨#[ch2]⟩ ⟨#[dh2]⟩))
      (M ((i : Int) + 1 - 1).toNat ((j : Int) + 1 - 1).toNat + pairC g1 g2 g3 c0 c1 c2 ⟨#[dh]⟩ ⟨#[dh2]⟩)) a b = if b = 0 ∨ a ≤ i ∨ (a = i + 1 ∧ b ≤ j + 1) then dpT lo V H D a b else 0 := by
  intro a b ha hb
  have e1 : ((i : Int) + 1 - 1).toNat = i := by omega
  have e2 : ((j : Int) + 1 - 1).toNat = j := by omega
  have e3 : ((i : Int) + 1).toNat = i + 1 := by omega
  have e4 : ((j : Int) + 1).toNat = j + 1 := by omega
  have i1 := item_at h1
  have i2 : (⟨#[dh]⟩ : Str) = Txt.item Xs ((i : Int) + 1) := by
    have := item_at (slice1_at hX h2)
    rwa [show ((i + 1 : Nat) : Int) = (i : Int) + 1 by omega] at this
  have i3 := item_at h3
  have i4 : (⟨#[dh2]⟩ : Str) = Txt.item Ys ((j : Int) + 1) := by
    have := item_at (slice1_at hY h4)
    rwa [show ((j + 1 : Nat) : Int) = (j : Int) + 1 by omega] at this
  rw [e1, e2, e3, e4, i1, i2, i3, i4]
  show (if a = i + 1 ∧ b = j + 1 then _ else M a b) = _
  have s1 : stepC g1 g2 g3 fr c0 c1 c2 (Txt.item Xs (i : Int)) (Txt.item Xs ((i : Int) + 1)) = V i := by rw [← hVe]
  have s2 : stepC g1 g2 g3 fr c0 c1 c2 (Txt.item Ys (j : Int)) (Txt.item Ys ((j : Int) + 1)) = H j := by rw [← hHe]
  have s3 : pairC g1 g2 g3 c0 c1 c2 (Txt.item Xs ((i : Int) + 1)) (Txt.item Ys ((j : Int) + 1)) = D i j := by rw [← hDe]
  rw [s1, s2, s3]
  by_cases hc : a = i + 1 ∧ b = j + 1
  · obtain ⟨rfl, rfl⟩ := hc
    rw [if_pos ⟨rfl, rfl⟩, if_pos (.inr (.inr ⟨rfl, Nat.le_refl _⟩)), hJ i (j + 1) (by omega) (by omega), hJ (i + 1) j (by omega) (by omega), hJ i j (by omega) (by omega), if_pos (.inr (.inl (Nat.le_refl _))), if_pos (.inr (.inr ⟨rfl, Nat.le_refl _⟩)), if_pos (.inr (.inl (Nat.le_refl _)))]
    have step : dpT lo V H D (i + 1) (j + 1) = min (min (dpT lo V H D i (j + 1) + V i) (dpT lo V H D (i + 1) j + H j)) (dpT lo V H D i j + D i j) := by rw [dpT]
    rw [step]
  · rw [if_neg hc, hJ a b ha hb]
    by_cases hd : b = 0 ∨ a ≤ i ∨ (a = i + 1 ∧ b ≤ j)
    · rw [if_pos hd, if_pos (by omega)]
    · rw [if_neg hd, if_neg (by omega)]
end
/-! what a call gives -/
def CallV (g1 g2 g3 fr : Str) (c0 c1 c2 : Int) (lo : Bool) (x y : Str) (v : Int) : Prop :=
  (x = y ∧ v = 0) ∨ (x ≠ y ∧ (x.length = 0 ∨ y.length = 0) ∧ v = (max x.length y.length : Nat) * c2) ∨
  (x ≠ y ∧ x.length ≠ 0 ∧ y.length ≠ 0 ∧ v = min (dpT lo (fun k : Nat => stepC g1 g2 g3 fr c0 c1 c2 (Txt.item (Str.ofString " " ++ Txt.upper x) (k : Int)) (Txt.item (Str.ofString " " ++ Txt.upper x) ((k : Int) + 1)))
    (fun k : Nat => stepC g1 g2 g3 fr c0 c1 c2 (Txt.item (Str.ofString " " ++ Txt.upper y) (k : Int)) (Txt.item (Str.ofString " " ++ Txt.upper y) ((k : Int) + 1)))
    (fun i j : Nat => pairC g1 g2 g3 c0 c1 c2 (Txt.item (Str.ofString " " ++ Txt.upper x) ((i : Int) + 1)) (Txt.item (Str.ofString " " ++ Txt.upper y) ((j : Int) + 1))) (Txt.upper x).length (Txt.upper y).length) ((max x.length y.length : Nat) * c2))
end Mine
end
/-! part U19 -/
section
open PySem PySem.W PyProof.Rows PySem.Spec PySem.Calls
namespace Mine
section
variable {M : Model} {A : Around} {E : Value → Shared → Prop} {s : Shared} {K : Frag} {env : Env} {pos p : Pos} {x C f : Addr} {ox : Obj} {od : Option Obj} {first : List Value} {Q : Value → Shared → Prop} {e : Expr}
theorem callWith_SI (_X : K.In s.heap) (_I : InstAt s.heap x ox C od) (hd : ox.data = .plain) (_hs : findIn K (.ref C) "__call__" = some (some (.ref f)))
    (h : wpAny M A (eval e env) (fun v s₁ => StarOf M A E v (fun vs s₂ => kco_P K x C ox od s₂.heap ∧ wpAny M A (call (.ref x) (first ++ vs)) Q E s₂) s₁) E s)
    (he : starEach [.Starred e p] env = [(true, eval e env)] := by rfl) :
    wpAny M A (callWith pos (.ref x) first (backTo pos (starEach [.Starred e p] env)) []) Q E s := by
  rw [he]
  have h2 : wpAny M A (evalArgs (.ref x) true (backTo pos [(true, eval e env)]) []) (fun a s₁ => kco_P K x C ox od s₁.heap ∧ wpAny M A (call (.ref x) (first ++ a.pos) a.kw) Q E s₁) E s := ks_lone h
  unfold callWith
  refine wpAny_bind (wpAny_holding (wpAny_mono h2 (fun a s₁ h₁ => wpAny_bind (wpAny_standAt ?_)) fun _ _ y => y))
  have L := kco_keeper (M := M) h₁.1.2 hd
  have hst : (backTo pos [(true, eval e env)]).any (·.1) = true := rfl
  simp only [hst, Bool.true_or]
  refine wpAny_bind (L.here ?_)
  have tail : ∀ {t : Sem Value}, wpAny M A t Q E s₁ → wpAny M A (t >>= fun r => holding [r] point >>= fun _ => pure r) Q E s₁ :=
    fun ht => wpAny_bind (wpAny_mono ht (fun r s₂ hr => wpAny_bind (wpAny_holding (wpAny_point (wpAny_pure hr)))) fun _ _ y => y)
  first
    | exact tail (wpAny_operateT h₁.2)
    | exact tail (wpAny_operating h₁.2)
end
end Mine
end
/-! part U20 -/
section
open PySem PySem.W PyProof.Rows PySem.Spec PySem.Calls
namespace Mine
/-! a list of the ledger, walked by index -/
abbrev listIt (oi : Obj) (l : Addr) (i : Nat) : Prop := oi.cls = .type "list_iterator" ∧ oi.data = .fields #[.ref l, .int i 0]
theorem side_list {o : Obj} {l : Addr} {i : Nat} (h : listIt o l i) : SideO o :=
  ⟨(fun vs e q t hq => by rw [h.2] at e; cases e; cases hq), (fun ps e => by have := h.1; rw [e] at this; cases this)⟩
theorem GIter.list {prog : Program} {w : World} {A : Around} {h₀ : Heap} {L : Addr} (hh : A.handled = none) (x : Str) (px : Pos) (I l : Addr) (hIl : l ≠ I) (vs : List Value) (ol : Obj) (hol : ol.cls = .type "list" ∧ ∃ n, ol.data = .seq vs.toArray n) :
    GIter prog w A (.Name x px) h₀ L I vs.length (fun i own => ∃ oi, listIt oi l i ∧ own = [(I, oi), (l, ol)]) (fun i v ex => ex = [] ∧ vs[i]? = some v) where
  item := fun i own nx m s Q E hi hO F N hoff hQ => by
    obtain ⟨oi, hoi, rfl⟩ := hO
    have W := Walks.list (prog := prog) (w := w) (A := A) hh I l hIl vs.toArray
    have nI := N (I, oi) (.head _)
    have nl := N (l, ol) (.tail _ (.head _))
    refine W.item i s _ _ (by simpa using hi) ⟨⟨oi, nI.1, hoi⟩, ⟨ol, nl.1, hol⟩⟩ fun v h' tk hP hst hk => ?_
    have hs : Heap.ExtBut I s.heap h' := fun b o hb e => hk b o (by simpa using hb) e
    obtain ⟨o', ho', hd'⟩ := hst.1
    refine ⟨v, rfl, ?_⟩
    have hgo : wpAny (model prog w) A (letOwnedTupleGo (.Name x px) (.ref I) v) (fun _ s₂ => Q v s₂) E { s with heap := h', toks := tk } := by
      show wpAny _ _ (pure ()) _ _ _
      refine wpAny_pure (hQ v [(I, o'), (l, ol)] [] h' tk ⟨o', hd', rfl⟩ ⟨rfl, by simpa using hP⟩ (fr_extBut F hs nI.2.2 nI.2.1) (fun p hp => ?_) (fun p hp q hq => ?_))
      · simp only [List.cons_append, List.nil_append, List.mem_cons] at hp
        rcases hp with rfl | rfl | hp
        · exact ⟨ho', nI.2⟩
        · exact ⟨hs _ _ hIl nl.1, nl.2⟩
        · have n := N p (.tail _ (.tail _ hp))
          have z : p.1 ≠ I := hoff p hp (I, oi) (.head _)
          exact ⟨hs _ _ z n.1, n.2⟩
      · simp only [List.mem_cons, List.not_mem_nil, or_false] at hq
        rcases hq with rfl | rfl
        · have z : p.1 ≠ I := hoff p hp (I, oi) (.head _)
          exact z
        · exact hoff p hp _ (.tail _ (.head _))
    exact hgo
  done := fun own nx m s Q E hO F N hoff hQ => by
    obtain ⟨oi, hoi, rfl⟩ := hO
    have W := Walks.list (prog := prog) (w := w) (A := A) hh I l hIl vs.toArray
    have nI := N (I, oi) (.head _)
    have nl := N (l, ol) (.tail _ (.head _))
    refine W.done s _ _ ⟨⟨oi, nI.1, by simpa using hoi⟩, ⟨ol, nl.1, hol⟩⟩ fun h' tk hk => ?_
    have hs : Heap.ExtBut I s.heap h' := fun b o hb e => hk b o (by simpa using hb) e
    refine hQ h' tk (fr_extBut F hs nI.2.2 nI.2.1) fun p hp => ?_
    have n := N p (.tail _ (.tail _ hp))
    have z : p.1 ≠ I := hoff p hp (I, oi) (.head _)
    exact ⟨hs _ _ z n.1, n.2⟩
  side := fun i own hO q hq => by
    obtain ⟨oi, hoi, rfl⟩ := hO
    simp only [List.mem_cons, List.not_mem_nil, or_false] at hq
    rcases hq with rfl | rfl
    · exact side_list hoi
    · obtain ⟨hc, n, hd⟩ := hol
      exact ⟨(fun vs e => by rw [hd] at e; cases e), (fun ps e => by have e2 : ol = tabObj ps := e; rw [e2] at hd; cases hd)⟩
end Mine
end
/-! part U21 -/
section
open PySem PySem.W PyProof.Rows PySem.Spec PySem.Calls
namespace Mine
/-! the law's loop over the slice of the script: a list of two texts is rewritten -/
def GoodT (a : Str) : Prop := a.length ≤ 4 ∧ ∀ c ∈ a.cps.toList, 65 ≤ c ∧ c ≤ 72
def TxTurn (h₀ : Heap) (L : Addr) (stored : List Str) (m₀ : Str → Option Value) (own base : List (Addr × Obj)) (lt : Addr) (s : Shared) (Q : Flow → Shared → Prop) (f : Flow) (s₃ : Shared) : Prop :=
  match f with
  | .ret v => Q (.ret v) s₃
  | .brk => Q .next s₃
  | _ => ∃ (h' : Heap) (tk : Nat) (m' : Str → Option Value) (a b : Str) (ta tb : Tok), s₃ = { s with heap := h', toks := tk } ∧ Fr h₀ L h' m' ∧ (∀ z, stored.contains z = false → m' z = m₀ z) ∧ News h₀ L h' (own ++ ((lt, W.listOf #[.str a ta, .str b tb] 0) :: base)) ∧ GoodT a ∧ GoodT b
section
variable {prog : Program} {w : World} {A : Around} {E : Value → Shared → Prop} {s : Shared} {env : Env} {h₀ : Heap} {body : List Stmt} {Q : Flow → Shared → Prop}
theorem textSrc {D lt : Addr} {ws : List Value} {a₀ b₀ : Str} {ta₀ tb₀ : Tok} {base : List (Addr × Obj)} {m₀ : Str → Option Value} {x : Str} {px : Pos} (stored : List Str)
    (hh : A.handled = none) (F : Fr h₀ env.locals s.heap m₀) (N : News h₀ env.locals s.heap ((D, W.listOf ws.toArray 0) :: (lt, W.listOf #[.str a₀ ta₀, .str b₀ tb₀] 0) :: base)) (hDl : lt ≠ D) (hDb : ∀ p ∈ base, p.1 ≠ D) (ga : GoodT a₀) (gb : GoodT b₀)
    (turn : ∀ (i : Nat) v own h tk (u : Str → Option Value) a b ta tb, ws[i]? = some v → GoodT a → GoodT b → OffL ((lt, W.listOf #[.str a ta, .str b tb] 0) :: base) own → Fr h₀ env.locals h (fun y => if stored.contains y then u y else m₀ y) → News h₀ env.locals h (own ++ ((lt, W.listOf #[.str a ta, .str b tb] 0) :: base)) →
      wpAny (model prog w) A (assign (.Name x px) env v) (fun _ s₂ => wpAny (model prog w) A (execs body env) (TxTurn h₀ env.locals stored m₀ own base lt s Q) E s₂) E { s with heap := h, toks := tk })
    (done : ∀ h tk (u : Str → Option Value) a b ta tb, GoodT a → GoodT b → Fr h₀ env.locals h (fun y => if stored.contains y then u y else m₀ y) → News h₀ env.locals h ((lt, W.listOf #[.str a ta, .str b tb] 0) :: base) → Q .next { s with heap := h, toks := tk }) :
    MyG prog w A h₀ env (.Name x px) body Q E (.ref D) s := by
  have shape : ∀ (m' : Str → Option Value), (∀ z, stored.contains z = false → m' z = m₀ z) → (fun y => if stored.contains y then m' y else m₀ y) = m' := fun m' hm => by
    funext y
    cases e : stored.contains y with
    | true => simp
    | false => simp only [Bool.false_eq_true, if_false]; exact (hm y e).symm
  have nD := N (D, _) (.head _)
  have hlD : D < s.heap.objs.size := Heap.lt_size nD.1
  have hLs : env.locals < s.heap.objs.size := F.ns.lt
  refine wpAny_pyIter_list (l := D) (items := ws.toArray) ⟨_, nD.1, rfl, 0, rfl⟩ ?_
  refine ⟨s.heap.objs.size, ws.length, _, _, [(s.heap.objs.size, { cls := .type "list_iterator", data := .fields #[.ref D, .int 0 0] }), (D, W.listOf ws.toArray 0)], m₀, (lt, W.listOf #[.str a₀ ta₀, .str b₀ tb₀] 0) :: base,
    fun _ m' nx => (∀ z, stored.contains z = false → m' z = m₀ z) ∧ ∃ (a b : Str) (ta tb : Tok), nx = (lt, W.listOf #[.str a ta, .str b tb] 0) :: base ∧ GoodT a ∧ GoodT b,
    rfl, GIter.list hh x px s.heap.objs.size D (Nat.ne_of_lt hlD) ws (W.listOf ws.toArray 0) ⟨rfl, 0, rfl⟩, ⟨_, ⟨rfl, rfl⟩, rfl⟩, F.push _, ?_, ?_, ⟨fun _ _ => rfl, a₀, b₀, ta₀, tb₀, rfl, ga, gb⟩, ?_, ?_⟩
  · intro p hp
    simp only [List.cons_append, List.nil_append, List.mem_cons] at hp
    rcases hp with rfl | hp
    · exact ⟨Heap.get?_push_size _ rfl, Nat.ne_of_gt hLs, Heap.get?_none_of_le (Nat.le_trans F.above (Nat.le_of_lt hLs))⟩
    · have n := N p (by simp only [List.mem_cons]; exact hp)
      exact ⟨Heap.get?_push_of_some _ n.1, n.2⟩
  · intro p hp q hq
    simp only [List.mem_cons, List.not_mem_nil, or_false] at hq
    rcases hq with rfl | rfl
    · exact Nat.ne_of_lt (Heap.lt_size (N p (.tail _ hp)).1)
    · rcases List.mem_cons.mp hp with rfl | hp
      · exact hDl
      · exact hDb p hp
  · rintro i v own ex h tk m' nx hi hO ⟨rfl, hv⟩ ⟨hm, a, b, ta, tb, rfl, g1, g2⟩ hof F' N'
    have F2 : Fr h₀ env.locals h (fun y => if stored.contains y then m' y else m₀ y) := by rw [shape m' hm]; exact F'
    refine wpAny_mono (turn i v own h tk m' a b ta tb hv g1 g2 hof F2 N') (fun _ s₂ h₂ => wpAny_mono h₂ (fun f s₃ h₃ => ?_) fun _ _ e => e) fun _ _ e => e
    have fin : (∃ (h' : Heap) (tk : Nat) (m' : Str → Option Value) (a b : Str) (ta tb : Tok), s₃ = { s with heap := h', toks := tk } ∧ Fr h₀ env.locals h' m' ∧ (∀ z, stored.contains z = false → m' z = m₀ z) ∧ News h₀ env.locals h' (own ++ ((lt, W.listOf #[.str a ta, .str b tb] 0) :: base)) ∧ GoodT a ∧ GoodT b) →
        ∃ h' tk m' nx, s₃ = { s with heap := h', toks := tk } ∧ Fr h₀ env.locals h' m' ∧ News h₀ env.locals h' (own ++ nx) ∧ OffL nx own ∧ (∀ z, stored.contains z = false → m' z = m₀ z) ∧ ∃ (a b : Str) (ta tb : Tok), nx = (lt, W.listOf #[.str a ta, .str b tb] 0) :: base ∧ GoodT a ∧ GoodT b := by
      rintro ⟨h3, tk3, m3, a3, b3, ta3, tb3, e, F3, hm3, N3, k1, k2⟩
      refine ⟨h3, tk3, m3, _, e, F3, N3, fun p hp q hq => ?_, hm3, a3, b3, ta3, tb3, rfl, k1, k2⟩
      rcases List.mem_cons.mp hp with rfl | hp
      · exact hof (lt, _) (.head _) q hq
      · exact hof p (.tail _ hp) q hq
    cases f with
    | ret v => exact h₃
    | brk => exact h₃
    | next => exact fin h₃
    | cont => exact fin h₃
  · rintro h tk m' nx ⟨hm, a, b, ta, tb, rfl, g1, g2⟩ F' N'
    exact done h tk m' a b ta tb g1 g2 (by rw [shape m' hm]; exact F') N'
end
end Mine
end
/-! part U22 -/
section
open PySem PySem.W PyProof.Rows PySem.Spec PySem.Calls
namespace Mine
def TupSrcH (prog : Program) (w : World) (A : Around) (h₀ : Heap) (env : Env) (target : Expr) (body : List Stmt) (Q : Flow → Shared → Prop) (E : Value → Shared → Prop) (xv : Value) (s : Shared) : Prop :=
  ∃ (t : Addr) (xs : List Value) (m : Str → Option Value) (news : List (Addr × Obj)) (J : Nat → (Str → Option Value) → List (Addr × Obj) → Prop), xv = .ref t ∧ A.handled = none ∧ Fr h₀ env.locals s.heap m ∧ News h₀ env.locals s.heap news ∧ J 0 m news ∧
    h₀.get? t = some ({ cls := .type "tuple", data := .seq xs.toArray } : Obj) ∧
    (∀ (i : Nat) v h tk I oI m nx, xs[i]? = some v → J i m nx → tupIt oI t (i + 1) → (∀ p ∈ nx, p.1 ≠ I) → (∀ p ∈ news, p.1 < I) → Fr h₀ env.locals h m → News h₀ env.locals h ((I, oI) :: nx) →
      wpAny (model prog w) A (assign target env v) (fun _ s₂ => wpAny (model prog w) A (execs body env) (TupTurn h₀ env.locals I oI (J (i + 1)) s Q) E s₂) E { s with heap := h, toks := tk }) ∧
    (∀ h tk m nx, J xs.length m nx → Fr h₀ env.locals h m → News h₀ env.locals h nx → Q .next { s with heap := h, toks := tk })
section
variable {prog : Program} {w : World} {A : Around} {E : Value → Shared → Prop} {s : Shared} {env : Env} {h₀ : Heap} {target : Expr} {body : List Stmt} {Q : Flow → Shared → Prop}
theorem For_tupH {iter : Expr} {pos : Pos} {m : Str → Option Value} (_F : Fr h₀ env.locals s.heap m) (h : wpAny (model prog w) A (eval iter env) (fun xv s₁ => TupSrcH prog w A h₀ env target body Q E xv s₁) E s)
    (hs : ∀ x, foldedSetIterable iter env x = pure x := by intro _; rfl)
    (hE : PassesOwn (model prog w) A env E := by passes_own) :
    wpAny (model prog w) A (exec (.For target iter body [] pos) env) Q E s := by
  refine wpAny_For (wpAny_mono h (fun xv s₁ h₁ => ?_) fun _ _ e => e) hs
  obtain ⟨t, xs, m, news, J, rfl, hh, F, N, hj, ht, turn, done⟩ := h₁
  have hT : s₁.heap.IsTuple t xs.toArray := ⟨_, F.keep _ _ ht, rfl, 0, rfl⟩
  refine wpAny_pyIter_tuple hT ?_
  have hLs : env.locals < s₁.heap.objs.size := F.ns.lt
  have hIn : h₀.get? s₁.heap.objs.size = none := Heap.get?_none_of_le (Nat.le_trans F.above (Nat.le_of_lt hLs))
  generalize hIe : s₁.heap.objs.size = I at hIn hLs
  have hIL : I ≠ env.locals := Nat.ne_of_gt hLs
  have hlt : ∀ p ∈ news, p.1 < I := fun p hp => hIe ▸ Heap.lt_size (N p hp).1
  refine codeAny_forLoop_any (R := fun r s' => match r with | .ok f => Q f s' | .error e => cameBackBy (model prog w) A env E e s')
    (fun k s' => ∃ h' tk m' nx i oI, s' = { s₁ with heap := h', toks := tk } ∧ tupIt oI t i ∧ Fr h₀ env.locals h' m' ∧ News h₀ env.locals h' ((I, oI) :: nx) ∧ (∀ p ∈ nx, p.1 ≠ I) ∧ J i m' nx ∧ i ≤ xs.length ∧ k = xs.length + 1 - i) ?_ (xs.length + 1)
    ⟨_, _, m, news, 0, { cls := .type "tuple_iterator", data := .fields #[.ref t, .int 0 0] }, rfl, ⟨rfl, rfl⟩, F.push _, ?_, fun p hp => Nat.ne_of_lt (hlt p hp), hj, Nat.zero_le _, rfl⟩
  · rintro k s' ⟨h', tk, m', nx, i, oI, rfl, hit, F', N', hn, hJ, hi, rfl⟩
    have nI := N' (I, oI) (.head _)
    have hT' : h'.IsTuple t xs.toArray := ⟨_, F'.keep _ _ ht, rfl, 0, rfl⟩
    by_cases hlt2 : i < xs.length
    · have hx : xs[i]? = some xs[i] := List.getElem?_eq_getElem hlt2
      refine wpAny_pyNext_tuple_item (s := { s₁ with heap := h', toks := tk }) ⟨oI, nI.1, hit⟩ hT' (x := xs[i]) (by rw [List.getElem?_toArray]; exact hx) fun h2 hi2 hs2 => ?_
      refine letGo_tupleiter hi2 ?_
      obtain ⟨o2, ho2, hc2, hd2⟩ := hi2
      have F2 := fr_extBut F' hs2.extBut nI.2.2 nI.2.1
      have N2 : News h₀ env.locals h2 ((I, o2) :: nx) := fun p hp => by
        rcases List.mem_cons.mp hp with rfl | hp
        · exact ⟨ho2, nI.2⟩
        · have n := N' p (.tail _ hp)
          exact ⟨hs2.extBut _ _ (hn p hp) n.1, n.2⟩
      refine wpAny_mono (turn i _ h2 tk I o2 m' nx hx hJ ⟨hc2, hd2⟩ hn hlt F2 N2) (fun _ s₂ h₂ => wpAny_mono h₂ (fun f s₃ h₃ => ?_) hE) hE
      have fin : (∃ h' tk m' nx, s₃ = { s₁ with heap := h', toks := tk } ∧ Fr h₀ env.locals h' m' ∧ News h₀ env.locals h' ((I, o2) :: nx) ∧ (∀ p ∈ nx, p.1 ≠ I) ∧ J (i + 1) m' nx) → _ := fun ⟨h3, tk3, m3, nx3, e, F3, N3, hn3, hJ3⟩ =>
        (⟨xs.length + 1 - (i + 1), by omega, h3, tk3, m3, nx3, i + 1, o2, e, ⟨hc2, hd2⟩, F3, N3, hn3, hJ3, hlt2, rfl⟩ : ∃ k', k' < xs.length + 1 - i ∧ ∃ h' tk m' nx i oI, s₃ = { s₁ with heap := h', toks := tk } ∧ tupIt oI t i ∧ Fr h₀ env.locals h' m' ∧ News h₀ env.locals h' ((I, oI) :: nx) ∧ (∀ p ∈ nx, p.1 ≠ I) ∧ J i m' nx ∧ i ≤ xs.length ∧ k' = xs.length + 1 - i)
      cases f with
      | ret v => exact h₃
      | brk => exact h₃
      | next => exact fin h₃
      | cont => exact fin h₃
    · have hin : i = xs.length := by omega
      subst hin
      refine wpAny_pyNext_tuple_end (s := { s₁ with heap := h', toks := tk }) hh ⟨oI, nI.1, hit⟩ hT' (by simp) fun h2 hs2 => wpAny_execs_nil ?_
      exact done h2 tk m' nx hJ (fr_extBut F' hs2 nI.2.2 nI.2.1) fun p hp => by
        have n := N' p (.tail _ hp)
        exact ⟨hs2 _ _ (hn p hp) n.1, n.2⟩
  · intro p hp
    rcases List.mem_cons.mp hp with rfl | hp
    · exact ⟨hIe ▸ Heap.get?_push_size _ rfl, hIL, hIn⟩
    · exact ⟨Heap.get?_push_of_some _ (N p hp).1, (N p hp).2⟩
theorem grpSrcH {t cell P : Addr} {qual : Str} {xs : List Value} {m : Str → Option Value} {nx1 keep : List (Addr × Obj)} {oc : Obj} {vg : Option Value} (bad : Nat → Prop) (hh : A.handled = none) (F : Fr h₀ env.locals s.heap m) (N : News h₀ env.locals s.heap nx1)
    (q1 : (cell, oc) ∈ nx1) (dc : oc.data = .cell vg) (hP : cell ≠ P) (TI : TabIn P qual nx1) (hk : ∀ p ∈ keep, p ∈ nx1) (hkc : ∀ p ∈ keep, p.1 ≠ cell) (ht : h₀.get? t = some ({ cls := .type "tuple", data := .seq xs.toArray } : Obj))
    (turn : ∀ (i : Nat) v h tk I oI oc vg nt, xs[i]? = some v → (∀ j, j < i → bad j) → tupIt oI t (i + 1) → (∀ p ∈ nt, p.1 ≠ cell) → I ≠ cell → (∀ p ∈ nt, p.1 ≠ I) → oc.data = .cell vg → TabIn P qual nt → (∀ p ∈ keep, p ∈ nt) → Fr h₀ env.locals h m → News h₀ env.locals h ((I, oI) :: (cell, oc) :: nt) →
      wpAny (model prog w) A (assign target env v) (fun _ s₂ => wpAny (model prog w) A (execs body env) (GrpTurn h₀ env.locals I oI cell P qual m keep (bad i) s Q) E s₂) E { s with heap := h, toks := tk })
    (done : ∀ h tk nt, (∀ j, j < xs.length → bad j) → TabIn P qual nt → (∀ p ∈ keep, p ∈ nt) → Fr h₀ env.locals h m → News h₀ env.locals h nt → Q .next { s with heap := h, toks := tk }) :
    TupSrcH prog w A h₀ env target body Q E (.ref t) s := by
  have fk : ∀ {nx : List (Addr × Obj)} {c : Addr} {p : Addr × Obj}, p ∈ nx → p.1 ≠ c → p ∈ nx.filter fun p => decide (p.1 ≠ c) := fun hp hn => List.mem_filter.mpr ⟨hp, by simpa using hn⟩
  have fo : ∀ {nx : List (Addr × Obj)} {c : Addr} {p : Addr × Obj}, p ∈ (nx.filter fun p => decide (p.1 ≠ c)) → p ∈ nx ∧ p.1 ≠ c := fun hp => by
    have := List.mem_filter.mp hp
    exact ⟨this.1, by simpa using this.2⟩
  let J : Nat → (Str → Option Value) → List (Addr × Obj) → Prop := fun i m' nx => m' = m ∧ ∃ oc vg nt, nx = (cell, oc) :: nt ∧ oc.data = .cell vg ∧ (∀ p ∈ nt, p.1 ≠ cell) ∧ TabIn P qual nt ∧ (∀ p ∈ keep, p ∈ nt) ∧ ∀ j, j < i → bad j
  have tP : ∀ {h : Heap} {nx : List (Addr × Obj)} {I : Addr} {oI : Obj} {k : Nat}, News h₀ env.locals h nx → (I, oI) ∈ nx → tupIt oI t k → TabIn P qual nx → I ≠ P := fun {_ _ I oI _} N hm hit X e => by
    obtain ⟨ps, hp, _⟩ := X
    have h1 := (N _ hm).1
    have h2 := (N _ hp).1
    rw [show (I, oI).1 = (P, tabObj ps).1 from e, h2] at h1
    have h3 : tabObj ps = oI := Option.some.inj h1
    have h4 := hit.1
    rw [← h3] at h4
    cases h4
  refine ⟨t, xs, m, (cell, oc) :: nx1.filter (fun p => decide (p.1 ≠ cell)), J, rfl, hh, F, ?_, ⟨rfl, oc, vg, _, rfl, dc, fun p hp => (fo hp).2, TI.filt N q1 (.cell dc) hP, fun p hp => fk (hk p hp) (hkc p hp), fun j hj => absurd hj (Nat.not_lt_zero _)⟩, ht, ?_, ?_⟩
  · intro p hp
    rcases List.mem_cons.mp hp with rfl | hp
    · exact N _ q1
    · exact N _ (fo hp).1
  · rintro i v h tk I oI m' nx hx ⟨rfl, oc, vg, nt, rfl, dc', hoff, TI', hk', hb⟩ hit hnI hlt F' N'
    have hIc : I ≠ cell := fun e => hnI _ (.head _) e.symm
    refine wpAny_mono (turn i v h tk I oI oc vg nt hx hb hit hoff hIc (fun p hp => hnI p (.tail _ hp)) dc' TI' hk' F' N') (fun _ s₂ h₂ => wpAny_mono h₂ (fun f s₃ h₃ => ?_) fun _ _ e => e) fun _ _ e => e
    have fin : (∃ h' tk nx oc v, s₃ = { s with heap := h', toks := tk } ∧ Fr h₀ env.locals h' m' ∧ News h₀ env.locals h' nx ∧ (I, oI) ∈ nx ∧ (cell, oc) ∈ nx ∧ oc.data = .cell v ∧ TabIn P qual nx ∧ (∀ p ∈ keep, p ∈ nx) ∧ bad i) →
        ∃ h' tk m'' nx, s₃ = { s with heap := h', toks := tk } ∧ Fr h₀ env.locals h' m'' ∧ News h₀ env.locals h' ((I, oI) :: nx) ∧ (∀ p ∈ nx, p.1 ≠ I) ∧ J (i + 1) m'' nx := by
      rintro ⟨h', tk', nx, oc', v', e, F3, N3, hI3, hc3, dc3, TI3, hk3, hb3⟩
      have TIa := TI3.filt N3 hc3 (.cell dc3) hP
      have Na : News h₀ env.locals h' (nx.filter fun p => decide (p.1 ≠ cell)) := fun p hp => N3 p (fo hp).1
      have hIa := fk hI3 hIc
      have TIb := TIa.filt Na hIa (.iter hit) (tP Na hIa hit TIa)
      refine ⟨h', tk', m', (cell, oc') :: (nx.filter fun p => decide (p.1 ≠ cell)).filter (fun p => decide (p.1 ≠ I)), e, F3, fun p hp => ?_, fun p hp => ?_, rfl, oc', v', _, rfl, dc3, fun p hp => (fo (fo hp).1).2, TIb, fun p hp => fk (fk (hk3 p hp) (hkc p hp)) (hnI p (.tail _ (hk' p hp))), fun j hj => ?_⟩
      · rcases List.mem_cons.mp hp with rfl | hp
        · exact N3 _ hI3
        · rcases List.mem_cons.mp hp with rfl | hp
          · exact N3 _ hc3
          · exact N3 _ (fo (fo hp).1).1
      · rcases List.mem_cons.mp hp with rfl | hp
        · exact Ne.symm hIc
        · exact (fo hp).2
      · rcases Nat.lt_succ_iff_lt_or_eq.mp hj with hj | rfl
        · exact hb j hj
        · exact hb3
    cases f with
    | ret v => exact h₃
    | brk => exact h₃
    | next => exact fin h₃
    | cont => exact fin h₃
  · rintro h tk m' nx ⟨rfl, oc, vg, nt, rfl, _, _, TI', hk', hb⟩ F' N'
    exact done h tk nt hb TI' hk' F' fun p hp => N' p (.tail _ hp)
end
end Mine
end
/-! part U23 -/
section
open PySem PySem.W PyProof.Rows PySem.Spec PySem.Calls
namespace Mine
section
variable {prog : Program} {w : World} {A : Around} {E : Value → Shared → Prop} {s : Shared} {h₀ : Heap} {L : Addr} {m : Str → Option Value} {news rest : List (Addr × Obj)}
/-! an item of a list of the ledger read and stored -/
theorem get_led {l : Addr} {vs : List Value} {n : Nat} {k : Int} {u : Tok} {v : Value} {Q : Value → Shared → Prop}
    (N : News h₀ L s.heap news) (hm : (l, listO vs n) ∈ news) (h0 : 0 ≤ k) (hhi : k < 2 ^ 63) (hx : vs[k.toNat]? = some v) (h : Q v s) :
    wpAny (model prog w) A (getItem (.ref l) (.int k u)) Q E s :=
  have hl : s.heap.IsList l vs.toArray := ⟨_, (N _ hm).1, rfl, n, rfl⟩
  wpAny_getItem_list hl h0 hhi (by simpa using hx) h
theorem set_led {l : Addr} {vs : List Value} {n : Nat} {k : Int} {u : Tok} {x : Value} {Q : Unit → Shared → Prop} (F : Fr h₀ L s.heap m)
    (N : News h₀ L s.heap ((l, listO vs n) :: rest)) (hr : ∀ p ∈ rest, p.1 ≠ l) (h0 : 0 ≤ k) (hhi : k < 2 ^ 63) (hk : k.toNat < vs.length)
    (h : ∀ h', Fr h₀ L h' m → News h₀ L h' ((l, listO (vs.set k.toNat x) n) :: rest) → Q () { s with heap := h' }) :
    wpAny (model prog w) A (setItem (.ref l) (.int k u) x) Q E s := by
  have z := N _ (.head _)
  have hsb : Heap.SameBut l s.heap (s.heap.update l (Obj.mapSeq (·.setIfInBounds k.toNat x))) := Heap.SameBut.update ..
  have hnew := PySem.IsL.update z.1 (·.setIfInBounds k.toNat x)
  have e1 : vs.toArray.setIfInBounds k.toNat x = (vs.set k.toNat x).toArray := by
    apply Array.toList_inj.mp
    simp
  have e2 : (vs.set k.toNat x).toArray.size = vs.toArray.size := by simp
  simp only [e1, e2, beq_self_eq_true, if_true] at hnew
  refine ki_setAt z.1 h0 hhi (by rw [List.size_toArray]; omega) (h _ (F.change hsb z.2.1 z.2.2) fun p hp => ?_)
  rcases List.mem_cons.mp hp with rfl | hp
  · exact ⟨hnew, z.2⟩
  · have y := N p (.tail _ hp)
    exact ⟨(hsb.2 _ (hr p hp)).trans y.1, y.2⟩
end
end Mine
end
/-! part C4 -/
section
open PySem PySem.W PyProof.Rows PySem.Spec PySem.Calls
namespace Mine
local macro_rules | `(tactic| k_room) => `(tactic| ktr_room)
local macro_rules | `(tactic| k_units) => `(tactic| ktr_units)
local macro_rules | `(tactic| walk_at "ite") => `(tactic| first | (refine split_dec ?_ ?_ <;> intro _) | (refine split_bool ?_ ?_ <;> intro _))
local macro_rules | `(tactic| k_mem) => `(tactic| first | exact List.Mem.head _ | (refine' List.Mem.tail _ ?_; k_mem) | assumption | (refine' List.mem_append_right _ ?_; k_mem))
local macro_rules | `(tactic| k_all) => `(tactic| first | assumption | exact allLt_0 (by assumption) | exact allLt_1 (by assumption) | exact allLt_2 (by assumption) | exact allLt_3 (by assumption) | exact allLt_4 (by assumption) | exact allLt_5 (by assumption) | exact allLt_6 (by assumption) | exact allLt_7 (by assumption) | exact allLt_8 (by assumption) | (refine' all_app ?kaR ?kaN; (case kaR => assumption); (case kaN => k_all)) | (refine' all_ne ?kaH ?kaD; (case kaH => assumption); (case kaD => (try dsimp only); omega)))
local macro_rules | `(tactic| walk_at "subscriptTail") => `(tactic| (k_here; (with_reducible show wpAny _ _ (subscriptTail _ _ (Value.ref _) (Value.int _ _)) _ _ _); k_dflt (refine' item_led ?N ?m ?a ?b ?x ?_ ?s; (case N => k_asm); (case m => k_mem); (case a => decide); (case b => decide); (case x => rfl); (case s => with_unfolding_all rfl); k_whole)))
local macro_rules | `(tactic| walk_at "compareOp In str str") => `(tactic| refine in_isIn ?_)
local macro_rules | `(tactic| walk_at "call ref") => `(tactic| (k_here; (with_reducible show wpAny _ _ (call (Value.ref 199) _) _ _ _); k_dflt (refine' pair_ok ?k1 ?k2 ?k3 ?k4 ?k5 ?k6 ?k7 ?k8 ?k9 ?_; (case k1 => k_asm); (case k2 => k_asm); (case k3 => k_asm); (case k4 => k_asm); (case k5 => k_asm); (case k6 => k_mem); (case k7 => k_mem); (case k8 => ktr_room); (case k9 => ktr_units); k_whole); intro t9 h9 tk9 F9 N9; (try k_sweep)))
local macro_rules | `(tactic| walk_at "call ref") => `(tactic| (k_here; (with_reducible show wpAny _ _ (call (Value.ref 206) _) _ _ _); k_dflt (refine' step_ok ?k1 ?k2 ?k3 ?k4 ?k5 ?k6 ?k7 ?k8 ?k9 ?_; (case k1 => k_asm); (case k2 => k_asm); (case k3 => k_asm); (case k4 => k_asm); (case k5 => k_asm); (case k6 => k_mem); (case k7 => k_mem); (case k8 => ktr_room); (case k9 => ktr_units); k_whole); intro t9 h9 tk9 F9 N9; (try k_sweep)))
local macro_rules | `(tactic| walk_at "eval ListComp") => `(tactic| (k_here; k_dflt (refine ListComp_My (by k_asm) (by with_unfolding_all rfl) (by decide) (by rfl) (by decide) (by rfl) ?_)))
local macro_rules | `(tactic| walk_at "exec For Name Call cons nil") => `(tactic| (k_here; (rename Fr _ _ _ _ => lF'); (with_unfolding_all refine' For_My lF' ?k1 ?k2 ?_; (case k1 => exact rfl); (case k2 => exact rfl); k_whole)))
local macro_rules | `(tactic| walk_at "subscriptTail") => `(tactic| (k_here; (with_reducible show wpAny _ _ (subscriptTail _ _ (Value.ref _) (Value.int _ _)) _ _ _); k_dflt (first
  | (refine' row_ref ?N ?c ?X ?a ?b ?_ ?s; (case X => assumption); (case N => k_asm); (case c => (intro p hp; k_ownIn)); (case a => omega); (case b => omega); (case s => with_unfolding_all rfl); k_whole)
  | (refine' cell_int ?N ?c ?X ?i ?a ?b ?_ ?s; (case X => assumption); (case N => k_asm); (case c => (intro p hp; k_ownIn)); (case i => omega); (case a => omega); (case b => omega); (case s => with_unfolding_all rfl); k_whole; intro _))))
local macro_rules | `(tactic| walk_at "TurnPost") => `(tactic| dsimp only [TurnPost])
local macro_rules | `(tactic| walk_at "ite") => `(tactic| first | k_dflt (refine ite_pos (by first | rfl | assumption | (simp only [decide_eq_true_eq]; omega)) ?_) | k_dflt (refine ite_neg (by first | exact Bool.false_ne_true | (simp only [decide_eq_true_eq]; omega)) ?_) | (refine split_dec ?_ ?_ <;> intro _) | (refine split_bool ?_ ?_ <;> intro _))
local macro_rules | `(tactic| walk_at "subscriptTail") => `(tactic| (k_here; (with_reducible show wpAny _ _ (subscriptTail _ _ (Value.str _ _) (Value.int _ _)) _ _ _); k_dflt (refine' item_str ?a ?b ?c ?_; (case a => exact fitsSsize_of (N := 9223372036854775808) (by omega) (by omega) (Int.le_refl _)); (case b => omega); (case c => first | omega | (rw [hereLen]; omega))); intro _))
local macro_rules | `(tactic| walk_at "compareOp NotEq ref ref") => `(tactic| (k_here; k_dflt (refine' ne_nil_led ?N ?a ?b ?u ?_; (case N => k_asm); (case a => k_mem); (case b => k_mem); (case u => k_units); k_whole)))
section
variable {w : World} {p : Program} {loose : List Str} {mean : ExcName → Option Value} {mg mb : Str → Option Value}
    {dp un : Nat} {gd : Option (List Code)} {cn : Str} {nms : List (Str × NameKind)} {ig ic : Bool} {mo : List (Str × Const)} {a : Addr} {ccd : Value} {cl : List (Str × Addr)} {outer : List Env} {A₀ : Around} {base h₀ : Heap} {L : Addr} {m : Str → Option Value} {s : Shared} {Q E : Value → Shared → Prop}
    {news : List (Addr × Obj)}

def farB (n m : Nat) (v h : Nat → Int) (d : Nat → Nat → Int) (i j : Nat) : Int :=
  if i < n then
    if j < m then min (min (farB n m v h d (i + 1) j + v i) (farB n m v h d i (j + 1) + h j)) (farB n m v h d (i + 1) (j + 1) + d i j)
    else farB n m v h d (i + 1) j + v i
  else if j < m then farB n m v h d i (j + 1) + h j else 0
termination_by (n - i) + (m - j)
def farV (g1 g2 g3 fr : Str) (c0 c1 c2 : Int) (x : Str) (i : Nat) : Int := stepC g1 g2 g3 fr c0 c1 c2 (Txt.item (Str.ofString " " ++ x) i) (Txt.item (Str.ofString " " ++ x) (i + 1))
def farD (g1 g2 g3 : Str) (c0 c1 c2 : Int) (x y : Str) (i j : Nat) : Int := pairC g1 g2 g3 c0 c1 c2 (Txt.item x i) (Txt.item y j)
def farT (g1 g2 g3 fr : Str) (c0 c1 c2 : Int) (x y : Str) : Nat → Nat → Int :=
  farB x.length y.length (farV g1 g2 g3 fr c0 c1 c2 x) (farV g1 g2 g3 fr c0 c1 c2 y) (farD g1 g2 g3 c0 c1 c2 x y)
section
variable {x y g1 g2 g3 fr : Str} {c0 c1 c2 : Int} {a b : Nat}
theorem farT_11 (h1 : a < x.length) (h2 : b < y.length) : farT g1 g2 g3 fr c0 c1 c2 x y a b = min (min (farT g1 g2 g3 fr c0 c1 c2 x y (a + 1) b + stepC g1 g2 g3 fr c0 c1 c2 (Txt.item (Str.ofString " " ++ x) a) (Txt.item (Str.ofString " " ++ x) (a + 1)))
    (farT g1 g2 g3 fr c0 c1 c2 x y a (b + 1) + stepC g1 g2 g3 fr c0 c1 c2 (Txt.item (Str.ofString " " ++ y) b) (Txt.item (Str.ofString " " ++ y) (b + 1)))) (farT g1 g2 g3 fr c0 c1 c2 x y (a + 1) (b + 1) + pairC g1 g2 g3 c0 c1 c2 (Txt.item x a) (Txt.item y b)) := by
  unfold farT
  rw [farB, if_pos h1, if_pos h2]
  rfl
theorem farT_10 (h1 : a < x.length) (h2 : ¬ b < y.length) : farT g1 g2 g3 fr c0 c1 c2 x y a b = farT g1 g2 g3 fr c0 c1 c2 x y (a + 1) b + stepC g1 g2 g3 fr c0 c1 c2 (Txt.item (Str.ofString " " ++ x) a) (Txt.item (Str.ofString " " ++ x) (a + 1)) := by
  unfold farT
  rw [farB, if_pos h1, if_neg h2]
  rfl
theorem farT_01 (h1 : ¬ a < x.length) (h2 : b < y.length) : farT g1 g2 g3 fr c0 c1 c2 x y a b = farT g1 g2 g3 fr c0 c1 c2 x y a (b + 1) + stepC g1 g2 g3 fr c0 c1 c2 (Txt.item (Str.ofString " " ++ y) b) (Txt.item (Str.ofString " " ++ y) (b + 1)) := by
  unfold farT
  rw [farB, if_neg h1, if_pos h2]
  rfl
theorem farT_00 (h1 : ¬ a < x.length) (h2 : ¬ b < y.length) : farT g1 g2 g3 fr c0 c1 c2 x y a b = 0 := by
  unfold farT
  rw [farB, if_neg h1, if_neg h2]
end
def FarV (g1 g2 g3 fr : Str) (c0 c1 c2 : Int) (x y : Str) (lo : Bool) (v : Int) : Prop :=
  if lo then (∃ i, i ≤ x.length ∧ v = farT g1 g2 g3 fr c0 c1 c2 x y i 0) ∧ ∀ i, i ≤ x.length → v ≤ farT g1 g2 g3 fr c0 c1 c2 x y i 0
  else v = farT g1 g2 g3 fr c0 c1 c2 x y 0 0
theorem far_ok {x y g1 g2 g3 fr : Str} {t1 t2 u1 u2 u3 v0 v1 v2 t3 : Tok} {c0 c1 c2 : Int} {ca ga : Addr} {lo : Bool}
    (B : Below A₀ base outer h₀) (F : Fr h₀ L s.heap m) (X : (hd.heap_39 w.params).In h₀) (N : News h₀ L s.heap news) (T : Top p loose mean mg mb h₀)
    (hc : (ca, ({ cls := .type "list", data := .seq [Value.int c0 v0, .int c1 v1, .int c2 v2].toArray } : Obj)) ∈ news)
    (hg : (ga, ({ cls := .type "tuple", data := .seq [Value.str g1 u1, .str g2 u2, .str g3 u3].toArray } : Obj)) ∈ news)
    (hd : dp + 20 < recursionLimit) (hu : un + 160 < cLine) (hx : x.length ≤ 100) (hy : y.length ≤ 100)
    (ret : ∀ v t h' tk', FarV g1 g2 g3 fr c0 c1 c2 x y lo v → Fr h₀ L h' m → News h₀ L h' news → Q (.int v t) { s with heap := h', toks := tk' }) :
    wpAny (model PySem.Challenge.rw_fq5039_01.row.prog w) (ktrTop dp un gd cn ⟨.function, nms, ig, ic, mo⟩ L a ccd cl outer) (call (.ref 211) [.str x t1, .str y t2, .ref ca, .ref ga, .str fr t3, .bool lo]) Q E s := by
  w_on
  revert X
  k_fill
  intro X
  w_strict k_steps
  refine MySrc.range (n := x.length + 1) (by rfl) (by k_asm) (by k_asm) (by assumption) (small_one (by omega) (by omega) (by omega) (by omega)) (by rw [rangeSize_nat]; omega) (by rw [PySem.sizeLine_eq]; omega) fun g' => ?_
  refine rows_range (wd := y.length + 1) (fun rl k' t' I' oI' C' oC' D' m' ys' h' tk' E' hC' hx' F' N' off' ne' => ?_) ?_
  · w_strict k_steps
    rename_i i1 n1 s1 e1 e2 e3 l1
    exact LCg.CompEnd.intro (by assumption) (by assumption) ((_, _) :: _) (by kcf_all) ⟨⟨Nat.ne_of_gt l1.2.1, Nat.ne_of_gt l1.2.2.1, Nat.ne_of_gt l1.2.2.2.1⟩, off'⟩ trivial
      ⟨_, _, _, rfl, rfl, rowInts i1, fun p hp => Nat.ne_of_lt (allLt_mem l1.2.2.2.2 p hp)⟩
  · intro rs rl hl h1 h2 h3 h4 D hh tk FD ND off1
    have N2 := news_perm4 ND
    have h6 := fun p hp => h3 p hp _ (.tail _ (.tail _ (.head _)))
    dsimp only at h6
    have h7 := neN (off1_mem off1 _ (List.mem_append_right _ (.tail _ (.tail _ (.head _)))))
    dsimp only at h7
    w_strict k_steps
    rename News _ _ _ _ => NL
    rename IsRange _ _ _ _ _ _ _ _ => RG
    obtain ⟨R, keep, hM, hkL, hkR, hk3, hk4, hkn⟩ := far_pack NL hl h1 h2 h4 off1 rfl ⟨by omega, by omega⟩
    unfold MyIter
    refine rangeG (n := x.length + 1) ["j", "ways"] (fun k nw => (∀ p ∈ keep, p ∈ nw) ∧ ∃ M, MatIn nw D R (x.length + 1) (y.length + 1) M ∧ M x.length y.length = 0 ∧ ∀ a b, a ≤ x.length → b ≤ y.length → x.length < a + k → M a b = farT g1 g2 g3 fr c0 c1 c2 x y a b)
      (by rfl) RG (small_down (by omega) (by omega) (by omega) (by omega)) (by rw [rangeSize_downNat]; omega) (by k_asm) NL ⟨hkL, _, hM, rfl, fun a b h1 h2 h3 => by omega⟩
      (fun i tI u nw hT tkT I oI hi hwI hJ FT NT => ?_) (fun u nw hT tkT hJ FT NT => ?_)
    · obtain ⟨hkw, M, hMw, hM0, hMB⟩ := hJ
      have k3 := hkw _ hk3
      have k4 := hkw _ hk4
      have kc := hkw _ (hkn _ hc)
      have kg := hkw _ (hkn _ hg)
      clear hM hkL NL
      obtain ⟨a9, ha9⟩ : ∃ a9 : Nat, (x.length : Int) + i * (-1) = a9 := ⟨x.length - i, by omega⟩
      rw [ha9] at FT
      have hRI : ∀ i, i < x.length + 1 → R i ≠ I := fun i hi => by
        obtain ⟨vs, k, hm, _⟩ := hMw.row i hi
        exact hwI _ hm
      w_strict k_steps
      rename News _ _ _ _ => NL2
      rename IsRange _ _ _ _ _ _ _ _ => RG2
      unfold MyIter
      refine rangeG (n := y.length + 1) ["ways"] (fun k nw2 => (∀ p ∈ (I, oI) :: keep, p ∈ nw2) ∧ ∃ M, MatIn nw2 D R (x.length + 1) (y.length + 1) M ∧ M x.length y.length = 0 ∧ ∀ a b, a ≤ x.length → b ≤ y.length → (a9 < a ∨ (a = a9 ∧ y.length < b + k)) → M a b = farT g1 g2 g3 fr c0 c1 c2 x y a b)
        (by rfl) RG2 (small_down (by omega) (by omega) (by omega) (by omega)) (by rw [rangeSize_downNat]; omega) (by k_asm) NL2 ⟨?_, M, hMw.sub (fun p hp => .tail _ hp), hM0, fun a b h1 h2 h3 => hMB a b h1 h2 (by omega)⟩
        (fun c tJ u2 nw2 hT2 tkT2 I2 oI2 hi2 hwI2 hJ2 FT2 NT2 => ?_) (fun u2 nw2 hT2 tkT2 hJ2 FT2 NT2 => ?_)
      · intro p hp
        rcases List.mem_cons.mp hp with rfl | hp
        · exact .head _
        · exact .tail _ (hkw p hp)
      · obtain ⟨hkw2, M2, hMw2, hM02, hMB2⟩ := hJ2
        have k3' := hkw2 _ (.tail _ hk3)
        have k4' := hkw2 _ (.tail _ hk4)
        have kc' := hkw2 _ (.tail _ (hkn _ hc))
        have kg' := hkw2 _ (.tail _ (hkn _ hg))
        obtain ⟨b9, hb9⟩ : ∃ b9 : Nat, (y.length : Int) + c * (-1) = b9 := ⟨y.length - c, by omega⟩
        rw [hb9] at FT2
        have hRI2 : ∀ i, i < x.length + 1 → R i ≠ I2 := fun i hi => by
          obtain ⟨vs, k, hm, _⟩ := hMw2.row i hi
          exact hwI2 _ hm
        clear hMw NL2 RG2 k3 k4 kc kg hwI
        have hNa : ((a9 : Int) + 1).toNat = a9 + 1 := by omega
        have hNb : ((b9 : Int) + 1).toNat = b9 + 1 := by omega
        have hkeep2 : ∀ (oS : Obj), a9 < x.length + 1 → ∀ p ∈ (I, oI) :: keep, p ∈ updL (R a9) oS nw2 := fun oS hA p hp => updL_other (hkw2 p hp) (by
          rcases List.mem_cons.mp hp with rfl | hp
          · exact fun q => hRI a9 hA q.symm
          · exact hkR p hp a9 hA)
        have hoff2 : ∀ (oS : Obj), ∀ p ∈ updL (R a9) oS nw2, p.1 ∉ [I2] := fun oS p hp q => by
          obtain ⟨q', hq', e⟩ := updL_fst hp
          exact hwI2 q' hq' (e ▸ List.mem_singleton.mp q)
        have hfin : ∀ (oS : Obj) (v : Int), v = farT g1 g2 g3 fr c0 c1 c2 x y a9 b9 → a9 < x.length + 1 → ¬ (x.length = a9 ∧ y.length = b9) → MatIn (updL (R a9) oS nw2) D R (x.length + 1) (y.length + 1) (setM M2 a9 b9 v) →
            ∃ M, MatIn (updL (R a9) oS nw2) D R (x.length + 1) (y.length + 1) M ∧ M x.length y.length = 0 ∧ ∀ a b, a ≤ x.length → b ≤ y.length → (a9 < a ∨ (a = a9 ∧ y.length < b + (c + 1))) → M a b = farT g1 g2 g3 fr c0 c1 c2 x y a b := fun oS v hv hA hne hM => by
          refine ⟨_, hM, ?_, fun a b h1 h2 h3 => ?_⟩
          · show (if x.length = a9 ∧ y.length = b9 then v else M2 x.length y.length) = 0
            rw [if_neg hne, hM02]
          · show (if a = a9 ∧ b = b9 then v else M2 a b) = _
            by_cases e : a = a9 ∧ b = b9
            · rw [if_pos e, e.1, e.2]; exact hv
            · rw [if_neg e]; exact hMB2 a b h1 h2 (by omega)
        have E1 : a9 < x.length → M2 (a9 + 1) b9 = _ := fun h => hMB2 (a9 + 1) b9 (by omega) (by omega) (by omega)
        have E2 : b9 < y.length → M2 a9 (b9 + 1) = _ := fun h => hMB2 a9 (b9 + 1) (by omega) (by omega) (by omega)
        have E3 : a9 < x.length → b9 < y.length → M2 (a9 + 1) (b9 + 1) = _ := fun h h' => hMB2 (a9 + 1) (b9 + 1) (by omega) (by omega) (by omega)
        w_strict k_steps
        · rename_i M' t' k' F' N' ha hb
          refine cell_set (i := a9) (fr := [(I2, oI2)]) (by k_asm) (by k_asm) (by kcf_all) (List.forall_mem_cons.mpr ⟨fun q => hRI2 a9 (by omega) q.symm, List.forall_mem_nil _⟩) (by intro p hp; k_ownIn) hMw2 (by omega) (by omega) (by omega) fun hS oS FS NS MS => ?_
          w_strict k_steps
          refine ⟨_, _, _, _, rfl, FS, ?_, NS, hoff2 oS, hkeep2 oS (by omega), hfin oS M' ?_ (by omega) (by omega) MS⟩
          · intro z hz1 hz2; simp at hz2; simp [hz1, hz2]
          · simp only [hNa, hNb, Int.toNat_natCast] at ha hb
            rw [E1 (by omega), E2 (by omega), E3 (by omega) (by omega)] at ha hb
            rw [farT_11 (by omega) (by omega)]
            omega
        · rename_i M' t' k' F' N' ha hb
          refine cell_set (i := a9) (fr := [(I2, oI2)]) (by k_asm) (by k_asm) (by kcf_all) (List.forall_mem_cons.mpr ⟨fun q => hRI2 a9 (by omega) q.symm, List.forall_mem_nil _⟩) (by intro p hp; k_ownIn) hMw2 (by omega) (by omega) (by omega) fun hS oS FS NS MS => ?_
          w_strict k_steps
          refine ⟨_, _, _, _, rfl, FS, ?_, NS, hoff2 oS, hkeep2 oS (by omega), hfin oS M' ?_ (by omega) (by omega) MS⟩
          · intro z hz1 hz2; simp at hz2; simp [hz1, hz2]
          · simp only [hNa, hNb, Int.toNat_natCast] at ha hb
            rw [E1 (by omega)] at ha hb
            rw [farT_10 (by omega) (by omega)]
            omega
        · rename_i M' t' k' F' N' ha hb
          refine cell_set (i := a9) (fr := [(I2, oI2)]) (by k_asm) (by k_asm) (by kcf_all) (List.forall_mem_cons.mpr ⟨fun q => hRI2 a9 (by omega) q.symm, List.forall_mem_nil _⟩) (by intro p hp; k_ownIn) hMw2 (by omega) (by omega) (by omega) fun hS oS FS NS MS => ?_
          w_strict k_steps
          refine ⟨_, _, _, _, rfl, FS, ?_, NS, hoff2 oS, hkeep2 oS (by omega), hfin oS M' ?_ (by omega) (by omega) MS⟩
          · intro z hz1 hz2; simp at hz2; simp [hz1, hz2]
          · simp only [hNa, hNb, Int.toNat_natCast] at ha hb
            rw [E2 (by omega)] at ha hb
            rw [farT_01 (by omega) (by omega)]
            omega
        · refine ⟨_, _, _, nw2, rfl, by k_asm, ?_, cb_drop (by k_asm) (by kcf_all), fun p hp q => hwI2 p hp (List.mem_singleton.mp q), hkw2, M2, hMw2, hM02, fun a b h1 h2 h3 => ?_⟩
          · intro z hz1 hz2; simp at hz2; simp [hz1, hz2]
          · by_cases e : a = a9 ∧ b = b9
            · obtain ⟨rfl, rfl⟩ := e
              rw [farT_00 (by omega) (by omega)]
              have e1 : a = x.length := by omega
              have e2 : b = y.length := by omega
              rw [e1, e2]; exact hM02
            · exact hMB2 a b h1 h2 (by omega)
      · obtain ⟨hkw2, M2, hMw2, hM02, hMB2⟩ := hJ2
        dsimp only
        w_strict k_steps
        refine ⟨_, _, _, nw2.filter fun p => decide (p.1 ≠ I), rfl, FT2, ?_, ?_, ?_, ?_, M2, ?_, hM02, fun a b h1 h2 h3 => hMB2 a b h1 h2 (by omega)⟩
        · intro z hz1 hz2; simp at hz2; simp [hz1, hz2]
        · intro p hp
          rcases List.mem_cons.mp hp with rfl | hp
          · exact NT2 _ (hkw2 _ (.head _))
          · exact NT2 _ (List.mem_filter.mp hp).1
        · intro p hp q
          have := (List.mem_filter.mp hp).2
          simp [List.mem_singleton.mp q] at this
        · intro p hp
          exact List.mem_filter.mpr ⟨hkw2 p (.tail _ hp), by simpa using hwI p (hkw p hp)⟩
        · obtain ⟨k, hD⟩ := hMw.top
          exact hMw2.filter (hwI _ hD) hRI
    · obtain ⟨hkw, M, hMw, hM0, hMB⟩ := hJ
      have k3 := hkw _ hk3
      have k4 := hkw _ hk4
      clear hM hkL NL
      dsimp only
      w_strict k_steps
      · refine MySrc.range (n := x.length + 1) (by rfl) (by k_asm) (by k_asm) (by assumption) (small_one (by omega) (by omega) (by omega) (by omega)) (by rw [rangeSize_nat]; omega) (by rw [PySem.sizeLine_eq]; omega) fun g' => ?_
        refine kcf_range (fun k => M k.toNat 0) (fun k' t' I' oI' C' oC' D' m' ys' h' tk' E' hlo' hhi' hC' hx' F' N' off' ne' hMark' => ?_) ?_
        · w_strict k_steps
          exact kcf_el rfl rfl rfl
        · unfold KPfDone
          intro ys hys D2 hh2 tk2 FD2 ND2 off2
          have hlen : 0 < ((rangeKs 0 (x.length + 1)).map fun k => M k.toNat 0).length := by rw [List.length_map, rangeKs_length]; omega
          w_strict k_steps
          rename_i ha hb hkF hkN hTc hkX
          refine ret _ _ _ _ ?_ (by assumption) (cb_drop (by k_asm) (fun p hp => .tail _ (hkw p (hkn p hp))))
          have hlo : lo = true := by assumption
          rw [FarV, if_pos hlo]
          refine ⟨?_, fun i hi => ?_⟩
          · obtain ⟨k, hk, rfl⟩ := List.mem_map.mp ha
            have hk' := mem_rangeKs hk
            refine ⟨k.toNat, by omega, hMB _ _ (by omega) (by omega) (by omega)⟩
          · have h9 := hb (M i 0) (List.mem_map.mpr ⟨(i : Int), List.mem_map.mpr ⟨i, List.mem_range.mpr (by omega), by omega⟩, by simp⟩)
            rwa [hMB i 0 (by omega) (by omega) (by omega)] at h9
      · refine ret _ _ _ _ ?_ (by assumption) (cb_drop (by k_asm) (fun p hp => hkw p (hkn p hp)))
        have hlo : lo = false := by assumption
        rw [FarV, if_neg (by rw [hlo]; exact Bool.false_ne_true)]
        exact hMB 0 0 (by omega) (by omega) (by omega)
end
end Mine
end
/-! part C5 -/
section
open PySem PySem.W PyProof.Rows PySem.Spec PySem.Calls
namespace Mine
local macro_rules | `(tactic| k_room) => `(tactic| ktr_room)
local macro_rules | `(tactic| k_units) => `(tactic| ktr_units)
local macro_rules | `(tactic| walk_at "ite") => `(tactic| first | (refine split_dec ?_ ?_ <;> intro _) | (refine split_bool ?_ ?_ <;> intro _))
local macro_rules | `(tactic| k_mem) => `(tactic| first | exact List.Mem.head _ | (refine' List.Mem.tail _ ?_; k_mem) | assumption | (refine' List.mem_append_right _ ?_; k_mem))
local macro_rules | `(tactic| k_all) => `(tactic| first | assumption | exact allLt_0 (by assumption) | exact allLt_1 (by assumption) | exact allLt_2 (by assumption) | exact allLt_3 (by assumption) | exact allLt_4 (by assumption) | exact allLt_5 (by assumption) | exact allLt_6 (by assumption) | exact allLt_7 (by assumption) | exact allLt_8 (by assumption) | (refine' all_app ?kaR ?kaN; (case kaR => assumption); (case kaN => k_all)) | (refine' all_ne ?kaH ?kaD; (case kaH => assumption); (case kaD => (try dsimp only); omega)))
local macro_rules | `(tactic| walk_at "getAttr ref") => `(tactic| (k_here; (with_reducible show wpAny _ _ (getAttr (Value.ref _) (PySem.Str.ofString "_ident") _) _ _ _); k_dflt (refine' get_smI ?k1 ?k2 ?k4 ?k5 ?k6 ?k7 ?k9 ?k10 ?k11 ?k12 ?k13 ?k14 ?_; (case k1 => k_asm); (case k2 => k_asm); (case k4 => k_inst); (case k5 => k_is); (case k6 => k_is); (case k7 => k_is); (case k9 => k_is); (case k10 => k_is); (case k11 => decide +kernel); (case k12 => k_get); (case k13 => k_is); (case k14 => k_handed); k_whole)))
local macro_rules | `(tactic| walk_at "eval Call Attribute") => `(tactic| (k_here; (with_reducible show wpAny _ _ (eval (Expr.Call (Expr.Attribute _ _ _) [Expr.Starred _ _] [] _) _) _ _ _); (refine StarCall ?_)))
local macro_rules | `(tactic| k_enter) => `(tactic| (kp_kind "rest"; (fail_if_success k_inElt); (refine' restC ?k1 ?k2 ?k3 ?k4 ?k5 ?kA ?kF ?kK ?k6 ?k7 ?k8 ?kV ?kP ?kG ?kB ?kD ?_ ?c2 ?c3 ?c4; (case kA => exact rfl); (case kF => exact rfl); (case kK => exact rfl); (case k1 => k_asm); (case k2 => k_asm); (case k3 => k_asm); (case k4 => k_asm); (case k5 => k_asm); (case k6 => k_is); (case k7 => k_is); (case k8 => k_room); (case kV => kl_lit); (case kP => exact rfl); (case kG => exact fun _ => rfl); (case kB => exact fun _ => rfl); (case kD => decide +kernel); (case c2 => exact rfl); (case c3 => exact rfl); (case c4 => exact rfl); k_whole; intro D' g' L' h' tk' cells' l1 FG' F' N' Y' B' X' T' l2 l3; k_cells Y'; (try simp only [List.cons_append, List.nil_append] at N'); (try dsimp only); (try k_lift B'); (try k_fold))))
local macro_rules | `(tactic| walk_at "call ref") => `(tactic| (k_here; (with_reducible show wpAny _ _ (call (Value.ref 95) _) _ _ _); k_dflt (refine' ident_ok ?k1 ?k2 ?k3 ?k4 ?k5 ?k8 ?k9 ?_; (case k1 => k_asm); (case k2 => k_asm); (case k3 => k_asm); (case k4 => k_asm); (case k5 => k_asm); (case k8 => ktr_room); (case k9 => ktr_units); k_whole); intro t9 h9 tk9 F9 N9; (try k_sweep)))
local macro_rules | `(tactic| walk_at "call type:map") => `(tactic| (k_here; k_dflt (refine' mp_make ?k1 ?k2 ?k3 ?_; (case k1 => k_asm); (case k2 => k_asm); (case k3 => k_mem); k_whole); intro M9 T9 I9 oi9 h9 F9 N9 it9 l9 l8 l7; (try k_sweep)))
local macro_rules | `(tactic| walk_at "call ref") => `(tactic| (k_here; (fail_if_success with_reducible show wpAny _ _ (call (Value.ref 95) _) _ _ _); k_dflt (refine wpAny_call ?_; kla_enter)))
local macro_rules | `(tactic| walk_at "compareOp In str str") => `(tactic| refine in_isIn ?_)
local macro_rules | `(tactic| walk_at "compareOp NotIn str str") => `(tactic| refine notin_isIn ?_)

abbrev ent (w : World) (n : Str) (k : Tok) (v : Value) : DictEntry := ⟨PyData.keyHash w.params n, .str n k, v⟩
abbrev editD (w : World) (k1 k2 k3 k4 k5 k6 k7 k8 : Tok) (v1 v2 v3 v4 v5 v6 v7 v8 : Value) : Obj :=
  dictOf [ent w (Str.ofString "match_cost") k1 v1, ent w (Str.ofString "group_cost") k2 v2, ent w (Str.ofString "mismatch_cost") k3 v3, ent w (Str.ofString "local") k4 v4,
    ent w (Str.ofString "external") k5 v5, ent w (Str.ofString "groups") k6 v6, ent w (Str.ofString "ungrouped") k7 v7, ent w (Str.ofString "grouped") k8 v8] 8
section
variable {w : World} {p : Program} {loose : List Str} {mean : ExcName → Option Value} {mg mb : Str → Option Value}
    {dp un : Nat} {gd : Option (List Code)} {cn : Str} {nms : List (Str × NameKind)} {ig ic : Bool} {mo : List (Str × Const)} {a : Addr} {ccd : Value} {cl : List (Str × Addr)} {outer : List Env} {A₀ : Around} {base h₀ : Heap} {L : Addr} {m : Str → Option Value} {s : Shared} {Q E : Value → Shared → Prop}
    {news : List (Addr × Obj)}

abbrev lamQ : Str := Str.ofString "Editex.r_cost.<locals>.<lambda>"
abbrev entryOf {p : Addr × Obj} {nx : List (Addr × Obj)} (_ : p ∈ nx) : Addr × Obj := p
theorem notF_cell {o : Obj} {v : Option Value} (h : o.data = .cell v) : NotF o := fun vs e => by rw [h] at e; cases e
theorem it_tab {h₀ h : Heap} {L P I t : Addr} {oI : Obj} {qual : Str} {nx nx' : List (Addr × Obj)} {k : Nat} (N : News h₀ L h nx) (hm : (I, oI) ∈ nx) (hit : tupIt oI t k) (X : TabIn P qual nx') (hk : ∀ p ∈ nx', p ∈ nx) : I ≠ P := fun e => by
  obtain ⟨ps, hp, _⟩ := X
  have h1 := (N _ hm).1
  have h2 := (N _ (hk _ hp)).1
  rw [show (I, oI).1 = (P, tabObj ps).1 from e, h2] at h1
  have h3 : tabObj ps = oI := Option.some.inj h1
  have h4 := hit.1
  rw [← h3] at h4
  cases h4
theorem pc_0 {g1 g2 g3 x y : Str} {c0 c1 c2 : Int} (h : x = y) : c0 = pairC g1 g2 g3 c0 c1 c2 x y := (if_pos h).symm
theorem pc_1 {g1 g2 g3 g x y : Str} {c0 c1 c2 : Int} {i : Nat} (h : ¬ x = y) (eg : [g1, g2, g3].getD i ⟨#[]⟩ = g) (hi : i < 3) (hh : [isIn x g, isIn y g].all id = true) : c1 = pairC g1 g2 g3 c0 c1 c2 x y := by
  have h2 : pairHit g1 g2 g3 x y = true := by
    unfold pairHit
    rw [List.any_eq_true]
    refine ⟨g, ?_, by simpa using hh⟩
    rw [← eg]
    match i, hi with
    | 0, _ => simp
    | 1, _ => simp
    | 2, _ => simp
  unfold pairC; rw [if_neg h, if_pos h2]
theorem pc_2 {g1 g2 g3 x y : Str} {c0 c1 c2 : Int} (h : ¬ x = y) (hb : ∀ j, j < 3 → (isIn x ([g1, g2, g3].getD j ⟨#[]⟩) && isIn y ([g1, g2, g3].getD j ⟨#[]⟩)) = false) : c2 = pairC g1 g2 g3 c0 c1 c2 x y := by
  have h2 : pairHit g1 g2 g3 x y = false := by
    have a := hb 0 (by omega)
    have b := hb 1 (by omega)
    have c := hb 2 (by omega)
    simp only [List.getD_cons_zero, List.getD_cons_succ] at a b c
    simp only [pairHit, List.any_cons, List.any_nil, a, b, c, Bool.or_false]
  unfold pairC; rw [if_neg h, h2, if_neg Bool.false_ne_true]
theorem pc_3 {g1 g2 g3 gr x y : Str} {c0 c1 c2 : Int} (h : ¬ x = y) (jx : isIn x gr = [g1, g2, g3].any (isIn x)) (jy : isIn y gr = [g1, g2, g3].any (isIn y)) (hb : [!isIn x gr, !isIn y gr].any id = true) : c2 = pairC g1 g2 g3 c0 c1 c2 x y := by
  refine pc_2 h fun j hj => ?_
  simp only [List.any_cons, List.any_nil, Bool.or_false] at jx jy
  simp only [List.any_cons, List.any_nil, Bool.or_false, id_eq, Bool.or_eq_true, Bool.not_eq_true'] at hb
  rcases hb with e | e
  · rw [e] at jx
    have q := jx.symm
    simp only [Bool.or_eq_false_iff] at q
    match j, hj with
    | 0, _ => simp [q.1]
    | 1, _ => simp [q.2.1]
    | 2, _ => simp [q.2.2]
  · rw [e] at jy
    have q := jy.symm
    simp only [Bool.or_eq_false_iff] at q
    match j, hj with
    | 0, _ => simp [q.1]
    | 1, _ => simp [q.2.1]
    | 2, _ => simp [q.2.2]
theorem notF_seq {c : Value} {d : Option Addr} {vs : Array Value} {n : Nat} {sl : Array (Option Value)} : NotF ⟨c, d, .seq vs n, sl⟩ := fun _ e => by cases e
theorem notF_plain {c : Value} {d : Option Addr} {sl : Array (Option Value)} : NotF ⟨c, d, .plain, sl⟩ := fun _ e => by cases e
theorem notF_dict {c : Value} {d : Option Addr} {es : Array DictEntry} {n : Nat} {sl : Array (Option Value)} : NotF ⟨c, d, .dict es n, sl⟩ := fun _ e => by cases e
theorem rcost_code {x y g1 g2 g3 gr fr : Str} {t1 t2 u1 u2 u3 k1 k2 k3 k4 k5 k6 k7 k8 t3 t4 t5 t6 t7 : Tok} {c0 c1 c2 : Int} {e d ga : Addr} {lo : Bool}
    (B : Below A₀ base outer h₀) (F : Fr h₀ L s.heap m) (X : (hd.heap_39 w.params).In h₀) (N : News h₀ L s.heap news) (T : Top p loose mean mg mb h₀) (HC : CodeHd base 176 172) (TI : TabIn 172 lamQ news)
    (hI : (e, instObj 192 d) ∈ news) (hD : (d, editD w k1 k2 k3 k4 k5 k6 k7 k8 (.int c0 t3) (.int c1 t4) (.int c2 t5) (.bool lo) (.bool true) (.ref ga) (.str fr t6) (.str gr t7)) ∈ news)
    (hg : (ga, ({ cls := .type "tuple", data := .seq [Value.str g1 u1, .str g2 u2, .str g3 u3].toArray } : Obj)) ∈ news)
    (hd : dp + 20 < recursionLimit) (hu : un + 160 < cLine)
    (jx : isIn x gr = [g1, g2, g3].any (isIn x)) (jy : isIn y gr = [g1, g2, g3].any (isIn y))
    (ret₀ : ∀ t h' tk' nx', Fr h₀ L h' m → News h₀ L h' nx' → TabIn 172 lamQ nx' → (∀ p ∈ news, p.1 ≠ 172 → p ∈ nx') → Q (.int (pairC g1 g2 g3 c0 c1 c2 x y) t) { s with heap := h', toks := tk' }) :
    codeAny (model PySem.Challenge.rw_fq5039_01.row.prog w) (ktrTop dp un gd cn ⟨.function, nms, ig, ic, mo⟩ L a ccd cl outer) (.call (.ref 177) ⟨[.ref e, .str x t1, .str y t2], []⟩) (fun r s' => match r with | .ok (.ret v) => Q v s' | .ok _ => False | .error e => E e s') s := by
  have ret : ∀ v t h' tk' nx', v = pairC g1 g2 g3 c0 c1 c2 x y → Fr h₀ L h' m → News h₀ L h' nx' → TabIn 172 lamQ nx' → (∀ p ∈ news, p.1 ≠ 172 → p ∈ nx') → Q (.int v t) { s with heap := h', toks := tk' } := fun v t h' tk' nx' e a b c d => e ▸ ret₀ t h' tk' nx' a b c d
  clear ret₀
  w_on
  revert X
  k_fill
  intro X
  k_enter
  w_strict k_steps
  · exact ret _ _ _ _ _ (pc_0 (by assumption)) (by assumption) (by assumption) (TI.sub (by intro p hp; k_ownIn)) (by intro p hp _; k_ownIn)
  refine kla_eval (by rfl) ?_
  rename News _ _ _ _ => NL
  refine lam_led (by k_asm) NL (by k_asm) (CodeHd.keeps (by assumption) (Below.stays (by assumption))) rfl (TI.sub (by intro p hp; k_ownIn)) rfl fun f1 c1' ctv1 oc1 vs1 tt1 nx1 h1 tk1 F1 N1 TI1 hc1 hc2 hc3 hs lf => ?_
  have hs1 := hs
  simp only [List.forall_mem_cons] at hs1
  obtain ⟨s1, s2, s3, sn⟩ := hs1
  have hP := ne_tab NL (.head _) TI (by intro p hp; k_ownIn) (notF_cell (by assumption))
  have q1 := s1 hP
  have q2 := s2 (ne_tab NL (.tail _ (.head _)) TI (by intro p hp; k_ownIn) (notF_cell (by assumption)))
  have q3 := s3 (ne_tab NL (.tail _ (.tail _ (.head _))) TI (by intro p hp; k_ownIn) notF_seq)
  have q4 := sn _ hI (ne_tab N hI TI (fun _ h => h) notF_plain)
  have q5 := sn _ hD (ne_tab N hD TI (fun _ h => h) notF_dict)
  have q6 := sn _ hg (ne_tab N hg TI (fun _ h => h) notF_seq)
  clear s1 s2 s3 NL
  w_strict k_steps
  · refine any_mp [!isIn x gr, !isIn y gr] (by k_asm) (by assumption) (by assumption) rfl rfl (by assumption) (by assumption) (by assumption) (by k_mem) ?hf ?_
    case hf =>
      intro i v hi s' Q' E' oi' F' N' rr
      match i, hi with
      | 0, hi =>
        obtain rfl := Option.some.inj hi
        w_strict k_steps
        exact rr _ _ (by assumption) (by assumption)
      | 1, hi =>
        obtain rfl := Option.some.inj hi
        w_strict k_steps
        exact rr _ _ (by assumption) (by assumption)
    intro h9 tk9 F9 N9
    w_strict k_steps
    · exact ret _ _ _ _ _ (pc_3 (by assumption) jx jy (by assumption)) (by assumption) (by assumption) (TI1.sub (by intro p hp; k_ownIn)) (by intro p hp hn; exact .tail _ (sn p hp hn))
    refine For_tup F9 ?_
    w_strict k_steps
    refine grpSrc (A := _) (env := _) (m := _) (P := 172) (qual := lamQ) (xs := [Value.str g1 u1, .str g2 u2, .str g3 u3]) (nx1 := nx1) (keep := entryOf q2 :: entryOf q3 :: (e, instObj 192 d) :: entryOf hD :: (ga, ({ cls := .type "tuple", data := .seq [Value.str g1 u1, .str g2 u2, .str g3 u3].toArray } : Obj)) :: news.filter (fun p => decide (p.1 ≠ 172))) (fun j => (isIn x ([g1, g2, g3].getD j ⟨#[]⟩) && isIn y ([g1, g2, g3].getD j ⟨#[]⟩)) = false) ?gh F9 ?gN q1 (by assumption) ?gP TI1 ?gk ?gc ?gt ?turn ?done
    case gh => rfl
    case gN => exact fun p hp => N9 p (.tail _ hp)
    case gP => exact hP
    case gk =>
      intro p hp
      simp only [List.mem_cons, List.mem_filter, decide_eq_true_eq] at hp
      rcases hp with rfl | rfl | rfl | rfl | rfl | hp
      · exact q2
      · exact q3
      · exact q4
      · exact q5
      · exact q6
      · exact sn p hp.1 hp.2
    case gc =>
      rename ∀ p ∈ news, p.1 < _ => l2
      intro p hp
      simp only [List.mem_cons, List.mem_filter, decide_eq_true_eq] at hp
      rcases hp with rfl | rfl | rfl | rfl | rfl | hp
      · exact Nat.ne_of_lt (Nat.lt_succ_self _)
      · exact Nat.ne_of_lt (Nat.lt_succ_of_lt (Nat.lt_succ_of_lt (by assumption)))
      · exact Nat.ne_of_lt (Nat.lt_succ_of_lt (Nat.lt_succ_of_lt (l2 _ hI)))
      · exact Nat.ne_of_lt (Nat.lt_succ_of_lt (Nat.lt_succ_of_lt (l2 _ hD)))
      · exact Nat.ne_of_lt (Nat.lt_succ_of_lt (Nat.lt_succ_of_lt (l2 _ hg)))
      · exact Nat.ne_of_lt (Nat.lt_succ_of_lt (Nat.lt_succ_of_lt (l2 _ hp.1)))
    case gt => exact .tail _ (.tail _ (.tail _ (.tail _ (.head _))))
    case turn =>
      dsimp only [entryOf]
      clear q1 q2 q3 q4 q5 q6 sn lf hs hc1 hc2 hc3 TI1 N9 F9
      intro i v h tk I oI oc vg nt hx hbad hit hoff hIc hnI hdc TI3 hk3 F3 N3
      have q2 := hk3 _ (.head _)
      have q3 := hk3 _ (.tail _ (.head _))
      have q4 := hk3 _ (.tail _ (.tail _ (.head _)))
      have q5 := hk3 _ (.tail _ (.tail _ (.tail _ (.head _))))
      have q6 := hk3 _ (.tail _ (.tail _ (.tail _ (.tail _ (.head _)))))
      have sn : ∀ p ∈ news, p.1 ≠ 172 → p ∈ nt := fun p hp hn => hk3 p (.tail _ (.tail _ (.tail _ (.tail _ (.tail _ (List.mem_filter.mpr ⟨hp, by simpa using hn⟩))))))
      clear hk3
      obtain ⟨g, ug, rfl, eg⟩ : ∃ g u, v = .str g u ∧ ([g1, g2, g3].getD i ⟨#[]⟩) = g := by
        match i, hx with
        | 0, hx => exact ⟨_, _, (Option.some.inj hx).symm, rfl⟩
        | 1, hx => exact ⟨_, _, (Option.some.inj hx).symm, rfl⟩
        | 2, hx => exact ⟨_, _, (Option.some.inj hx).symm, rfl⟩
      w_strict k_steps
      refine kla_eval (by rfl) ?_
      rename News _ _ _ _ => NL
      refine lam_led (by k_asm) NL (by k_asm) (CodeHd.keeps (by assumption) (Below.stays (by assumption))) rfl (TI3.sub (by intro p hp; k_ownIn)) rfl fun f2 c2' ctv2 oc2 vs2 tt2 nx2 h2 tk2 F2 N2 TI2 e1 e2 e3 hs2 lf2 => ?_
      simp only [List.forall_mem_cons] at hs2
      obtain ⟨s1, s2, sn2⟩ := hs2
      have hI3 := s1 (it_tab NL (.head _) hit TI3 (by intro p hp; k_ownIn))
      have hc3 := s2 hP
      replace q4 := sn2 _ q4 (ne_tab NL (.tail _ (.tail _ q4)) TI3 (by intro p hp; k_ownIn) notF_plain)
      replace q5 := sn2 _ q5 (ne_tab NL (.tail _ (.tail _ q5)) TI3 (by intro p hp; k_ownIn) notF_dict)
      replace q6 := sn2 _ q6 (ne_tab NL (.tail _ (.tail _ q6)) TI3 (by intro p hp; k_ownIn) notF_seq)
      replace q3 := sn2 _ q3 (ne_tab NL (.tail _ (.tail _ q3)) TI3 (by intro p hp; k_ownIn) notF_seq)
      replace q2 := sn2 _ q2 (ne_tab NL (.tail _ (.tail _ q2)) TI3 (by intro p hp; k_ownIn) (notF_cell (by assumption)))
      replace sn : ∀ p ∈ news, p.1 ≠ 172 → p ∈ nx2 := fun p hp hn => sn2 p (sn p hp hn) hn
      clear s1 s2 sn2 NL
      w_strict k_steps
      refine all_mp [isIn x g, isIn y g] (by k_asm) (by assumption) (by assumption) rfl rfl (by assumption) (by assumption) (by assumption) (by k_mem) ?hf ?_
      case hf =>
        intro i v hi s' Q' E' oi' F' N' rr
        match i, hi with
        | 0, hi =>
          obtain rfl := Option.some.inj hi
          w_strict k_steps
          exact rr _ _ (by assumption) (by assumption)
        | 1, hi =>
          obtain rfl := Option.some.inj hi
          w_strict k_steps
          exact rr _ _ (by assumption) (by assumption)
      intro h9 tk9 F9 N9
      w_strict k_steps
      · (try refine GrpTurn.ret ?_)
        dsimp only
        w_strict k_steps
        have hi3 : i < 3 := by
          have := (List.getElem?_eq_some_iff.mp hx).1
          simpa using this
        exact ret _ _ _ _ _ (pc_1 (by assumption) eg hi3 (by assumption)) (by assumption) (by assumption) (TI2.sub (by intro p hp; k_ownIn)) (by intro p hp hn; exact .tail _ (sn p hp hn))
      · refine GrpTurn.next (by assumption) N9 (.tail _ hI3) (.tail _ hc3) (by assumption) (TI2.sub (fun p hp => .tail _ hp)) ?_ ?_
        · intro p hp
          simp only [List.mem_cons, List.mem_filter, decide_eq_true_eq] at hp
          rcases hp with rfl | rfl | rfl | rfl | rfl | hp
          · exact .tail _ q2
          · exact .tail _ q3
          · exact .tail _ q4
          · exact .tail _ q5
          · exact .tail _ q6
          · exact .tail _ (sn p hp.1 hp.2)
        · rw [eg]
          rename _ = false => hno
          simpa using hno
    case done =>
      dsimp only [entryOf]
      clear q1 q2 q3 q4 q5 q6 sn lf hs hc1 hc2 hc3 TI1 N9 F9
      intro h tk nt hbad TI3 hk3 F3 N3
      have q2 := hk3 _ (.head _)
      have q3 := hk3 _ (.tail _ (.head _))
      have q4 := hk3 _ (.tail _ (.tail _ (.head _)))
      have q5 := hk3 _ (.tail _ (.tail _ (.tail _ (.head _))))
      have q6 := hk3 _ (.tail _ (.tail _ (.tail _ (.tail _ (.head _)))))
      have sn : ∀ p ∈ news, p.1 ≠ 172 → p ∈ nt := fun p hp hn => hk3 p (.tail _ (.tail _ (.tail _ (.tail _ (.tail _ (List.mem_filter.mpr ⟨hp, by simpa using hn⟩))))))
      clear hk3
      w_strict k_steps
      exact ret _ _ _ _ _ (pc_2 (by assumption) hbad) (by assumption) (by assumption) TI3 (by intro p hp hn; exact sn p hp hn)
end
end Mine
end
/-! part C6 -/
section
open PySem PySem.W PyProof.Rows PySem.Spec PySem.Calls
namespace Mine
local macro_rules | `(tactic| k_room) => `(tactic| ktr_room)
local macro_rules | `(tactic| k_units) => `(tactic| ktr_units)
local macro_rules | `(tactic| walk_at "ite") => `(tactic| first | (refine split_dec ?_ ?_ <;> intro _) | (refine split_bool ?_ ?_ <;> intro _))
local macro_rules | `(tactic| k_mem) => `(tactic| first | exact List.Mem.head _ | (refine' List.Mem.tail _ ?_; k_mem) | assumption | (refine' List.mem_append_right _ ?_; k_mem))
local macro_rules | `(tactic| k_all) => `(tactic| first | assumption | exact allLt_0 (by assumption) | exact allLt_1 (by assumption) | exact allLt_2 (by assumption) | exact allLt_3 (by assumption) | exact allLt_4 (by assumption) | exact allLt_5 (by assumption) | exact allLt_6 (by assumption) | exact allLt_7 (by assumption) | exact allLt_8 (by assumption) | (refine' all_app ?kaR ?kaN; (case kaR => assumption); (case kaN => k_all)) | (refine' all_ne ?kaH ?kaD; (case kaH => assumption); (case kaD => (try dsimp only); omega)))
local macro_rules | `(tactic| walk_at "getAttr ref") => `(tactic| (k_here; (with_reducible show wpAny _ _ (getAttr (Value.ref _) (PySem.Str.ofString "_ident") _) _ _ _); k_dflt (refine' get_smI ?k1 ?k2 ?k4 ?k5 ?k6 ?k7 ?k9 ?k10 ?k11 ?k12 ?k13 ?k14 ?_; (case k1 => k_asm); (case k2 => k_asm); (case k4 => k_inst); (case k5 => k_is); (case k6 => k_is); (case k7 => k_is); (case k9 => k_is); (case k10 => k_is); (case k11 => decide +kernel); (case k12 => k_get); (case k13 => k_is); (case k14 => k_handed); k_whole)))
local macro_rules | `(tactic| walk_at "eval Call Attribute") => `(tactic| (k_here; (with_reducible show wpAny _ _ (eval (Expr.Call (Expr.Attribute _ _ _) [Expr.Starred _ _] [] _) _) _ _ _); (refine StarCall ?_)))
local macro_rules | `(tactic| k_enter) => `(tactic| (kp_kind "rest"; (fail_if_success k_inElt); (refine' restC ?k1 ?k2 ?k3 ?k4 ?k5 ?kA ?kF ?kK ?k6 ?k7 ?k8 ?kV ?kP ?kG ?kB ?kD ?_ ?c2 ?c3 ?c4; (case kA => exact rfl); (case kF => exact rfl); (case kK => exact rfl); (case k1 => k_asm); (case k2 => k_asm); (case k3 => k_asm); (case k4 => k_asm); (case k5 => k_asm); (case k6 => k_is); (case k7 => k_is); (case k8 => k_room); (case kV => kl_lit); (case kP => exact rfl); (case kG => exact fun _ => rfl); (case kB => exact fun _ => rfl); (case kD => decide +kernel); (case c2 => exact rfl); (case c3 => exact rfl); (case c4 => exact rfl); k_whole; intro D' g' L' h' tk' cells' l1 FG' F' N' Y' B' X' T' l2 l3; k_cells Y'; (try simp only [List.cons_append, List.nil_append] at N'); (try dsimp only); (try k_lift B'); (try k_fold))))
local macro_rules | `(tactic| walk_at "call ref") => `(tactic| (k_here; (with_reducible show wpAny _ _ (call (Value.ref 95) _) _ _ _); k_dflt (refine' ident_ok ?k1 ?k2 ?k3 ?k4 ?k5 ?k8 ?k9 ?_; (case k1 => k_asm); (case k2 => k_asm); (case k3 => k_asm); (case k4 => k_asm); (case k5 => k_asm); (case k8 => ktr_room); (case k9 => ktr_units); k_whole); intro t9 h9 tk9 F9 N9; (try k_sweep)))
local macro_rules | `(tactic| walk_at "call type:map") => `(tactic| (k_here; k_dflt (refine' mp_make ?k1 ?k2 ?k3 ?_; (case k1 => k_asm); (case k2 => k_asm); (case k3 => k_mem); k_whole); intro M9 T9 I9 oi9 h9 F9 N9 it9 l9 l8 l7; (try k_sweep)))
local macro_rules | `(tactic| walk_at "call ref") => `(tactic| (k_here; (fail_if_success with_reducible show wpAny _ _ (call (Value.ref 95) _) _ _ _); k_dflt (refine wpAny_call ?_; kla_enter)))
local macro_rules | `(tactic| walk_at "compareOp In str str") => `(tactic| refine in_isIn ?_)
local macro_rules | `(tactic| walk_at "compareOp NotIn str str") => `(tactic| refine notin_isIn ?_)
local macro_rules | `(tactic| walk_at "callWith ref") => `(tactic| (k_here; (with_reducible show wpAny _ _ (callWith _ (Value.ref _) _ (backTo _ (starEach [Expr.Starred _ _] _)) []) _ _ _); k_dflt (refine' callWith_SM ?k1 ?k2 ?k3 ?k4 ?_; (case k1 => k_asm); (case k2 => k_asm); (case k3 => k_mem); (case k4 => k_is); k_whole)))
local macro_rules | `(tactic| walk_at "call ref") => `(tactic| (k_here; k_dflt (refine' call_meth (f := Value.ref 177) ?m1 ?m2 ?_; (case m1 => k_asm); (case m2 => k_mem); k_whole); k_dflt (refine' rcost_code ?k1 ?k2 ?k3 ?k4 ?k5 ?k6 ?k7 ?k8 ?k9 ?k10 ?k11 ?k12 ?k13 ?k14 ?_; (case k1 => k_asm); (case k2 => k_asm); (case k3 => k_asm); (case k4 => k_asm); (case k5 => k_asm); (case k6 => assumption); (case k7 => exact TabIn.sub (by assumption) (by intro p hp; k_ownIn)); (case k8 => k_mem); (case k9 => k_mem); (case k10 => k_mem); (case k11 => ktr_room); (case k12 => ktr_units); (case k13 => assumption); (case k14 => assumption); k_whole); intro t9 h9 tk9 nx9 F9 N9 TI9 sn9; (try k_sweep)))
local macro_rules | `(tactic| walk_at "call ref") => `(tactic| (k_here; (with_reducible show wpAny _ _ (call (Value.ref 177) _) _ _ _); k_dflt (refine wpAny_call ?_); k_dflt (refine' rcost_code ?k1 ?k2 ?k3 ?k4 ?k5 ?k6 ?k7 ?k8 ?k9 ?k10 ?k11 ?k12 ?k13 ?k14 ?_; (case k1 => k_asm); (case k2 => k_asm); (case k3 => k_asm); (case k4 => k_asm); (case k5 => k_asm); (case k6 => assumption); (case k7 => exact TabIn.sub (by assumption) (by intro p hp; k_ownIn)); (case k8 => k_mem); (case k9 => k_mem); (case k10 => k_mem); (case k11 => ktr_room); (case k12 => ktr_units); (case k13 => assumption); (case k14 => assumption); k_whole); intro t9 h9 tk9 nx9 F9 N9 TI9 sn9; (try k_sweep)))
section
variable {w : World} {p : Program} {loose : List Str} {mean : ExcName → Option Value} {mg mb : Str → Option Value}
    {dp un : Nat} {gd : Option (List Code)} {cn : Str} {nms : List (Str × NameKind)} {ig ic : Bool} {mo : List (Str × Const)} {a : Addr} {ccd : Value} {cl : List (Str × Addr)} {outer : List Env} {A₀ : Around} {base h₀ : Heap} {L : Addr} {m : Str → Option Value} {s : Shared} {Q E : Value → Shared → Prop}
    {news : List (Addr × Obj)}

theorem dcost_ok {x y g1 g2 g3 gr fr : Str} {t1 t2 u1 u2 u3 k1 k2 k3 k4 k5 k6 k7 k8 t3 t4 t5 t6 t7 : Tok} {c0 c1 c2 : Int} {e d ga : Addr} {lo : Bool}
    (B : Below A₀ base outer h₀) (F : Fr h₀ L s.heap m) (X : (hd.heap_39 w.params).In h₀) (N : News h₀ L s.heap news) (T : Top p loose mean mg mb h₀) (HC : CodeHd base 176 172) (TI : TabIn 172 lamQ news)
    (hI : (e, instObj 192 d) ∈ news) (hD : (d, editD w k1 k2 k3 k4 k5 k6 k7 k8 (.int c0 t3) (.int c1 t4) (.int c2 t5) (.bool lo) (.bool true) (.ref ga) (.str fr t6) (.str gr t7)) ∈ news)
    (hg : (ga, ({ cls := .type "tuple", data := .seq [Value.str g1 u1, .str g2 u2, .str g3 u3].toArray } : Obj)) ∈ news)
    (hd : dp + 30 < recursionLimit) (hu : un + 240 < cLine)
    (jx : isIn x gr = [g1, g2, g3].any (isIn x)) (jy : isIn y gr = [g1, g2, g3].any (isIn y))
    (ret₀ : ∀ t h' tk' nx', Fr h₀ L h' m → News h₀ L h' nx' → TabIn 172 lamQ nx' → (∀ p ∈ news, p.1 ≠ 172 → p ∈ nx') → Q (.int (stepC g1 g2 g3 fr c0 c1 c2 x y) t) { s with heap := h', toks := tk' }) :
    wpAny (model PySem.Challenge.rw_fq5039_01.row.prog w) (ktrTop dp un gd cn ⟨.function, nms, ig, ic, mo⟩ L a ccd cl outer) (call (.ref 184) [.ref e, .str x t1, .str y t2]) Q E s := by
  have ret : ∀ v t h' tk' nx', v = stepC g1 g2 g3 fr c0 c1 c2 x y → Fr h₀ L h' m → News h₀ L h' nx' → TabIn 172 lamQ nx' → (∀ p ∈ news, p.1 ≠ 172 → p ∈ nx') → Q (.int v t) { s with heap := h', toks := tk' } := fun v t h' tk' nx' e a b c d => e ▸ ret₀ t h' tk' nx' a b c d
  clear ret₀
  w_on
  revert X
  k_fill
  intro X
  w_strict k_steps
  all_goals first
    | (rename_i sn9 kF kN Tc kX
       exact ret _ _ _ _ _ (by clear jx jy; simp_all [stepC]) kF kN (by assumption) (fun p hp hn => sn9 p (.tail _ (.tail _ hp)) hn))
    | (rename_i kF kN Tc kX
       exact ret _ _ _ _ _ (by clear jx jy; simp_all [stepC]) kF kN (TI.sub (by intro p hp; k_ownIn)) (by intro p hp _; k_ownIn))
end
end Mine
end
/-! part C7 -/
section
open PySem PySem.W PyProof.Rows PySem.Spec PySem.Calls
namespace Mine
local macro_rules | `(tactic| k_room) => `(tactic| ktr_room)
local macro_rules | `(tactic| k_units) => `(tactic| ktr_units)
local macro_rules | `(tactic| walk_at "ite") => `(tactic| first | (refine split_dec ?_ ?_ <;> intro _) | (refine split_bool ?_ ?_ <;> intro _))
local macro_rules | `(tactic| k_mem) => `(tactic| first | exact List.Mem.head _ | (refine' List.Mem.tail _ ?_; k_mem) | assumption | (refine' List.mem_append_right _ ?_; k_mem))
local macro_rules | `(tactic| k_all) => `(tactic| first | assumption | exact allLt_0 (by assumption) | exact allLt_1 (by assumption) | exact allLt_2 (by assumption) | exact allLt_3 (by assumption) | exact allLt_4 (by assumption) | exact allLt_5 (by assumption) | exact allLt_6 (by assumption) | exact allLt_7 (by assumption) | exact allLt_8 (by assumption) | (refine' all_app ?kaR ?kaN; (case kaR => assumption); (case kaN => k_all)) | (refine' all_ne ?kaH ?kaD; (case kaH => assumption); (case kaD => (try dsimp only); omega)))
local macro_rules | `(tactic| walk_at "getAttr ref") => `(tactic| (k_here; (with_reducible show wpAny _ _ (getAttr (Value.ref _) (PySem.Str.ofString "_ident") _) _ _ _); k_dflt (refine' get_smI ?k1 ?k2 ?k4 ?k5 ?k6 ?k7 ?k9 ?k10 ?k11 ?k12 ?k13 ?k14 ?_; (case k1 => k_asm); (case k2 => k_asm); (case k4 => k_inst); (case k5 => k_is); (case k6 => k_is); (case k7 => k_is); (case k9 => k_is); (case k10 => k_is); (case k11 => decide +kernel); (case k12 => k_get); (case k13 => k_is); (case k14 => k_handed); k_whole)))
local macro_rules | `(tactic| walk_at "eval Call Attribute") => `(tactic| (k_here; (with_reducible show wpAny _ _ (eval (Expr.Call (Expr.Attribute _ _ _) [Expr.Starred _ _] [] _) _) _ _ _); (refine StarCall ?_)))
local macro_rules | `(tactic| k_enter) => `(tactic| (kp_kind "rest"; (fail_if_success k_inElt); (refine' restC ?k1 ?k2 ?k3 ?k4 ?k5 ?kA ?kF ?kK ?k6 ?k7 ?k8 ?kV ?kP ?kG ?kB ?kD ?_ ?c2 ?c3 ?c4; (case kA => exact rfl); (case kF => exact rfl); (case kK => exact rfl); (case k1 => k_asm); (case k2 => k_asm); (case k3 => k_asm); (case k4 => k_asm); (case k5 => k_asm); (case k6 => k_is); (case k7 => k_is); (case k8 => k_room); (case kV => kl_lit); (case kP => exact rfl); (case kG => exact fun _ => rfl); (case kB => exact fun _ => rfl); (case kD => decide +kernel); (case c2 => exact rfl); (case c3 => exact rfl); (case c4 => exact rfl); k_whole; intro D' g' L' h' tk' cells' l1 FG' F' N' Y' B' X' T' l2 l3; k_cells Y'; (try simp only [List.cons_append, List.nil_append] at N'); (try dsimp only); (try k_lift B'); (try k_fold))))
local macro_rules | `(tactic| walk_at "call ref") => `(tactic| (k_here; (with_reducible show wpAny _ _ (call (Value.ref 95) _) _ _ _); k_dflt (refine' ident_ok ?k1 ?k2 ?k3 ?k4 ?k5 ?k8 ?k9 ?_; (case k1 => k_asm); (case k2 => k_asm); (case k3 => k_asm); (case k4 => k_asm); (case k5 => k_asm); (case k8 => ktr_room); (case k9 => ktr_units); k_whole); intro t9 h9 tk9 F9 N9; (try k_sweep)))
local macro_rules | `(tactic| walk_at "call type:map") => `(tactic| (k_here; k_dflt (refine' mp_make ?k1 ?k2 ?k3 ?_; (case k1 => k_asm); (case k2 => k_asm); (case k3 => k_mem); k_whole); intro M9 T9 I9 oi9 h9 F9 N9 it9 l9 l8 l7; (try k_sweep)))
local macro_rules | `(tactic| walk_at "call ref") => `(tactic| (k_here; (fail_if_success with_reducible show wpAny _ _ (call (Value.ref 95) _) _ _ _); k_dflt (refine wpAny_call ?_; kla_enter)))
local macro_rules | `(tactic| walk_at "compareOp In str str") => `(tactic| refine in_isIn ?_)
local macro_rules | `(tactic| walk_at "compareOp NotIn str str") => `(tactic| refine notin_isIn ?_)
local macro_rules | `(tactic| walk_at "call builtin:max") => `(tactic| (k_here; (with_reducible show wpAny _ _ (call (Value.builtin "max") [Value.ref _]) _ _ _); k_dflt (refine' max_mp ?k1 ?k2 ?k3 ?k4 ?k5 ?k6 ?k7 ?k8 ?k9 ?k10 ?_; (case k1 => k_asm); (case k2 => k_asm); (case k3 => assumption); (case k4 => rfl); (case k5 => assumption); (case k6 => assumption); (case k7 => assumption); (case k8 => k_mem); (case k9 => omega); (case k10 => omega); k_whole); intro h9 tk9 t9 F9 N9; (try k_sweep)))
section
variable {w : World} {p : Program} {loose : List Str} {mean : ExcName → Option Value} {mg mb : Str → Option Value}
    {dp un : Nat} {gd : Option (List Code)} {cn : Str} {nms : List (Str × NameKind)} {ig ic : Bool} {mo : List (Str × Const)} {a : Addr} {ccd : Value} {cl : List (Str × Addr)} {outer : List Env} {A₀ : Around} {base h₀ : Heap} {L : Addr} {m : Str → Option Value} {s : Shared} {Q E : Value → Shared → Prop}
    {news : List (Addr × Obj)}

theorem max_code {x y gr fr : Str} {t1 t2 k1 k2 k3 k4 k5 k6 k7 k8 t3 t4 t5 t6 t7 : Tok} {c0 c1 c2 : Int} {e d ga : Addr} {lo : Bool}
    (B : Below A₀ base outer h₀) (F : Fr h₀ L s.heap m) (X : (hd.heap_39 w.params).In h₀) (N : News h₀ L s.heap news) (T : Top p loose mean mg mb h₀)
    (hI : (e, instObj 192 d) ∈ news) (hD : (d, editD w k1 k2 k3 k4 k5 k6 k7 k8 (.int c0 t3) (.int c1 t4) (.int c2 t5) (.bool lo) (.bool true) (.ref ga) (.str fr t6) (.str gr t7)) ∈ news)
    (hx : x.length ≤ 100) (hy : y.length ≤ 100) (h2 : 0 ≤ c2 ∧ c2 ≤ 1000)
    (hd : dp + 10 < recursionLimit) (hu : un + 80 < cLine)
    (ret : ∀ t h' tk', Fr h₀ L h' m → News h₀ L h' news → Q (.int ((max x.length y.length : Nat) * c2) t) { s with heap := h', toks := tk' }) :
    codeAny (model PySem.Challenge.rw_fq5039_01.row.prog w) (ktrTop dp un gd cn ⟨.function, nms, ig, ic, mo⟩ L a ccd cl outer) (.call (.ref 170) ⟨[.ref e, .str x t1, .str y t2], []⟩) (fun r s' => match r with | .ok (.ret v) => Q v s' | .ok _ => False | .error e => E e s') s := by
  w_on
  revert X
  k_fill
  intro X
  k_enter
  w_strict k_steps
  exact cb_retI ret rfl (by assumption) (cb_drop (by k_asm) (by intro p hp; k_ownIn))
end
end Mine
end
/-! part C8 -/
section
open PySem PySem.W PyProof.Rows PySem.Spec PySem.Calls
namespace Mine
local macro_rules | `(tactic| k_room) => `(tactic| ktr_room)
local macro_rules | `(tactic| k_units) => `(tactic| ktr_units)
local macro_rules | `(tactic| walk_at "ite") => `(tactic| first | (refine split_dec ?_ ?_ <;> intro _) | (refine split_bool ?_ ?_ <;> intro _))
local macro_rules | `(tactic| k_mem) => `(tactic| first | exact List.Mem.head _ | (refine' List.Mem.tail _ ?_; k_mem) | assumption | (refine' List.mem_append_right _ ?_; k_mem))
local macro_rules | `(tactic| k_all) => `(tactic| first | assumption | exact allLt_0 (by assumption) | exact allLt_1 (by assumption) | exact allLt_2 (by assumption) | exact allLt_3 (by assumption) | exact allLt_4 (by assumption) | exact allLt_5 (by assumption) | exact allLt_6 (by assumption) | exact allLt_7 (by assumption) | exact allLt_8 (by assumption) | (refine' all_app ?kaR ?kaN; (case kaR => assumption); (case kaN => k_all)) | (refine' all_ne ?kaH ?kaD; (case kaH => assumption); (case kaD => (try dsimp only); omega)))
local macro_rules | `(tactic| walk_at "getAttr ref") => `(tactic| (k_here; (with_reducible show wpAny _ _ (getAttr (Value.ref _) (PySem.Str.ofString "_ident") _) _ _ _); k_dflt (refine' get_smI ?k1 ?k2 ?k4 ?k5 ?k6 ?k7 ?k9 ?k10 ?k11 ?k12 ?k13 ?k14 ?_; (case k1 => k_asm); (case k2 => k_asm); (case k4 => k_inst); (case k5 => k_is); (case k6 => k_is); (case k7 => k_is); (case k9 => k_is); (case k10 => k_is); (case k11 => decide +kernel); (case k12 => k_get); (case k13 => k_is); (case k14 => k_handed); k_whole)))
local macro_rules | `(tactic| walk_at "eval Call Attribute") => `(tactic| (k_here; (with_reducible show wpAny _ _ (eval (Expr.Call (Expr.Attribute _ _ _) [Expr.Starred _ _] [] _) _) _ _ _); (refine StarCall ?_)))
local macro_rules | `(tactic| k_enter) => `(tactic| (kp_kind "rest"; (fail_if_success k_inElt); (refine' restC ?k1 ?k2 ?k3 ?k4 ?k5 ?kA ?kF ?kK ?k6 ?k7 ?k8 ?kV ?kP ?kG ?kB ?kD ?_ ?c2 ?c3 ?c4; (case kA => exact rfl); (case kF => exact rfl); (case kK => exact rfl); (case k1 => k_asm); (case k2 => k_asm); (case k3 => k_asm); (case k4 => k_asm); (case k5 => k_asm); (case k6 => k_is); (case k7 => k_is); (case k8 => k_room); (case kV => kl_lit); (case kP => exact rfl); (case kG => exact fun _ => rfl); (case kB => exact fun _ => rfl); (case kD => decide +kernel); (case c2 => exact rfl); (case c3 => exact rfl); (case c4 => exact rfl); k_whole; intro D' g' L' h' tk' cells' l1 FG' F' N' Y' B' X' T' l2 l3; k_cells Y'; (try simp only [List.cons_append, List.nil_append] at N'); (try dsimp only); (try k_lift B'); (try k_fold))))
local macro_rules | `(tactic| walk_at "call ref") => `(tactic| (k_here; (with_reducible show wpAny _ _ (call (Value.ref 95) _) _ _ _); k_dflt (refine' ident_ok ?k1 ?k2 ?k3 ?k4 ?k5 ?k8 ?k9 ?_; (case k1 => k_asm); (case k2 => k_asm); (case k3 => k_asm); (case k4 => k_asm); (case k5 => k_asm); (case k8 => ktr_room); (case k9 => ktr_units); k_whole); intro t9 h9 tk9 F9 N9; (try k_sweep)))
local macro_rules | `(tactic| walk_at "call type:map") => `(tactic| (k_here; k_dflt (refine' mp_make ?k1 ?k2 ?k3 ?_; (case k1 => k_asm); (case k2 => k_asm); (case k3 => k_mem); k_whole); intro M9 T9 I9 oi9 h9 F9 N9 it9 l9 l8 l7; (try k_sweep)))
local macro_rules | `(tactic| walk_at "call ref") => `(tactic| (k_here; (fail_if_success with_reducible show wpAny _ _ (call (Value.ref 95) _) _ _ _); k_dflt (refine wpAny_call ?_; kla_enter)))
local macro_rules | `(tactic| walk_at "compareOp In str str") => `(tactic| refine in_isIn ?_)
local macro_rules | `(tactic| walk_at "compareOp NotIn str str") => `(tactic| refine notin_isIn ?_)
local macro_rules | `(tactic| walk_at "callWith ref") => `(tactic| (k_here; (with_reducible show wpAny _ _ (callWith _ (Value.ref _) _ (backTo _ (starEach [Expr.Starred _ _] _)) []) _ _ _); k_dflt (refine' callWith_SM ?k1 ?k2 ?k3 ?k4 ?_; (case k1 => k_asm); (case k2 => k_asm); (case k3 => k_mem); (case k4 => k_is); k_whole)))
local macro_rules | `(tactic| walk_at "call ref") => `(tactic| (k_here; k_dflt (refine' call_meth (f := Value.ref 170) ?m1 ?m2 ?_; (case m1 => k_asm); (case m2 => k_mem); k_whole); k_dflt (refine' max_code ?k1 ?k2 ?k3 ?k4 ?k5 ?k8 ?k9 ?kx ?ky ?kz ?k11 ?k12 ?_; (case k1 => k_asm); (case k2 => k_asm); (case k3 => k_asm); (case k4 => k_asm); (case k5 => k_asm); (case k8 => k_mem); (case k9 => k_mem); (case kx => assumption); (case ky => assumption); (case kz => assumption); (case k11 => ktr_room); (case k12 => ktr_units); k_whole); intro t9 h9 tk9 F9 N9; (try k_sweep)))
local macro_rules | `(tactic| walk_at "call ref") => `(tactic| (k_here; (with_reducible show wpAny _ _ (call (Value.ref 170) _) _ _ _); k_dflt (refine wpAny_call ?_); k_dflt (refine' max_code ?k1 ?k2 ?k3 ?k4 ?k5 ?k8 ?k9 ?kx ?ky ?kz ?k11 ?k12 ?_; (case k1 => k_asm); (case k2 => k_asm); (case k3 => k_asm); (case k4 => k_asm); (case k5 => k_asm); (case k8 => k_mem); (case k9 => k_mem); (case kx => assumption); (case ky => assumption); (case kz => assumption); (case k11 => ktr_room); (case k12 => ktr_units); k_whole); intro t9 h9 tk9 F9 N9; (try k_sweep)))
local macro_rules | `(tactic| walk_at "call builtin:all") => `(tactic| (k_here; (with_reducible show wpAny _ _ (call (Value.builtin "all") [Value.ref _]) _ _ _); k_dflt (refine' all_tup2 ?k1 ?k2 ?k3 ?k4 ?k5 ?k6 ?_; (case k1 => k_asm); (case k2 => k_asm); (case k3 => rfl); (case k4 => k_mem); (case k5 => assumption); (case k6 => assumption); k_whole); intro h9 tk9 F9 N9; (try k_sweep)))
section
variable {w : World} {p : Program} {loose : List Str} {mean : ExcName → Option Value} {mg mb : Str → Option Value}
    {dp un : Nat} {gd : Option (List Code)} {cn : Str} {nms : List (Str × NameKind)} {ig ic : Bool} {mo : List (Str × Const)} {a : Addr} {ccd : Value} {cl : List (Str × Addr)} {outer : List Env} {A₀ : Around} {base h₀ : Heap} {L : Addr} {m : Str → Option Value} {s : Shared} {Q E : Value → Shared → Prop}
    {news : List (Addr × Obj)}

def QaV (x y : Str) (c2 : Int) (v : Value) : Prop :=
  (x = y ∧ ∃ t, v = .int 0 t) ∨ (x ≠ y ∧ (x.length = 0 ∨ y.length = 0) ∧ ∃ t, v = .int ((max x.length y.length : Nat) * c2) t) ∨ (x ≠ y ∧ x.length ≠ 0 ∧ y.length ≠ 0 ∧ v = .none)
theorem qa1 {x y : Str} (h : (!(((x.length : Int) != 0) && ((y.length : Int) != 0))) = true) : x.length = 0 ∨ y.length = 0 := by
  simp only [Bool.not_eq_true', Bool.and_eq_false_iff, bne_eq_false_iff_eq] at h
  omega
theorem qa2 {x y : Str} (h : (!(((x.length : Int) != 0) && ((y.length : Int) != 0))) = false) : x.length ≠ 0 ∧ y.length ≠ 0 := by
  simp only [Bool.not_eq_false', Bool.and_eq_true, bne_iff_ne, ne_eq] at h
  omega
theorem quick_ok {x y gr fr : Str} {t1 t2 k1 k2 k3 k4 k5 k6 k7 k8 t3 t4 t5 t6 t7 : Tok} {c0 c1 c2 : Int} {e d ga : Addr} {lo : Bool}
    (B : Below A₀ base outer h₀) (F : Fr h₀ L s.heap m) (X : (hd.heap_39 w.params).In h₀) (N : News h₀ L s.heap news) (T : Top p loose mean mg mb h₀)
    (hI : (e, instObj 192 d) ∈ news) (hD : (d, editD w k1 k2 k3 k4 k5 k6 k7 k8 (.int c0 t3) (.int c1 t4) (.int c2 t5) (.bool lo) (.bool true) (.ref ga) (.str fr t6) (.str gr t7)) ∈ news)
    (hx : x.length ≤ 100) (hy : y.length ≤ 100) (h2 : 0 ≤ c2 ∧ c2 ≤ 1000)
    (hd : dp + 20 < recursionLimit) (hu : un + 160 < cLine)
    (ret : ∀ v h' tk', QaV x y c2 v → Fr h₀ L h' m → News h₀ L h' news → Q v { s with heap := h', toks := tk' }) :
    wpAny (model PySem.Challenge.rw_fq5039_01.row.prog w) (ktrTop dp un gd cn ⟨.function, nms, ig, ic, mo⟩ L a ccd cl outer) (call (.ref 88) [.ref e, .str x t1, .str y t2]) Q E s := by
  w_on
  revert X
  k_fill
  intro X
  w_strict k_steps
  all_goals first
    | exact ret _ _ _ (.inl ⟨by assumption, _, rfl⟩) (by assumption) (cb_drop (by k_asm) (by intro p hp; k_ownIn))
    | exact ret _ _ _ (.inr (.inl ⟨by assumption, qa1 (by assumption), _, rfl⟩)) (by assumption) (cb_drop (by k_asm) (by intro p hp; k_ownIn))
    | exact ret _ _ _ (.inr (.inr ⟨by assumption, (qa2 (by assumption)).1, (qa2 (by assumption)).2, rfl⟩)) (by assumption) (cb_drop (by k_asm) (by intro p hp; k_ownIn))
    | (exfalso; revert ret; simp_all; done)
    | (set_option pp.deepTerms.threshold 4 in trace_state)
theorem quick_ok3 {x y gr fr : Str} {t1 t2 k1 k2 k3 k4 k5 k6 k7 k8 t3 t4 t5 t6 t7 : Tok} {c0 c1 c2 : Int} {e d ga : Addr} {lo : Bool}
    (B : Below A₀ base outer h₀) (F : Fr h₀ L s.heap m) (X : (hd.heap_39 w.params).In h₀) (N : News h₀ L s.heap news) (T : Top p loose mean mg mb h₀)
    (hI : (e, instObj 192 d) ∈ news) (hD : (d, editD w k1 k2 k3 k4 k5 k6 k7 k8 (.int c0 t3) (.int c1 t4) (.int c2 t5) (.bool lo) (.bool true) (.ref ga) (.str fr t6) (.str gr t7)) ∈ news)
    (hx : x.length ≤ 100) (hy : y.length ≤ 100) (h2 : 0 ≤ c2 ∧ c2 ≤ 1000)
    (hd : dp + 20 < recursionLimit) (hu : un + 160 < cLine)
    (r1 : x = y → ∀ t h' tk', Fr h₀ L h' m → News h₀ L h' news → Q (.int 0 t) { s with heap := h', toks := tk' })
    (r2 : x ≠ y → (x.length = 0 ∨ y.length = 0) → ∀ t h' tk', Fr h₀ L h' m → News h₀ L h' news → Q (.int ((max x.length y.length : Nat) * c2) t) { s with heap := h', toks := tk' })
    (r3 : x ≠ y → x.length ≠ 0 → y.length ≠ 0 → ∀ h' tk', Fr h₀ L h' m → News h₀ L h' news → Q .none { s with heap := h', toks := tk' }) :
    wpAny (model PySem.Challenge.rw_fq5039_01.row.prog w) (ktrTop dp un gd cn ⟨.function, nms, ig, ic, mo⟩ L a ccd cl outer) (call (.ref 88) [.ref e, .str x t1, .str y t2]) Q E s := by
  refine quick_ok B F X N T hI hD hx hy h2 hd hu fun v h' tk' q F' N' => ?_
  rcases q with ⟨q, u, rfl⟩ | ⟨q, q8, u, rfl⟩ | ⟨q, q8, q7, rfl⟩
  · exact r1 q u h' tk' F' N'
  · exact r2 q q8 u h' tk' F' N'
  · exact r3 q q8 q7 h' tk' F' N'
end
end Mine
end
/-! part C9 -/
section
open PySem PySem.W PyProof.Rows PySem.Spec PySem.Calls
namespace Mine
local macro_rules | `(tactic| k_room) => `(tactic| ktr_room)
local macro_rules | `(tactic| k_units) => `(tactic| ktr_units)
local macro_rules | `(tactic| walk_at "ite") => `(tactic| first | (refine split_dec ?_ ?_ <;> intro _) | (refine split_bool ?_ ?_ <;> intro _))
local macro_rules | `(tactic| k_mem) => `(tactic| first | exact List.Mem.head _ | (refine' List.Mem.tail _ ?_; k_mem) | assumption | (refine' List.mem_append_right _ ?_; k_mem))
local macro_rules | `(tactic| k_all) => `(tactic| first | assumption | exact allLt_0 (by assumption) | exact allLt_1 (by assumption) | exact allLt_2 (by assumption) | exact allLt_3 (by assumption) | exact allLt_4 (by assumption) | exact allLt_5 (by assumption) | exact allLt_6 (by assumption) | exact allLt_7 (by assumption) | exact allLt_8 (by assumption) | (refine' all_app ?kaR ?kaN; (case kaR => assumption); (case kaN => k_all)) | (refine' all_ne ?kaH ?kaD; (case kaH => assumption); (case kaD => (try dsimp only); omega)))
local macro_rules | `(tactic| walk_at "getAttr ref") => `(tactic| (k_here; (with_reducible show wpAny _ _ (getAttr (Value.ref _) (PySem.Str.ofString "_ident") _) _ _ _); k_dflt (refine' get_smI ?k1 ?k2 ?k4 ?k5 ?k6 ?k7 ?k9 ?k10 ?k11 ?k12 ?k13 ?k14 ?_; (case k1 => k_asm); (case k2 => k_asm); (case k4 => k_inst); (case k5 => k_is); (case k6 => k_is); (case k7 => k_is); (case k9 => k_is); (case k10 => k_is); (case k11 => decide +kernel); (case k12 => k_get); (case k13 => k_is); (case k14 => k_handed); k_whole)))
local macro_rules | `(tactic| walk_at "eval Call Attribute") => `(tactic| (k_here; (with_reducible show wpAny _ _ (eval (Expr.Call (Expr.Attribute _ _ _) [Expr.Starred _ _] [] _) _) _ _ _); (refine StarCall ?_)))
local macro_rules | `(tactic| k_enter) => `(tactic| (kp_kind "rest"; (fail_if_success k_inElt); (refine' restC ?k1 ?k2 ?k3 ?k4 ?k5 ?kA ?kF ?kK ?k6 ?k7 ?k8 ?kV ?kP ?kG ?kB ?kD ?_ ?c2 ?c3 ?c4; (case kA => exact rfl); (case kF => exact rfl); (case kK => exact rfl); (case k1 => k_asm); (case k2 => k_asm); (case k3 => k_asm); (case k4 => k_asm); (case k5 => k_asm); (case k6 => k_is); (case k7 => k_is); (case k8 => k_room); (case kV => kl_lit); (case kP => exact rfl); (case kG => exact fun _ => rfl); (case kB => exact fun _ => rfl); (case kD => decide +kernel); (case c2 => exact rfl); (case c3 => exact rfl); (case c4 => exact rfl); k_whole; intro D' g' L' h' tk' cells' l1 FG' F' N' Y' B' X' T' l2 l3; k_cells Y'; (try simp only [List.cons_append, List.nil_append] at N'); (try dsimp only); (try k_lift B'); (try k_fold))))
local macro_rules | `(tactic| walk_at "call ref") => `(tactic| (k_here; (with_reducible show wpAny _ _ (call (Value.ref 95) _) _ _ _); k_dflt (refine' ident_ok ?k1 ?k2 ?k3 ?k4 ?k5 ?k8 ?k9 ?_; (case k1 => k_asm); (case k2 => k_asm); (case k3 => k_asm); (case k4 => k_asm); (case k5 => k_asm); (case k8 => ktr_room); (case k9 => ktr_units); k_whole); intro t9 h9 tk9 F9 N9; (try k_sweep)))
local macro_rules | `(tactic| walk_at "call type:map") => `(tactic| (k_here; k_dflt (refine' mp_make ?k1 ?k2 ?k3 ?_; (case k1 => k_asm); (case k2 => k_asm); (case k3 => k_mem); k_whole); intro M9 T9 I9 oi9 h9 F9 N9 it9 l9 l8 l7; (try k_sweep)))
local macro_rules | `(tactic| walk_at "call ref") => `(tactic| (k_here; (fail_if_success with_reducible show wpAny _ _ (call (Value.ref 95) _) _ _ _); k_dflt (refine wpAny_call ?_; kla_enter)))
local macro_rules | `(tactic| walk_at "compareOp In str str") => `(tactic| refine in_isIn ?_)
local macro_rules | `(tactic| walk_at "compareOp NotIn str str") => `(tactic| refine notin_isIn ?_)
local macro_rules | `(tactic| walk_at "callWith ref") => `(tactic| (k_here; (with_reducible show wpAny _ _ (callWith _ (Value.ref _) _ (backTo _ (starEach [Expr.Starred _ _] _)) []) _ _ _); k_dflt (refine' callWith_SM ?k1 ?k2 ?k3 ?k4 ?_; (case k1 => k_asm); (case k2 => k_asm); (case k3 => k_mem); (case k4 => k_is); k_whole)))
local macro_rules | `(tactic| walk_at "call ref") => `(tactic| (k_here; k_dflt (refine' call_meth (f := Value.ref 170) ?m1 ?m2 ?_; (case m1 => k_asm); (case m2 => k_mem); k_whole); k_dflt (refine' max_code ?k1 ?k2 ?k3 ?k4 ?k5 ?k8 ?k9 ?kx ?ky ?kz ?k11 ?k12 ?_; (case k1 => k_asm); (case k2 => k_asm); (case k3 => k_asm); (case k4 => k_asm); (case k5 => k_asm); (case k8 => k_mem); (case k9 => k_mem); (case kx => assumption); (case ky => assumption); (case kz => assumption); (case k11 => ktr_room); (case k12 => ktr_units); k_whole); intro t9 h9 tk9 F9 N9; (try k_sweep)))
local macro_rules | `(tactic| walk_at "call ref") => `(tactic| (k_here; (with_reducible show wpAny _ _ (call (Value.ref 170) _) _ _ _); k_dflt (refine wpAny_call ?_); k_dflt (refine' max_code ?k1 ?k2 ?k3 ?k4 ?k5 ?k8 ?k9 ?kx ?ky ?kz ?k11 ?k12 ?_; (case k1 => k_asm); (case k2 => k_asm); (case k3 => k_asm); (case k4 => k_asm); (case k5 => k_asm); (case k8 => k_mem); (case k9 => k_mem); (case kx => assumption); (case ky => assumption); (case kz => assumption); (case k11 => ktr_room); (case k12 => ktr_units); k_whole); intro t9 h9 tk9 F9 N9; (try k_sweep)))
local macro_rules | `(tactic| walk_at "call builtin:all") => `(tactic| (k_here; (with_reducible show wpAny _ _ (call (Value.builtin "all") [Value.ref _]) _ _ _); k_dflt (refine' all_tup2 ?k1 ?k2 ?k3 ?k4 ?k5 ?k6 ?_; (case k1 => k_asm); (case k2 => k_asm); (case k3 => rfl); (case k4 => k_mem); (case k5 => assumption); (case k6 => assumption); k_whole); intro h9 tk9 F9 N9; (try k_sweep)))
local macro_rules | `(tactic| walk_at "call ref") => `(tactic| (k_here; (with_reducible show wpAny _ _ (call (Value.ref 88) _) _ _ _); k_dflt (refine' quick_ok3 ?k1 ?k2 ?k3 ?k4 ?k5 ?k8 ?k9 ?kx ?ky ?kz ?k11 ?k12 ?r1 ?r2 ?r3; (case k1 => k_asm); (case k2 => k_asm); (case k3 => k_asm); (case k4 => k_asm); (case k5 => k_asm); (case k8 => k_mem); (case k9 => k_mem); (case kx => assumption); (case ky => assumption); (case kz => assumption); (case k11 => ktr_room); (case k12 => ktr_units)); all_goals (intros; (try k_sweep))))
local macro_rules | `(tactic| walk_at "eval ListComp") => `(tactic| (k_here; k_dflt (refine ListComp_My (by k_asm) (by with_unfolding_all rfl) (by decide) (by rfl) (by decide) (by rfl) ?_)))
local macro_rules | `(tactic| walk_at "exec For Name Call cons nil") => `(tactic| (k_here; (rename Fr _ _ _ _ => lF'); (with_unfolding_all refine' For_My lF' ?k1 ?k2 ?_; (case k1 => exact rfl); (case k2 => exact rfl); k_whole)))
local macro_rules | `(tactic| walk_at "subscriptTail") => `(tactic| (k_here; (with_reducible show wpAny _ _ (subscriptTail _ _ (Value.ref _) (Value.int _ _)) _ _ _); k_dflt (first
  | (refine' row_ref ?N ?c ?X ?a ?b ?_ ?s; (case X => assumption); (case N => k_asm); (case c => (intro p hp; k_ownIn)); (case a => omega); (case b => omega); (case s => with_unfolding_all rfl); k_whole)
  | (refine' cell_int ?N ?c ?X ?i ?a ?b ?_ ?s; (case X => assumption); (case N => k_asm); (case c => (intro p hp; k_ownIn)); (case i => omega); (case a => omega); (case b => omega); (case s => with_unfolding_all rfl); k_whole; intro _))))
local macro_rules | `(tactic| walk_at "TurnPost") => `(tactic| dsimp only [TurnPost])
local macro_rules | `(tactic| walk_at "subscriptTail") => `(tactic| (k_here; (with_reducible show wpAny _ _ (subscriptTail _ _ (Value.str _ _) (Value.int _ _)) _ _ _); k_dflt (refine' item_str ?a ?b ?c ?_; (case a => exact fitsSsize_of (N := 9223372036854775808) (by omega) (by omega) (Int.le_refl _)); (case b => omega); (case c => first | omega | (rw [hereLen]; omega))); intro _))
local macro_rules | `(tactic| walk_at "ite") => `(tactic| first | k_dflt (refine ite_pos (by first | rfl | assumption | (simp only [decide_eq_true_eq]; omega)) ?_) | k_dflt (refine ite_neg (by first | exact Bool.false_ne_true | (simp only [decide_eq_true_eq]; omega)) ?_) | (refine split_dec ?_ ?_ <;> intro _) | (refine split_bool ?_ ?_ <;> intro _))
local macro_rules | `(tactic| walk_at "exec Assign cons ListComp") => `(tactic| (k_here; k_dflt (refine Assign_My (F₀ := by k_asm) (by rfl) (by with_unfolding_all rfl) (by with_unfolding_all rfl) (by decide) (by rfl) (by decide) (by rfl) (by rfl) (by rfl) ?_)))
local macro_rules | `(tactic| walk_at "exec For Name Call cons nil") => `(tactic| (k_here; (rename Fr _ _ _ _ => lF'); (with_unfolding_all refine' For_MyG lF' ?_); k_whole))
local macro_rules | `(tactic| walk_at "exec For Tuple Call cons nil") => `(tactic| (k_here; (rename Fr _ _ _ _ => lF'); (with_unfolding_all refine' For_MyG lF' ?_); k_whole))
local macro_rules | `(tactic| walk_at "call type:zip") => `(tactic| (k_here; (with_reducible show wpAny _ _ (call (Value.type "zip") [Value.str _ _, Value.str _ _]) _ _ _); k_dflt (refine' zip_make ?k1 ?k2 ?k3 ?k4 ?_; (case k1 => k_asm); (case k2 => k_asm); (case k3 => assumption); (case k4 => assumption); k_whole); intro z9 TI9 TO9 i9 j9 h9 F9 N9 l9 l8 l7 l6 l5; (try k_sweep)))
local macro_rules | `(tactic| walk_at "execs cons") => `(tactic| (k_here; (refine toksAll (fun tkG => ?_)); (with_reducible refine wpAny_execs_cons ?_); try dsimp only))
local macro_rules | `(tactic| walk_at "call builtin:min") => `(tactic| (k_here; (with_reducible show wpAny _ _ (call (Value.builtin "min") [Value.int _ _, Value.int _ _, Value.int _ _]) _ _ _); k_dflt (refine' min3_led ?k1 ?k2 ?k3 ?_; (case k1 => k_asm); (case k2 => k_asm); (case k3 => rfl); k_whole); intro h9 tk9 t9 F9 N9; (try k_sweep)))
local macro_rules | `(tactic| walk_at "callWith type:enumerate") => `(tactic| (k_here; (with_reducible show wpAny _ _ (callWith _ (Value.type "enumerate") [] _ _) _ _ _); k_dflt (refine' callWith_tyKw ?_ ?a ?b; (case a => rfl); (case b => rfl); k_whole)))
local macro_rules | `(tactic| walk_at "call type:enumerate") => `(tactic| (k_here; (with_reducible show wpAny _ _ (call (Value.type "enumerate") [Value.ref _] _) _ _ _); k_dflt (refine' enum_make ?k1 ?k2 ?k3 ?_; (case k1 => k_asm); (case k2 => k_asm); (case k3 => k_mem); k_whole); intro e9 h9 F9 N9 l9; (try k_sweep)))
local macro_rules | `(tactic| walk_at "call ref") => `(tactic| (k_here; (with_reducible show wpAny _ _ (call (Value.ref 184) _) _ _ _); k_dflt (refine' dcost_ok ?k1 ?k2 ?k3 ?k4 ?k5 ?k6 ?k7 ?k8 ?k9 ?k10 ?k11 ?k12 ?k13 ?k14 ?_; (case k1 => k_asm); (case k2 => k_asm); (case k3 => k_asm); (case k4 => k_asm); (case k5 => k_asm); (case k6 => assumption); (case k7 => exact TabIn.sub (by assumption) (by intro p hp; k_ownIn)); (case k8 => k_mem); (case k9 => k_mem); (case k10 => k_mem); (case k11 => ktr_room); (case k12 => ktr_units); (case k13 => exact (by assumption : ∀ z : Str, z.length = 1 → isIn z _ = List.any _ (isIn z)) _ rfl); (case k14 => exact (by assumption : ∀ z : Str, z.length = 1 → isIn z _ = List.any _ (isIn z)) _ rfl); k_whole); intro t9 h9 tk9 nx9 F9 N9 TI9 sn9; refine Stop.out ?_))
local macro_rules | `(tactic| walk_at "call ref") => `(tactic| (k_here; (with_reducible show wpAny _ _ (call (Value.ref 177) _) _ _ _); k_dflt (refine wpAny_call ?_); k_dflt (refine' rcost_code ?k1 ?k2 ?k3 ?k4 ?k5 ?k6 ?k7 ?k8 ?k9 ?k10 ?k11 ?k12 ?k13 ?k14 ?_; (case k1 => k_asm); (case k2 => k_asm); (case k3 => k_asm); (case k4 => k_asm); (case k5 => k_asm); (case k6 => assumption); (case k7 => exact TabIn.sub (by assumption) (by intro p hp; k_ownIn)); (case k8 => k_mem); (case k9 => k_mem); (case k10 => k_mem); (case k11 => ktr_room); (case k12 => ktr_units); (case k13 => exact (by assumption : ∀ z : Str, z.length = 1 → isIn z _ = List.any _ (isIn z)) _ rfl); (case k14 => exact (by assumption : ∀ z : Str, z.length = 1 → isIn z _ = List.any _ (isIn z)) _ rfl); k_whole); intro t9 h9 tk9 nx9 F9 N9 TI9 sn9; refine Stop.out ?_))
section
variable {w : World} {p : Program} {loose : List Str} {mean : ExcName → Option Value} {mg mb : Str → Option Value}
    {dp un : Nat} {gd : Option (List Code)} {cn : Str} {nms : List (Str × NameKind)} {ig ic : Bool} {mo : List (Str × Const)} {a : Addr} {ccd : Value} {cl : List (Str × Addr)} {outer : List Env} {A₀ : Around} {base h₀ : Heap} {L : Addr} {m : Str → Option Value} {s : Shared} {Q E : Value → Shared → Prop}
    {news : List (Addr × Obj)}

theorem call_code {x y g1 g2 g3 gr fr : Str} {t1 t2 u1 u2 u3 k1 k2 k3 k4 k5 k6 k7 k8 t3 t4 t5 t6 t7 : Tok} {c0 c1 c2 : Int} {e d ga : Addr} {lo : Bool}
    (B : Below A₀ base outer h₀) (F : Fr h₀ L s.heap m) (X : (hd.heap_39 w.params).In h₀) (N : News h₀ L s.heap news) (T : Top p loose mean mg mb h₀) (HC : CodeHd base 176 172) (TI : TabIn 172 lamQ news)
    (hI : (e, instObj 192 d) ∈ news) (hD : (d, editD w k1 k2 k3 k4 k5 k6 k7 k8 (.int c0 t3) (.int c1 t4) (.int c2 t5) (.bool lo) (.bool true) (.ref ga) (.str fr t6) (.str gr t7)) ∈ news)
    (hg : (ga, ({ cls := .type "tuple", data := .seq [Value.str g1 u1, .str g2 u2, .str g3 u3].toArray } : Obj)) ∈ news)
    (hd : dp + 60 < recursionLimit) (hu : un + 400 < cLine) (hx : x.length ≤ 100) (hy : y.length ≤ 100) (hz : 0 ≤ c2 ∧ c2 ≤ 1000) (hxu : (Txt.upper x).length ≤ 100) (hyu : (Txt.upper y).length ≤ 100) (hax : (Txt.upper x).cps.all (· < 128) = true) (hay : (Txt.upper y).cps.all (· < 128) = true)
    (jj : ∀ z : Str, z.length = 1 → isIn z gr = [g1, g2, g3].any (isIn z))
    (ret : ∀ v t h' tk' nx', CallV g1 g2 g3 fr c0 c1 c2 lo x y v → Fr h₀ L h' m → News h₀ L h' nx' → TabIn 172 lamQ nx' → (∀ p ∈ news, p.1 ≠ 172 → p ∈ nx') → Q (.int v t) { s with heap := h', toks := tk' }) :
    codeAny (model PySem.Challenge.rw_fq5039_01.row.prog w) (ktrTop dp un gd cn ⟨.function, nms, ig, ic, mo⟩ L a ccd cl outer) (.call (.ref 189) ⟨[.ref e, .str x t1, .str y t2], []⟩) (fun r s' => match r with | .ok (.ret v) => Q v s' | .ok _ => False | .error e => E e s') s := by
  w_on
  revert X
  k_fill
  intro X
  have hsp : (Str.ofString " ").length = 1 := rfl
  k_enter
  w_strict k_steps
  · exact ret _ _ _ _ _ (.inl ⟨by assumption, rfl⟩) (by assumption) (by assumption) (TI.sub (by intro p hp; k_ownIn)) (by intro p hp _; k_ownIn)
  · exact ret _ _ _ _ _ (.inr (.inl ⟨by assumption, by assumption, rfl⟩)) (by assumption) (by assumption) (TI.sub (by intro p hp; k_ownIn)) (by intro p hp _; k_ownIn)
  have hXl : (Str.ofString " " ++ Txt.upper x).length = (Txt.upper x).length + 1 := by omega
  have hYl : (Str.ofString " " ++ Txt.upper y).length = (Txt.upper y).length + 1 := by omega
  have haX := sp_ascii hax
  have haY := sp_ascii hay
  have haXs := slice1_ascii (by omega) haX
  have haYs := slice1_ascii (by omega) haY
  generalize hXe : Str.ofString " " ++ Txt.upper x = Xs at *
  generalize hYe : Str.ofString " " ++ Txt.upper y = Ys at *
  refine MySrc.range (n := (Txt.upper x).length + 1) (by rfl) (by k_asm) (by k_asm) (by assumption) (small_one (by omega) (by omega) (by omega) (by omega)) (by rw [rangeSize_nat]; omega) (by rw [PySem.sizeLine_eq]; omega) fun g' => ?_
  refine rows_range (wd := (Txt.upper y).length + 1) (fun rl k' t' I' oI' C' oC' D' m' ys' h' tk' E' hC' hx' F' N' off' ne' => ?_) ?_
  · w_strict k_steps
    rename_i i1 n1 s1 e1 e2 e3 l1
    exact LCg.CompEnd.intro (by assumption) (by assumption) ((_, _) :: _) (by kcf_all) ⟨⟨Nat.ne_of_gt l1.2.1, Nat.ne_of_gt l1.2.2.1, Nat.ne_of_gt l1.2.2.2.1⟩, off'⟩ trivial
      ⟨_, _, _, rfl, rfl, rowInts2 i1 (by omega), fun p hp => Nat.ne_of_lt (allLt_mem l1.2.2.2.2 p hp)⟩
  · intro rs rl hl h1 h2 h3 h4 D hh tk FD ND off1
    obtain ⟨R, keep, hM, hkL, hkR, hk172, hkb⟩ := cell_pack hl h1 h2 h4 off1 ⟨by omega, by omega⟩
    generalize hn1 : (Txt.upper x).length = n1 at *
    generalize hm1 : (Txt.upper y).length = m1 at *
    clear h1 h2 h3 h4 off1
    dsimp only
    have TIL := tabIn_of ND TI (fun p hp => .tail _ (List.mem_append_right _ (.tail _ hp)))
    have hD172 : D ≠ 172 := ne_tab ND (.head _) TIL (fun p hp => hp) (fun _ e => by cases e)
    have hR172 : ∀ i, i < n1 + 1 → R i ≠ 172 := fun i hi => by
      obtain ⟨vs, k, hm, _⟩ := hM.row i hi
      exact ne_tab ND hm TIL (fun p hp => hp) notF_list
    have e4 : (e, instObj 192 d) ∈ keep := hkb _ (.tail _ hI) (ne_tab N hI TI (fun _ h => h) notF_plain)
    have e5 := hkb _ (.tail _ hD) (ne_tab N hD TI (fun _ h => h) notF_dict)
    have e6 := hkb _ (.tail _ hg) (ne_tab N hg TI (fun _ h => h) notF_seq)
    have ec := hkb _ (.head _) (ne_tab ND (.tail _ (List.mem_append_right _ (.head _))) TIL (fun p hp => hp) (notF_cell (by assumption)))
    have esn : ∀ p ∈ news, p.1 ≠ 172 → p ∈ keep := fun p hp hn => hkb p (.tail _ hp) hn
    generalize hVe : (fun k : Nat => stepC g1 g2 g3 fr c0 c1 c2 (Txt.item Xs (k : Int)) (Txt.item Xs ((k : Int) + 1))) = V
    generalize hHe : (fun k : Nat => stepC g1 g2 g3 fr c0 c1 c2 (Txt.item Ys (k : Int)) (Txt.item Ys ((k : Int) + 1))) = H
    generalize hDe : (fun i j : Nat => pairC g1 g2 g3 c0 c1 c2 (Txt.item Xs ((i : Int) + 1)) (Txt.item Ys ((j : Int) + 1))) = Dd
    refine execs_cut (CallMid FD s lamQ ["i"] keep D R (n1 + 1) (m1 + 1) (fun M => ∀ a b, a ≤ n1 → b ≤ m1 → M a b = if b = 0 then dpT lo V H Dd a 0 else 0)) ?_ ?_
    · w_strict k_steps
      · rename IsRange _ _ _ _ _ _ _ _ => RG
        rename News _ _ _ _ => NL
        unfold MyG
        refine rangeM (k := n1) (P := 172) (qual := lamQ) (keep := keep) ["i"] (fun k M => ∀ a b, a ≤ n1 → b ≤ m1 → M a b = if b = 0 ∧ a ≤ k then dpT lo V H Dd a 0 else 0) (by rfl) RG (small_one (by omega) (by omega) (by omega) (by omega)) (by rw [rangeSize_nat]; omega) (by k_asm) NL hkL TIL hM ?hj
          (fun i t I oI h tk u nx M hi hJ hof hk hT hX F' N' => ?_) (fun h tk u nx M hJ hk hT hX F' N' => ?_)
        case hj =>
          intro a b h1 h2
          by_cases hc : b = 0 ∧ a ≤ 0
          · rw [if_pos hc]; obtain rfl : a = 0 := by omega
            rw [dpT]
          · rw [if_neg hc]
        · clear hM hkL NL TIL RG
          obtain ⟨b9, hb9⟩ : ∃ b9 : Nat, b9 = i + 1 := ⟨_, rfl⟩
          have hb9' : (1 : Int) + (i : Int) * 1 = (b9 : Int) := by omega
          rw [hb9']
          have q4 := hk _ e4
          have q5 := hk _ e5
          have q6 := hk _ e6
          have qc := hk _ ec
          w_strict k_steps
          rename_i tO tM hA1 hA2 t9 h9 tk9 nx9 F9 N9 TI9 sn9
          have X9 := hX.tab2 hD172 hR172 (fun p hp hn => sn9 p (.tail _ hp) hn)
          have k9 : ∀ p ∈ keep, p ∈ nx9 := fun p hp => sn9 p (.tail _ (hk p hp)) (hk172 p hp)
          have hI9 : (I, oI) ∈ nx9 := sn9 _ (.head _) (fun q => by obtain ⟨ps, hp, _⟩ := hT; exact hof _ hp _ (.head _) q.symm)
          obtain ⟨vb, kb, hmb, _⟩ := X9.row b9 (by omega)
          have hRI : ∀ i, i < n1 + 1 → I ≠ R i := fun i hi q => by
            obtain ⟨vs, k, hm, _⟩ := hX.row i hi
            exact hof _ hm _ (.head _) q.symm
          have hM9 := hJ (b9 - 1) 0 (by omega) (by omega)
          clear hk hT hX q4 q5 q6 qc
          refine Stop.mk ?_
          w_strict k_steps
          refine cell_set (i := b9) (fr := [(I, oI)]) (by k_asm) (by k_asm) (List.forall_mem_cons.mpr ⟨hI9, List.forall_mem_nil _⟩) (List.forall_mem_cons.mpr ⟨hRI b9 (by omega), List.forall_mem_nil _⟩) (fun p hp => hp) X9 (by omega) (by omega) (by omega) fun hS oS FS NS MS => ?_
          w_strict k_steps
          refine ⟨_, _, _, _, _, rfl, FS, ?_, NS, List.forall_mem_cons.mpr ⟨.head _, List.forall_mem_nil _⟩, fun p hp => .tail _ (updL_other (k9 p hp) (hkR p hp b9 (by omega))), (TI9.upd N9 hmb notF_list (hR172 b9 (by omega))).sub (fun p hp => .tail _ hp), MS.sub (fun p hp => .tail _ hp), ?_⟩
          · intro z hz
            have hz2 : (z == Str.ofString "i") = false := by simpa using hz
            have hz3 : ¬ z = Str.ofString "i" := by simpa using hz2
            simp [hz3, hz]
          · exact dp_col hVe (by assumption) hb9 hi hJ
        · w_strict k_steps
          dsimp only
          exact ⟨h, tk, u, nx, M, rfl, fun a b h1 h2 => by rw [hJ a b h1 h2]; exact (by by_cases z : b = 0 <;> simp [z, h1]), hk, hT, hX, F', N'⟩
      · dsimp only
        refine CallMid.none (fun a b h1 h2 => ?_) hkL TIL hM FD ND
        have hlo : lo = true := by simpa using (by assumption : (!lo) = false)
        rw [hlo, dp_lo]
        simp
    · rintro s' ⟨h, tk, u, nx, M, rfl, hJ, hk, hT, hX, F', N'⟩
      clear hM hkL TIL ND FD
      have q4 := hk _ e4
      have q5 := hk _ e5
      have q6 := hk _ e6
      have qc := hk _ ec
      w_strict k_steps
      rename IsRange _ _ _ _ _ _ _ _ => RG
      rename News _ _ _ _ => NL
      unfold MyG
      refine rangeM (k := m1) (P := 172) (qual := lamQ) (keep := keep) ["j"] (fun k M => ∀ a b, a ≤ n1 → b ≤ m1 → M a b = if b = 0 then dpT lo V H Dd a 0 else if a = 0 ∧ b ≤ k then dpT lo V H Dd 0 b else 0) (by rfl) RG (small_one (by omega) (by omega) (by omega) (by omega)) (by rw [rangeSize_nat]; omega) (by k_asm) NL hk hT hX ?hj
        (fun i t I oI h tk u2 nx M hi hJ hof hk hT hX F' N' => ?_) (fun h tk u2 nx M hJ hk hT hX F' N' => ?_)
      case hj =>
        intro a b h1 h2
        rw [hJ a b h1 h2]
        by_cases hc : b = 0
        · rw [if_pos hc, if_pos hc]
        · rw [if_neg hc, if_neg hc, if_neg (by omega)]
      · obtain ⟨b9, hb9⟩ : ∃ b9 : Nat, b9 = i + 1 := ⟨_, rfl⟩
        have hb9' : (1 : Int) + (i : Int) * 1 = (b9 : Int) := by omega
        rw [hb9']
        have q4 := hk _ e4
        have q5 := hk _ e5
        have q6 := hk _ e6
        have qc := hk _ ec
        w_strict k_steps
        rename_i tO tM hA1 hA2 t9 h9 tk9 nx9 F9 N9 TI9 sn9
        have X9 := hX.tab2 hD172 hR172 (fun p hp hn => sn9 p (.tail _ hp) hn)
        have k9 : ∀ p ∈ keep, p ∈ nx9 := fun p hp => sn9 p (.tail _ (hk p hp)) (hk172 p hp)
        have hI9 : (I, oI) ∈ nx9 := sn9 _ (.head _) (fun q => by obtain ⟨ps, hp, _⟩ := hT; exact hof _ hp _ (.head _) q.symm)
        obtain ⟨vb, kb, hmb, _⟩ := X9.row 0 (by omega)
        have hRI : ∀ i, i < n1 + 1 → I ≠ R i := fun i hi q => by
          obtain ⟨vs, k, hm, _⟩ := hX.row i hi
          exact hof _ hm _ (.head _) q.symm
        clear hk hT hX q4 q5 q6 qc
        refine Stop.mk ?_
        w_strict k_steps
        refine cell_set (i := 0) (fr := [(I, oI)]) (by k_asm) (by k_asm) (List.forall_mem_cons.mpr ⟨hI9, List.forall_mem_nil _⟩) (List.forall_mem_cons.mpr ⟨hRI 0 (by omega), List.forall_mem_nil _⟩) (fun p hp => hp) X9 (by omega) (by omega) (by omega) fun hS oS FS NS MS => ?_
        w_strict k_steps
        refine ⟨_, _, _, _, _, rfl, FS, ?_, NS, List.forall_mem_cons.mpr ⟨.head _, List.forall_mem_nil _⟩, fun p hp => .tail _ (updL_other (k9 p hp) (hkR p hp 0 (by omega))), (TI9.upd N9 hmb notF_list (hR172 0 (by omega))).sub (fun p hp => .tail _ hp), MS.sub (fun p hp => .tail _ hp), ?_⟩
        · intro z hz
          have hz2 : (z == Str.ofString "j") = false := by simpa using hz
          have hz3 : ¬ z = Str.ofString "j" := by simpa using hz2
          simp [hz3, hz]
        · exact dp_row hHe hb9 hi hJ
      · have q4 := hk _ e4
        have q5 := hk _ e5
        have q6 := hk _ e6
        have qc := hk _ ec
        dsimp only
        w_strict k_steps
        rename_i eA hA FA NA lA
        refine ezM (P := 172) (qual := lamQ) (keep := keep) ["i", "cs1_prev", "cs1_curr", "j", "cs2_prev", "cs2_curr"] (k := n1) (fun k M => ∀ a b, a ≤ n1 → b ≤ m1 → M a b = if b = 0 ∨ a ≤ k then dpT lo V H Dd a b else 0) (by rfl) (by k_asm) NA (by assumption) (by assumption) (by assumption) (by assumption) (by assumption) (lA _ (.head _)) (by show n1 < Xs.length; omega) (slice1_size hXl) hk hT hX ?hj
          (fun i v own ex h tk u3 nx M hi hP hJ hof hk hT hX F' N' => ?_) (fun h tk u3 nx M hJ hk hT hX F' N' => ?_)
        case hj =>
          intro a b h1 h2
          rw [hJ a b h1 h2]
          by_cases hc : b = 0
          · subst hc; simp
          · by_cases hd : a = 0
            · subst hd; simp [hc, h2]
            · simp [hc, hd]
        · obtain ⟨T, Z, ti, ta, tb, ch, dh, rfl, rfl, hch, hdh⟩ := hP
          have q4 := hk _ e4
          have q5 := hk _ e5
          have q6 := hk _ e6
          have qc := hk _ ec
          refine hideQ fun q hq => ?_
          w_strict k_steps
          rename_i eB hB FB NB lB
          have own172 : ∀ p ∈ own, p.1 ≠ 172 := fun p hp q => by obtain ⟨ps, hm, _⟩ := hT; exact hof _ (List.mem_append_right _ hm) p hp q.symm
          have ownR : ∀ p ∈ own, ∀ i, i < n1 + 1 → p.1 ≠ R i := fun p hp i hi q => by
            obtain ⟨vs, k, hm, _⟩ := hX.row i hi
            exact hof _ (List.mem_append_right _ hm) p hp q.symm
          refine ezM (P := 172) (qual := lamQ) (keep := own ++ keep) ["j", "cs2_prev", "cs2_curr"] (k := m1) (fun k M => ∀ a b, a ≤ n1 → b ≤ m1 → M a b = if b = 0 ∨ a ≤ i ∨ (a = i + 1 ∧ b ≤ k) then dpT lo V H Dd a b else 0) (by rfl) (by k_asm) NB (by assumption) (by assumption) (by assumption) (by assumption) (by assumption) (lB _ (.head _)) (by show m1 < Ys.length; omega) (slice1_size hYl) ?hkk (hT.sub ?hsub) (hX.sub ?hsub) ?hj2
            (fun j v own2 ex h tk u4 nx2 M2 hi2 hP hJ2 hof2 hk2 hT2 hX2 F' N' => ?_) (fun h tk u4 nx2 M2 hJ2 hk2 hT2 hX2 F' N' => ?_)
          case hkk =>
            intro p hp
            rcases List.mem_append.mp hp with hp | hp
            · exact List.mem_append_left _ hp
            · exact List.mem_append_right _ (.tail _ (.tail _ (hk p hp)))
          case hsub => exact fun p hp => List.mem_append_right _ (.tail _ (.tail _ hp))
          case hj2 =>
            intro a b h1 h2
            rw [hJ a b h1 h2]
            by_cases hc : b = 0
            · subst hc; simp
            · by_cases hd : a ≤ i
              · simp [hd]
              · simp [hc, hd]
          · obtain ⟨T2, Z2, ti2, ta2, tb2, ch2, dh2, rfl, rfl, hch2, hdh2⟩ := hP
            clear NB lB hk hT hX q4 q5 q6 qc hof
            have KEEPne : ∀ p ∈ own2 ++ (own ++ keep), p.1 ≠ 172 := fun p hp => by
              rcases List.mem_append.mp hp with hp | hp
              · exact fun q => by obtain ⟨ps, hm, _⟩ := hT2; exact hof2 _ (List.mem_append_right _ hm) p hp q.symm
              · rcases List.mem_append.mp hp with hp | hp
                · exact own172 p hp
                · exact hk172 p hp
            have KEEPR : ∀ p ∈ own2 ++ (own ++ keep), ∀ i, i < n1 + 1 → p.1 ≠ R i := fun p hp i hi => by
              rcases List.mem_append.mp hp with hp | hp
              · exact fun q => by
                  obtain ⟨vs, k, hm, _⟩ := hX2.row i hi
                  exact hof2 _ (List.mem_append_right _ hm) p hp q.symm
              · rcases List.mem_append.mp hp with hp | hp
                · exact ownR p hp i hi
                · exact hkR p hp i hi
            have kk0 : ∀ p ∈ own2 ++ (own ++ keep), p ∈ own2 ++ ([(T2, pairO (.int ((j : Int) + 1) ti2) (.ref Z2)), (Z2, pairO (.str ⟨#[ch2]⟩ ta2) (.str ⟨#[dh2]⟩ tb2))] ++ nx2) := fun p hp => by
              rcases List.mem_append.mp hp with hp | hp
              · exact List.mem_append_left _ hp
              · exact List.mem_append_right _ (List.mem_append_right _ (hk2 p hp))
            have X0 := hX2.sub (fun p hp => (List.mem_append_right _ (List.mem_append_right _ hp) : p ∈ own2 ++ ([(T2, pairO (.int ((j : Int) + 1) ti2) (.ref Z2)), (Z2, pairO (.str ⟨#[ch2]⟩ ta2) (.str ⟨#[dh2]⟩ tb2))] ++ nx2)))
            have T0 := hT2.sub (fun p hp => (List.mem_append_right _ (List.mem_append_right _ hp) : p ∈ own2 ++ ([(T2, pairO (.int ((j : Int) + 1) ti2) (.ref Z2)), (Z2, pairO (.str ⟨#[ch2]⟩ ta2) (.str ⟨#[dh2]⟩ tb2))] ++ nx2)))
            have kin : ∀ p ∈ keep, p ∈ own2 ++ (own ++ keep) := fun p hp => List.mem_append_right _ (List.mem_append_right _ hp)
            have q4 := kk0 _ (kin _ e4)
            have q5 := kk0 _ (kin _ e5)
            have q6 := kk0 _ (kin _ e6)
            clear hk2 hT2 hX2 hof2
            obtain ⟨a9, ha9⟩ : ∃ a9 : Nat, a9 = i + 1 := ⟨_, rfl⟩
            obtain ⟨b9, hb9⟩ : ∃ b9 : Nat, b9 = j + 1 := ⟨_, rfl⟩
            refine hideQ fun q2 hq2 => ?_
            w_strict k_steps
            rename_i tOa t9a h9a tk9a nx9a F9a N9a TI9a sn9a
            have X1 := X0.tab2 hD172 hR172 (fun p hp hn => sn9a p hp hn)
            have kk1 : ∀ p ∈ own2 ++ (own ++ keep), p ∈ nx9a := fun p hp => sn9a p (kk0 p hp) (KEEPne p hp)
            clear X0 kk0 q4 q5 q6 sn9a
            have q4 := kk1 _ (kin _ e4)
            have q5 := kk1 _ (kin _ e5)
            have q6 := kk1 _ (kin _ e6)
            refine Stop.mk ?_
            w_strict k_steps
            rename_i tOb t9b h9b tk9b nx9b F9b N9b TI9b sn9b
            have X2 := X1.tab2 hD172 hR172 (fun p hp hn => sn9b p hp hn)
            have kk2 : ∀ p ∈ own2 ++ (own ++ keep), p ∈ nx9b := fun p hp => sn9b p (kk1 p hp) (KEEPne p hp)
            clear X1 kk1 q4 q5 q6 sn9b
            have q4 := kk2 _ (kin _ e4)
            have q5 := kk2 _ (kin _ e5)
            have q6 := kk2 _ (kin _ e6)
            refine Stop.mk ?_
            w_strict k_steps
            rename_i tOc t9c h9c tk9c nx9c F9c N9c TI9c sn9c
            have X3 := X2.tab2 hD172 hR172 (fun p hp hn => sn9c p hp hn)
            have kk3 : ∀ p ∈ own2 ++ (own ++ keep), p ∈ nx9c := fun p hp => sn9c p (kk2 p hp) (KEEPne p hp)
            clear X2 kk2 q4 q5 q6 sn9c
            have q4 := kk3 _ (kin _ e4)
            have q5 := kk3 _ (kin _ e5)
            have q6 := kk3 _ (kin _ e6)
            refine Stop.mk ?_
            w_strict k_steps
            obtain ⟨vb, kb, hmb, _⟩ := X3.row ((i : Int) + 1).toNat (by omega)
            refine cell_set (i := ((i : Int) + 1).toNat) (fr := []) (by k_asm) (by k_asm) (List.forall_mem_nil _) (List.forall_mem_nil _) (fun p hp => hp) X3 (by omega) (by omega) (by omega) fun hS oS FS NS MS => ?_
            w_strict k_steps
            refine hq2 _ _ ⟨_, _, _, _, _, rfl, FS, ?_, NS, fun p hp => updL_other (kk3 p (List.mem_append_left _ hp)) (KEEPR p (List.mem_append_left _ hp) _ (by omega)), fun p hp => updL_other (kk3 p (List.mem_append_right _ hp)) (KEEPR p (List.mem_append_right _ hp) _ (by omega)), TI9c.upd (by assumption) hmb notF_list (hR172 _ (by omega)), MS, ?_⟩
            · intro z hz
              have z1 := nc_mem hz (.head _)
              have z2 := nc_mem hz (.tail _ (.head _))
              have z3 := nc_mem hz (.tail _ (.tail _ (.head _)))
              simp only [z1, z2, z3, hz, if_false, Bool.false_eq_true]
            · exact dp_cell hVe hHe hDe (by omega) (by omega) hch hdh hch2 hdh2 hi hi2 hJ2
          · w_strict k_steps
            refine hq _ _ ⟨_, _, _, nx2, M2, rfl, F', ?_, N', fun p hp => hk2 p (List.mem_append_left _ hp), fun p hp => hk2 p (List.mem_append_right _ hp), hT2, hX2, ?_⟩
            · intro z hz
              have z1 := nc_mem hz (.head _)
              have z2 := nc_mem hz (.tail _ (.head _))
              have z3 := nc_mem hz (.tail _ (.tail _ (.head _)))
              have z4 := nc_mem hz (.tail _ (.tail _ (.tail _ (.head _))))
              have z5 := nc_mem hz (.tail _ (.tail _ (.tail _ (.tail _ (.head _)))))
              have z6 := nc_mem hz (.tail _ (.tail _ (.tail _ (.tail _ (.tail _ (.head _))))))
              have hz2 : [Str.ofString "j", Str.ofString "cs2_prev", Str.ofString "cs2_curr"].contains z = false := by
                cases hc : [Str.ofString "j", Str.ofString "cs2_prev", Str.ofString "cs2_curr"].contains z with
                | false => rfl
                | true =>
                  have := List.contains_iff_mem.mp hc
                  simp only [List.mem_cons, List.not_mem_nil, or_false] at this
                  rcases this with rfl | rfl | rfl
                  · exact absurd rfl z4
                  · exact absurd rfl z5
                  · exact absurd rfl z6
              simp only [z1, z2, z3, hz, hz2, if_false, Bool.false_eq_true]
            · intro a b h1 h2
              rw [hJ2 a b h1 h2]
              by_cases hd : b = 0 ∨ a ≤ i + 1
              · rw [if_pos hd, if_pos (by omega)]
              · rw [if_neg hd, if_neg (by omega)]
        · have q4 := hk _ e4
          have q5 := hk _ e5
          have q6 := hk _ e6
          have qc := hk _ ec
          dsimp only
          w_strict k_steps
          refine ret _ _ _ _ _ (.inr (.inr ⟨by assumption, by assumption, by assumption, ?_⟩)) (by assumption) (by assumption) hT (fun p hp hn => hk p (esn p hp hn))
          have f1 : ((Xs.length : Int) - 1).toNat = n1 := by omega
          have f2 : ((Ys.length : Int) - 1).toNat = m1 := by omega
          have hv : M n1 m1 = dpT lo V H Dd n1 m1 := by
            rw [hJ n1 m1 (Nat.le_refl _) (Nat.le_refl _), if_pos (Or.inr (Nat.le_refl _))]
          rw [f1, f2, hv, hn1, hm1, hXe, hYe, hVe, hHe, hDe]
          split <;> omega
end
end Mine
end
/-! part C10 -/
section
open PySem PySem.W PyProof.Rows PySem.Spec PySem.Calls
namespace Mine
local macro_rules | `(tactic| k_room) => `(tactic| ktr_room)
local macro_rules | `(tactic| k_units) => `(tactic| ktr_units)
local macro_rules | `(tactic| walk_at "ite") => `(tactic| first | (refine split_dec ?_ ?_ <;> intro _) | (refine split_bool ?_ ?_ <;> intro _))
local macro_rules | `(tactic| k_mem) => `(tactic| first | exact List.Mem.head _ | (refine' List.Mem.tail _ ?_; k_mem) | assumption | (refine' List.mem_append_right _ ?_; k_mem))
local macro_rules | `(tactic| k_all) => `(tactic| first | assumption | exact allLt_0 (by assumption) | exact allLt_1 (by assumption) | exact allLt_2 (by assumption) | exact allLt_3 (by assumption) | exact allLt_4 (by assumption) | exact allLt_5 (by assumption) | exact allLt_6 (by assumption) | exact allLt_7 (by assumption) | exact allLt_8 (by assumption) | (refine' all_app ?kaR ?kaN; (case kaR => assumption); (case kaN => k_all)) | (refine' all_ne ?kaH ?kaD; (case kaH => assumption); (case kaD => (try dsimp only); omega)))
local macro_rules | `(tactic| walk_at "getAttr ref") => `(tactic| (k_here; (with_reducible show wpAny _ _ (getAttr (Value.ref _) (PySem.Str.ofString "_ident") _) _ _ _); k_dflt (refine' get_smI ?k1 ?k2 ?k4 ?k5 ?k6 ?k7 ?k9 ?k10 ?k11 ?k12 ?k13 ?k14 ?_; (case k1 => k_asm); (case k2 => k_asm); (case k4 => k_inst); (case k5 => k_is); (case k6 => k_is); (case k7 => k_is); (case k9 => k_is); (case k10 => k_is); (case k11 => decide +kernel); (case k12 => k_get); (case k13 => k_is); (case k14 => k_handed); k_whole)))
local macro_rules | `(tactic| walk_at "eval Call Attribute") => `(tactic| (k_here; (with_reducible show wpAny _ _ (eval (Expr.Call (Expr.Attribute _ _ _) [Expr.Starred _ _] [] _) _) _ _ _); (refine StarCall ?_)))
local macro_rules | `(tactic| k_enter) => `(tactic| (kp_kind "rest"; (fail_if_success k_inElt); (refine' restC ?k1 ?k2 ?k3 ?k4 ?k5 ?kA ?kF ?kK ?k6 ?k7 ?k8 ?kV ?kP ?kG ?kB ?kD ?_ ?c2 ?c3 ?c4; (case kA => exact rfl); (case kF => exact rfl); (case kK => exact rfl); (case k1 => k_asm); (case k2 => k_asm); (case k3 => k_asm); (case k4 => k_asm); (case k5 => k_asm); (case k6 => k_is); (case k7 => k_is); (case k8 => k_room); (case kV => kl_lit); (case kP => exact rfl); (case kG => exact fun _ => rfl); (case kB => exact fun _ => rfl); (case kD => decide +kernel); (case c2 => exact rfl); (case c3 => exact rfl); (case c4 => exact rfl); k_whole; intro D' g' L' h' tk' cells' l1 FG' F' N' Y' B' X' T' l2 l3; k_cells Y'; (try simp only [List.cons_append, List.nil_append] at N'); (try dsimp only); (try k_lift B'); (try k_fold))))
local macro_rules | `(tactic| walk_at "call ref") => `(tactic| (k_here; (with_reducible show wpAny _ _ (call (Value.ref 95) _) _ _ _); k_dflt (refine' ident_ok ?k1 ?k2 ?k3 ?k4 ?k5 ?k8 ?k9 ?_; (case k1 => k_asm); (case k2 => k_asm); (case k3 => k_asm); (case k4 => k_asm); (case k5 => k_asm); (case k8 => ktr_room); (case k9 => ktr_units); k_whole); intro t9 h9 tk9 F9 N9; (try k_sweep)))
local macro_rules | `(tactic| walk_at "call type:map") => `(tactic| (k_here; k_dflt (refine' mp_make ?k1 ?k2 ?k3 ?_; (case k1 => k_asm); (case k2 => k_asm); (case k3 => k_mem); k_whole); intro M9 T9 I9 oi9 h9 F9 N9 it9 l9 l8 l7; (try k_sweep)))
local macro_rules | `(tactic| walk_at "call ref") => `(tactic| (k_here; (fail_if_success with_reducible show wpAny _ _ (call (Value.ref 95) _) _ _ _); k_dflt (refine wpAny_call ?_; kla_enter)))
local macro_rules | `(tactic| walk_at "compareOp In str str") => `(tactic| refine in_isIn ?_)
local macro_rules | `(tactic| walk_at "compareOp NotIn str str") => `(tactic| refine notin_isIn ?_)
local macro_rules | `(tactic| walk_at "callWith ref") => `(tactic| (k_here; (with_reducible show wpAny _ _ (callWith _ (Value.ref _) _ (backTo _ (starEach [Expr.Starred _ _] _)) []) _ _ _); k_dflt (refine' callWith_SM ?k1 ?k2 ?k3 ?k4 ?_; (case k1 => k_asm); (case k2 => k_asm); (case k3 => k_mem); (case k4 => k_is); k_whole)))
local macro_rules | `(tactic| walk_at "call ref") => `(tactic| (k_here; k_dflt (refine' call_meth (f := Value.ref 170) ?m1 ?m2 ?_; (case m1 => k_asm); (case m2 => k_mem); k_whole); k_dflt (refine' max_code ?k1 ?k2 ?k3 ?k4 ?k5 ?k8 ?k9 ?kx ?ky ?kz ?k11 ?k12 ?_; (case k1 => k_asm); (case k2 => k_asm); (case k3 => k_asm); (case k4 => k_asm); (case k5 => k_asm); (case k8 => k_mem); (case k9 => k_mem); (case kx => assumption); (case ky => assumption); (case kz => assumption); (case k11 => ktr_room); (case k12 => ktr_units); k_whole); intro t9 h9 tk9 F9 N9; (try k_sweep)))
local macro_rules | `(tactic| walk_at "call ref") => `(tactic| (k_here; (with_reducible show wpAny _ _ (call (Value.ref 170) _) _ _ _); k_dflt (refine wpAny_call ?_); k_dflt (refine' max_code ?k1 ?k2 ?k3 ?k4 ?k5 ?k8 ?k9 ?kx ?ky ?kz ?k11 ?k12 ?_; (case k1 => k_asm); (case k2 => k_asm); (case k3 => k_asm); (case k4 => k_asm); (case k5 => k_asm); (case k8 => k_mem); (case k9 => k_mem); (case kx => assumption); (case ky => assumption); (case kz => assumption); (case k11 => ktr_room); (case k12 => ktr_units); k_whole); intro t9 h9 tk9 F9 N9; (try k_sweep)))
local macro_rules | `(tactic| walk_at "call builtin:all") => `(tactic| (k_here; (with_reducible show wpAny _ _ (call (Value.builtin "all") [Value.ref _]) _ _ _); k_dflt (refine' all_tup2 ?k1 ?k2 ?k3 ?k4 ?k5 ?k6 ?_; (case k1 => k_asm); (case k2 => k_asm); (case k3 => rfl); (case k4 => k_mem); (case k5 => assumption); (case k6 => assumption); k_whole); intro h9 tk9 F9 N9; (try k_sweep)))
local macro_rules | `(tactic| walk_at "callWith ref") => `(tactic| (k_here; (with_reducible show wpAny _ _ (callWith _ (Value.ref _) _ (backTo _ (starEach [Expr.Starred _ _] _)) []) _ _ _); k_dflt (refine' callWith_SI ?k1 ?k2 ?k3 ?k4 ?_; (case k1 => k_in); (case k2 => k_inst); (case k3 => rfl); (case k4 => k_is); k_whole)))
local macro_rules | `(tactic| walk_at "call ref") => `(tactic| (k_here; k_dflt (refine wpAny_call ?_; refine' kco_code (f := 189) ?c1 ?c2 ?c3 ?c4 ?c5 ?c6 ?_; (case c1 => k_in); (case c2 => k_inst); (case c3 => rfl); (case c4 => k_is); (case c5 => k_is); (case c6 => k_is); (try dsimp only)); k_dflt (refine' call_code ?k1 ?k2 ?k3 ?k4 ?k5 ?k6 ?k7 ?k8 ?k9 ?k10 ?k11 ?k12 ?kx ?ky ?kz ?ku ?kv ?ka ?kb ?kj ?_; (case k1 => k_asm); (case k2 => k_asm); (case k3 => k_asm); (case k4 => k_asm); (case k5 => k_asm); (case k6 => assumption); (case k7 => exact TabIn.sub (by assumption) (by intro p hp; k_ownIn)); (case k8 => k_mem); (case k9 => k_mem); (case k10 => k_mem); (case k11 => ktr_room); (case k12 => ktr_units); (case kx => assumption); (case ky => assumption); (case kz => assumption); (case ku => assumption); (case kv => assumption); (case ka => assumption); (case kb => assumption); (case kj => assumption); k_whole); intro v9 t9 h9 tk9 nx9 q9 F9 N9 TI9 sn9))
section
variable {w : World} {p : Program} {loose : List Str} {mean : ExcName → Option Value} {mg mb : Str → Option Value}
    {dp un : Nat} {gd : Option (List Code)} {cn : Str} {nms : List (Str × NameKind)} {ig ic : Bool} {mo : List (Str × Const)} {a : Addr} {ccd : Value} {cl : List (Str × Addr)} {outer : List Env} {A₀ : Around} {base h₀ : Heap} {L : Addr} {m : Str → Option Value} {s : Shared} {Q E : Value → Shared → Prop}
    {news : List (Addr × Obj)}

theorem dist_ok {x y g1 g2 g3 gr fr : Str} {t1 t2 u1 u2 u3 k1 k2 k3 k4 k5 k6 k7 k8 t3 t4 t5 t6 t7 : Tok} {c0 c1 c2 : Int} {e d ga : Addr} {lo : Bool}
    (B : Below A₀ base outer h₀) (F : Fr h₀ L s.heap m) (X : (hd.heap_39 w.params).In h₀) (N : News h₀ L s.heap news) (T : Top p loose mean mg mb h₀) (HC : CodeHd base 176 172) (TI : TabIn 172 lamQ news)
    (hI : (e, instObj 192 d) ∈ news) (hD : (d, editD w k1 k2 k3 k4 k5 k6 k7 k8 (.int c0 t3) (.int c1 t4) (.int c2 t5) (.bool lo) (.bool true) (.ref ga) (.str fr t6) (.str gr t7)) ∈ news)
    (hg : (ga, ({ cls := .type "tuple", data := .seq [Value.str g1 u1, .str g2 u2, .str g3 u3].toArray } : Obj)) ∈ news)
    (hd : dp + 80 < recursionLimit) (hu : un + 600 < cLine) (hx : x.length ≤ 100) (hy : y.length ≤ 100) (hz : 0 ≤ c2 ∧ c2 ≤ 1000) (hxu : (Txt.upper x).length ≤ 100) (hyu : (Txt.upper y).length ≤ 100) (hax : (Txt.upper x).cps.all (· < 128) = true) (hay : (Txt.upper y).cps.all (· < 128) = true)
    (jj : ∀ z : Str, z.length = 1 → isIn z gr = [g1, g2, g3].any (isIn z))
    (ret : ∀ v t h' tk' nx', CallV g1 g2 g3 fr c0 c1 c2 lo x y v → Fr h₀ L h' m → News h₀ L h' nx' → TabIn 172 lamQ nx' → (∀ p ∈ news, p.1 ≠ 172 → p ∈ nx') → Q (.int v t) { s with heap := h', toks := tk' }) :
    wpAny (model PySem.Challenge.rw_fq5039_01.row.prog w) (ktrTop dp un gd cn ⟨.function, nms, ig, ic, mo⟩ L a ccd cl outer) (call (.ref 60) [.ref e, .str x t1, .str y t2]) Q E s := by
  w_on
  revert X
  k_fill
  intro X
  w_strict k_steps
  rename_i q9 F9 N9 TI9 sn9 kF kN Tc kX
  exact ret _ _ _ _ _ q9 kF kN TI9 (fun p hp hn => sn9 p (.tail _ hp) hn)
end
end Mine
end
/-! part P1 -/
section
open PySem PySem.W PyProof.Rows PySem.Spec PySem.Calls
namespace Mine
/-! the plain law: a table from the front and a table from the back -/
section
variable {lo : Bool} {v h : Nat → Int} {d : Nat → Nat → Int} {n m : Nat}
theorem dp_z0 : ∀ i, dpT true v h d i 0 = 0
  | 0 => by rw [dpT]
  | i + 1 => by rw [dpT]; rfl
theorem dp_v (hv : ∀ i, 0 ≤ v i) (i : Nat) : ∀ j, dpT lo v h d (i + 1) j ≤ dpT lo v h d i j + v i
  | 0 => by
    cases lo with
    | true => rw [dp_z0, dp_z0]; have := hv i; omega
    | false => rw [dpT]; simp
  | j + 1 => by rw [dpT]; exact Int.le_trans (Int.min_le_left _ _) (Int.min_le_left _ _)
theorem dp_h (j : Nat) : ∀ i, dpT lo v h d i (j + 1) ≤ dpT lo v h d i j + h j
  | 0 => by rw [dpT]; exact Int.le_refl _
  | i + 1 => by rw [dpT]; exact Int.le_trans (Int.min_le_left _ _) (Int.min_le_right _ _)
theorem dp_d (i j : Nat) : dpT lo v h d (i + 1) (j + 1) ≤ dpT lo v h d i j + d i j := by
  rw [dpT]; exact Int.min_le_right _ _
theorem fb_end : farB n m v h d n m = 0 := by
  rw [farB, if_neg (by omega), if_neg (by omega)]
theorem fb_v {i j : Nat} (hi : i < n) : farB n m v h d i j ≤ farB n m v h d (i + 1) j + v i := by
  rw [farB, if_pos hi]
  by_cases hj : j < m
  · rw [if_pos hj]; exact Int.le_trans (Int.min_le_left _ _) (Int.min_le_left _ _)
  · rw [if_neg hj]; exact Int.le_refl _
theorem fb_h {i j : Nat} (hj : j < m) : farB n m v h d i j ≤ farB n m v h d i (j + 1) + h j := by
  rw [farB]
  by_cases hi : i < n
  · rw [if_pos hi, if_pos hj]; exact Int.le_trans (Int.min_le_left _ _) (Int.min_le_right _ _)
  · rw [if_neg hi, if_pos hj]; exact Int.le_refl _
theorem fb_d {i j : Nat} (hi : i < n) (hj : j < m) : farB n m v h d i j ≤ farB n m v h d (i + 1) (j + 1) + d i j := by
  rw [farB, if_pos hi, if_pos hj]; exact Int.min_le_right _ _
theorem dp_le (hv : ∀ i, 0 ≤ v i) : ∀ (k i j : Nat), i ≤ n → j ≤ m → (n - i) + (m - j) ≤ k → dpT lo v h d n m ≤ dpT lo v h d i j + farB n m v h d i j := by
  intro k
  induction k with
  | zero =>
    intro i j hi hj hk
    obtain rfl : i = n := by omega
    obtain rfl : j = m := by omega
    rw [fb_end]; omega
  | succ k ih =>
    intro i j hi hj hk
    rw [farB]
    have b1 := dp_v (lo := lo) (h := h) (d := d) hv i j
    have b2 := dp_h (lo := lo) (v := v) (h := h) (d := d) j i
    have b3 := dp_d (lo := lo) (v := v) (h := h) (d := d) i j
    by_cases h1 : i < n
    · have a1 := ih (i + 1) j (by omega) hj (by omega)
      rw [if_pos h1]
      by_cases h2 : j < m
      · rw [if_pos h2]
        have a2 := ih i (j + 1) hi (by omega) (by omega)
        have a3 := ih (i + 1) (j + 1) (by omega) (by omega) (by omega)
        omega
      · rw [if_neg h2]; omega
    · rw [if_neg h1]
      by_cases h2 : j < m
      · rw [if_pos h2]
        have a2 := ih i (j + 1) hi (by omega) (by omega)
        omega
      · rw [if_neg h2]
        obtain rfl : i = n := by omega
        obtain rfl : j = m := by omega
        omega
theorem dp_ge : ∀ (i j : Nat), i ≤ n → j ≤ m → ∃ i0, i0 ≤ i ∧ (lo = false → i0 = 0) ∧ farB n m v h d i0 0 ≤ dpT lo v h d i j + farB n m v h d i j := by
  intro i
  induction i with
  | zero =>
    intro j
    induction j with
    | zero => intro _ _; exact ⟨0, Nat.le_refl _, fun _ => rfl, by rw [dpT]; omega⟩
    | succ j ih =>
      intro h1 h2
      obtain ⟨i0, a, b, c⟩ := ih h1 (by omega)
      refine ⟨i0, a, b, ?_⟩
      have q := fb_h (n := n) (v := v) (h := h) (d := d) (i := 0) (j := j) h2
      rw [dpT]; omega
  | succ i ihi =>
    intro j
    induction j with
    | zero =>
      intro h1 h2
      cases lo with
      | true => exact ⟨i + 1, Nat.le_refl _, (fun e => by cases e), by rw [dp_z0]; omega⟩
      | false =>
        obtain ⟨i0, a, b, c⟩ := ihi 0 (by omega) h2
        have q := fb_v (m := m) (v := v) (h := h) (d := d) (i := i) (j := 0) h1
        have e : dpT false v h d (i + 1) 0 = dpT false v h d i 0 + v i := by rw [dpT]; simp
        exact ⟨i0, by omega, b, by rw [e]; omega⟩
    | succ j ihj =>
      intro h1 h2
      obtain ⟨i1, a1, b1, c1⟩ := ihi (j + 1) (by omega) h2
      obtain ⟨i2, a2, b2, c2⟩ := ihj h1 (by omega)
      obtain ⟨i3, a3, b3, c3⟩ := ihi j (by omega) (by omega)
      have q1 := fb_v (m := m) (v := v) (h := h) (d := d) (i := i) (j := j + 1) h1
      have q2 := fb_h (n := n) (v := v) (h := h) (d := d) (i := i + 1) (j := j) h2
      have q3 := fb_d (v := v) (h := h) (d := d) (i := i) (j := j) (n := n) (m := m) h1 h2
      have e : dpT lo v h d (i + 1) (j + 1) = min (min (dpT lo v h d i (j + 1) + v i) (dpT lo v h d (i + 1) j + h j)) (dpT lo v h d i j + d i j) := by rw [dpT]
      by_cases k1 : dpT lo v h d (i + 1) (j + 1) = dpT lo v h d i (j + 1) + v i
      · exact ⟨i1, by omega, b1, by omega⟩
      · by_cases k2 : dpT lo v h d (i + 1) (j + 1) = dpT lo v h d (i + 1) j + h j
        · exact ⟨i2, by omega, b2, by omega⟩
        · exact ⟨i3, by omega, b3, by omega⟩
theorem dp_cap {c : Int} (hc : 0 ≤ c) (hv : ∀ i, v i ≤ c) (hh : ∀ i, h i ≤ c) (hd : ∀ i j, d i j ≤ c) : ∀ i j, dpT lo v h d i j ≤ (max i j : Nat) * c := by
  have one : ∀ k : Nat, ((k + 1 : Nat) : Int) * c = (k : Int) * c + c := fun k => by
    rw [show ((k + 1 : Nat) : Int) = (k : Int) + 1 from rfl, Int.add_mul, Int.one_mul]
  have nn : ∀ k : Nat, 0 ≤ (k : Int) * c := fun k => Int.mul_nonneg (by omega) hc
  intro i
  induction i with
  | zero =>
    intro j
    induction j with
    | zero => rw [dpT]; simp
    | succ j ih =>
      rw [dpT]
      rw [show max 0 (j + 1) = j + 1 by omega, one]
      rw [show max 0 j = j by omega] at ih
      have := hh j; omega
  | succ i ihi =>
    intro j
    cases j with
    | zero =>
      rw [show max (i + 1) 0 = i + 1 by omega, one]
      have a := ihi 0
      rw [show max i 0 = i by omega] at a
      cases lo with
      | true => rw [dp_z0]; have := nn i; omega
      | false =>
        have e : dpT false v h d (i + 1) 0 = dpT false v h d i 0 + v i := by rw [dpT]; simp
        rw [e]; have := hv i; omega
    | succ j =>
      have a := ihi j
      have b := dp_d (lo := lo) (v := v) (h := h) (d := d) i j
      rw [show max (i + 1) (j + 1) = max i j + 1 by omega, one]
      have := hd i j
      omega
theorem dp_far (hv : ∀ i, 0 ≤ v i) : if lo then (∃ i, i ≤ n ∧ dpT lo v h d n m = farB n m v h d i 0) ∧ ∀ i, i ≤ n → dpT lo v h d n m ≤ farB n m v h d i 0 else dpT lo v h d n m = farB n m v h d 0 0 := by
  obtain ⟨i0, a, b, c⟩ := dp_ge (lo := lo) (v := v) (h := h) (d := d) n m (Nat.le_refl n) (Nat.le_refl m)
  rw [fb_end] at c
  cases lo with
  | true =>
    rw [if_pos rfl]
    have all : ∀ i, i ≤ n → dpT true v h d n m ≤ farB n m v h d i 0 := fun i hi => by
      have := dp_le (lo := true) (h := h) (d := d) (m := m) hv _ i 0 hi (Nat.zero_le m) (Nat.le_refl _)
      rw [dp_z0] at this; omega
    exact ⟨⟨i0, a, by have := all i0 a; omega⟩, all⟩
  | false =>
    rw [if_neg Bool.false_ne_true]
    have := dp_le (lo := false) (h := h) (d := d) (m := m) hv _ 0 0 (Nat.zero_le n) (Nat.zero_le m) (Nat.le_refl _)
    rw [show dpT false v h d 0 0 = 0 by rw [dpT]] at this
    have e := b rfl
    subst e
    omega
end
end Mine
end
/-! part P2 -/
section
open PySem PySem.W PyProof.Rows PySem.Spec PySem.Calls
namespace Mine
/-! texts of A to H: upper, lower -/
theorem goodT_lt {a : Str} (h : GoodT a) : ∀ c ∈ a.cps.toList, c < 128 := fun c hc => by have := (h.2 c hc).2; omega
theorem up1_good : ∀ c, 65 ≤ c → c ≤ 72 → up1 c = c ∧ up1 (lo1 c) = c ∧ lo1 c < 128 := by
  intro c h1 h2
  have : ∀ k, k < 8 → up1 (65 + k) = 65 + k ∧ up1 (lo1 (65 + k)) = 65 + k ∧ lo1 (65 + k) < 128 := by decide +kernel
  have e := this (c - 65) (by omega)
  rwa [show 65 + (c - 65) = c by omega] at e
theorem map_id_of {l : Array Nat} {f : Nat → Nat} (h : ∀ c ∈ l.toList, f c = c) : l.map f = l := by
  apply Array.ext'
  rw [Array.toList_map]
  conv => rhs; rw [← List.map_id l.toList]
  exact List.map_congr_left fun c hc => h c hc
theorem upper_good {a : Str} (h : GoodT a) : Txt.upper a = a := by
  rw [upper_ascii (goodT_lt h), map_id_of fun c hc => (up1_good c (h.2 c hc).1 (h.2 c hc).2).1]
theorem lower_good_lt {a : Str} (h : GoodT a) : ∀ c ∈ (Txt.lower a).cps.toList, c < 128 := by
  rw [lower_ascii (goodT_lt h)]
  intro c hc
  have hc' : c ∈ (a.cps.map lo1).toList := hc
  rw [Array.toList_map, List.mem_map] at hc'
  obtain ⟨b, hb, rfl⟩ := hc'
  exact (up1_good b (h.2 b hb).1 (h.2 b hb).2).2.2
theorem upper_lower_good {a : Str} (h : GoodT a) : Txt.upper (Txt.lower a) = a := by
  rw [upper_ascii (lower_good_lt h), lower_ascii (goodT_lt h)]
  show (⟨(a.cps.map lo1).map up1⟩ : Str) = a
  have e : (a.cps.map lo1).map up1 = a.cps := by
    rw [Array.map_map]
    exact map_id_of fun c hc => (up1_good c (h.2 c hc).1 (h.2 c hc).2).2.1
  rw [e]
theorem lower_good_len {a : Str} (h : GoodT a) : (Txt.lower a).length = a.length := by
  rw [lower_ascii (goodT_lt h)]
  show (a.cps.map lo1).size = a.cps.size
  rw [Array.size_map]
/-- a text that is handed in: itself or in small letters -/
def Handed (b : Bool) (x y : Str) : Prop := y = if b then Txt.lower x else x
theorem Handed.up {b : Bool} {x y : Str} (h : Handed b x y) (g : GoodT x) : Txt.upper y = x := by
  cases b with
  | true => rw [show y = Txt.lower x from h]; exact upper_lower_good g
  | false => rw [show y = x from h]; exact upper_good g
theorem Handed.len {b : Bool} {x y : Str} (h : Handed b x y) (g : GoodT x) : y.length = x.length := by
  cases b with
  | true => rw [show y = Txt.lower x from h]; exact lower_good_len g
  | false => rw [show y = x from h]
theorem goodT_all {a : Str} (h : GoodT a) : a.cps.all (· < 128) = true := by
  rw [← Array.all_toList, List.all_eq_true]
  exact fun c hc => decide_eq_true (goodT_lt h c hc)
theorem item_sp (x : Str) (i : Nat) : Txt.item (Str.ofString " " ++ x) ((i : Int) + 1) = Txt.item x (i : Int) := by
  have e : Txt.charAt (Str.ofString " " ++ x) ((i : Int) + 1) = Txt.charAt x (i : Int) := by
    unfold Txt.charAt
    have hl := sp_len (u := x)
    have e2 : seqIndex? ((i : Int) + 1) (Str.ofString " " ++ x).length = if i < x.length then some (i + 1) else none := by
      unfold seqIndex?
      rw [hl]
      have h1 : ¬ ((i : Int) + 1 < 0) := by omega
      by_cases h2 : i < x.length
      · simp [h1, h2]
      · simp [h1, h2]
    have e1 : seqIndex? (i : Int) x.length = if i < x.length then some i else none := by
      unfold seqIndex?
      have h1 : ¬ ((i : Int) < 0) := by omega
      by_cases h2 : i < x.length
      · simp [h1, h2]
      · simp [h1, h2]
    rw [e2, e1]
    by_cases h2 : i < x.length
    · rw [if_pos h2, if_pos h2]
      show ((Str.ofString " ").cps ++ x.cps)[i + 1]? = x.cps[i]?
      rw [Array.getElem?_append_right (by show 1 ≤ i + 1; omega)]
      rfl
    · rw [if_neg h2, if_neg h2]; rfl
  unfold Txt.item
  rw [e]
section
variable {g1 g2 g3 fr x y z : Str} {c0 c1 c2 v : Int} {lo b : Bool}
theorem pairC_bd (h : 0 ≤ c0 ∧ c0 ≤ c1 ∧ c1 ≤ c2) : 0 ≤ pairC g1 g2 g3 c0 c1 c2 x y ∧ pairC g1 g2 g3 c0 c1 c2 x y ≤ c2 := by
  unfold pairC
  split
  · omega
  · split <;> omega
theorem stepC_bd (h : 0 ≤ c0 ∧ c0 ≤ c1 ∧ c1 ≤ c2) : 0 ≤ stepC g1 g2 g3 fr c0 c1 c2 x y ∧ stepC g1 g2 g3 fr c0 c1 c2 x y ≤ c2 := by
  unfold stepC
  split
  · omega
  · exact pairC_bd h
theorem call_same (hv : CallV g1 g2 g3 fr c0 c1 c2 lo z y v) (e : z = y) : v = 0 := by
  rcases hv with ⟨_, h⟩ | ⟨h, _⟩ | ⟨h, _⟩
  · exact h
  · exact absurd e h
  · exact absurd e h
theorem call_void (hz : Handed b x z) (gx : GoodT x) (hv : CallV g1 g2 g3 fr c0 c1 c2 lo z y v) (e : z ≠ y) (h : x.length = 0 ∨ y.length = 0) : v = (max x.length y.length : Nat) * c2 := by
  have hl := hz.len gx
  rcases hv with ⟨q, _⟩ | ⟨_, _, q⟩ | ⟨_, q1, q2, _⟩
  · exact absurd q e
  · rw [← hl]; exact q
  · omega
theorem call_far {v' : Int} (hz : Handed b x z) (gx : GoodT x) (gy : GoodT y) (hc : 0 ≤ c0 ∧ c0 ≤ c1 ∧ c1 ≤ c2) (hv : CallV g1 g2 g3 fr c0 c1 c2 lo z y v) (e : z ≠ y) (h1 : x.length ≠ 0) (h2 : y.length ≠ 0)
    (hf : FarV g1 g2 g3 fr c0 c1 c2 x y lo v') : v = v' := by
  have hl := hz.len gx
  have hu := hz.up gx
  have hy := upper_good gy
  rcases hv with ⟨q, _⟩ | ⟨_, q, _⟩ | ⟨_, _, _, q⟩
  · exact absurd q e
  · omega
  · rw [hu, hy, hl] at q
    simp only [item_sp] at q
    have eV : (fun k : Nat => stepC g1 g2 g3 fr c0 c1 c2 (Txt.item (Str.ofString " " ++ x) (k : Int)) (Txt.item x (k : Int))) = farV g1 g2 g3 fr c0 c1 c2 x := by
      funext k; unfold farV; rw [item_sp]
    have eH : (fun k : Nat => stepC g1 g2 g3 fr c0 c1 c2 (Txt.item (Str.ofString " " ++ y) (k : Int)) (Txt.item y (k : Int))) = farV g1 g2 g3 fr c0 c1 c2 y := by
      funext k; unfold farV; rw [item_sp]
    rw [eV, eH] at q
    have cap := dp_cap (lo := lo) (v := farV g1 g2 g3 fr c0 c1 c2 x) (h := farV g1 g2 g3 fr c0 c1 c2 y) (d := fun i j : Nat => pairC g1 g2 g3 c0 c1 c2 (Txt.item x (i : Int)) (Txt.item y (j : Int))) (c := c2) (by omega) (fun i => (stepC_bd hc).2) (fun i => (stepC_bd hc).2) (fun i j => (pairC_bd hc).2) x.length y.length
    have far := dp_far (lo := lo) (n := x.length) (m := y.length) (v := farV g1 g2 g3 fr c0 c1 c2 x) (h := farV g1 g2 g3 fr c0 c1 c2 y) (d := fun i j : Nat => pairC g1 g2 g3 c0 c1 c2 (Txt.item x (i : Int)) (Txt.item y (j : Int))) (fun i => (stepC_bd hc).1)
    rw [Int.min_eq_left cap] at q
    rw [← q] at far
    unfold FarV farT at hf
    have eD : farD g1 g2 g3 c0 c1 c2 x y = fun i j : Nat => pairC g1 g2 g3 c0 c1 c2 (Txt.item x (i : Int)) (Txt.item y (j : Int)) := rfl
    rw [eD] at hf
    cases lo with
    | true =>
      rw [if_pos rfl] at hf far
      obtain ⟨⟨i, hi, ei⟩, ha⟩ := far
      obtain ⟨⟨k, hk, ek⟩, hb⟩ := hf
      have q1 := ha k hk
      have q2 := hb i hi
      omega
    | false =>
      rw [if_neg Bool.false_ne_true] at hf far
      omega
end
end Mine
end
/-! part P3 -/
section
open PySem PySem.W PyProof.Rows PySem.Spec PySem.Calls
namespace Mine
theorem isIn_one (c : Nat) (g : Str) : isIn ⟨#[c]⟩ g = decide (c ∈ g.cps.toList) := StrLaws.found_one g c
theorem join3_cps (a b c : Str) : (Txt.join (Str.ofString "") [a, b, c]).cps.toList = a.cps.toList ++ (b.cps.toList ++ c.cps.toList) := by
  have e : Txt.join (Str.ofString "") [a, b, c] = a ++ Str.ofString "" ++ b ++ Str.ofString "" ++ c := rfl
  rw [e]
  show (((a.cps ++ (Str.ofString "").cps) ++ b.cps) ++ (Str.ofString "").cps ++ c.cps).toList = _
  have e2 : (Str.ofString "").cps = #[] := rfl
  simp [e2]
theorem join_isIn {g1 g2 g3 : Str} : ∀ z : Str, z.length = 1 → isIn z (Txt.join (Str.ofString "") [g1, g2, g3]) = [g1, g2, g3].any (isIn z) := by
  intro z hz
  obtain ⟨cps⟩ := z
  obtain ⟨c, rfl⟩ : ∃ c, cps = #[c] := by
    obtain ⟨l⟩ := cps
    match l, hz with
    | [c], _ => exact ⟨c, rfl⟩
  simp only [List.any_cons, List.any_nil, isIn_one, join3_cps, Bool.or_false]
  simp [List.mem_append]
end Mine
end
/-! part I1 -/
section
open PySem PySem.W PyProof.Rows PySem.Spec PySem.Calls
namespace Mine
local macro_rules | `(tactic| k_room) => `(tactic| ktr_room)
local macro_rules | `(tactic| k_units) => `(tactic| ktr_units)
local macro_rules | `(tactic| walk_at "ite") => `(tactic| first | (refine split_dec ?_ ?_ <;> intro _) | (refine split_bool ?_ ?_ <;> intro _))
local macro_rules | `(tactic| k_mem) => `(tactic| first | exact List.Mem.head _ | (refine' List.Mem.tail _ ?_; k_mem) | assumption | (refine' List.mem_append_right _ ?_; k_mem))
local macro_rules | `(tactic| k_all) => `(tactic| first | assumption | exact allLt_0 (by assumption) | exact allLt_1 (by assumption) | exact allLt_2 (by assumption) | exact allLt_3 (by assumption) | exact allLt_4 (by assumption) | exact allLt_5 (by assumption) | exact allLt_6 (by assumption) | exact allLt_7 (by assumption) | exact allLt_8 (by assumption) | (refine' all_app ?kaR ?kaN; (case kaR => assumption); (case kaN => k_all)) | (refine' all_ne ?kaH ?kaD; (case kaH => assumption); (case kaD => (try dsimp only); omega)))
abbrev grpV : List Value := [Value.str (Str.ofString "AEIOUY") 378, Value.str (Str.ofString "BP") 379, Value.str (Str.ofString "CKQ") 380, Value.str (Str.ofString "DT") 381, Value.str (Str.ofString "LR") 382, Value.str (Str.ofString "MN") 383, Value.str (Str.ofString "GJ") 384, Value.str (Str.ofString "FPV") 385, Value.str (Str.ofString "SXZ") 386, Value.str (Str.ofString "CSZ") 387]
theorem grp_tup {w : World} {h : Heap} (X : (hd.heap_39 w.params).In h) : IsTup h 155 grpV.toArray := ⟨_, X 155 _ rfl, rfl, _, rfl⟩
theorem mx_eq (a b : Int) : (if a > b then a else b) = max b a := by omega
theorem join3_fit {a b c : Str} (ha : a.length ≤ 8) (hb : b.length ≤ 8) (hc : c.length ≤ 8) : (([a, b, c] : List Str).map (·.length)).sum + ([a, b, c] : List Str).length * (Str.ofString "").length ≤ 16777216 := by
  have e : (Str.ofString "").length = 0 := rfl
  simp only [List.map_cons, List.map_nil, List.sum_cons, List.sum_nil, List.length_cons, List.length_nil, e]
  omega
local macro_rules | `(tactic| walk_at "call builtin:str.join") => `(tactic| (k_here; k_dflt (refine' join_tuple ?k1 ?k2 ?k3 ?_; (case k1 => exact grp_tup (by k_in)); (case k2 => exact .cons _ _ (.cons _ _ (.cons _ _ (.cons _ _ (.cons _ _ (.cons _ _ (.cons _ _ (.cons _ _ (.cons _ _ (.cons _ _ .nil)))))))))); (case k3 => decide +kernel); k_whole); intro t9 k9))
local macro_rules | `(tactic| walk_at "InitBack") => `(tactic| dsimp only [InitBack])
local macro_rules | `(tactic| walk_at "ite") => `(tactic| first | k_dflt (refine ite_pos (by first | rfl | assumption | (simp only [decide_eq_true_eq]; omega)) ?_) | k_dflt (refine ite_neg (by first | exact Bool.false_ne_true | (simp only [decide_eq_true_eq]; omega)) ?_) | (refine split_dec ?_ ?_ <;> intro _) | (refine split_bool ?_ ?_ <;> intro _))
local macro_rules | `(tactic| walk_at "call builtin:str.join") => `(tactic| (k_here; k_dflt (refine' join_tuple ?k1 ?k2 ?k3 ?_; (case k1 => exact News.isTup (by k_asm) (by k_mem)); (case k2 => exact .cons _ _ (.cons _ _ (.cons _ _ .nil))); (case k3 => exact join3_fit (by assumption) (by assumption) (by assumption)); k_whole); intro t9 k9))
section
variable {w : World} {p : Program} {loose : List Str} {mean : ExcName → Option Value} {mg mb : Str → Option Value}
    {dp un : Nat} {gd : Option (List Code)} {cn : Str} {nms : List (Str × NameKind)} {ig ic : Bool} {mo : List (Str × Const)} {a : Addr} {ccd : Value} {cl : List (Str × Addr)} {outer : List Env} {A₀ : Around} {base h₀ : Heap} {L : Addr} {m : Str → Option Value} {s : Shared} {Q E : Value → Shared → Prop}
    {news : List (Addr × Obj)}
abbrev eldD (w : World) (k1 k2 k3 k4 k5 k8 : Tok) (v1 v2 v3 v4 v5 v8 : Value) : Obj :=
  dictOf [ent w (Str.ofString "match_cost") k1 v1, ent w (Str.ofString "group_cost") k2 v2, ent w (Str.ofString "mismatch_cost") k3 v3, ent w (Str.ofString "local") k4 v4,
    ent w (Str.ofString "external") k5 v5, ent w (Str.ofString "grouped") k8 v8] 6
abbrev elderG : Str := Txt.join (Str.ofString "") [Str.ofString "AEIOUY", Str.ofString "BP", Str.ofString "CKQ", Str.ofString "DT", Str.ofString "LR", Str.ofString "MN", Str.ofString "GJ", Str.ofString "FPV", Str.ofString "SXZ", Str.ofString "CSZ"]
theorem new_plain {g1 g2 g3 fr : Str} {u1 u2 u3 t1 t2 t3 t4 : Tok} {b0 b1 b2 : Int} {ga : Addr} {lo : Bool}
    (B : Below A₀ base outer h₀) (F : Fr h₀ L s.heap m) (X : (hd.heap_39 w.params).In h₀) (N : News h₀ L s.heap news) (T : Top p loose mean mg mb h₀)
    (hg : (ga, ({ cls := .type "tuple", data := .seq [Value.str g1 u1, .str g2 u2, .str g3 u3].toArray } : Obj)) ∈ news)
    (hl1 : g1.length ≤ 8) (hl2 : g2.length ≤ 8) (hl3 : g3.length ≤ 8) (hb0 : 0 ≤ b0 ∧ b0 ≤ 1000) (hb1 : 0 ≤ b1 ∧ b1 ≤ 1000) (hb2 : 0 ≤ b2 ∧ b2 ≤ 1000)
    (hd : dp + 20 < recursionLimit) (hu : un + 160 < cLine)
    (ret : ∀ e d k1 k2 k3 k4 k5 k6 k7 k8 t3 t4 t5 t6 t7 h' tk', Fr h₀ L h' m → News h₀ L h' ((e, instObj 192 d) :: (d, editD w k1 k2 k3 k4 k5 k6 k7 k8 (.int b0 t3) (.int (max b1 b0) t4) (.int (max b2 (max b1 b0)) t5) (.bool lo) (.bool true) (.ref ga) (.str fr t6) (.str (Txt.join (Str.ofString "") [g1, g2, g3]) t7)) :: news) → Q (.ref e) { s with heap := h', toks := tk' }) :
    wpAny (model PySem.Challenge.rw_fq5039_01.row.prog w) (ktrTop dp un gd cn ⟨.function, nms, ig, ic, mo⟩ L a ccd cl outer) (call (.ref 192) [] [(Str.ofString "local", .bool lo), (Str.ofString "match_cost", .int b0 t1), (Str.ofString "group_cost", .int b1 t2), (Str.ofString "mismatch_cost", .int b2 t3), (Str.ofString "groups", .ref ga), (Str.ofString "ungrouped", .str fr t4)]) Q E s := by
  w_on
  revert X
  k_fill
  intro X
  w_strict k_steps
  rename_i kF kN Tc kX
  simp only [mx_eq] at kN
  exact ret _ _ _ _ _ _ _ _ _ _ _ _ _ _ _ _ _ kF kN
theorem new_elder
    (B : Below A₀ base outer h₀) (F : Fr h₀ L s.heap m) (X : (hd.heap_39 w.params).In h₀) (N : News h₀ L s.heap news) (T : Top p loose mean mg mb h₀)
    (hd : dp + 20 < recursionLimit) (hu : un + 160 < cLine)
    (ret : ∀ e d k1 k2 k3 k4 k5 k8 t3 t4 t5 t7 h' tk', Fr h₀ L h' m → News h₀ L h' ((e, instObj 192 d) :: (d, eldD w k1 k2 k3 k4 k5 k8 (.int 0 t3) (.int 1 t4) (.int 2 t5) (.bool false) (.bool true) (.str elderG t7)) :: news) → Q (.ref e) { s with heap := h', toks := tk' }) :
    wpAny (model PySem.Challenge.rw_fq5039_01.row.prog w) (ktrTop dp un gd cn ⟨.function, nms, ig, ic, mo⟩ L a ccd cl outer) (call (.ref 192) [] []) Q E s := by
  w_on
  revert X
  k_fill
  intro X
  w_strict k_steps
  rename_i kF kN Tc kX
  exact ret _ _ _ _ _ _ _ _ _ _ _ _ _ _ kF kN
end
end Mine
end
/-! part I2 -/
section
open PySem PySem.W PyProof.Rows PySem.Spec PySem.Calls
namespace Mine
local macro_rules | `(tactic| k_room) => `(tactic| ktr_room)
local macro_rules | `(tactic| k_units) => `(tactic| ktr_units)
local macro_rules | `(tactic| walk_at "ite") => `(tactic| first | (refine split_dec ?_ ?_ <;> intro _) | (refine split_bool ?_ ?_ <;> intro _))
local macro_rules | `(tactic| k_mem) => `(tactic| first | exact List.Mem.head _ | (refine' List.Mem.tail _ ?_; k_mem) | assumption | (refine' List.mem_append_right _ ?_; k_mem))
local macro_rules | `(tactic| k_all) => `(tactic| first | assumption | exact allLt_0 (by assumption) | exact allLt_1 (by assumption) | exact allLt_2 (by assumption) | exact allLt_3 (by assumption) | exact allLt_4 (by assumption) | exact allLt_5 (by assumption) | exact allLt_6 (by assumption) | exact allLt_7 (by assumption) | exact allLt_8 (by assumption) | (refine' all_app ?kaR ?kaN; (case kaR => assumption); (case kaN => k_all)) | (refine' all_ne ?kaH ?kaD; (case kaH => assumption); (case kaD => (try dsimp only); omega)))
local macro_rules | `(tactic| walk_at "InitBack") => `(tactic| dsimp only [InitBack])
local macro_rules | `(tactic| walk_at "ite") => `(tactic| first | k_dflt (refine ite_pos (by first | rfl | assumption | (simp only [decide_eq_true_eq]; omega)) ?_) | k_dflt (refine ite_neg (by first | exact Bool.false_ne_true | (simp only [decide_eq_true_eq]; omega)) ?_) | (refine split_dec ?_ ?_ <;> intro _) | (refine split_bool ?_ ?_ <;> intro _))

section
variable {prog : Program} {w : World} {A₀ A : Around} {s : Shared} {base h₀ : Heap} {L : Addr} {m : Str → Option Value} {news : List (Addr × Obj)} {K : Frag} {p : Program} {loose : List Str} {mean : ExcName → Option Value} {mg mb : Str → Option Value}
    {R : Result → Shared → Prop} {name qual : Str} {params : Arguments} {body : List Stmt} {scope : Scope} {dV kV doc pm cdv ct oc : Value} {an od : Option Addr} {osl : Array (Option Value)} {f : Addr} {args : Args} {binds : List (Str × Value)} {env : Env}
/-! a def with a try of its own, called from a frame with cells -/
theorem code_try (B : Below A₀ base [] h₀) (F : Fr h₀ L s.heap m) (X₀ : K.In h₀) (N : News h₀ L s.heap news) (T : Top p loose mean mg mb h₀) (hA : A.frames = some [env]) (hf : env.frame = some L)
    (ho : K.lookup f = some ⟨oc, od, .func (fnOf name qual params body scope dV kV doc pm an cdv ct), osl⟩) (hcd : codeIn K cdv qual = true) (hroom : A.depth < recursionLimit)
    (hbind : BindsTo s (fnOf name qual params body scope dV kV doc pm an cdv ct) args binds) (hloc : ∀ y ∈ binds, scope.names.lookup y.1 = some .local)
    (h : ∀ g L' h₁, Fr h₀ L g m → Fr g L' h₁ (fun y => binds.reverse.lookup y) → News g L' h₁ news → Below A base [env] g → K.In g → Top p loose mean mg mb g → KtsDicts ([env].filterMap (·.frame)) g →
      wpAny (model prog w) (A.deeper (envOf qual scope L' f cdv)) (execs body (envOf qual scope L' f cdv))
        (fun fl s' => LeaveS0 ([env].filterMap (·.frame)) h₀ L m g R (match fl with | .ret v => v | _ => .none) s')
        (fun e s' => wpAny (model prog w) (A.deeper (envOf qual scope L' f cdv)) (leaving (envOf qual scope L' f cdv) e) (fun _ s'' => R (.error e) s'') (fun e' s'' => R (.error e') s'') s')
        { s with heap := h₁, toks := s.toks + binds.length })
    (hke : env.scope.kind = .function) (hco : scope.isCoroutine = false) (hgen : scope.isGenerator = false) (hk : scope.kind = .function)
    (hcell : ∀ x ∈ scope.names, x.2 ≠ .cell) : codeAny (model prog w) A (.call (.ref f) args) R s := by
  have hfs : [env].filterMap (·.frame) = [L] := by simp [hf]
  obtain ⟨FG, BG, st, _⟩ := groundX (R := R) B F N hA hf hke
  refine codeAny_call_def (fd := fnOf name qual params body scope dV kV doc pm an cdv ct) (body := body) (binds := binds) hroom ((X₀.keeps F.keep) _ _ ho) rfl (T.nolimit.keeps F.keep) (codeRec_of (X₀.keeps F.keep) hcd) rfl hbind hcell hloc (fun h₁ hns hk₁ => ?_) hco hgen hk
  obtain ⟨o, es, ep, hg, hd, hn1, hn2⟩ := FG.ns
  have D : KtsDicts ([env].filterMap (·.frame)) (hideAll s.heap (news.map (·.1))) := fun b hb => by
    rw [hfs] at hb
    obtain rfl : b = L := by simpa using hb
    exact ⟨o, es, ep, hg, hd⟩
  refine wpAny_mono (h _ s.heap.objs.size h₁ FG ⟨hns, fun b o e => hk₁ b o (of_hideAll _ e), Nat.le_of_eq (hideAll_size _ _)⟩
    (fun p hp => ⟨hk₁ _ _ (N p hp).1, Nat.ne_of_lt (Heap.lt_size (N p hp).1), hideAll_none _ (List.mem_map_of_mem hp)⟩) BG (X₀.keeps st) (T.keeps st) D) (fun fl s' hl => ?_) fun _ _ y => y
  obtain ⟨g', L', m', news', T', F', N', k⟩ := hl
  have up : ∀ b ob, h₀.get? b = some ob → ∃ sl, g'.get? b = some { ob with slots := sl } := fun b ob e => T'.up (st b ob e)
  obtain ⟨sl, hs⟩ := T'.up hg
  refine k ⟨⟨_, es, ep, F'.keep _ _ hs, hd, hn1, hn2⟩, fun b ob e => F'.keep b ob (T'.other b ob (st b ob e) fun hb => ?_), F.above⟩ fun p hp => ⟨(N' p hp).1, fun q => ?_, ?_⟩
  · rw [hfs] at hb
    obtain rfl : b = L := by simpa using hb
    rw [kts_self F] at e
    cases e
  · have := (N' p hp).2.2
    rw [q, hs] at this
    cases this
  · cases e : h₀.get? p.1 with
    | none => rfl
    | some ob =>
      obtain ⟨sl', e'⟩ := up _ _ e
      rw [(N' p hp).2.2] at e'
      cases e'
end
section
variable {w : World} {p : Program} {loose : List Str} {mean : ExcName → Option Value} {mg mb : Str → Option Value}
    {dp un : Nat} {gd : Option (List Code)} {cn : Str} {nms : List (Str × NameKind)} {ig ic : Bool} {mo : List (Str × Const)} {a : Addr} {ccd : Value} {cl : List (Str × Addr)} {outer : List Env} {A₀ : Around} {base h₀ : Heap} {L : Addr} {m : Str → Option Value} {s : Shared} {Q E : Value → Shared → Prop}
    {news : List (Addr × Obj)}
theorem refused_ok {g1 g2 g3 : Str} {u1 u2 u3 : Tok} {ga : Addr}
    (B : Below A₀ base [] h₀) (F : Fr h₀ L s.heap m) (X : (hd.heap_39 w.params).In h₀) (N : News h₀ L s.heap news) (T : Top p loose mean mg mb h₀) (XB : (Mine.hd.heap_39 w.params).In base) (TB : Top p loose mean mg mb base)
    (hg : (ga, ({ cls := .type "tuple", data := .seq [Value.str g1 u1, .str g2 u2, .str g3 u3].toArray } : Obj)) ∈ news)
    (hd : dp + 30 < recursionLimit) (hu : un + 240 < cLine)
    (ret : ∀ h' tk', Fr h₀ L h' m → News h₀ L h' news → Q (.bool true) { s with heap := h', toks := tk' }) :
    wpAny (model PySem.Challenge.rw_fq5039_01.row.prog w) (ktrTop dp un gd cn ⟨.function, nms, ig, ic, mo⟩ L a ccd cl []) (call (.ref 223) [.ref ga]) Q E s := by
  w_on
  revert X
  k_fill
  intro X
  refine wpAny_call ?_
  refine' code_try ?k1 ?k2 ?k3 ?k4 ?k5 ?kA ?kf ?k6 ?k7 ?k8 ?k9 ?kB ?_ ?cK ?c2 ?c3 ?c4 ?c5
  case kA => exact rfl
  case k2 => k_asm
  case k1 => k_asm
  case k3 => k_asm
  case k4 => k_asm
  case k5 => k_asm
  case kf => exact rfl
  case k6 => k_is
  case k7 => k_is
  case k8 => k_room
  case k9 => first | exact binds_K (by k_in) rfl (by k_is) rfl rfl rfl | exact BindsTo.of_eq rfl
  case kB => exact locs rfl
  case cK => exact rfl
  case c2 => exact rfl
  case c3 => exact rfl
  case c4 => exact rfl
  case c5 => decide
  k_whole
  intro g' L' h' FG' F' N' B' X' T' D'; (try dsimp only); (try k_lift B'); (try k_fold)
  w_strict k_steps
  exact ret _ _ (by k_asm) (cb_drop (by k_asm) (by intro p hp; k_ownIn))
end
end Mine
end
/-! part C11 -/
section
open PySem PySem.W PyProof.Rows PySem.Spec PySem.Calls
namespace Mine
local macro_rules | `(tactic| k_room) => `(tactic| ktr_room)
local macro_rules | `(tactic| k_units) => `(tactic| ktr_units)
local macro_rules | `(tactic| walk_at "ite") => `(tactic| first | (refine split_dec ?_ ?_ <;> intro _) | (refine split_bool ?_ ?_ <;> intro _))
local macro_rules | `(tactic| k_mem) => `(tactic| first | exact List.Mem.head _ | (refine' List.Mem.tail _ ?_; k_mem) | assumption | (refine' List.mem_append_right _ ?_; k_mem))
local macro_rules | `(tactic| k_all) => `(tactic| first | assumption | exact allLt_0 (by assumption) | exact allLt_1 (by assumption) | exact allLt_2 (by assumption) | exact allLt_3 (by assumption) | exact allLt_4 (by assumption) | exact allLt_5 (by assumption) | exact allLt_6 (by assumption) | exact allLt_7 (by assumption) | exact allLt_8 (by assumption) | (refine' all_app ?kaR ?kaN; (case kaR => assumption); (case kaN => k_all)) | (refine' all_ne ?kaH ?kaD; (case kaH => assumption); (case kaD => (try dsimp only); omega)))
local macro_rules | `(tactic| walk_at "getAttr ref") => `(tactic| (k_here; (with_reducible show wpAny _ _ (getAttr (Value.ref _) (PySem.Str.ofString "_ident") _) _ _ _); k_dflt (refine' get_smI ?k1 ?k2 ?k4 ?k5 ?k6 ?k7 ?k9 ?k10 ?k11 ?k12 ?k13 ?k14 ?_; (case k1 => k_asm); (case k2 => k_asm); (case k4 => k_inst); (case k5 => k_is); (case k6 => k_is); (case k7 => k_is); (case k9 => k_is); (case k10 => k_is); (case k11 => decide +kernel); (case k12 => k_get); (case k13 => k_is); (case k14 => k_handed); k_whole)))
local macro_rules | `(tactic| walk_at "eval Call Attribute") => `(tactic| (k_here; (with_reducible show wpAny _ _ (eval (Expr.Call (Expr.Attribute _ _ _) [Expr.Starred _ _] [] _) _) _ _ _); (refine StarCall ?_)))
local macro_rules | `(tactic| k_enter) => `(tactic| (kp_kind "rest"; (fail_if_success k_inElt); (refine' restC ?k1 ?k2 ?k3 ?k4 ?k5 ?kA ?kF ?kK ?k6 ?k7 ?k8 ?kV ?kP ?kG ?kB ?kD ?_ ?c2 ?c3 ?c4; (case kA => exact rfl); (case kF => exact rfl); (case kK => exact rfl); (case k1 => k_asm); (case k2 => k_asm); (case k3 => k_asm); (case k4 => k_asm); (case k5 => k_asm); (case k6 => k_is); (case k7 => k_is); (case k8 => k_room); (case kV => kl_lit); (case kP => exact rfl); (case kG => exact fun _ => rfl); (case kB => exact fun _ => rfl); (case kD => decide +kernel); (case c2 => exact rfl); (case c3 => exact rfl); (case c4 => exact rfl); k_whole; intro D' g' L' h' tk' cells' l1 FG' F' N' Y' B' X' T' l2 l3; k_cells Y'; (try simp only [List.cons_append, List.nil_append] at N'); (try dsimp only); (try k_lift B'); (try k_fold))))
local macro_rules | `(tactic| walk_at "call ref") => `(tactic| (k_here; (with_reducible show wpAny _ _ (call (Value.ref 95) _) _ _ _); k_dflt (refine' ident_ok ?k1 ?k2 ?k3 ?k4 ?k5 ?k8 ?k9 ?_; (case k1 => k_asm); (case k2 => k_asm); (case k3 => k_asm); (case k4 => k_asm); (case k5 => k_asm); (case k8 => ktr_room); (case k9 => ktr_units); k_whole); intro t9 h9 tk9 F9 N9; (try k_sweep)))
local macro_rules | `(tactic| walk_at "call type:map") => `(tactic| (k_here; k_dflt (refine' mp_make ?k1 ?k2 ?k3 ?_; (case k1 => k_asm); (case k2 => k_asm); (case k3 => k_mem); k_whole); intro M9 T9 I9 oi9 h9 F9 N9 it9 l9 l8 l7; (try k_sweep)))
local macro_rules | `(tactic| walk_at "call ref") => `(tactic| (k_here; (fail_if_success with_reducible show wpAny _ _ (call (Value.ref 95) _) _ _ _); k_dflt (refine wpAny_call ?_; kla_enter)))
local macro_rules | `(tactic| walk_at "compareOp In str str") => `(tactic| refine in_isIn ?_)
local macro_rules | `(tactic| walk_at "compareOp NotIn str str") => `(tactic| refine notin_isIn ?_)


abbrev grpS : List Str := [Str.ofString "AEIOUY", Str.ofString "BP", Str.ofString "CKQ", Str.ofString "DT", Str.ofString "LR", Str.ofString "MN", Str.ofString "GJ", Str.ofString "FPV", Str.ofString "SXZ", Str.ofString "CSZ"]
def pairE (x y : Str) : Int := if x = y then 0 else if grpS.any (fun g => isIn x g && isIn y g) then 1 else 2
theorem pe_0 {x y : Str} (h : x = y) : 0 = pairE x y := (if_pos h).symm
theorem pe_1 {g x y : Str} {i : Nat} (h : ¬ x = y) (eg : grpS.getD i ⟨#[]⟩ = g) (hi : i < grpS.length) (hh : [isIn x g, isIn y g].all id = true) : 1 = pairE x y := by
  unfold pairE
  have hm : g ∈ grpS := by
    rw [← eg, List.getD_eq_getElem?_getD, List.getElem?_eq_getElem hi]
    exact List.getElem_mem hi
  have : grpS.any (fun g => isIn x g && isIn y g) = true := List.any_eq_true.mpr ⟨g, hm, by simpa using hh⟩
  rw [if_neg h, if_pos this]
theorem pe_2 {x y : Str} (h : ¬ x = y) (hb : ∀ j, j < grpS.length → (isIn x (grpS.getD j ⟨#[]⟩) && isIn y (grpS.getD j ⟨#[]⟩)) = false) : 2 = pairE x y := by
  unfold pairE
  have : ¬ grpS.any (fun g => isIn x g && isIn y g) = true := fun q => by
    obtain ⟨g, hm, hg⟩ := List.any_eq_true.mp q
    obtain ⟨j, hj, rfl⟩ := List.mem_iff_getElem.mp hm
    have := hb j hj
    rw [List.getD_eq_getElem?_getD, List.getElem?_eq_getElem hj] at this
    exact Bool.false_ne_true (this.symm.trans hg)
  rw [if_neg h, if_neg this]
theorem pe_3 {gr x y : Str} (h : ¬ x = y) (jx : isIn x gr = grpS.any (isIn x)) (jy : isIn y gr = grpS.any (isIn y)) (hb : [!isIn x gr, !isIn y gr].any id = true) : 2 = pairE x y := by
  refine pe_2 h fun j hj => ?_
  have key : ∀ z : Str, isIn z gr = grpS.any (isIn z) → isIn z gr = false → isIn z (grpS.getD j ⟨#[]⟩) = false := fun z e q => by
    rw [q] at e
    have := List.any_eq_false.mp e.symm (grpS.getD j ⟨#[]⟩) (by
      rw [List.getD_eq_getElem?_getD, List.getElem?_eq_getElem hj]
      exact List.getElem_mem hj)
    simpa using this
  have hb' : isIn x gr = false ∨ isIn y gr = false := by simpa using hb
  rcases hb' with q | q
  · rw [key x jx q, Bool.false_and]
  · rw [key y jy q, Bool.and_false]
section
variable {w : World} {p : Program} {loose : List Str} {mean : ExcName → Option Value} {mg mb : Str → Option Value}
    {dp un : Nat} {gd : Option (List Code)} {cn : Str} {nms : List (Str × NameKind)} {ig ic : Bool} {mo : List (Str × Const)} {a : Addr} {ccd : Value} {cl : List (Str × Addr)} {outer : List Env} {A₀ : Around} {base h₀ : Heap} {L : Addr} {m : Str → Option Value} {s : Shared} {Q E : Value → Shared → Prop}
    {news : List (Addr × Obj)}
theorem rcostE_code {x y : Str} {t1 t2 k1 k2 k3 k4 k5 k8 t3 t4 t5 t7 : Tok} {e d : Addr}
    (B : Below A₀ base outer h₀) (F : Fr h₀ L s.heap m) (X : (hd.heap_39 w.params).In h₀) (N : News h₀ L s.heap news) (T : Top p loose mean mg mb h₀) (HC : CodeHd base 176 172) (TI : TabIn 172 lamQ news)
    (hI : (e, instObj 192 d) ∈ news) (hD : (d, eldD w k1 k2 k3 k4 k5 k8 (.int 0 t3) (.int 1 t4) (.int 2 t5) (.bool false) (.bool true) (.str elderG t7)) ∈ news)
    (hd : dp + 20 < recursionLimit) (hu : un + 160 < cLine)
    (jx : isIn x elderG = grpS.any (isIn x)) (jy : isIn y elderG = grpS.any (isIn y))
    (ret₀ : ∀ t h' tk' nx', Fr h₀ L h' m → News h₀ L h' nx' → TabIn 172 lamQ nx' → (∀ p ∈ news, p.1 ≠ 172 → p ∈ nx') → Q (.int (pairE x y) t) { s with heap := h', toks := tk' }) :
    codeAny (model PySem.Challenge.rw_fq5039_01.row.prog w) (ktrTop dp un gd cn ⟨.function, nms, ig, ic, mo⟩ L a ccd cl outer) (.call (.ref 177) ⟨[.ref e, .str x t1, .str y t2], []⟩) (fun r s' => match r with | .ok (.ret v) => Q v s' | .ok _ => False | .error e => E e s') s := by
  have ret : ∀ v t h' tk' nx', v = pairE x y → Fr h₀ L h' m → News h₀ L h' nx' → TabIn 172 lamQ nx' → (∀ p ∈ news, p.1 ≠ 172 → p ∈ nx') → Q (.int v t) { s with heap := h', toks := tk' } := fun v t h' tk' nx' e a b c d => e ▸ ret₀ t h' tk' nx' a b c d
  clear ret₀
  w_on
  revert X
  k_fill
  intro X
  k_enter
  w_strict k_steps
  · exact ret _ _ _ _ _ (pe_0 (by assumption)) (by assumption) (by assumption) (TI.sub (by intro p hp; k_ownIn)) (by intro p hp _; k_ownIn)
  refine kla_eval (by rfl) ?_
  rename News _ _ _ _ => NL
  refine lam_led (by k_asm) NL (by k_asm) (CodeHd.keeps (by assumption) (Below.stays (by assumption))) rfl (TI.sub (by intro p hp; k_ownIn)) rfl fun f1 c1' ctv1 oc1 vs1 tt1 nx1 h1 tk1 F1 N1 TI1 hc1 hc2 hc3 hs lf => ?_
  have hs1 := hs
  simp only [List.forall_mem_cons] at hs1
  obtain ⟨s1, s2, s3, sn⟩ := hs1
  have hP := ne_tab NL (.head _) TI (by intro p hp; k_ownIn) (notF_cell (by assumption))
  have q1 := s1 hP
  have q2 := s2 (ne_tab NL (.tail _ (.head _)) TI (by intro p hp; k_ownIn) (notF_cell (by assumption)))
  have q3 := s3 (ne_tab NL (.tail _ (.tail _ (.head _))) TI (by intro p hp; k_ownIn) notF_seq)
  have q4 := sn _ hI (ne_tab N hI TI (fun _ h => h) notF_plain)
  have q5 := sn _ hD (ne_tab N hD TI (fun _ h => h) notF_dict)
  clear s1 s2 s3 NL
  w_strict k_steps
  · refine any_mp [!isIn x elderG, !isIn y elderG] (by k_asm) (by assumption) (by assumption) rfl rfl (by assumption) (by assumption) (by assumption) (by k_mem) ?hf ?_
    case hf =>
      intro i v hi s' Q' E' oi' F' N' rr
      match i, hi with
      | 0, hi =>
        obtain rfl := Option.some.inj hi
        w_strict k_steps
        exact rr _ _ (by assumption) (by assumption)
      | 1, hi =>
        obtain rfl := Option.some.inj hi
        w_strict k_steps
        exact rr _ _ (by assumption) (by assumption)
    intro h9 tk9 F9 N9
    w_strict k_steps
    · exact ret _ _ _ _ _ (pe_3 (by assumption) jx jy (by assumption)) (by assumption) (by assumption) (TI1.sub (by intro p hp; k_ownIn)) (by intro p hp hn; exact .tail _ (sn p hp hn))
    refine For_tupH F9 ?_
    w_strict k_steps
    refine grpSrcH (A := _) (env := _) (m := _) (P := 172) (qual := lamQ) (xs := grpV) (nx1 := nx1) (keep := entryOf q2 :: entryOf q3 :: (e, instObj 192 d) :: entryOf hD :: news.filter (fun p => decide (p.1 ≠ 172))) (fun j => (isIn x (grpS.getD j ⟨#[]⟩) && isIn y (grpS.getD j ⟨#[]⟩)) = false) ?gh F9 ?gN q1 (by assumption) ?gP TI1 ?gk ?gc ?gt ?turn ?done
    case gh => rfl
    case gN => exact fun p hp => N9 p (.tail _ hp)
    case gP => exact hP
    case gk =>
      intro p hp
      simp only [List.mem_cons, List.mem_filter, decide_eq_true_eq] at hp
      rcases hp with rfl | rfl | rfl | rfl | hp
      · exact q2
      · exact q3
      · exact q4
      · exact q5
      · exact sn p hp.1 hp.2
    case gc =>
      rename ∀ p ∈ news, p.1 < _ => l2
      intro p hp
      simp only [List.mem_cons, List.mem_filter, decide_eq_true_eq] at hp
      rcases hp with rfl | rfl | rfl | rfl | hp
      · exact Nat.ne_of_lt (Nat.lt_succ_self _)
      · exact Nat.ne_of_lt (Nat.lt_succ_of_lt (Nat.lt_succ_of_lt (by assumption)))
      · exact Nat.ne_of_lt (Nat.lt_succ_of_lt (Nat.lt_succ_of_lt (l2 _ hI)))
      · exact Nat.ne_of_lt (Nat.lt_succ_of_lt (Nat.lt_succ_of_lt (l2 _ hD)))
      · exact Nat.ne_of_lt (Nat.lt_succ_of_lt (Nat.lt_succ_of_lt (l2 _ hp.1)))
    case gt => exact (by k_asm : (Mine.hd.heap_39 w.params).In _) 155 _ rfl
    case turn =>
      dsimp only [entryOf]
      clear q1 q2 q3 q4 q5 sn lf hs hc1 hc2 hc3 TI1 N9 F9
      intro i v h tk I oI oc vg nt hx hbad hit hoff hIc hnI hdc TI3 hk3 F3 N3
      have q2 := hk3 _ (.head _)
      have q3 := hk3 _ (.tail _ (.head _))
      have q4 := hk3 _ (.tail _ (.tail _ (.head _)))
      have q5 := hk3 _ (.tail _ (.tail _ (.tail _ (.head _))))
      have sn : ∀ p ∈ news, p.1 ≠ 172 → p ∈ nt := fun p hp hn => hk3 p (.tail _ (.tail _ (.tail _ (.tail _ (List.mem_filter.mpr ⟨hp, by simpa using hn⟩)))))
      clear hk3
      obtain ⟨g, ug, rfl, eg⟩ : ∃ g u, v = .str g u ∧ (grpS.getD i ⟨#[]⟩) = g := by
        match i, hx with
        | 0, hx => exact ⟨_, _, (Option.some.inj hx).symm, rfl⟩
        | 1, hx => exact ⟨_, _, (Option.some.inj hx).symm, rfl⟩
        | 2, hx => exact ⟨_, _, (Option.some.inj hx).symm, rfl⟩
        | 3, hx => exact ⟨_, _, (Option.some.inj hx).symm, rfl⟩
        | 4, hx => exact ⟨_, _, (Option.some.inj hx).symm, rfl⟩
        | 5, hx => exact ⟨_, _, (Option.some.inj hx).symm, rfl⟩
        | 6, hx => exact ⟨_, _, (Option.some.inj hx).symm, rfl⟩
        | 7, hx => exact ⟨_, _, (Option.some.inj hx).symm, rfl⟩
        | 8, hx => exact ⟨_, _, (Option.some.inj hx).symm, rfl⟩
        | 9, hx => exact ⟨_, _, (Option.some.inj hx).symm, rfl⟩
      w_strict k_steps
      refine kla_eval (by rfl) ?_
      rename News _ _ _ _ => NL
      refine lam_led (by k_asm) NL (by k_asm) (CodeHd.keeps (by assumption) (Below.stays (by assumption))) rfl (TI3.sub (by intro p hp; k_ownIn)) rfl fun f2 c2' ctv2 oc2 vs2 tt2 nx2 h2 tk2 F2 N2 TI2 e1 e2 e3 hs2 lf2 => ?_
      simp only [List.forall_mem_cons] at hs2
      obtain ⟨s1, s2, sn2⟩ := hs2
      have hI3 := s1 (it_tab NL (.head _) hit TI3 (by intro p hp; k_ownIn))
      have hc3 := s2 hP
      replace q4 := sn2 _ q4 (ne_tab NL (.tail _ (.tail _ q4)) TI3 (by intro p hp; k_ownIn) notF_plain)
      replace q5 := sn2 _ q5 (ne_tab NL (.tail _ (.tail _ q5)) TI3 (by intro p hp; k_ownIn) notF_dict)
      replace q3 := sn2 _ q3 (ne_tab NL (.tail _ (.tail _ q3)) TI3 (by intro p hp; k_ownIn) notF_seq)
      replace q2 := sn2 _ q2 (ne_tab NL (.tail _ (.tail _ q2)) TI3 (by intro p hp; k_ownIn) (notF_cell (by assumption)))
      replace sn : ∀ p ∈ news, p.1 ≠ 172 → p ∈ nx2 := fun p hp hn => sn2 p (sn p hp hn) hn
      clear s1 s2 sn2 NL
      w_strict k_steps
      refine all_mp [isIn x g, isIn y g] (by k_asm) (by assumption) (by assumption) rfl rfl (by assumption) (by assumption) (by assumption) (by k_mem) ?hf ?_
      case hf =>
        intro i v hi s' Q' E' oi' F' N' rr
        match i, hi with
        | 0, hi =>
          obtain rfl := Option.some.inj hi
          w_strict k_steps
          exact rr _ _ (by assumption) (by assumption)
        | 1, hi =>
          obtain rfl := Option.some.inj hi
          w_strict k_steps
          exact rr _ _ (by assumption) (by assumption)
      intro h9 tk9 F9 N9
      w_strict k_steps
      · (try refine GrpTurn.ret ?_)
        dsimp only
        w_strict k_steps
        have hi3 : i < grpS.length := by
          have := (List.getElem?_eq_some_iff.mp hx).1
          simpa using this
        exact ret _ _ _ _ _ (pe_1 (by assumption) eg hi3 (by assumption)) (by assumption) (by assumption) (TI2.sub (by intro p hp; k_ownIn)) (by intro p hp hn; exact .tail _ (sn p hp hn))
      · refine GrpTurn.next (by assumption) N9 (.tail _ hI3) (.tail _ hc3) (by assumption) (TI2.sub (fun p hp => .tail _ hp)) ?_ ?_
        · intro p hp
          simp only [List.mem_cons, List.mem_filter, decide_eq_true_eq] at hp
          rcases hp with rfl | rfl | rfl | rfl | hp
          · exact .tail _ q2
          · exact .tail _ q3
          · exact .tail _ q4
          · exact .tail _ q5
          · exact .tail _ (sn p hp.1 hp.2)
        · rw [eg]
          rename _ = false => hno
          simpa using hno
    case done =>
      dsimp only [entryOf]
      clear q1 q2 q3 q4 q5 sn lf hs hc1 hc2 hc3 TI1 N9 F9
      intro h tk nt hbad TI3 hk3 F3 N3
      have q2 := hk3 _ (.head _)
      have q3 := hk3 _ (.tail _ (.head _))
      have q4 := hk3 _ (.tail _ (.tail _ (.head _)))
      have q5 := hk3 _ (.tail _ (.tail _ (.tail _ (.head _))))
      have sn : ∀ p ∈ news, p.1 ≠ 172 → p ∈ nt := fun p hp hn => hk3 p (.tail _ (.tail _ (.tail _ (.tail _ (List.mem_filter.mpr ⟨hp, by simpa using hn⟩)))))
      clear hk3
      w_strict k_steps
      exact ret _ _ _ _ _ (pe_2 (by assumption) hbad) (by assumption) (by assumption) TI3 (by intro p hp hn; exact sn p hp hn)
end
end Mine
end
/-! part C12 -/
section
open PySem PySem.W PyProof.Rows PySem.Spec PySem.Calls
namespace Mine
local macro_rules | `(tactic| k_room) => `(tactic| ktr_room)
local macro_rules | `(tactic| k_units) => `(tactic| ktr_units)
local macro_rules | `(tactic| walk_at "ite") => `(tactic| first | (refine split_dec ?_ ?_ <;> intro _) | (refine split_bool ?_ ?_ <;> intro _))
local macro_rules | `(tactic| k_mem) => `(tactic| first | exact List.Mem.head _ | (refine' List.Mem.tail _ ?_; k_mem) | assumption | (refine' List.mem_append_right _ ?_; k_mem))
local macro_rules | `(tactic| k_all) => `(tactic| first | assumption | exact allLt_0 (by assumption) | exact allLt_1 (by assumption) | exact allLt_2 (by assumption) | exact allLt_3 (by assumption) | exact allLt_4 (by assumption) | exact allLt_5 (by assumption) | exact allLt_6 (by assumption) | exact allLt_7 (by assumption) | exact allLt_8 (by assumption) | (refine' all_app ?kaR ?kaN; (case kaR => assumption); (case kaN => k_all)) | (refine' all_ne ?kaH ?kaD; (case kaH => assumption); (case kaD => (try dsimp only); omega)))
local macro_rules | `(tactic| walk_at "getAttr ref") => `(tactic| (k_here; (with_reducible show wpAny _ _ (getAttr (Value.ref _) (PySem.Str.ofString "_ident") _) _ _ _); k_dflt (refine' get_smI ?k1 ?k2 ?k4 ?k5 ?k6 ?k7 ?k9 ?k10 ?k11 ?k12 ?k13 ?k14 ?_; (case k1 => k_asm); (case k2 => k_asm); (case k4 => k_inst); (case k5 => k_is); (case k6 => k_is); (case k7 => k_is); (case k9 => k_is); (case k10 => k_is); (case k11 => decide +kernel); (case k12 => k_get); (case k13 => k_is); (case k14 => k_handed); k_whole)))
local macro_rules | `(tactic| walk_at "eval Call Attribute") => `(tactic| (k_here; (with_reducible show wpAny _ _ (eval (Expr.Call (Expr.Attribute _ _ _) [Expr.Starred _ _] [] _) _) _ _ _); (refine StarCall ?_)))
local macro_rules | `(tactic| k_enter) => `(tactic| (kp_kind "rest"; (fail_if_success k_inElt); (refine' restC ?k1 ?k2 ?k3 ?k4 ?k5 ?kA ?kF ?kK ?k6 ?k7 ?k8 ?kV ?kP ?kG ?kB ?kD ?_ ?c2 ?c3 ?c4; (case kA => exact rfl); (case kF => exact rfl); (case kK => exact rfl); (case k1 => k_asm); (case k2 => k_asm); (case k3 => k_asm); (case k4 => k_asm); (case k5 => k_asm); (case k6 => k_is); (case k7 => k_is); (case k8 => k_room); (case kV => kl_lit); (case kP => exact rfl); (case kG => exact fun _ => rfl); (case kB => exact fun _ => rfl); (case kD => decide +kernel); (case c2 => exact rfl); (case c3 => exact rfl); (case c4 => exact rfl); k_whole; intro D' g' L' h' tk' cells' l1 FG' F' N' Y' B' X' T' l2 l3; k_cells Y'; (try simp only [List.cons_append, List.nil_append] at N'); (try dsimp only); (try k_lift B'); (try k_fold))))
local macro_rules | `(tactic| walk_at "call ref") => `(tactic| (k_here; (with_reducible show wpAny _ _ (call (Value.ref 95) _) _ _ _); k_dflt (refine' ident_ok ?k1 ?k2 ?k3 ?k4 ?k5 ?k8 ?k9 ?_; (case k1 => k_asm); (case k2 => k_asm); (case k3 => k_asm); (case k4 => k_asm); (case k5 => k_asm); (case k8 => ktr_room); (case k9 => ktr_units); k_whole); intro t9 h9 tk9 F9 N9; (try k_sweep)))
local macro_rules | `(tactic| walk_at "call type:map") => `(tactic| (k_here; k_dflt (refine' mp_make ?k1 ?k2 ?k3 ?_; (case k1 => k_asm); (case k2 => k_asm); (case k3 => k_mem); k_whole); intro M9 T9 I9 oi9 h9 F9 N9 it9 l9 l8 l7; (try k_sweep)))
local macro_rules | `(tactic| walk_at "call ref") => `(tactic| (k_here; (fail_if_success with_reducible show wpAny _ _ (call (Value.ref 95) _) _ _ _); k_dflt (refine wpAny_call ?_; kla_enter)))
local macro_rules | `(tactic| walk_at "compareOp In str str") => `(tactic| refine in_isIn ?_)
local macro_rules | `(tactic| walk_at "compareOp NotIn str str") => `(tactic| refine notin_isIn ?_)
local macro_rules | `(tactic| walk_at "callWith ref") => `(tactic| (k_here; (with_reducible show wpAny _ _ (callWith _ (Value.ref _) _ (backTo _ (starEach [Expr.Starred _ _] _)) []) _ _ _); k_dflt (refine' callWith_SM ?k1 ?k2 ?k3 ?k4 ?_; (case k1 => k_asm); (case k2 => k_asm); (case k3 => k_mem); (case k4 => k_is); k_whole)))
local macro_rules | `(tactic| walk_at "call ref") => `(tactic| (k_here; k_dflt (refine' call_meth (f := Value.ref 177) ?m1 ?m2 ?_; (case m1 => k_asm); (case m2 => k_mem); k_whole); k_dflt (refine' rcost_code ?k1 ?k2 ?k3 ?k4 ?k5 ?k6 ?k7 ?k8 ?k9 ?k10 ?k11 ?k12 ?k13 ?k14 ?_; (case k1 => k_asm); (case k2 => k_asm); (case k3 => k_asm); (case k4 => k_asm); (case k5 => k_asm); (case k6 => assumption); (case k7 => exact TabIn.sub (by assumption) (by intro p hp; k_ownIn)); (case k8 => k_mem); (case k9 => k_mem); (case k10 => k_mem); (case k11 => ktr_room); (case k12 => ktr_units); (case k13 => assumption); (case k14 => assumption); k_whole); intro t9 h9 tk9 nx9 F9 N9 TI9 sn9; (try k_sweep)))
local macro_rules | `(tactic| walk_at "call ref") => `(tactic| (k_here; (with_reducible show wpAny _ _ (call (Value.ref 177) _) _ _ _); k_dflt (refine wpAny_call ?_); k_dflt (refine' rcost_code ?k1 ?k2 ?k3 ?k4 ?k5 ?k6 ?k7 ?k8 ?k9 ?k10 ?k11 ?k12 ?k13 ?k14 ?_; (case k1 => k_asm); (case k2 => k_asm); (case k3 => k_asm); (case k4 => k_asm); (case k5 => k_asm); (case k6 => assumption); (case k7 => exact TabIn.sub (by assumption) (by intro p hp; k_ownIn)); (case k8 => k_mem); (case k9 => k_mem); (case k10 => k_mem); (case k11 => ktr_room); (case k12 => ktr_units); (case k13 => assumption); (case k14 => assumption); k_whole); intro t9 h9 tk9 nx9 F9 N9 TI9 sn9; (try k_sweep)))
local macro_rules | `(tactic| walk_at "ite") => `(tactic| first | k_dflt (refine ite_pos (by first | rfl | assumption | (simp only [decide_eq_true_eq]; omega)) ?_) | k_dflt (refine ite_neg (by first | exact Bool.false_ne_true | (simp only [decide_eq_true_eq]; omega)) ?_) | (refine split_dec ?_ ?_ <;> intro _) | (refine split_bool ?_ ?_ <;> intro _))
section
variable {w : World} {p : Program} {loose : List Str} {mean : ExcName → Option Value} {mg mb : Str → Option Value}
    {dp un : Nat} {gd : Option (List Code)} {cn : Str} {nms : List (Str × NameKind)} {ig ic : Bool} {mo : List (Str × Const)} {a : Addr} {ccd : Value} {cl : List (Str × Addr)} {outer : List Env} {A₀ : Around} {base h₀ : Heap} {L : Addr} {m : Str → Option Value} {s : Shared} {Q E : Value → Shared → Prop}
    {news : List (Addr × Obj)}

theorem dcostE_ok {t1 t2 k1 k2 k3 k4 k5 k8 t3 t4 t5 t7 : Tok} {e d : Addr}
    (B : Below A₀ base outer h₀) (F : Fr h₀ L s.heap m) (X : (hd.heap_39 w.params).In h₀) (N : News h₀ L s.heap news) (T : Top p loose mean mg mb h₀) (HC : CodeHd base 176 172) (TI : TabIn 172 lamQ news)
    (hI : (e, instObj 192 d) ∈ news) (hD : (d, eldD w k1 k2 k3 k4 k5 k8 (.int 0 t3) (.int 1 t4) (.int 2 t5) (.bool false) (.bool true) (.str elderG t7)) ∈ news)
    (hd : dp + 30 < recursionLimit) (hu : un + 240 < cLine)
    (ret : ∀ t h' tk', Fr h₀ L h' m → News h₀ L h' news → Q (.int 1 t) { s with heap := h', toks := tk' }) :
    wpAny (model PySem.Challenge.rw_fq5039_01.row.prog w) (ktrTop dp un gd cn ⟨.function, nms, ig, ic, mo⟩ L a ccd cl outer) (call (.ref 184) [.ref e, .str (Str.ofString "H") t1, .str (Str.ofString "A") t2]) Q E s := by
  have c1 : isIn (Str.ofString "H") (Str.ofString "HW") = true := by decide +kernel
  have c2 : (!decide (Str.ofString "H" = Str.ofString "A")) = true := by decide +kernel
  w_on
  revert X
  k_fill
  intro X
  w_strict k_steps
  rename_i kF kN Tc kX
  exact ret _ _ _ kF (cb_drop kN (by intro p hp; k_ownIn))
end
end Mine
end
/-! the law -/
section
open PySem PySem.W PyProof.Rows PySem.Spec PySem.Calls
namespace Mine
theorem MyG_hide {prog : Program} {w : World} {A : Around} {h₀ : Heap} {env : Env} {target : Expr} {body rest : List Stmt} {Q : Flow → Shared → Prop} {E : Value → Shared → Prop} {xv : Value} {s : Shared}
    (h : ∀ (q : Flow → Shared → Prop) (e : Value → Shared → Prop), (∀ f s, Q f s → q f s) → MyG prog w A h₀ env target body (fun f s' => match f with | .next => wpAny (model prog w) A (execs rest env) q e s' | f => q f s') e xv s) :
    MyG prog w A h₀ env target body (fun f s' => match f with | .next => wpAny (model prog w) A (execs rest env) Q E s' | f => Q f s') E xv s := h Q E fun _ _ x => x
theorem cost_eq {x y z M1 M2 : Int} (a1 : M1 = x ∨ M1 = y) (b1 : x ≤ M1 ∧ y ≤ M1) (a2 : M2 = x ∨ M2 = y ∨ M2 = z) (b2 : x ≤ M2 ∧ y ≤ M2 ∧ z ≤ M2) : max y x = M1 ∧ max z M1 = M2 := by omega
theorem fmod_bd (x : Int) {k : Int} (h : 0 < k) (h2 : k ≤ 1000) : 0 ≤ x.fmod k ∧ x.fmod k ≤ 1000 :=
  ⟨Int.fmod_nonneg_of_pos _ h, by have := Int.fmod_lt_of_pos x h; omega⟩
theorem goodT_nil : GoodT (Str.ofString "") := ⟨Nat.zero_le _, fun c hc => by cases hc⟩
theorem intsGet : ∀ {vs : List Value} {ns : List Int} {i : Nat} {v : Value}, IntsAre vs ns → vs[i]? = some v → ∃ n t, v = .int n t
  | _, _, 0, _, .cons n t _, h => ⟨n, t, (Option.some.inj h).symm⟩
  | _, _, i + 1, _, .cons _ _ r, h => intsGet (i := i) r h
  | _, _, _, _, .nil, h => by cases h
theorem ints5 {ys : List Value} {f : Int → Int} (h : IntsAre ys (List.map f (rangeKs 0 5))) : ∃ (n0 n1 n2 n3 n4 : Int) (t0 t1 t2 t3 t4 : Tok), ys = [.int n0 t0, .int n1 t1, .int n2 t2, .int n3 t3, .int n4 t4] := by
  have e : List.map f (rangeKs 0 5) = [f (0 + 0), f (0 + 1), f (0 + 2), f (0 + 3), f (0 + 4)] := rfl
  rw [e] at h
  obtain _ | ⟨_, _, h⟩ := h
  obtain _ | ⟨_, _, h⟩ := h
  obtain _ | ⟨_, _, h⟩ := h
  obtain _ | ⟨_, _, h⟩ := h
  obtain _ | ⟨_, _, h⟩ := h
  obtain _ | _ := h
  exact ⟨_, _, _, _, _, _, _, _, _, _, rfl⟩

def MidT (P : Shared → Prop) (s : Shared) : Prop := P s
theorem fmod_two (n : Int) : n.fmod 2 = 0 ∨ n.fmod 2 = 1 := by
  have h1 := Int.fmod_nonneg_of_pos n (b := 2) (by decide)
  have h2 := Int.fmod_lt_of_pos n (b := 2) (by decide)
  omega
theorem eight (n : Int) : 0 ≤ (n.fdiv 2).fmod 8 ∧ (n.fdiv 2).fmod 8 < 8 := ⟨Int.fmod_nonneg_of_pos _ (by decide), Int.fmod_lt_of_pos _ (by decide)⟩
theorem letter_bd : ∀ j : Nat, j < 8 → 65 ≤ (Txt.charAt (Str.ofString "ABCDEFGH") (j : Int)).getD 0 ∧ (Txt.charAt (Str.ofString "ABCDEFGH") (j : Int)).getD 0 ≤ 72 := by decide +kernel
theorem good_app {a : Str} {k : Int} (g : GoodT a) (h : (a.length : Int) < 4) (hk : 0 ≤ k ∧ k < 8) : GoodT (a ++ Txt.item (Str.ofString "ABCDEFGH") k) := by
  have e : (a ++ Txt.item (Str.ofString "ABCDEFGH") k).cps = a.cps ++ #[(Txt.charAt (Str.ofString "ABCDEFGH") k).getD 0] := rfl
  have hb := letter_bd k.toNat (by omega)
  rw [show ((k.toNat : Nat) : Int) = k by omega] at hb
  refine ⟨?_, fun c hc => ?_⟩
  · show (a ++ Txt.item (Str.ofString "ABCDEFGH") k).cps.size ≤ 4
    rw [e, Array.size_append]
    have : a.length = a.cps.size := rfl
    simp only [List.size_toArray, List.length_cons, List.length_nil]
    omega
  · rw [e, Array.toList_append] at hc
    rcases List.mem_append.mp hc with hc | hc
    · exact g.2 c hc
    · have : c = (Txt.charAt (Str.ofString "ABCDEFGH") k).getD 0 := by simpa using hc
      rw [this]; exact hb
theorem two_else {z : Str} {v1 v2 v3 : Option Value} (hz : [Str.ofString "k", Str.ofString "number"].contains z = false) : (if z = Str.ofString "k" then v1 else if z = Str.ofString "number" then v2 else v3) = v3 := by
  have h : ¬ z = Str.ofString "k" ∧ ¬ z = Str.ofString "number" := by simpa using hz
  rw [if_neg h.1, if_neg h.2]
theorem txEnd {h₀ : Heap} {L : Addr} {stored : List Str} {m₀ m' : Str → Option Value} {own base : List (Addr × Obj)} {lt : Addr} {s st : Shared} {Q : Flow → Shared → Prop} {h' : Heap} {tk : Nat} {a b : Str} {ta tb : Tok}
    (e : st = { s with heap := h', toks := tk }) (F : Fr h₀ L h' m') (hm : ∀ z, stored.contains z = false → m' z = m₀ z) (N : News h₀ L h' ((lt, W.listOf #[.str a ta, .str b tb] 0) :: (own ++ base))) (ga : GoodT a) (gb : GoodT b) :
    TxTurn h₀ L stored m₀ own base lt s Q .next st :=
  ⟨h', tk, m', a, b, ta, tb, e, F, hm, fun p hp => N p (by
    rcases List.mem_append.mp hp with hp | hp
    · exact .tail _ (List.mem_append_left _ hp)
    · rcases List.mem_cons.mp hp with rfl | hp
      · exact .head _
      · exact .tail _ (List.mem_append_right _ hp)), ga, gb⟩
theorem MidT.mk {P : Shared → Prop} {s : Shared} (h : P s) : MidT P s := h
structure LawL (w : World) (nx : List (Addr × Obj)) (eP dP ga lc Dn eE dE : Addr) (k1 k2 k3 k4 k5 k6 k7 k8 x3 x4 x5 x6 x7 : Tok) (c0 c1 c2 : Int) (lo : Bool) (fr gr : Str) (u1 u2 u3 : Tok) (g1 g2 g3 : Str) (tb3 tM1 tM2 : Tok) (n0 n1 n2 n3 n4 : Int) (z0 z1 z2 z3 z4 : Tok) (j1 j2 j3 j4 j5 j8 y1 y2 y3 y4 : Tok) : Prop where
  hI : (eP, instObj 192 dP) ∈ nx
  hD : (dP, editD w k1 k2 k3 k4 k5 k6 k7 k8 (.int c0 x3) (.int c1 x4) (.int c2 x5) (.bool lo) (.bool true) (.ref ga) (.str fr x6) (.str gr x7)) ∈ nx
  hg : (ga, ({ cls := .type "tuple", data := .seq [Value.str g1 u1, .str g2 u2, .str g3 u3].toArray } : Obj)) ∈ nx
  hC : (lc, listO [Value.int c0 tb3, .int c1 tM1, .int c2 tM2]) ∈ nx
  hM : (Dn, listO [Value.int n0 z0, .int n1 z1, .int n2 z2, .int n3 z3, .int n4 z4] 5) ∈ nx
  hIE : (eE, instObj 192 dE) ∈ nx
  hDE : (dE, eldD w j1 j2 j3 j4 j5 j8 (.int 0 y1) (.int 1 y2) (.int 2 y3) (.bool false) (.bool true) (.str elderG y4)) ∈ nx
def DueV (g1 g2 g3 fr : Str) (c0 c1 c2 : Int) (lo : Bool) (x y z : Str) (due : Int) : Prop := (z = y → due = 0) ∧ (z ≠ y → (x.length = 0 ∨ y.length = 0) → due = (max x.length y.length : Nat) * c2) ∧ (z ≠ y → x.length ≠ 0 → y.length ≠ 0 → FarV g1 g2 g3 fr c0 c1 c2 x y lo due)
theorem void_len {a : Str} : (a == Str.ofString "") = true → a.length = 0 := fun h => by
  have e : a = Str.ofString "" := by simpa using h
  rw [e]; rfl
theorem full_len {a : Str} (h : (a == Str.ofString "") = false) : a.length ≠ 0 := fun q => by
  have e : a = Str.ofString "" := by
    obtain ⟨c⟩ := a
    have : c = #[] := Array.eq_empty_of_size_eq_zero q
    rw [this]; rfl
  have : ¬ a = Str.ofString "" := by simpa using h
  exact this e
section
variable {g1 g2 g3 fr a b z : Str} {c0 c1 c2 v : Int} {lo : Bool}
theorem du_1 (h : (z == b) = true) : DueV g1 g2 g3 fr c0 c1 c2 lo a b z 0 := by
  have e : z = b := by simpa using h
  exact ⟨fun _ => rfl, fun q => absurd e q, fun q => absurd e q⟩
theorem du_2 (h : (z == b) = false) (h2 : (a == Str.ofString "") = true ∨ (b == Str.ofString "") = true) : DueV g1 g2 g3 fr c0 c1 c2 lo a b z ((max a.length b.length : Nat) * c2) := by
  have e : ¬ z = b := by simpa using h
  refine ⟨fun q => absurd q e, fun _ _ => rfl, fun _ q1 q2 => ?_⟩
  rcases h2 with q | q
  · exact absurd (void_len q) q1
  · exact absurd (void_len q) q2
theorem du_4 (h : (z == b) = false) (h1 : (a == Str.ofString "") = false) (h2 : (b == Str.ofString "") = false) (V : FarV g1 g2 g3 fr c0 c1 c2 a b lo v) : DueV g1 g2 g3 fr c0 c1 c2 lo a b z v := by
  have e : ¬ z = b := by simpa using h
  refine ⟨fun q => absurd q e, fun _ q => ?_, fun _ _ _ => V⟩
  rcases q with q | q
  · exact absurd q (full_len h1)
  · exact absurd q (full_len h2)
theorem call_due {sm : Bool} (hz : Handed sm a z) (ga : GoodT a) (gb : GoodT b) (hc : 0 ≤ c0 ∧ c0 ≤ c1 ∧ c1 ≤ c2) {due : Int} (hd : DueV g1 g2 g3 fr c0 c1 c2 lo a b z due) (hv : CallV g1 g2 g3 fr c0 c1 c2 lo z b v) : v = due := by
  by_cases e : z = b
  · rw [call_same hv e, hd.1 e]
  · by_cases h1 : a.length = 0 ∨ b.length = 0
    · rw [call_void hz ga hv e h1, hd.2.1 e h1]
    · have n1 : a.length ≠ 0 := fun q => h1 (.inl q)
      have n2 : b.length ≠ 0 := fun q => h1 (.inr q)
      exact call_far hz ga gb hc hv e n1 n2 (hd.2.2 e n1 n2)
end
theorem most_eq {a b : Nat} {c0 c1 c2 : Int} : (if (b : Int) > (a : Int) then (b : Int) else (a : Int)) * [c0, c1, c2].getD (Int.toNat 2) 0 = ((max a b : Nat) : Int) * c2 := by
  show _ * c2 = _
  congr 1
  split <;> omega
def MidP (P : Shared → Prop) (s : Shared) : Prop := P s
theorem handed_t {sm : Bool} {a : Str} (h : sm = true) : Handed sm a (Txt.lower a) := by subst h; rfl
theorem handed_f {sm : Bool} {a : Str} (h : sm = false) : Handed sm a a := by subst h; rfl
theorem MidP.mk {P : Shared → Prop} {s : Shared} (h : P s) : MidP P s := h
theorem kn_cases {y : Str} (c : [Str.ofString "k", Str.ofString "number"].contains y = true) : y = Str.ofString "k" ∨ y = Str.ofString "number" := by simpa using c
local macro_rules | `(tactic| k_room) => `(tactic| ktr_room)
local macro_rules | `(tactic| k_units) => `(tactic| ktr_units)
local macro_rules | `(tactic| walk_at "ite") => `(tactic| first | (refine split_dec ?_ ?_ <;> intro _) | (refine split_bool ?_ ?_ <;> intro _))
local macro_rules | `(tactic| k_mem) => `(tactic| first | exact List.Mem.head _ | (refine' List.Mem.tail _ ?_; k_mem) | assumption | (refine' List.mem_append_right _ ?_; k_mem))
local macro_rules | `(tactic| k_all) => `(tactic| first | assumption | exact allLt_0 (by assumption) | exact allLt_1 (by assumption) | exact allLt_2 (by assumption) | exact allLt_3 (by assumption) | exact allLt_4 (by assumption) | exact allLt_5 (by assumption) | exact allLt_6 (by assumption) | exact allLt_7 (by assumption) | exact allLt_8 (by assumption) | (refine' all_app ?kaR ?kaN; (case kaR => assumption); (case kaN => k_all)) | (refine' all_ne ?kaH ?kaD; (case kaH => assumption); (case kaD => (try dsimp only); omega)))
local macro_rules | `(tactic| walk_at "getAttr ref") => `(tactic| (k_here; (with_reducible show wpAny _ _ (getAttr (Value.ref _) (PySem.Str.ofString "_ident") _) _ _ _); k_dflt (refine' get_smI ?k1 ?k2 ?k4 ?k5 ?k6 ?k7 ?k9 ?k10 ?k11 ?k12 ?k13 ?k14 ?_; (case k1 => k_asm); (case k2 => k_asm); (case k4 => k_inst); (case k5 => k_is); (case k6 => k_is); (case k7 => k_is); (case k9 => k_is); (case k10 => k_is); (case k11 => decide +kernel); (case k12 => k_get); (case k13 => k_is); (case k14 => k_handed); k_whole)))
local macro_rules | `(tactic| walk_at "eval Call Attribute") => `(tactic| (k_here; (with_reducible show wpAny _ _ (eval (Expr.Call (Expr.Attribute _ _ _) [Expr.Starred _ _] [] _) _) _ _ _); (refine StarCall ?_)))
local macro_rules | `(tactic| k_enter) => `(tactic| (kp_kind "rest"; (fail_if_success k_inElt); (refine' restC ?k1 ?k2 ?k3 ?k4 ?k5 ?kA ?kF ?kK ?k6 ?k7 ?k8 ?kV ?kP ?kG ?kB ?kD ?_ ?c2 ?c3 ?c4; (case kA => exact rfl); (case kF => exact rfl); (case kK => exact rfl); (case k1 => k_asm); (case k2 => k_asm); (case k3 => k_asm); (case k4 => k_asm); (case k5 => k_asm); (case k6 => k_is); (case k7 => k_is); (case k8 => k_room); (case kV => kl_lit); (case kP => exact rfl); (case kG => exact fun _ => rfl); (case kB => exact fun _ => rfl); (case kD => decide +kernel); (case c2 => exact rfl); (case c3 => exact rfl); (case c4 => exact rfl); k_whole; intro D' g' L' h' tk' cells' l1 FG' F' N' Y' B' X' T' l2 l3; k_cells Y'; (try simp only [List.cons_append, List.nil_append] at N'); (try dsimp only); (try k_lift B'); (try k_fold))))
local macro_rules | `(tactic| walk_at "call ref") => `(tactic| (k_here; (with_reducible show wpAny _ _ (call (Value.ref 95) _) _ _ _); k_dflt (refine' ident_ok ?k1 ?k2 ?k3 ?k4 ?k5 ?k8 ?k9 ?_; (case k1 => k_asm); (case k2 => k_asm); (case k3 => k_asm); (case k4 => k_asm); (case k5 => k_asm); (case k8 => ktr_room); (case k9 => ktr_units); k_whole); intro t9 h9 tk9 F9 N9; (try k_sweep)))
local macro_rules | `(tactic| walk_at "call type:map") => `(tactic| (k_here; k_dflt (refine' mp_make ?k1 ?k2 ?k3 ?_; (case k1 => k_asm); (case k2 => k_asm); (case k3 => k_mem); k_whole); intro M9 T9 I9 oi9 h9 F9 N9 it9 l9 l8 l7; (try k_sweep)))
local macro_rules | `(tactic| walk_at "call ref") => `(tactic| (k_here; (fail_if_success with_reducible show wpAny _ _ (call (Value.ref 95) _) _ _ _); k_dflt (refine wpAny_call ?_; kla_enter)))
local macro_rules | `(tactic| walk_at "compareOp In str str") => `(tactic| refine in_isIn ?_)
local macro_rules | `(tactic| walk_at "compareOp NotIn str str") => `(tactic| refine notin_isIn ?_)
local macro_rules | `(tactic| walk_at "callWith ref") => `(tactic| (k_here; (with_reducible show wpAny _ _ (callWith _ (Value.ref _) _ (backTo _ (starEach [Expr.Starred _ _] _)) []) _ _ _); k_dflt (refine' callWith_SM ?k1 ?k2 ?k3 ?k4 ?_; (case k1 => k_asm); (case k2 => k_asm); (case k3 => k_mem); (case k4 => k_is); k_whole)))
local macro_rules | `(tactic| walk_at "call ref") => `(tactic| (k_here; k_dflt (refine' call_meth (f := Value.ref 170) ?m1 ?m2 ?_; (case m1 => k_asm); (case m2 => k_mem); k_whole); k_dflt (refine' max_code ?k1 ?k2 ?k3 ?k4 ?k5 ?k8 ?k9 ?kx ?ky ?kz ?k11 ?k12 ?_; (case k1 => k_asm); (case k2 => k_asm); (case k3 => k_asm); (case k4 => k_asm); (case k5 => k_asm); (case k8 => k_mem); (case k9 => k_mem); (case kx => assumption); (case ky => assumption); (case kz => assumption); (case k11 => ktr_room); (case k12 => ktr_units); k_whole); intro t9 h9 tk9 F9 N9; (try k_sweep)))
local macro_rules | `(tactic| walk_at "call ref") => `(tactic| (k_here; (with_reducible show wpAny _ _ (call (Value.ref 170) _) _ _ _); k_dflt (refine wpAny_call ?_); k_dflt (refine' max_code ?k1 ?k2 ?k3 ?k4 ?k5 ?k8 ?k9 ?kx ?ky ?kz ?k11 ?k12 ?_; (case k1 => k_asm); (case k2 => k_asm); (case k3 => k_asm); (case k4 => k_asm); (case k5 => k_asm); (case k8 => k_mem); (case k9 => k_mem); (case kx => assumption); (case ky => assumption); (case kz => assumption); (case k11 => ktr_room); (case k12 => ktr_units); k_whole); intro t9 h9 tk9 F9 N9; (try k_sweep)))
local macro_rules | `(tactic| walk_at "call builtin:all") => `(tactic| (k_here; (with_reducible show wpAny _ _ (call (Value.builtin "all") [Value.ref _]) _ _ _); k_dflt (refine' all_tup2 ?k1 ?k2 ?k3 ?k4 ?k5 ?k6 ?_; (case k1 => k_asm); (case k2 => k_asm); (case k3 => rfl); (case k4 => k_mem); (case k5 => assumption); (case k6 => assumption); k_whole); intro h9 tk9 F9 N9; (try k_sweep)))
local macro_rules | `(tactic| walk_at "call ref") => `(tactic| (k_here; (with_reducible show wpAny _ _ (call (Value.ref 216) _) _ _ _); k_dflt (refine' letters_ok ?k1 ?k2 ?k3 ?k4 ?k5 ?k6 ?k7 ?_; (case k1 => k_asm); (case k2 => k_asm); (case k3 => k_asm); (case k4 => k_asm); (case k5 => k_asm); (case k6 => ktr_room); (case k7 => ktr_units); k_whole); intro g9 t9 h9 tk9 lg9 F9 N9; (try k_sweep)))
local macro_rules | `(tactic| walk_at "exec For") => `(tactic| (k_here; (rename Fr _ _ _ _ => lF'); (with_unfolding_all refine' For_MyG lF' ?_); k_whole))
local macro_rules | `(tactic| walk_at "execs cons") => `(tactic| (k_here; (refine toksAll (fun tkG => ?_)); (with_reducible refine wpAny_execs_cons ?_); try dsimp only))
local macro_rules | `(tactic| walk_at "subscriptTail Name Slice ref ref") => `(tactic| (k_here; (with_reducible show wpAny _ _ (subscriptTail _ (PySem.Expr.Slice (some _) (some _) none _) (Value.ref _) (Value.ref _)) _ _ _); k_dflt (refine' kmk_slice_ints ?F ?N ?l ?p ?q ?i ?m ?c ?_ ?s ?t ?z; (case F => k_asm); (case N => k_asm); (case l => kmk_list); (case p => kmk_part); (case q => kmk_part); (case i => l_ints); (case m => kmk_nums); (case c => kmk_len); (case s => with_unfolding_all rfl); (case t => kmk_pure); (case z => kmk_size)); intro D' ws' h' F' N' l1 hI' hC' hL'; (try simp only [Int.reduceNeg, Int.neg_neg, Int.reduceToNat] at hI' hC' hL'); (try k_lt l1); (try k_sweep)))
local macro_rules | `(tactic| walk_at "callWith ref") => `(tactic| (k_here; k_dflt (refine' callWith_K ?k1 ?k2 ?_; (case k1 => k_asm); (case k2 => k_is); k_whole)))
local macro_rules | `(tactic| walk_at "eval Name") => `(tactic| (k_here; k_dflt (refine' nameX_L ?F ?v ?_ ?a ?b; (case a => rfl); (case b => rfl); (case F => k_asm); (case v => rfl); k_whole)))
local macro_rules | `(tactic| walk_at "call ref") => `(tactic| (k_here; (fail_if_success with_reducible show wpAny _ _ (call (Value.ref 216) _) _ _ _); (fail_if_success with_reducible show wpAny _ _ (call (Value.ref 170) _) _ _ _); k_dflt (refine wpAny_call ?_; refine' kco_code (f := 189) ?c1 ?c2 ?c3 ?c4 ?c5 ?c6 ?_; (case c1 => k_in); (case c2 => k_inst); (case c3 => rfl); (case c4 => k_is); (case c5 => k_is); (case c6 => k_is); (try dsimp only)); k_dflt (refine' call_code ?k1 ?k2 ?k3 ?k4 ?k5 ?k6 ?k7 ?k8 ?k9 ?k10 ?k11 ?k12 ?kx ?ky ?kz ?ku ?kv ?ka ?kb ?kj ?_; (case k1 => k_asm); (case k2 => k_asm); (case k3 => k_asm); (case k4 => k_asm); (case k5 => k_asm); (case k6 => assumption); (case k7 => first | assumption | exact TabIn.sub (by assumption) (by intro p hp; k_ownIn)); (case k8 => k_mem); (case k9 => k_mem); (case k10 => k_mem); (case k11 => ktr_room); (case k12 => ktr_units); (case kx => assumption); (case ky => assumption); (case kz => assumption); (case ku => assumption); (case kv => assumption); (case ka => assumption); (case kb => assumption); (case kj => assumption); k_whole); intro v9 t9 h9 tk9 nx9 q9 F9 N9 TI9 sn9; refine Stop.out ?_))
local macro_rules | `(tactic| walk_at "call ref") => `(tactic| (k_here; (with_reducible show wpAny _ _ (call (Value.ref 211) _) _ _ _); k_dflt (refine' far_ok ?k1 ?k2 ?k3 ?k4 ?k5 ?k6 ?k7 ?k8 ?k9 ?kx ?ky ?_; (case k1 => k_asm); (case k2 => k_asm); (case k3 => k_asm); (case k4 => k_asm); (case k5 => k_asm); (case k6 => k_mem); (case k7 => k_mem); (case k8 => ktr_room); (case k9 => ktr_units); (case kx => omega); (case ky => omega); k_whole); intro v9 t9 h9 tk9 V9 F9 N9; (try k_sweep)))
local macro_rules | `(tactic| walk_at "call ref") => `(tactic| (k_here; (with_reducible show wpAny _ _ (call (Value.ref 192) _ _) _ _ _); k_dflt (refine' new_plain ?k1 ?k2 ?k3 ?k4 ?k5 ?k6 ?l1 ?l2 ?l3 ?b1 ?b2 ?b3 ?k8 ?k9 ?_; (case k1 => k_asm); (case k2 => k_asm); (case k3 => k_asm); (case k4 => k_asm); (case k5 => k_asm); (case k6 => k_mem); (case l1 => assumption); (case l2 => assumption); (case l3 => assumption); (case b1 => assumption); (case b2 => assumption); (case b3 => assumption); (case k8 => ktr_room); (case k9 => ktr_units); k_whole); intro eP dP _ _ _ _ _ _ _ _ _ _ _ _ _ h9 tk9 F9 N9; (try k_sweep)))
local macro_rules | `(tactic| walk_at "call ref") => `(tactic| (k_here; (with_reducible show wpAny _ _ (call (Value.ref 192) _ _) _ _ _); k_dflt (refine' new_elder ?k1 ?k2 ?k3 ?k4 ?k5 ?k8 ?k9 ?_; (case k1 => k_asm); (case k2 => k_asm); (case k3 => k_asm); (case k4 => k_asm); (case k5 => k_asm); (case k8 => ktr_room); (case k9 => ktr_units); k_whole); intro eE dE _ _ _ _ _ _ _ _ _ _ h9 tk9 F9 N9; (try k_sweep)))
local macro_rules | `(tactic| walk_at "call ref") => `(tactic| (k_here; (with_reducible show wpAny _ _ (call (Value.ref 60) _) _ _ _); k_dflt (refine' dist_ok ?k1 ?k2 ?k3 ?k4 ?k5 ?k6 ?k7 ?k8 ?k9 ?k10 ?k11 ?k12 ?kx ?ky ?kz ?ku ?kv ?ka ?kb ?kj ?_; (case k1 => k_asm); (case k2 => k_asm); (case k3 => k_asm); (case k4 => k_asm); (case k5 => k_asm); (case k6 => assumption); (case k7 => first | assumption | exact TabIn.sub (by assumption) (by intro p hp; k_ownIn)); (case k8 => k_mem); (case k9 => k_mem); (case k10 => k_mem); (case k11 => ktr_room); (case k12 => ktr_units); (case kx => assumption); (case ky => assumption); (case kz => assumption); (case ku => assumption); (case kv => assumption); (case ka => assumption); (case kb => assumption); (case kj => assumption); k_whole); intro v9 t9 h9 tk9 nx9 q9 F9 N9 TI9 sn9; refine Stop.out ?_))
local macro_rules | `(tactic| walk_at "call ref") => `(tactic| (k_here; (with_reducible show wpAny _ _ (call (Value.ref 177) _) _ _ _); k_dflt (refine wpAny_call ?_); k_dflt (refine' rcostE_code ?k1 ?k2 ?k3 ?k4 ?k5 ?k6 ?k7 ?k8 ?k9 ?k11 ?k12 ?k13 ?k14 ?_; (case k1 => k_asm); (case k2 => k_asm); (case k3 => k_asm); (case k4 => k_asm); (case k5 => k_asm); (case k6 => assumption); (case k7 => first | assumption | exact TabIn.sub (by assumption) (by intro p hp; k_ownIn)); (case k8 => k_mem); (case k9 => k_mem); (case k11 => ktr_room); (case k12 => ktr_units); (case k13 => decide +kernel); (case k14 => decide +kernel); k_whole); intro t9 h9 tk9 nx9 F9 N9 TI9 sn9; refine Stop.out ?_))
local macro_rules | `(tactic| walk_at "call ref") => `(tactic| (k_here; (with_reducible show wpAny _ _ (call (Value.ref 177) _) _ _ _); k_dflt (refine wpAny_call ?_); k_dflt (refine' rcost_code ?k1 ?k2 ?k3 ?k4 ?k5 ?k6 ?k7 ?k8 ?k9 ?k10 ?k11 ?k12 ?k13 ?k14 ?_; (case k1 => k_asm); (case k2 => k_asm); (case k3 => k_asm); (case k4 => k_asm); (case k5 => k_asm); (case k6 => assumption); (case k7 => first | assumption | exact TabIn.sub (by assumption) (by intro p hp; k_ownIn)); (case k8 => k_mem); (case k9 => k_mem); (case k10 => k_mem); (case k11 => ktr_room); (case k12 => ktr_units); (case k13 => exact (by assumption : ∀ z : Str, z.length = 1 → isIn z _ = List.any _ (isIn z)) _ rfl); (case k14 => exact (by assumption : ∀ z : Str, z.length = 1 → isIn z _ = List.any _ (isIn z)) _ rfl); k_whole); intro t9 h9 tk9 nx9 F9 N9 TI9 sn9; refine Stop.out ?_))
local macro_rules | `(tactic| walk_at "call ref") => `(tactic| (k_here; (with_reducible show wpAny _ _ (call (Value.ref 184) _) _ _ _); k_dflt (refine' dcost_ok ?k1 ?k2 ?k3 ?k4 ?k5 ?k6 ?k7 ?k8 ?k9 ?k10 ?k11 ?k12 ?k13 ?k14 ?_; (case k1 => k_asm); (case k2 => k_asm); (case k3 => k_asm); (case k4 => k_asm); (case k5 => k_asm); (case k6 => assumption); (case k7 => first | assumption | exact TabIn.sub (by assumption) (by intro p hp; k_ownIn)); (case k8 => k_mem); (case k9 => k_mem); (case k10 => k_mem); (case k11 => ktr_room); (case k12 => ktr_units); (case k13 => exact (by assumption : ∀ z : Str, z.length = 1 → isIn z _ = List.any _ (isIn z)) _ rfl); (case k14 => exact (by assumption : ∀ z : Str, z.length = 1 → isIn z _ = List.any _ (isIn z)) _ rfl); k_whole); intro t9 h9 tk9 nx9 F9 N9 TI9 sn9; refine Stop.out ?_))
local macro_rules | `(tactic| walk_at "call ref") => `(tactic| (k_here; (with_reducible show wpAny _ _ (call (Value.ref 184) [Value.ref _, Value.str (PySem.Str.ofString "H") _, Value.str (PySem.Str.ofString "A") _]) _ _ _); k_dflt (refine' dcostE_ok ?k1 ?k2 ?k3 ?k4 ?k5 ?k6 ?k7 ?k8 ?k9 ?k11 ?k12 ?_; (case k1 => k_asm); (case k2 => k_asm); (case k3 => k_asm); (case k4 => k_asm); (case k5 => k_asm); (case k6 => assumption); (case k7 => first | assumption | exact TabIn.sub (by assumption) (by intro p hp; k_ownIn)); (case k8 => k_mem); (case k9 => k_mem); (case k11 => ktr_room); (case k12 => ktr_units); k_whole); intro t9 h9 tk9 F9 N9; (try k_sweep)))
local macro_rules | `(tactic| walk_at "call ref") => `(tactic| (k_here; (with_reducible show wpAny _ _ (call (Value.ref 199) _) _ _ _); k_dflt (refine' pair_ok ?k1 ?k2 ?k3 ?k4 ?k5 ?k6 ?k7 ?k8 ?k9 ?_; (case k1 => k_asm); (case k2 => k_asm); (case k3 => k_asm); (case k4 => k_asm); (case k5 => k_asm); (case k6 => k_mem); (case k7 => k_mem); (case k8 => ktr_room); (case k9 => ktr_units); k_whole); intro t9 h9 tk9 F9 N9; (try k_sweep)))
local macro_rules | `(tactic| walk_at "call ref") => `(tactic| (k_here; (with_reducible show wpAny _ _ (call (Value.ref 206) _) _ _ _); k_dflt (refine' step_ok ?k1 ?k2 ?k3 ?k4 ?k5 ?k6 ?k7 ?k8 ?k9 ?_; (case k1 => k_asm); (case k2 => k_asm); (case k3 => k_asm); (case k4 => k_asm); (case k5 => k_asm); (case k6 => k_mem); (case k7 => k_mem); (case k8 => ktr_room); (case k9 => ktr_units); k_whole); intro t9 h9 tk9 F9 N9; (try k_sweep)))
local macro_rules | `(tactic| walk_at "call ref") => `(tactic| (k_here; (with_reducible show wpAny _ _ (call (Value.ref 223) _) _ _ _); k_dflt (refine' refused_ok ?k1 ?k2 ?k3 ?k4 ?k5 ?k6 ?k7 ?k8 ?k9 ?k10 ?_; (case k1 => k_asm); (case k2 => k_asm); (case k3 => k_asm); (case k4 => k_asm); (case k5 => k_asm); (case k6 => k_asm); (case k7 => k_asm); (case k8 => k_mem); (case k9 => ktr_room); (case k10 => ktr_units); k_whole); intro h9 tk9 F9 N9; (try k_sweep)))
local macro_rules | `(tactic| walk_at "subscriptTail") => `(tactic| (k_here; (with_reducible show wpAny _ _ (subscriptTail _ _ (Value.ref _) (Value.int _ _)) _ _ _); k_dflt (refine' item_led ?N ?m ?a ?b ?x ?_ ?s; (case N => k_asm); (case m => k_mem); (case a => decide); (case b => decide); (case x => rfl); (case s => with_unfolding_all rfl); k_whole)))
local macro_rules | `(tactic| walk_at "getItem ref int") => `(tactic| (k_here; k_dflt (refine' get_led ?N ?m ?a ?b ?x ?_; (case N => k_asm); (case m => k_mem); (case a => decide); (case b => decide); (case x => rfl); k_whole)))
local macro_rules | `(tactic| walk_at "setItem ref int") => `(tactic| (k_here; k_dflt (refine' set_led ?F ?N ?r ?a ?b ?x ?_; (case F => k_asm); (case N => k_asm); (case r => assumption); (case a => decide); (case b => decide); (case x => decide); k_whole); intro h9 F9 N9; (try k_sweep)))
local macro_rules | `(tactic| walk_at "ite") => `(tactic| first | k_dflt (refine ite_pos (by first | rfl | assumption | (simp only [decide_eq_true_eq]; omega)) ?_) | k_dflt (refine ite_neg (by first | exact Bool.false_ne_true | (simp only [bne_self_eq_false]; exact Bool.false_ne_true) | (simp only [decide_eq_true_eq]; omega)) ?_) | (refine split_dec ?_ ?_ <;> intro _) | (refine split_bool ?_ ?_ <;> intro _))
theorem law_holds : PySem.Challenge.rw_fq5039_01.Holds := hd (by
  w_strict k_go0
  all_goals (try k_fold)
  iterate 34 walk1
  rename_i w s0 s1 mg mb x6 x7 fa x9 x10 cd x12 ho hcd hgn x17 x18 x19 x20 x21 x22 ns x25 x26 x27 x28 x29 x30 x31 x32 x33 x34 x35 x36 x37 x38 hI x40 hlen x42 hD x44 x45 x46 x47 x48 X T B l0 x55 x56 x57 x58 x59 x60 x61 yF0 yN0 x62 hkl x64 hI8 hL8 Dn x69 x70 yF yN x71
  obtain ⟨n0, n1, n2, n3, n4, z0, z1, z2, z3, z4, rfl⟩ := ints5 hI8
  clear hI8 hL8
  clear x36 x19 hD x40 x38 x37 x29 x28 x27 x26 hT9 x22 x21 x20 x18 x17 hT8 hcd ho x7 x6
  w_strict k_steps
  refine toksAll (fun tkG => ?_)
  dsimp only
  rename Fr _ _ _ _ => FF
  rename News _ _ _ _ => NN
  rename_i r61 r62 r63 r64 lg r66 r67 r68 r69 r70 r71 r72 r73 r74 r75 r76 r77 r78 r79 r80 r81 M1 tM1 r84 aM1 bM1 r87 M2 tM2 r90 aM2 bM2 lc r94 r95 r96 r97 r98 g1 u1 r101 r102 lg1 r104 g2 u2 r107 r108 lg2 r110 g3 u3 r113 r114 lg3 ga r117 r118 r119 r120 r121 fr tfr r124 r125 lfr r127 r128 lt r130 lT r132 r133 D ws hp hIw hCw hLw lD
  clear hLw hCw r118 r95 r80 r72 r67 x71 hkl x62 x61 lifted x48 x47 x42 hlen hI x35 x25
  have FF0 := FF
  clear FF
  exact (by
    refine MyG_hide fun q e hq => ?_
    have fin : ∀ h' tk' m' nx', Fr (ghostOf s1.heap [(176, 172)]) s1.heap.objs.size h' m' → News (ghostOf s1.heap [(176, 172)]) s1.heap.objs.size h' nx' → TabIn 172 lamQ nx' → q (.ret (.bool true)) { s1 with heap := h', toks := tk' } :=
  by
      intro h' tk' m' nx' F N ⟨ps, hp, _⟩
      refine hq _ _ ⟨?_, GrownAt.of N hp, trivial⟩
      refine goodW_bool F hgn (raisesW_false ?_) ?_
      · wrow_none_raised
      · kc_post
    clear hq hgn
    obtain ⟨m0, hd0, b0, b1, b2, tb0, tb1, tb2, tb3, lo, sm, ta, tb, thd, p1, p2, p3, FF, NN0, eM, bd⟩ : ∃ (m0 : Str → Option Value) (hd0 b0 b1 b2 : Int) (tb0 tb1 tb2 tb3 : Tok) (lo sm : Bool) (ta tb thd : Tok) (p1 p2 p3 : Addr × Obj),
        Fr (ghostOf s1.heap [(176, 172)]) s1.heap.objs.size hp (fun y => if y = Str.ofString "texts" then some (.ref lt) else if y = Str.ofString "free" then some (.str fr tfr) else if y = Str.ofString "groups" then some (.ref ga) else if y = Str.ofString "costs" then some (.ref lc)
          else if y = Str.ofString "local" then some (.bool lo) else if y = Str.ofString "small" then some (.bool sm) else if y = Str.ofString "given" then some (.ref lg) else if y = Str.ofString "head" then some (.int hd0 thd) else if y = Str.ofString "numbers" then some (.ref Dn) else m0 y) ∧
        News (ghostOf s1.heap [(176, 172)]) s1.heap.objs.size hp [(D, listOf ws.toArray 0), (lt, listOf #[.str (Str.ofString "") ta, .str (Str.ofString "") tb] 0), (ga, ({ cls := .type "tuple", data := .seq [Value.str g1 u1, .str g2 u2, .str g3 u3].toArray } : Obj)),
          (lc, listOf [Value.int b0 tb3, .int M1 tM1, .int M2 tM2].toArray 0), p1, p2, (lg, listOf #[.int b0 tb0, .int b1 tb1, .int b2 tb2] 0), (Dn, LCg.lst [Value.int n0 z0, .int n1 z1, .int n2 z2, .int n3 z3, .int n4 z4]), p3, (172, tabObj #[])] ∧
        (max b1 b0 = M1 ∧ max b2 M1 = M2) ∧ ((0 ≤ b0 ∧ b0 ≤ 1000) ∧ (0 ≤ b1 ∧ b1 ≤ 1000) ∧ (0 ≤ b2 ∧ b2 ≤ 1000)) :=
      ⟨_, _, _, _, _, _, _, _, _, _, _, _, _, _, _, _, _, FF0, NN, cost_eq aM1 bM1 aM2 bM2, ⟨fmod_bd _ (by decide) (by decide), fmod_bd _ (by decide) (by decide), fmod_bd _ (by decide) (by decide)⟩⟩
    have hof : (lt ≠ D) ∧ (ga ≠ D) ∧ (lc ≠ D) ∧ (lg ≠ D) ∧ (Dn ≠ D) ∧ (172 ≠ D) :=
      ⟨Nat.ne_of_lt lD.1, Nat.ne_of_lt lD.2.1, Nat.ne_of_lt lD.2.2.1, Nat.ne_of_lt lD.2.2.2.2.2.1, Nat.ne_of_lt lD.2.2.2.2.2.2.1, Nat.ne_of_lt lD.2.2.2.2.2.2.2.2⟩
    have NF : News (ghostOf s1.heap [(176, 172)]) s1.heap.objs.size hp [(D, listOf ws.toArray 0), (lt, listOf #[.str (Str.ofString "") ta, .str (Str.ofString "") tb] 0), (ga, ({ cls := .type "tuple", data := .seq [Value.str g1 u1, .str g2 u2, .str g3 u3].toArray } : Obj)),
          (lc, listOf [Value.int b0 tb3, .int M1 tM1, .int M2 tM2].toArray 0), (lg, listOf #[.int b0 tb0, .int b1 tb1, .int b2 tb2] 0), (Dn, LCg.lst [Value.int n0 z0, .int n1 z1, .int n2 z2, .int n3 z3, .int n4 z4]), (172, tabObj #[])] := by
      intro p hp
      simp only [List.mem_cons, List.not_mem_nil, or_false] at hp
      rcases hp with rfl | rfl | rfl | rfl | rfl | rfl | rfl
      all_goals exact NN0 _ (by k_mem)
    have hofT : (ga ≠ lt) ∧ (lc ≠ lt) ∧ (lg ≠ lt) ∧ (Dn ≠ lt) ∧ (172 ≠ lt) :=
      ⟨Nat.ne_of_lt lT.1, Nat.ne_of_lt lT.2.1, Nat.ne_of_lt lT.2.2.2.2.1, Nat.ne_of_lt lT.2.2.2.2.2.1, Nat.ne_of_lt lT.2.2.2.2.2.2.2⟩
    clear FF0 NN0 NN aM1 bM1 aM2 bM2 lD lT

    generalize ghostOf s1.heap [(176, 172)] = h0 at *
    generalize s1.heap.objs.size = L at *
    refine textSrc (D := D) (lt := lt) (ws := ws) [Str.ofString "k", Str.ofString "number"] rfl FF NF hof.1 ?hDb goodT_nil goodT_nil ?turn ?done
    case hDb =>
      intro p hp
      simp only [List.mem_cons, List.not_mem_nil, or_false] at hp
      rcases hp with rfl | rfl | rfl | rfl | rfl
      · exact hof.2.1
      · exact hof.2.2.1
      · exact hof.2.2.2.1
      · exact hof.2.2.2.2.1
      · exact hof.2.2.2.2.2
    case turn =>
      clear FF NF fin
      intro i v own h tk u a b tta ttb hv gda gdb hoff FT NT
      obtain ⟨n, tn, rfl⟩ := intsGet hIw hv
      dsimp only
      exact (by
        have hofl : ∀ p ∈ own, p.1 ≠ lt := fun p hp q => hoff _ (.head _) p hp q.symm
        obtain ⟨m2, F1, hm2⟩ : ∃ m2 : Str → Option Value, Fr h0 L h (fun y => if y = Str.ofString "texts" then some (.ref lt) else m2 y) ∧ (∀ z, [Str.ofString "k", Str.ofString "number"].contains z = false → (if z = Str.ofString "texts" then some (.ref lt) else m2 z) = if z = Str.ofString "texts" then some (.ref lt) else if z = Str.ofString "free" then some (.str fr tfr) else if z = Str.ofString "groups" then some (.ref ga) else if z = Str.ofString "costs" then some (.ref lc) else if z = Str.ofString "local" then some (.bool lo) else if z = Str.ofString "small" then some (.bool sm) else if z = Str.ofString "given" then some (.ref lg) else if z = Str.ofString "head" then some (.int hd0 thd) else if z = Str.ofString "numbers" then some (.ref Dn) else m0 z) := by
          refine ⟨fun y => if [Str.ofString "k", Str.ofString "number"].contains y then u y else if y = Str.ofString "free" then some (.str fr tfr) else if y = Str.ofString "groups" then some (.ref ga) else if y = Str.ofString "costs" then some (.ref lc) else if y = Str.ofString "local" then some (.bool lo) else if y = Str.ofString "small" then some (.bool sm) else if y = Str.ofString "given" then some (.ref lg) else if y = Str.ofString "head" then some (.int hd0 thd) else if y = Str.ofString "numbers" then some (.ref Dn) else m0 y, ?_, fun z hz => ?_⟩
          · have e : (fun y => if y = Str.ofString "texts" then some (Value.ref lt) else (if [Str.ofString "k", Str.ofString "number"].contains y then u y else if y = Str.ofString "free" then some (.str fr tfr) else if y = Str.ofString "groups" then some (.ref ga) else if y = Str.ofString "costs" then some (.ref lc) else if y = Str.ofString "local" then some (.bool lo) else if y = Str.ofString "small" then some (.bool sm) else if y = Str.ofString "given" then some (.ref lg) else if y = Str.ofString "head" then some (.int hd0 thd) else if y = Str.ofString "numbers" then some (.ref Dn) else m0 y)) = (fun y => if [Str.ofString "k", Str.ofString "number"].contains y then u y else if y = Str.ofString "texts" then some (.ref lt) else if y = Str.ofString "free" then some (.str fr tfr) else if y = Str.ofString "groups" then some (.ref ga) else if y = Str.ofString "costs" then some (.ref lc) else if y = Str.ofString "local" then some (.bool lo) else if y = Str.ofString "small" then some (.bool sm) else if y = Str.ofString "given" then some (.ref lg) else if y = Str.ofString "head" then some (.int hd0 thd) else if y = Str.ofString "numbers" then some (.ref Dn) else m0 y) := by
              funext y
              by_cases c : y = Str.ofString "texts"
              · subst c
                rw [if_pos rfl, if_neg (by decide), if_pos rfl]
              · rw [if_neg c, if_neg c]
            dsimp only
            rw [e]
            exact FT
          · dsimp only
            rw [hz, if_neg Bool.false_ne_true]
        have NL : News h0 L h ((lt, listOf #[.str a tta, .str b ttb] 0) :: (own ++ ((ga, ({ cls := .type "tuple", data := .seq [Value.str g1 u1, .str g2 u2, .str g3 u3].toArray } : Obj)) :: (lc, listOf [Value.int b0 tb3, .int M1 tM1, .int M2 tM2].toArray 0) :: (lg, listOf #[.int b0 tb0, .int b1 tb1, .int b2 tb2] 0) :: (Dn, LCg.lst [Value.int n0 z0, .int n1 z1, .int n2 z2, .int n3 z3, .int n4 z4]) :: [(172, tabObj #[])]))) := fun p hp => NT p (by
          rcases List.mem_cons.mp hp with rfl | hp
          · exact List.mem_append_right _ (.head _)
          · rcases List.mem_append.mp hp with hp | hp
            · exact List.mem_append_left _ hp
            · exact List.mem_append_right _ (.tail _ hp))
        have hr : ∀ p ∈ own ++ ((ga, ({ cls := .type "tuple", data := .seq [Value.str g1 u1, .str g2 u2, .str g3 u3].toArray } : Obj)) :: (lc, listOf [Value.int b0 tb3, .int M1 tM1, .int M2 tM2].toArray 0) :: (lg, listOf #[.int b0 tb0, .int b1 tb1, .int b2 tb2] 0) :: (Dn, LCg.lst [Value.int n0 z0, .int n1 z1, .int n2 z2, .int n3 z3, .int n4 z4]) :: [(172, tabObj #[])]), p.1 ≠ lt := fun p hp => by
          rcases List.mem_append.mp hp with hp | hp
          · exact hofl p hp
          · simp only [List.mem_cons, List.not_mem_nil, or_false] at hp
            rcases hp with rfl | rfl | rfl | rfl | rfl
            · exact hofT.1
            · exact hofT.2.1
            · exact hofT.2.2.1
            · exact hofT.2.2.2.1
            · exact hofT.2.2.2.2
        refine hideQ fun q' hq' => ?_
        have fin : ∀ (h' : Heap) (tk' : Nat) (m' : Str → Option Value) (a' b' : Str) (ta' tb' : Tok), Fr h0 L h' m' → (∀ z, [Str.ofString "k", Str.ofString "number"].contains z = false → m' z = if z = Str.ofString "texts" then some (.ref lt) else m2 z) → News h0 L h' ((lt, listOf #[.str a' ta', .str b' tb'] 0) :: (own ++ ((ga, ({ cls := .type "tuple", data := .seq [Value.str g1 u1, .str g2 u2, .str g3 u3].toArray } : Obj)) :: (lc, listOf [Value.int b0 tb3, .int M1 tM1, .int M2 tM2].toArray 0) :: (lg, listOf #[.int b0 tb0, .int b1 tb1, .int b2 tb2] 0) :: (Dn, LCg.lst [Value.int n0 z0, .int n1 z1, .int n2 z2, .int n3 z3, .int n4 z4]) :: [(172, tabObj #[])]))) → GoodT a' → GoodT b' →
            q' .next ({ heap := h', gens := s1.gens, drawn := s1.drawn, toks := tk', os := s1.os } : Shared) :=
          fun h' tk' m' a' b' ta' tb' F hm N ga' gb' => hq' _ _ (txEnd (a := a') (b := b') rfl F (fun z hz => (hm z hz).trans (hm2 z hz)) N ga' gb')
        clear hq'
        generalize hrest : own ++ ((ga, ({ cls := .type "tuple", data := .seq [Value.str g1 u1, .str g2 u2, .str g3 u3].toArray } : Obj)) :: (lc, listOf [Value.int b0 tb3, .int M1 tM1, .int M2 tM2].toArray 0) :: (lg, listOf #[.int b0 tb0, .int b1 tb1, .int b2 tb2] 0) :: (Dn, LCg.lst [Value.int n0 z0, .int n1 z1, .int n2 z2, .int n3 z3, .int n4 z4]) :: [(172, tabObj #[])]) = rest at NL hr fin
        clear hrest FT NT hofl hoff hofT hof hm2
        have hal : a.length ≤ 4 := gda.1
        have hbl : b.length ≤ 4 := gdb.1
        w_on
        revert X
        k_fill
        intro X
        iterate 2 walk1
        refine execs_cut (MidT fun s' => ∃ (h : Heap) (tk : Nat) (k : Int) (tk2 tn2 : Tok), s' = { s1 with heap := h, toks := tk } ∧ (Fr h0 L h (fun y => if y = Str.ofString "k" then some (.int k tk2) else if y = Str.ofString "number" then some (.int n tn2) else if y = Str.ofString "texts" then some (.ref lt) else m2 y) ∧ News h0 L h ((lt, listOf #[.str a tta, .str b ttb] 0) :: rest)) ∧ (k = 0 ∨ k = 1)) ?_ ?_
        · repeat walk1
          exact MidT.mk ⟨_, _, _, _, _, rfl, ⟨by assumption, by assumption⟩, fmod_two n⟩
        rintro s' ⟨h, tk, k, tk2, tn2, rfl, ⟨F2, N2⟩, hk⟩
        rcases hk with rfl | rfl
        · repeat' walk1
          all_goals
            dsimp only
            refine' fin _ _ _ _ _ _ _ ?fF ?fm ?fN ?ga ?gb
            case fF => k_asm
            case fN => k_asm
            case fm => exact fun z hz => two_else hz
            case ga => first | exact gda | exact good_app gda (by assumption) (eight _)
            case gb => first | exact gdb | exact good_app gdb (by assumption) (eight _)
        · repeat' walk1
          all_goals
            dsimp only
            refine' fin _ _ _ _ _ _ _ ?fF ?fm ?fN ?ga ?gb
            case fF => k_asm
            case fN => k_asm
            case fm => exact fun z hz => two_else hz
            case ga => first | exact gda | exact good_app gda (by assumption) (eight _)
            case gb => first | exact gdb | exact good_app gdb (by assumption) (eight _))
    case done =>
      clear FF NF hIw hofT
      intro h tk u a b tta ttb gda gdb FT NT
      dsimp only
      exact (by
        obtain ⟨m1, F1⟩ : ∃ m1 : Str → Option Value, Fr h0 L h (fun y => if y = Str.ofString "texts" then some (.ref lt) else if y = Str.ofString "free" then some (.str fr tfr) else if y = Str.ofString "groups" then some (.ref ga) else if y = Str.ofString "costs" then some (.ref lc) else if y = Str.ofString "local" then some (.bool lo) else if y = Str.ofString "small" then some (.bool sm) else if y = Str.ofString "given" then some (.ref lg) else if y = Str.ofString "head" then some (.int hd0 thd) else if y = Str.ofString "numbers" then some (.ref Dn) else m1 y) := by
          refine ⟨fun y => if [Str.ofString "k", Str.ofString "number"].contains y then u y else m0 y, ?_⟩
          have e : (fun y => if y = Str.ofString "texts" then some (.ref lt) else if y = Str.ofString "free" then some (.str fr tfr) else if y = Str.ofString "groups" then some (.ref ga) else if y = Str.ofString "costs" then some (.ref lc) else if y = Str.ofString "local" then some (.bool lo) else if y = Str.ofString "small" then some (.bool sm) else if y = Str.ofString "given" then some (.ref lg) else if y = Str.ofString "head" then some (.int hd0 thd) else if y = Str.ofString "numbers" then some (.ref Dn) else (if [Str.ofString "k", Str.ofString "number"].contains y then u y else m0 y)) = (fun y => if [Str.ofString "k", Str.ofString "number"].contains y then u y else if y = Str.ofString "texts" then some (.ref lt) else if y = Str.ofString "free" then some (.str fr tfr) else if y = Str.ofString "groups" then some (.ref ga) else if y = Str.ofString "costs" then some (.ref lc) else if y = Str.ofString "local" then some (.bool lo) else if y = Str.ofString "small" then some (.bool sm) else if y = Str.ofString "given" then some (.ref lg) else if y = Str.ofString "head" then some (.int hd0 thd) else if y = Str.ofString "numbers" then some (.ref Dn) else m0 y) := by
            funext y
            by_cases c : [Str.ofString "k", Str.ofString "number"].contains y = true
            · rw [if_pos c, if_pos c]
              rcases kn_cases c with rfl | rfl
              · rw [if_neg (by decide)]; rw [if_neg (by decide)]; rw [if_neg (by decide)]; rw [if_neg (by decide)]; rw [if_neg (by decide)]; rw [if_neg (by decide)]; rw [if_neg (by decide)]; rw [if_neg (by decide)]; rw [if_neg (by decide)]
              · rw [if_neg (by decide)]; rw [if_neg (by decide)]; rw [if_neg (by decide)]; rw [if_neg (by decide)]; rw [if_neg (by decide)]; rw [if_neg (by decide)]; rw [if_neg (by decide)]; rw [if_neg (by decide)]; rw [if_neg (by decide)]
            · rw [if_neg c, if_neg c]
          dsimp only
          rw [e]
          exact FT
        have N1 : News h0 L h ((lt, listOf #[.str a tta, .str b ttb] 0) :: (ga, ({ cls := .type "tuple", data := .seq [Value.str g1 u1, .str g2 u2, .str g3 u3].toArray } : Obj)) :: (lc, listOf [Value.int b0 tb3, .int M1 tM1, .int M2 tM2].toArray 0) :: (lg, listOf #[.int b0 tb0, .int b1 tb1, .int b2 tb2] 0) :: (Dn, LCg.lst [Value.int n0 z0, .int n1 z1, .int n2 z2, .int n3 z3, .int n4 z4]) :: [(172, tabObj #[])]) := NT
        have HC : CodeHd h0 176 172 := codeHd
        have hsp : (Str.ofString " ").length = 1 := rfl
        clear FT NT codeHd hof
        have hal : a.length ≤ 4 := gda.1
        have hbl : b.length ≤ 4 := gdb.1
        have hlow : (Txt.lower a).length ≤ 4 := (lower_good_len gda).symm ▸ hal

        w_on
        revert X
        k_fill
        intro X
        refine execs_cut (MidP fun s' => ∃ (h : Heap) (tk : Nat) (t1 t2 : Tok), s' = { s1 with heap := h, toks := tk } ∧ Fr h0 L h (fun y => if y = Str.ofString "second" then some (.str b t2) else if y = Str.ofString "first" then some (.str a t1) else if y = Str.ofString "texts" then some (.ref lt) else if y = Str.ofString "free" then some (.str fr tfr) else if y = Str.ofString "groups" then some (.ref ga) else if y = Str.ofString "costs" then some (.ref lc) else if y = Str.ofString "local" then some (.bool lo) else if y = Str.ofString "small" then some (.bool sm) else if y = Str.ofString "given" then some (.ref lg) else if y = Str.ofString "head" then some (.int hd0 thd) else if y = Str.ofString "numbers" then some (.ref Dn) else m1 y) ∧ News h0 L h ((lt, listOf #[.str a tta, .str b ttb] 0) :: (ga, ({ cls := .type "tuple", data := .seq [Value.str g1 u1, .str g2 u2, .str g3 u3].toArray } : Obj)) :: (lc, listOf [Value.int b0 tb3, .int M1 tM1, .int M2 tM2].toArray 0) :: (lg, listOf #[.int b0 tb0, .int b1 tb1, .int b2 tb2] 0) :: (Dn, LCg.lst [Value.int n0 z0, .int n1 z1, .int n2 z2, .int n3 z3, .int n4 z4]) :: [(172, tabObj #[])])) ?_ ?_
        · w_strict k_steps
          exact MidP.mk ⟨_, _, _, _, rfl, by assumption, by assumption⟩
        rintro s' ⟨h, tk, t1, t2, rfl, F2, N2⟩
        clear F1 N1
        refine execs_cut (MidP fun s' => ∃ (h : Heap) (tk : Nat) (z : Str) (tz : Tok), s' = { s1 with heap := h, toks := tk } ∧ Fr h0 L h (fun y => if y = Str.ofString "handed" then some (.str z tz) else if y = Str.ofString "second" then some (.str b t2) else if y = Str.ofString "first" then some (.str a t1) else if y = Str.ofString "texts" then some (.ref lt) else if y = Str.ofString "free" then some (.str fr tfr) else if y = Str.ofString "groups" then some (.ref ga) else if y = Str.ofString "costs" then some (.ref lc) else if y = Str.ofString "local" then some (.bool lo) else if y = Str.ofString "small" then some (.bool sm) else if y = Str.ofString "given" then some (.ref lg) else if y = Str.ofString "head" then some (.int hd0 thd) else if y = Str.ofString "numbers" then some (.ref Dn) else m1 y) ∧ News h0 L h ((lt, listOf #[.str a tta, .str b ttb] 0) :: (ga, ({ cls := .type "tuple", data := .seq [Value.str g1 u1, .str g2 u2, .str g3 u3].toArray } : Obj)) :: (lc, listOf [Value.int b0 tb3, .int M1 tM1, .int M2 tM2].toArray 0) :: (lg, listOf #[.int b0 tb0, .int b1 tb1, .int b2 tb2] 0) :: (Dn, LCg.lst [Value.int n0 z0, .int n1 z1, .int n2 z2, .int n3 z3, .int n4 z4]) :: [(172, tabObj #[])]) ∧ Handed sm a z) ?_ ?_
        · w_strict k_steps
          · exact MidP.mk ⟨_, _, _, _, rfl, by assumption, by assumption, handed_t (by assumption)⟩
          · exact MidP.mk ⟨_, _, _, _, rfl, by assumption, by assumption, handed_f (by assumption)⟩
        rintro s' ⟨h, tk, z, tz, rfl, F1, N1, hz⟩
        clear F2 N2
        have hzl : z.length = a.length := hz.len gda
        refine execs_cut (MidP fun s' => ∃ (h : Heap) (tk : Nat) (tm : Tok), s' = { s1 with heap := h, toks := tk } ∧ Fr h0 L h (fun y => if y = Str.ofString "most" then some (.int ((max a.length b.length : Nat) * M2) tm) else if y = Str.ofString "handed" then some (.str z tz) else if y = Str.ofString "second" then some (.str b t2) else if y = Str.ofString "first" then some (.str a t1) else if y = Str.ofString "texts" then some (.ref lt) else if y = Str.ofString "free" then some (.str fr tfr) else if y = Str.ofString "groups" then some (.ref ga) else if y = Str.ofString "costs" then some (.ref lc) else if y = Str.ofString "local" then some (.bool lo) else if y = Str.ofString "small" then some (.bool sm) else if y = Str.ofString "given" then some (.ref lg) else if y = Str.ofString "head" then some (.int hd0 thd) else if y = Str.ofString "numbers" then some (.ref Dn) else m1 y) ∧ News h0 L h ((lt, listOf #[.str a tta, .str b ttb] 0) :: (ga, ({ cls := .type "tuple", data := .seq [Value.str g1 u1, .str g2 u2, .str g3 u3].toArray } : Obj)) :: (lc, listOf [Value.int b0 tb3, .int M1 tM1, .int M2 tM2].toArray 0) :: (lg, listOf #[.int b0 tb0, .int b1 tb1, .int b2 tb2] 0) :: (Dn, LCg.lst [Value.int n0 z0, .int n1 z1, .int n2 z2, .int n3 z3, .int n4 z4]) :: [(172, tabObj #[])])) ?_ ?_
        · w_strict k_steps
          rename Fr _ _ _ _ => FQ
          rw [most_eq] at FQ
          exact MidP.mk ⟨_, _, _, rfl, FQ, by assumption⟩
        rintro s' ⟨h, tk, tm, rfl, F2, N2⟩
        clear F1 N1
        have hc0 : 0 ≤ M2 ∧ M2 ≤ 1000 := by omega
        refine execs_cut (MidP fun s' => ∃ (h : Heap) (tk : Nat) (due : Int) (td : Tok), s' = { s1 with heap := h, toks := tk } ∧ Fr h0 L h (fun y => if y = Str.ofString "due" then some (.int due td) else if y = Str.ofString "most" then some (.int ((max a.length b.length : Nat) * M2) tm) else if y = Str.ofString "handed" then some (.str z tz) else if y = Str.ofString "second" then some (.str b t2) else if y = Str.ofString "first" then some (.str a t1) else if y = Str.ofString "texts" then some (.ref lt) else if y = Str.ofString "free" then some (.str fr tfr) else if y = Str.ofString "groups" then some (.ref ga) else if y = Str.ofString "costs" then some (.ref lc) else if y = Str.ofString "local" then some (.bool lo) else if y = Str.ofString "small" then some (.bool sm) else if y = Str.ofString "given" then some (.ref lg) else if y = Str.ofString "head" then some (.int hd0 thd) else if y = Str.ofString "numbers" then some (.ref Dn) else m1 y) ∧ News h0 L h ((lt, listOf #[.str a tta, .str b ttb] 0) :: (ga, ({ cls := .type "tuple", data := .seq [Value.str g1 u1, .str g2 u2, .str g3 u3].toArray } : Obj)) :: (lc, listOf [Value.int b0 tb3, .int M1 tM1, .int M2 tM2].toArray 0) :: (lg, listOf #[.int b0 tb0, .int b1 tb1, .int b2 tb2] 0) :: (Dn, LCg.lst [Value.int n0 z0, .int n1 z1, .int n2 z2, .int n3 z3, .int n4 z4]) :: [(172, tabObj #[])]) ∧ DueV g1 g2 g3 fr b0 M1 M2 lo a b z due) ?_ ?_
        · w_strict k_steps
          · exact MidP.mk ⟨_, _, _, _, rfl, by assumption, by assumption, du_1 (by assumption)⟩
          · exact MidP.mk ⟨_, _, _, _, rfl, by assumption, by assumption, du_2 (by assumption) (.inl (by assumption))⟩
          · exact MidP.mk ⟨_, _, _, _, rfl, by assumption, by assumption, du_2 (by assumption) (.inr (by assumption))⟩
          · exact MidP.mk ⟨_, _, _, _, rfl, by assumption, by assumption, du_4 (by assumption) (by assumption) (by assumption) (by assumption)⟩
        rintro s' ⟨h, tk, due, td, rfl, F1, N1, hdue⟩
        clear F2 N2
        have hc3 : 0 ≤ b0 ∧ b0 ≤ M1 ∧ M1 ≤ M2 := by omega
        have cdue := fun v => call_due (v := v) hz gda gdb hc3 hdue
        have hzl : z.length = a.length := hz.len gda
        have hzu : Txt.upper z = a := hz.up gda
        have hbu : Txt.upper b = b := upper_good gdb
        have haa := goodT_all gda
        have hba := goodT_all gdb
        have TI : TabIn 172 lamQ ((lt, listOf #[.str a tta, .str b ttb] 0) :: (ga, ({ cls := .type "tuple", data := .seq [Value.str g1 u1, .str g2 u2, .str g3 u3].toArray } : Obj)) :: (lc, listOf [Value.int b0 tb3, .int M1 tM1, .int M2 tM2].toArray 0) :: (lg, listOf #[.int b0 tb0, .int b1 tb1, .int b2 tb2] 0) :: (Dn, LCg.lst [Value.int n0 z0, .int n1 z1, .int n2 z2, .int n3 z3, .int n4 z4]) :: [(172, tabObj #[])]) := ⟨#[], by k_mem, trivial⟩
        clear hdue
        obtain ⟨bd1, bd2, bd3⟩ := bd
        obtain ⟨eM1, eM2⟩ := eM
        refine execs_cut (MidP fun s' => ∃ (h : Heap) (tk : Nat) (eE dE : Addr) (j1 j2 j3 j4 j5 j8 y1 y2 y3 y4 : Tok), s' = { s1 with heap := h, toks := tk } ∧ Fr h0 L h (fun y => if y = Str.ofString "elder" then some (.ref eE) else if y = Str.ofString "due" then some (.int due td) else if y = Str.ofString "most" then some (.int ((max a.length b.length : Nat) * M2) tm) else if y = Str.ofString "handed" then some (.str z tz) else if y = Str.ofString "second" then some (.str b t2) else if y = Str.ofString "first" then some (.str a t1) else if y = Str.ofString "texts" then some (.ref lt) else if y = Str.ofString "free" then some (.str fr tfr) else if y = Str.ofString "groups" then some (.ref ga) else if y = Str.ofString "costs" then some (.ref lc) else if y = Str.ofString "local" then some (.bool lo) else if y = Str.ofString "small" then some (.bool sm) else if y = Str.ofString "given" then some (.ref lg) else if y = Str.ofString "head" then some (.int hd0 thd) else if y = Str.ofString "numbers" then some (.ref Dn) else m1 y) ∧ News h0 L h ((eE, instObj 192 dE) :: (dE, eldD w j1 j2 j3 j4 j5 j8 (.int 0 y1) (.int 1 y2) (.int 2 y3) (.bool false) (.bool true) (.str elderG y4)) :: (lt, listOf #[.str a tta, .str b ttb] 0) :: (ga, ({ cls := .type "tuple", data := .seq [Value.str g1 u1, .str g2 u2, .str g3 u3].toArray } : Obj)) :: (lc, listOf [Value.int b0 tb3, .int M1 tM1, .int M2 tM2].toArray 0) :: (lg, listOf #[.int b0 tb0, .int b1 tb1, .int b2 tb2] 0) :: (Dn, LCg.lst [Value.int n0 z0, .int n1 z1, .int n2 z2, .int n3 z3, .int n4 z4]) :: [(172, tabObj #[])])) ?_ ?_
        · w_strict k_steps
          exact MidP.mk ⟨_, _, _, _, _, _, _, _, _, _, _, _, _, _, rfl, by assumption, by assumption⟩
        rintro s' ⟨h, tk, eE, dE, j1, j2, j3, j4, j5, j8, y1, y2, y3, y4, rfl, F2, N2⟩
        clear F1 N1
        refine execs_cut (MidP fun s' => ∃ (h : Heap) (tk : Nat) (eP dP : Addr) (k1 k2 k3 k4 k5 k6 k7 k8 x3 x4 x5 x6 x7 : Tok), s' = { s1 with heap := h, toks := tk } ∧ Fr h0 L h (fun y => if y = Str.ofString "plain" then some (.ref eP) else if y = Str.ofString "elder" then some (.ref eE) else if y = Str.ofString "due" then some (.int due td) else if y = Str.ofString "most" then some (.int ((max a.length b.length : Nat) * M2) tm) else if y = Str.ofString "handed" then some (.str z tz) else if y = Str.ofString "second" then some (.str b t2) else if y = Str.ofString "first" then some (.str a t1) else if y = Str.ofString "texts" then some (.ref lt) else if y = Str.ofString "free" then some (.str fr tfr) else if y = Str.ofString "groups" then some (.ref ga) else if y = Str.ofString "costs" then some (.ref lc) else if y = Str.ofString "local" then some (.bool lo) else if y = Str.ofString "small" then some (.bool sm) else if y = Str.ofString "given" then some (.ref lg) else if y = Str.ofString "head" then some (.int hd0 thd) else if y = Str.ofString "numbers" then some (.ref Dn) else m1 y) ∧ News h0 L h ((eP, instObj 192 dP) :: (dP, editD w k1 k2 k3 k4 k5 k6 k7 k8 (.int b0 x3) (.int M1 x4) (.int M2 x5) (.bool lo) (.bool true) (.ref ga) (.str fr x6) (.str (Txt.join (Str.ofString "") [g1, g2, g3]) x7)) :: ((eE, instObj 192 dE) :: (dE, eldD w j1 j2 j3 j4 j5 j8 (.int 0 y1) (.int 1 y2) (.int 2 y3) (.bool false) (.bool true) (.str elderG y4)) :: (lt, listOf #[.str a tta, .str b ttb] 0) :: (ga, ({ cls := .type "tuple", data := .seq [Value.str g1 u1, .str g2 u2, .str g3 u3].toArray } : Obj)) :: (lc, listOf [Value.int b0 tb3, .int M1 tM1, .int M2 tM2].toArray 0) :: (lg, listOf #[.int b0 tb0, .int b1 tb1, .int b2 tb2] 0) :: (Dn, LCg.lst [Value.int n0 z0, .int n1 z1, .int n2 z2, .int n3 z3, .int n4 z4]) :: [(172, tabObj #[])]))) ?_ ?_
        · w_strict k_steps
          rename News _ _ _ _ => NQ
          have NQ2 : News h0 L _ ((_, instObj 192 _) :: (_, editD w _ _ _ _ _ _ _ _ (.int b0 _) (.int (max b1 b0) _) (.int (max b2 (max b1 b0)) _) (.bool lo) (.bool true) (.ref ga) (.str fr _) (.str (Txt.join (Str.ofString "") [g1, g2, g3]) _)) :: _) := NQ
          rw [eM1, eM2] at NQ2
          exact MidP.mk ⟨_, _, _, _, _, _, _, _, _, _, _, _, _, _, _, _, _, rfl, by assumption, NQ2⟩
        rintro s' ⟨h, tk, eP, dP, k1, k2, k3, k4, k5, k6, k7, k8, x3, x4, x5, x6, x7, rfl, F1, N1⟩
        clear F2 N2
        have jj : ∀ z : Str, z.length = 1 → isIn z (Txt.join (Str.ofString "") [g1, g2, g3]) = [g1, g2, g3].any (isIn z) := join_isIn
        generalize Txt.join (Str.ofString "") [g1, g2, g3] = gr at *
        have TI2 : TabIn 172 lamQ _ := TI.sub (nx' := (eP, instObj 192 dP) :: (dP, editD w k1 k2 k3 k4 k5 k6 k7 k8 (.int b0 x3) (.int M1 x4) (.int M2 x5) (.bool lo) (.bool true) (.ref ga) (.str fr x6) (.str gr x7)) :: ((eE, instObj 192 dE) :: (dE, eldD w j1 j2 j3 j4 j5 j8 (.int 0 y1) (.int 1 y2) (.int 2 y3) (.bool false) (.bool true) (.str elderG y4)) :: (lt, listOf #[.str a tta, .str b ttb] 0) :: (ga, ({ cls := .type "tuple", data := .seq [Value.str g1 u1, .str g2 u2, .str g3 u3].toArray } : Obj)) :: (lc, listOf [Value.int b0 tb3, .int M1 tM1, .int M2 tM2].toArray 0) :: (lg, listOf #[.int b0 tb0, .int b1 tb1, .int b2 tb2] 0) :: (Dn, LCg.lst [Value.int n0 z0, .int n1 z1, .int n2 z2, .int n3 z3, .int n4 z4]) :: [(172, tabObj #[])])) (by intro p hp; k_ownIn)
        have LW : LawL w _ eP dP ga lc Dn eE dE k1 k2 k3 k4 k5 k6 k7 k8 x3 x4 x5 x6 x7 b0 M1 M2 lo fr gr u1 u2 u3 g1 g2 g3 tb3 tM1 tM2 n0 n1 n2 n3 n4 z0 z1 z2 z3 z4 j1 j2 j3 j4 j5 j8 y1 y2 y3 y4 := LawL.mk (nx := (eP, instObj 192 dP) :: (dP, editD w k1 k2 k3 k4 k5 k6 k7 k8 (.int b0 x3) (.int M1 x4) (.int M2 x5) (.bool lo) (.bool true) (.ref ga) (.str fr x6) (.str gr x7)) :: ((eE, instObj 192 dE) :: (dE, eldD w j1 j2 j3 j4 j5 j8 (.int 0 y1) (.int 1 y2) (.int 2 y3) (.bool false) (.bool true) (.str elderG y4)) :: (lt, listOf #[.str a tta, .str b ttb] 0) :: (ga, ({ cls := .type "tuple", data := .seq [Value.str g1 u1, .str g2 u2, .str g3 u3].toArray } : Obj)) :: (lc, listOf [Value.int b0 tb3, .int M1 tM1, .int M2 tM2].toArray 0) :: (lg, listOf #[.int b0 tb0, .int b1 tb1, .int b2 tb2] 0) :: (Dn, LCg.lst [Value.int n0 z0, .int n1 z1, .int n2 z2, .int n3 z3, .int n4 z4]) :: [(172, tabObj #[])])) (by k_mem) (by k_mem) (by k_mem) (by k_mem) (by k_mem) (by k_mem) (by k_mem)
        clear TI
        generalize hnx : ((eP, instObj 192 dP) :: (dP, editD w k1 k2 k3 k4 k5 k6 k7 k8 (.int b0 x3) (.int M1 x4) (.int M2 x5) (.bool lo) (.bool true) (.ref ga) (.str fr x6) (.str gr x7)) :: ((eE, instObj 192 dE) :: (dE, eldD w j1 j2 j3 j4 j5 j8 (.int 0 y1) (.int 1 y2) (.int 2 y3) (.bool false) (.bool true) (.str elderG y4)) :: (lt, listOf #[.str a tta, .str b ttb] 0) :: (ga, ({ cls := .type "tuple", data := .seq [Value.str g1 u1, .str g2 u2, .str g3 u3].toArray } : Obj)) :: (lc, listOf [Value.int b0 tb3, .int M1 tM1, .int M2 tM2].toArray 0) :: (lg, listOf #[.int b0 tb0, .int b1 tb1, .int b2 tb2] 0) :: (Dn, LCg.lst [Value.int n0 z0, .int n1 z1, .int n2 z2, .int n3 z3, .int n4 z4]) :: [(172, tabObj #[])])) = nx at N1 TI2 LW
        clear hnx
        obtain ⟨hI, hD, hg, hC, hM, hIE, hDE⟩ := LW
        have TI : TabIn 172 lamQ nx := TI2
        clear TI2
        exact (by
          have hz100 : z.length ≤ 100 := by omega
          have hb100 : b.length ≤ 100 := by omega
          have hzu100 : (Txt.upper z).length ≤ 100 := by rw [hzu]; omega
          have hbu100 : (Txt.upper b).length ≤ 100 := by rw [hbu]; omega
          have hza : (Txt.upper z).cps.all (· < 128) = true := by rw [hzu]; exact haa
          have hbA : (Txt.upper b).cps.all (· < 128) = true := by rw [hbu]; exact hba
          rw [← hzl] at F1
          have hBP : pairE (Str.ofString "B") (Str.ofString "P") = 1 := by decide +kernel
          have hHA : pairE (Str.ofString "H") (Str.ofString "A") = 2 := by decide +kernel
          have e1 := ne_tab N1 hI TI (fun _ h => h) notF_plain
          have e2 := ne_tab N1 hD TI (fun _ h => h) notF_dict
          have e3 := ne_tab N1 hg TI (fun _ h => h) notF_seq
          have e4 := ne_tab N1 hC TI (fun _ h => h) notF_list
          have e5 := ne_tab N1 hM TI (fun _ h => h) notF_list
          have e6 := ne_tab N1 hIE TI (fun _ h => h) notF_plain
          have e7 := ne_tab N1 hDE TI (fun _ h => h) notF_dict
          w_on
          revert X
          k_fill
          intro X
          repeat walk1
          rename_i v9 t9 h9 tk9 nx1 q9 F9 N9 TI9 sn9
          obtain rfl := cdue v9 q9
          replace hI := sn9 _ (by first | exact hI | exact .tail _ hI) e1
          replace hD := sn9 _ (by first | exact hD | exact .tail _ hD) e2
          replace hg := sn9 _ (by first | exact hg | exact .tail _ hg) e3
          replace hC := sn9 _ (by first | exact hC | exact .tail _ hC) e4
          replace hM := sn9 _ (by first | exact hM | exact .tail _ hM) e5
          replace hIE := sn9 _ (by first | exact hIE | exact .tail _ hIE) e6
          replace hDE := sn9 _ (by first | exact hDE | exact .tail _ hDE) e7
          clear sn9
          refine Stop.mk ?_
          repeat walk1
          rename_i v9 t9 h9 tk9 nx2 q9 F9 N9 TI9 sn9
          obtain rfl := cdue v9 q9
          replace hI := sn9 _ (by first | exact hI | exact .tail _ hI) e1
          replace hD := sn9 _ (by first | exact hD | exact .tail _ hD) e2
          replace hg := sn9 _ (by first | exact hg | exact .tail _ hg) e3
          replace hC := sn9 _ (by first | exact hC | exact .tail _ hC) e4
          replace hM := sn9 _ (by first | exact hM | exact .tail _ hM) e5
          replace hIE := sn9 _ (by first | exact hIE | exact .tail _ hIE) e6
          replace hDE := sn9 _ (by first | exact hDE | exact .tail _ hDE) e7
          clear sn9
          refine Stop.mk ?_
          repeat walk1
          rename_i t9 h9 tk9 nx3 F9 N9 TI9 sn9
          replace hI := sn9 _ (by first | exact hI | exact .tail _ hI) e1
          replace hD := sn9 _ (by first | exact hD | exact .tail _ hD) e2
          replace hg := sn9 _ (by first | exact hg | exact .tail _ hg) e3
          replace hC := sn9 _ (by first | exact hC | exact .tail _ hC) e4
          replace hM := sn9 _ (by first | exact hM | exact .tail _ hM) e5
          replace hIE := sn9 _ (by first | exact hIE | exact .tail _ hIE) e6
          replace hDE := sn9 _ (by first | exact hDE | exact .tail _ hDE) e7
          clear sn9
          refine Stop.mk ?_
          repeat walk1
          rename_i t9 h9 tk9 nx4 F9 N9 TI9 sn9
          replace hI := sn9 _ (by first | exact hI | exact .tail _ hI) e1
          replace hD := sn9 _ (by first | exact hD | exact .tail _ hD) e2
          replace hg := sn9 _ (by first | exact hg | exact .tail _ hg) e3
          replace hC := sn9 _ (by first | exact hC | exact .tail _ hC) e4
          replace hM := sn9 _ (by first | exact hM | exact .tail _ hM) e5
          replace hIE := sn9 _ (by first | exact hIE | exact .tail _ hIE) e6
          replace hDE := sn9 _ (by first | exact hDE | exact .tail _ hDE) e7
          clear sn9
          refine Stop.mk ?_
          repeat walk1
          rename_i t9 h9 tk9 nx5 F9 N9 TI9 sn9
          replace hI := sn9 _ (by first | exact hI | exact .tail _ hI) e1
          replace hD := sn9 _ (by first | exact hD | exact .tail _ hD) e2
          replace hg := sn9 _ (by first | exact hg | exact .tail _ hg) e3
          replace hC := sn9 _ (by first | exact hC | exact .tail _ hC) e4
          replace hM := sn9 _ (by first | exact hM | exact .tail _ hM) e5
          replace hIE := sn9 _ (by first | exact hIE | exact .tail _ hIE) e6
          replace hDE := sn9 _ (by first | exact hDE | exact .tail _ hDE) e7
          clear sn9
          rw [hBP]
          refine Stop.mk ?_
          repeat walk1
          rename_i t9 h9 tk9 nx6 F9 N9 TI9 sn9
          replace hI := sn9 _ (by first | exact hI | exact .tail _ hI) e1
          replace hD := sn9 _ (by first | exact hD | exact .tail _ hD) e2
          replace hg := sn9 _ (by first | exact hg | exact .tail _ hg) e3
          replace hC := sn9 _ (by first | exact hC | exact .tail _ hC) e4
          replace hM := sn9 _ (by first | exact hM | exact .tail _ hM) e5
          replace hIE := sn9 _ (by first | exact hIE | exact .tail _ hIE) e6
          replace hDE := sn9 _ (by first | exact hDE | exact .tail _ hDE) e7
          clear sn9
          rw [hHA]
          refine Stop.mk ?_
          repeat walk1
          refine' fin _ _ _ _ ?fa ?fb ?fc
          case fa => k_asm
          case fb => k_asm
          case fc => first | assumption | exact TabIn.sub (by assumption) (by intro p hp; k_ownIn)))))
end Mine
end
theorem PySem.Challenge.cw_fq5039_01_holds : PySem.Challenge.rw_fq5039_01.Holds := by
  exact Mine.law_holds
