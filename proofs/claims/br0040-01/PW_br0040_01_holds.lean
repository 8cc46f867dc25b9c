import PyProof.Rows.All
import Wide.All
import OpenK.AllK
import Wide.FinOn
import PyProof.ConsumeWalk
import PyProof.MinMaxWalk
import PyProof.Draws
import PyProof.EnumMake
import PyProof.GenQ
import PyProof.WalksU
import PyProof.GenCompD
import PyProof.WalkInts
import PyProof.ZipIter
import PyProof.TupleOps
import PyProof.Rows.TupMore
import PyProof.Rows.TupAdd
import PyProof.SumAnyB
import Lean
import PySem.Challenge.RW_br0040_01
open PySem PySem.W PyProof.Rows
set_option Elab.async false
set_option maxRecDepth 100000
set_option maxHeartbeats 8000000
namespace Mine
section
local macro_rules | `(tactic| o_head ($_ $k $a $p)) => `(tactic| o_head (kmHook $k $a $p [167]))
open_top hd for PySem.Challenge.rw_br0040_01
end

example : PySem.Challenge.rw_br0040_01.Holds → hd.heap_39 = hd.heap_39 := by k_fill; intro _; rfl
section
open PySem.Calls
def SetSz (o : Obj) (n : Nat) : Prop := ∃ es ep t, o.ExactSet ∧ o.data = .set es ep t ∧ t.fits es.size = true ∧ es.size = n
abbrev freshSet (led : Bool) : Obj := { cls := .type "set", dict := none, data := .set #[] 0 (.fresh 0 0 led) }

section
variable {prog : Program} {w : World} {A : Around} {s : Shared}

/-- adding x to the set at S: from an object that is P to one that is P' -/
def Adds (prog : Program) (w : World) (A : Around) (S : Addr) (x : Value) (KX : Heap → Prop) (P P' : Obj → Prop) : Prop :=
  ∀ (s₁ : Shared) (E : Value → Shared → Prop) (Q : Bool → Shared → Prop), (∃ o, s₁.heap.get? S = some o ∧ P o) → KX s₁.heap →
    (∀ b h' tk, Heap.SameBut S s₁.heap h' → (∃ o, h'.get? S = some o ∧ P' o) → Q b { s₁ with heap := h', toks := tk }) →
    wpAny (model prog w) A (setAdd S x) Q E s₁

theorem code_update_two {S I t : Addr} {x y : Value} {P0 P1 P2 : Obj → Prop} {KX : Heap → Prop} {R : Result → Shared → Prop} (hh : A.handled = none) (hSI : S ≠ I) (htI : t ≠ I) (htS : t ≠ S)
    (hK : ∀ h h' : Heap, KX h → (∀ b o, b ≠ S → b ≠ I → h.get? b = some o → h'.get? b = some o) → KX h')
    (a1 : Adds prog w A.in1 S x KX P0 P1) (a2 : Adds prog w A.in1 S y KX P1 P2)
    (h0 : ∃ o, s.heap.get? S = some o ∧ P0 o) (k0 : KX s.heap) (hit : s.heap.IsTupleIter I t 0) (ht : s.heap.IsTuple t #[x, y])
    (hR : ∀ h' tk, (∃ o, h'.get? S = some o ∧ P2 o) → (∀ b o, b ≠ S → b ≠ I → s.heap.get? b = some o → h'.get? b = some o) → R (.ok (.ret .none)) { s with heap := h', toks := tk }) :
    codeAny (model prog w) A (.builtin "set.update.loop" ⟨[.ref S, .ref I], []⟩) R s := by
  refine codeAny_builtin PyProof.Rows.F.entry_set_update_loop ?_
  rw [Around.under_plainId PyProof.Rows.F.plain_set_update_loop _]
  show wpAny _ A.in1 (pyNext (.ref I) >>= _) _ _ s
  refine wpAny_bind (wpAny_pyNext_tuple_item hit ht (x := x) (by rfl) fun h1 hit1 hs1 => ?_)
  show wpAny _ A.in1 (holding [x] (setAdd S x) >>= _) _ _ _
  have keep1 : ∀ b o, b ≠ S → b ≠ I → s.heap.get? b = some o → h1.get? b = some o := fun b o _ hI e => (hs1.2 b hI).trans e
  have hS1 : ∃ o, h1.get? S = some o ∧ P0 o := let ⟨o, ho, hp⟩ := h0; ⟨o, (hs1.2 S hSI).trans ho, hp⟩
  refine wpAny_bind (wpAny_holding (a1 _ _ _ hS1 (hK _ _ k0 keep1) fun b1 h2 tk2 hs2 hS2 => ?_))
  have ht1 : h1.IsTuple t #[x, y] := ht.extBut hs1.extBut htI
  have ht2 : h2.IsTuple t #[x, y] := ht1.extBut hs2.extBut htS
  have hit2 : h2.IsTupleIter I t 1 := hit1.extBut hs2.extBut (Ne.symm hSI)
  have keep2 : ∀ b o, b ≠ S → b ≠ I → s.heap.get? b = some o → h2.get? b = some o := fun b o hS hI e => (hs2.2 b hS).trans (keep1 b o hS hI e)
  refine wpAny_pure ⟨plainId_quiet PyProof.Rows.F.plain_set_update_loop _, ?_⟩
  refine codeAny_builtin PyProof.Rows.F.entry_set_update_loop ?_
  rw [Around.under_plainId PyProof.Rows.F.plain_set_update_loop _]
  show wpAny _ A.in1 (pyNext (.ref I) >>= _) _ _ _
  refine wpAny_bind (wpAny_pyNext_tuple_item (s := { s with heap := h2, toks := tk2 }) hit2 ht2 (x := y) (by rfl) fun h3 hit3 hs3 => ?_)
  show wpAny _ A.in1 (holding [y] (setAdd S y) >>= _) _ _ _
  have keep3 : ∀ b o, b ≠ S → b ≠ I → s.heap.get? b = some o → h3.get? b = some o := fun b o hS hI e => (hs3.2 b hI).trans (keep2 b o hS hI e)
  have hS3 : ∃ o, h3.get? S = some o ∧ P1 o := let ⟨o, ho, hp⟩ := hS2; ⟨o, (hs3.2 S hSI).trans ho, hp⟩
  refine wpAny_bind (wpAny_holding (a2 { s with heap := h3, toks := tk2 } _ _ hS3 (hK _ _ k0 keep3) fun b1 h4 tk4 hs4 hS4 => ?_))
  have ht3 : h3.IsTuple t #[x, y] := ht2.extBut hs3.extBut htI
  have ht4 : h4.IsTuple t #[x, y] := ht3.extBut hs4.extBut htS
  have hit4 : h4.IsTupleIter I t 2 := hit3.extBut hs4.extBut (Ne.symm hSI)
  have keep4 : ∀ b o, b ≠ S → b ≠ I → s.heap.get? b = some o → h4.get? b = some o := fun b o hS hI e => (hs4.2 b hS).trans (keep3 b o hS hI e)
  refine wpAny_pure ⟨plainId_quiet PyProof.Rows.F.plain_set_update_loop _, ?_⟩
  refine codeAny_builtin PyProof.Rows.F.entry_set_update_loop ?_
  rw [Around.under_plainId PyProof.Rows.F.plain_set_update_loop _]
  show wpAny _ A.in1 (pyNext (.ref I) >>= _) _ _ _
  refine wpAny_bind (wpAny_pyNext_tuple_end (s := { s with heap := h4, toks := tk4 }) hh hit4 ht4 (by rfl) fun h5 hs5 => ?_)
  show wpAny _ A.in1 (ret Value.none) _ _ _
  refine wpAny_pure (hR h5 tk4 ?_ fun b o hS hI e => hs5 b o hI (keep4 b o hS hI e))
  obtain ⟨o, ho, hp⟩ := hS4
  exact ⟨o, hs5 S o hSI ho, hp⟩

set_option maxHeartbeats 3200000 in
theorem call_set_pair {E : Value → Shared → Prop} {t : Addr} {x y : Value} {P1 P2 : Obj → Prop} {KX : Heap → Prop} {Q : Value → Shared → Prop} (hh : A.handled = none) (ht : s.heap.IsTuple t #[x, y])
    (hK : ∀ h h' : Heap, KX h → (∀ b o, b < s.heap.objs.size → h.get? b = some o → h'.get? b = some o) → KX h') (k0 : KX s.heap)
    (a1 : Adds prog w A.in1.in1.in1 s.heap.objs.size x KX (fun o => ∃ led, o = freshSet led) P1) (a2 : Adds prog w A.in1.in1.in1 s.heap.objs.size y KX P1 P2)
    (h : ∀ (h' : Heap) (tk : Nat), (∃ o, h'.get? s.heap.objs.size = some o ∧ P2 o) → (∀ b o, b < s.heap.objs.size → s.heap.get? b = some o → h'.get? b = some o) → Q (.ref s.heap.objs.size) { s with heap := h', toks := tk }) :
    wpAny (model prog w) A (call (.type "set") [.ref t]) Q E s := by
  obtain ⟨c, tl, hmro⟩ := F.called_set.mro
  have hmade := F.called_set.made
  have hsub := F.called_set.sub
  refine wpAny_call (codeAny_of_tree ?_)
  show wpAny _ _ (callAny (.type "set") _) _ _ _
  refine wpAny_pure ⟨Code.quiet_builtin _ (by decide +kernel), codeAny_builtin F.entry_type_call ?_⟩
  rw [Around.under_plain (weight_type_call_type "set" [.ref t] []) rfl]
  have h1 := F.called_set.notType
  have h2 := F.called_set.canCreate
  have hct := F.typeCall_set_1 (.ref t)
  repeat (any_goals (first | assumption | wp_step))
  refine codeAny_mono (code_set_new_1 (.ref t) (E := E) (Q₁ := fun obj s₁ => ∃ led : Bool, obj = .ref s.heap.objs.size ∧ s₁ = { s with heap := s.heap.push (freshSet led) }) fun led => ⟨led, rfl, rfl⟩) fun r s₁ hr => ?_
  cases r with
  | error e => exact hr
  | ok fl =>
    cases fl with
    | ret obj =>
      obtain ⟨led, rfl, rfl⟩ := hr
      have hS : (s.heap.push (freshSet led)).get? s.heap.objs.size = some (freshSet led) := Heap.get?_push_size _ rfl
      have hT : Shared.TypeIs { s with heap := s.heap.push (freshSet led) } (.ref s.heap.objs.size) "set" := ⟨_, hS, rfl⟩
      have hli := F.called_set.init.lookup
      have hbi := F.called_set.init.bind (.ref s.heap.objs.size)
      repeat (any_goals (first | assumption | wp_step))
      refine codeAny_mono (codeAny_call_builtin (R := wants (fun r s₂ => r = .none ∧ ∃ h' tk, s₂ = { s with heap := h', toks := tk } ∧ (∃ o, h'.get? s.heap.objs.size = some o ∧ P2 o) ∧
          (∀ b o, b < s.heap.objs.size → s.heap.get? b = some o → h'.get? b = some o)) E) F.called_set.init.plain F.entry_set_init (check_set_init_1 hT ?_)) fun r₂ s₂ hr₂ => ?_
      · have ht1 : (s.heap.push (freshSet led)).IsTuple t #[x, y] := ht.push _
        have htl : t < s.heap.objs.size := by obtain ⟨o, ho, _⟩ := ht; exact Heap.lt_size ho
        obtain ⟨ol, hol, hcl, nl, hdl⟩ := id ht1
        obtain ⟨ocls, odict, odata, oslots⟩ := ol
        simp only at hcl hdl
        subst hcl; subst hdl
        have hsls := F.sub_tuple_set
        have hslf := F.sub_tuple_frozenset
        have hne : (Value.type "tuple" == Value.type "dict") = false := by decide
        unfold Builtin.«set.__init__» noKeywords Builtin.Frozenset.updateFrom
        generalize hPI : pyIter = PI
        wp_walk
        subst hPI
        refine wpAny_pyIter_tuple ht1 ?_
        refine wpAny_bind (wpAny_runValue ?_)
        have hh2 : A.in1.in1.handled = none := by simp [hh]
        have e1 : (s.heap.push (freshSet led)).objs.size = s.heap.objs.size + 1 := Heap.size_push ..
        refine code_update_two (P0 := fun o => ∃ led, o = freshSet led) (P1 := P1) (P2 := P2) (KX := KX) hh2 (by rw [e1]; exact Nat.ne_of_lt (Nat.lt_succ_self _)) (by rw [e1]; exact Nat.ne_of_lt (Nat.lt_succ_of_lt htl)) (Nat.ne_of_lt htl)
          (fun h h' k hk => hK h h' k fun b o hb e => hk b o (Nat.ne_of_lt hb) (by rw [e1]; exact Nat.ne_of_lt (Nat.lt_succ_of_lt hb)) e) a1 a2
          ⟨_, Heap.get?_push_of_some _ hS, led, rfl⟩ (hK _ _ k0 fun b o _ e => Heap.get?_push_of_some _ (Heap.get?_push_of_some _ e)) ⟨_, Heap.get?_push_size _ rfl, rfl, rfl⟩ (ht1.push _) fun h' tk hp hk => ?_
        refine wpAny_pure ?_
        show wpAny _ _ (ret Value.none) _ _ _
        refine wpAny_pure ⟨rfl, h', tk, rfl, hp, fun b o hb e => hk b o (Nat.ne_of_lt hb) (by rw [e1]; exact Nat.ne_of_lt (Nat.lt_succ_of_lt hb)) (Heap.get?_push_of_some _ (Heap.get?_push_of_some _ e))⟩
      · cases r₂ with
        | error e => exact hr₂
        | ok fl₂ =>
          cases fl₂ with
          | ret r =>
            obtain ⟨rfl, h', tk, rfl, hS', hk'⟩ := hr₂
            repeat (any_goals (first | assumption | wp_step))
            exact h _ _ hS' hk'
          | _ => exact hr₂.elim
    | _ => exact hr.elim
end
end

section
open PySem.Calls
/-- an int or None -/
def isOpt : Option Int → Value → Bool
  | some i, .int j _ => i == j
  | none, .none => true
  | _, _ => false
theorem isOpt_some {i : Int} {v : Value} (h : isOpt (some i) v = true) : ∃ t, v = .int i t := by
  cases v <;> simp_all [isOpt]
theorem isOpt_none {v : Value} (h : isOpt none v = true) : v = .none := by
  cases v <;> simp_all [isOpt]
def hashOpt : Option Int → Int
  | some i => hashInt i
  | none => 0xFCA86420

section
variable {prog : Program} {w : World} {A : Around} {E : Value → Shared → Prop} {s : Shared}
theorem pyHash_none {Q : Int → Shared → Prop} (h : Q 0xFCA86420 { s with toks := s.toks + 1 }) : wpAny (model prog w) A (pyHash .none) Q E s := by
  have hT : s.TypeIs .none "NoneType" := rfl
  unfold pyHash
  have hv : [Value.none].any Value.onHeap = false := rfl
  refine wpAny_bind ?_
  rw [cRoomFor, if_neg (by rw [hv]; exact Bool.false_ne_true)]; refine wpAny_pure ?_
  refine wpAny_bind (wpAny_specialOf hT F.slot_NoneType_hash.lookup ?_)
  show wpAny _ _ (if (some (Value.builtin "NoneType.__hash__") == some Value.none) = true then _ else _) Q E s
  rw [if_neg (by rw [beq_builtin_none]; exact Bool.false_ne_true)]
  refine wpAny_bind (wpAny_specialOf hT F.slot_NoneType_hash.lookup ?_)
  show wpAny _ _ (callSpecialIfBoundUnlessNone? .none "__hash__" _ >>= _) Q E s
  refine wpAny_bind (wpAny_callSpecialIfBoundUnlessNone?_slot hT F.slot_NoneType_hash
    (wpAny_call_entry F.slot_NoneType_hash hT F.entry_NoneType_hash
      (show wpAny _ _ (do ret (← mkInt 0xFCA86420)) _ _ s from wpAny_ret_mkInt ?_) (F.args_NoneType_hash_1 _)))
  show wpAny _ _ (if (decide (-(2 : Int) ^ 63 ≤ 0xFCA86420) && decide ((0xFCA86420 : Int) < 2 ^ 63)) = true then _ else _) Q E _
  rw [if_pos (by decide)]
  exact wpAny_pure h

theorem eqBool_opt {a b : Option Int} {u v : Value} {Q : Bool → Shared → Prop} (hu : isOpt a u = true) (hv : isOpt b v = true) (h : Q (decide (a = b)) s) :
    wpAny (model prog w) A (eqBool u v) Q E s := by
  cases a with
  | none =>
    obtain rfl := isOpt_none hu
    cases b with
    | none =>
      obtain rfl := isOpt_none hv
      unfold eqBool
      try with_reducible refine wpAny_holding ?_
      show wpAny _ _ (if (Value.none == Value.none) = true then _ else _) Q E s
      rw [if_pos (by decide)]
      exact wpAny_bind (wpAny_rule (wpAny_pure (by simpa using h)))
    | some j =>
      obtain ⟨t, rfl⟩ := isOpt_some hv
      unfold eqBool
      try with_reducible refine wpAny_holding ?_
      show wpAny _ _ (if (Value.none == Value.int j t) = true then _ else _) Q E s
      rw [if_neg (fun e => by have := eq_of_beq e; cases this)]
      exact wpAny_bind (EqNone.eq_none_int (wpAny_truthy_bool (by simpa using h)))
  | some i =>
    obtain ⟨t, rfl⟩ := isOpt_some hu
    cases b with
    | none =>
      obtain rfl := isOpt_none hv
      unfold eqBool
      try with_reducible refine wpAny_holding ?_
      show wpAny _ _ (if (Value.int i t == Value.none) = true then _ else _) Q E s
      rw [if_neg (fun e => by have := eq_of_beq e; cases this)]
      exact wpAny_bind (EqNone.eq_int_none (wpAny_truthy_bool (by simpa using h)))
    | some j =>
      obtain ⟨t', rfl⟩ := isOpt_some hv
      refine wpAny_eqBool_int ?_
      have e : (i == j) = decide (some i = some j) := by by_cases q : i = j <;> simp [q]
      rw [e]; exact h
end

def optKind (prog : Program) (w : World) : KeyKind prog w (Option Int) where
  is := isOpt
  hash := hashOpt
  inj := fun v a b ha hb => by
    cases a <;> cases b <;> cases v <;> simp_all [isOpt]
  byValue := fun k v h => by
    cases k with
    | none => obtain rfl := isOpt_none h; rfl
    | some i => obtain ⟨t, rfl⟩ := isOpt_some h; rfl
  pyHash := fun {_ _ _ k _ _} hv h => by
    cases k with
    | none => obtain rfl := isOpt_none hv; exact pyHash_none h
    | some i => obtain ⟨t, rfl⟩ := isOpt_some hv; exact wpAny_pyHash_int h
  eqBool := fun hu hv h => eqBool_opt hu hv h
  «strs» := fun k x t v h => by cases k <;> simp [isOpt] at h

theorem isOpt_scannable {k : Option Int} {v : Value} (h : isOpt k v = true) : v.scannable = true := by
  cases k with
  | none => obtain rfl := isOpt_none h; rfl
  | some i => obtain ⟨t, rfl⟩ := isOpt_some h; rfl

section
variable {prog : Program} {w : World} {A : Around} {s : Shared}
theorem SetSz.of {K : Type} [DecidableEq K] [BEq K] [LawfulBEq K] {knd : KeyKind prog w K} {o : Obj} {S : K → Bool} {n : Nat} (h : o.SetObjOf knd S n) : SetSz o n := by
  obtain ⟨hex, es, ep, t, hd, hel, hmem, hn, hf⟩ := h
  exact ⟨es, ep, t, hex, hd, hf, hn⟩

theorem adds_flat {S : Addr} {KX : Heap → Prop} {k : Option Int} {x : Value} {F : Option Int → Bool} {n : Nat} (hk : isOpt k x = true) (hn : n + 1 < scanBound) :
    Adds prog w A S x KX (fun o => o.SetObjOf (optKind prog w) F n) (fun o => o.SetObjOf (optKind prog w) (fun k' => F k' || decide (k' = k)) (if F k then n else n + 1)) := by
  intro s₁ E Q ⟨o, ho, hp⟩ _ hQ
  unfold setAdd
  refine wpAny_holding ?_
  refine wpAny_bind ((optKind prog w).pyHash (k := k) hk ?_)
  refine wpAny_setAddHashed_of (knd := optKind prog w) (s := { s₁ with toks := s₁.toks + 1 }) hk (isOpt_scannable hk) (hp.setOf ho (Nat.lt_of_succ_lt hn)) hn fun h' hsb hS => ?_
  obtain ⟨o', ho', hp'⟩ := hS.objOf
  exact hQ _ h' _ hsb ⟨o', ho', hp'⟩
end
end

section
open PySem.Calls
/-! the table of a set with one element, and the search in it -/
def T1 (j : Nat) (led plain : Bool) : SetTable := { mask := 7, place := #[j], dummies := #[], finger := 0, led, moves := 0, plain }
def PGood (p : SetTable.Probe) : Prop := p.j = p.i ∧ p.more = 0 ∧ p.i ≤ 7 ∧ p.dummy = none
theorem slot_T1 (j j' : Nat) (led plain : Bool) : (T1 j led plain).slot j' = if j' = j then .live 0 else .empty := by
  unfold SetTable.slot T1
  by_cases h : j' = j
  · subst h
    have hb : SetTable.below #[j'] j' = 0 := by simp [SetTable.below, SetTable.below.go]
    simp [hb]
  · rw [if_neg h]
    have hb : SetTable.below #[j] j' = 0 ∨ SetTable.below #[j] j' = 1 := by
      simp only [SetTable.below, SetTable.below.go, List.size_toArray, List.length_cons, List.length_nil]
      simp
      by_cases q : j < j' <;> simp [q] <;> omega
    have hd : SetTable.has #[] j' = false := by simp [SetTable.has]
    rcases hb with hb | hb
    · simp [hb, hd, Ne.symm h]
    · simp [hb, hd]
theorem adv_T1 (j : Nat) (led plain : Bool) {p : SetTable.Probe} (h : PGood p) :
    PGood ((T1 j led plain).advance p) ∧ ((T1 j led plain).advance p).i = (p.i * 5 + 1 + p.perturb / 32) % 8 ∧ ((T1 j led plain).advance p).perturb = p.perturb / 32 := by
  obtain ⟨h1, h2, h3, h4⟩ := h
  have e : (T1 j led plain).advance p = { p with j := (p.i * 5 + 1 + p.perturb / 32) % 8, more := SetTable.runEnd 7 ((p.i * 5 + 1 + p.perturb / 32) % 8) - (p.i * 5 + 1 + p.perturb / 32) % 8, i := (p.i * 5 + 1 + p.perturb / 32) % 8, perturb := p.perturb / 32 } := by
    unfold SetTable.advance
    rw [if_neg (by omega)]
    rfl
  rw [e]
  have hlt : (p.i * 5 + 1 + p.perturb / 32) % 8 < 8 := Nat.mod_lt _ (by decide)
  refine ⟨⟨rfl, ?_, Nat.le_of_lt_succ hlt, h4⟩, rfl, rfl⟩
  show SetTable.runEnd 7 _ - _ = 0
  unfold SetTable.runEnd
  rw [if_neg (by omega)]
  omega
theorem start_T1 (j : Nat) (led plain : Bool) (h : Int) : PGood ((T1 j led plain).probeStart h) ∧ ((T1 j led plain).probeStart h).i = SetTable.bits h % 8 ∧ ((T1 j led plain).probeStart h).perturb < 32 ^ 13 := by
  have hlt : SetTable.bits h % 8 < 8 := Nat.mod_lt _ (by decide)
  have hb : SetTable.bits h < 2 ^ 64 := by
    unfold SetTable.bits
    have := Int.emod_nonneg h (show (2 ^ 64 : Int) ≠ 0 by decide)
    have := Int.emod_lt_of_pos h (show (0 : Int) < 2 ^ 64 by decide)
    omega
  refine ⟨⟨rfl, ?_, by show SetTable.bits h % (7 + 1) ≤ 7; omega, rfl⟩, rfl, ?_⟩
  · show SetTable.runEnd 7 (SetTable.bits h % 8) - SetTable.bits h % 8 = 0
    unfold SetTable.runEnd
    rw [if_neg (by omega)]
    omega
  · show SetTable.bits h < 32 ^ 13
    have : (32 : Nat) ^ 13 = 2 ^ 65 := by decide
    omega

/-- k steps from p on the probe stands elsewhere than at j -/
def Off (j : Nat) (led plain : Bool) : Nat → SetTable.Probe → Prop
  | 0, p => p.i ≠ j
  | k + 1, p => p.i ≠ j ∨ Off j led plain k ((T1 j led plain).advance p)
theorem off_of (j : Nat) (led plain : Bool) : ∀ (n : Nat) (p : SetTable.Probe), PGood p → p.perturb < 32 ^ n → Off j led plain (n + 1) p
  | 0, p, g, h => by
    have h0 : p.perturb = 0 := by simpa using h
    obtain ⟨g', e1, e2⟩ := adv_T1 j led plain g
    by_cases q : p.i = j
    · refine .inr ?_
      show ((T1 j led plain).advance p).i ≠ j
      rw [e1, h0]
      have := g.2.2.1
      intro e
      omega
    · exact .inl q
  | n + 1, p, g, h => by
    obtain ⟨g', e1, e2⟩ := adv_T1 j led plain g
    refine .inr (off_of j led plain n _ g' ?_)
    rw [e2]
    have : 32 ^ (n + 1) = 32 * 32 ^ n := by rw [Nat.pow_succ]; omega
    omega

theorem go_off (j : Nat) (led plain : Bool) (hashAt : Nat → Int) (h : Int) (hne : (hashAt 0 == h) = false) : ∀ (k f : Nat) (p : SetTable.Probe), PGood p → Off j led plain k p → k < f →
    ∃ j2, SetTable.probe.go (T1 j led plain) hashAt h f p = some (.empty j2 none) ∧ j2 ≠ j ∧ j2 ≤ 7
  | k, 0, p, _, _, hf => by omega
  | k, f + 1, p, g, o, hf => by
    unfold SetTable.probe.go
    rw [slot_T1, g.1]
    by_cases q : p.i = j
    · rw [if_pos q]
      dsimp only
      rw [hne]
      simp only [Bool.false_eq_true, if_false]
      cases k with
      | zero => exact absurd q o
      | succ k =>
        rcases o with o | o
        · exact absurd q o
        · exact go_off j led plain hashAt h hne k f _ (adv_T1 j led plain g).1 o (by omega)
    · rw [if_neg q]
      dsimp only
      exact ⟨p.i, by rw [g.2.2.2], q, g.2.2.1⟩
theorem go_on (j : Nat) (led plain : Bool) (hashAt : Nat → Int) (h : Int) (he : (hashAt 0 == h) = true) (f : Nat) (p : SetTable.Probe) (g : PGood p) :
    (p.i ≠ j ∧ SetTable.probe.go (T1 j led plain) hashAt h (f + 1) p = some (.empty p.i none) ∧ p.i ≤ 7) ∨
    (p.i = j ∧ SetTable.probe.go (T1 j led plain) hashAt h (f + 1) p = some (.candidate j 0 ((T1 j led plain).advance p))) := by
  unfold SetTable.probe.go
  rw [slot_T1, g.1]
  by_cases q : p.i = j
  · rw [if_pos q]
    dsimp only
    rw [he]
    exact .inr ⟨q, by simp [q]⟩
  · rw [if_neg q]
    dsimp only
    exact .inl ⟨q, by rw [g.2.2.2], g.2.2.1⟩
end

section
open PySem.Calls
section
variable {prog : Program} {w : World} {A : Around} {E : Value → Shared → Prop} {s : Shared}

theorem items_int {ks : List Int} {vs : List Value} (h : ItemsAre (intKind prog w) ks vs) : ∀ v ∈ vs, ∃ i t, v = .int i t := by
  induction h with
  | nil => intro v hv; simp at hv
  | cons h1 _ ih =>
    intro v hv
    rcases List.mem_cons.mp hv with rfl | hv
    · obtain ⟨t, rfl⟩ := Value.isInt_shape h1; exact ⟨_, t, rfl⟩
    · exact ih v hv

theorem hashByValue_tuple {ks : List Int} {a : Addr} {Q : Bool → Shared → Prop} (hk : IsTupleKey (intKind prog w) s.heap ks a) (h : Q true s) :
    wpAny (model prog w) A (hashByValue 8 (.ref a)) Q E s := by
  have hT := hk.typeIs
  obtain ⟨o, items, n, ho, _, hd, hi⟩ := hk
  unfold hashByValue
  refine wpAny_bind (wpAny_specialOf hT F.slot_tuple_hash.lookup ?_)
  show wpAny _ _ (seqItems? (.ref a) >>= _) _ _ s
  refine wpAny_bind (wpAny_seqItems ho hd ?_)
  refine wpAny_bind ?_
  show wpAny _ _ (forIn items _ _) _ _ s
  rw [← Array.forIn_toList]
  refine wpAny_forIn_list _ (fun rest r s' => r.1 = none ∧ s' = s ∧ ∀ v ∈ rest, ∃ i t, v = .int i t) _ ?_ ?_ _ _ ⟨rfl, rfl, items_int hi⟩
  · rintro v rest r s' ⟨hr, rfl, hall⟩
    obtain ⟨i, t, rfl⟩ := hall v List.mem_cons_self
    refine wpAny_bind (m := hashByValue 7 (.int i t)) (wpAny_of_eq (a := true) (by unfold hashByValue; rfl) ?_)
    simp only [Bool.not_true, Bool.false_eq_true, if_false]
    exact wpAny_pure ⟨rfl, rfl, fun u hu' => hall u (List.mem_cons_of_mem _ hu')⟩
  · rintro ⟨r1, r2⟩ s' ⟨hr, rfl, _⟩
    simp only at hr
    subst hr
    exact wpAny_pure h

theorem ofClass_tuple {ks : List Int} {a : Addr} {Q : Bool → Shared → Prop} (hk : IsTupleKey (intKind prog w) s.heap ks a) (h : Q false s) :
    wpAny (model prog w) A (ofAClassStatement 8 (.ref a)) Q E s := by
  have hT := hk.typeIs
  obtain ⟨o, items, n, ho, hc, hd, hi⟩ := hk
  unfold ofAClassStatement
  refine wpAny_bind (wpAny_typeOf hT ?_)
  dsimp only
  simp only [beq_self_eq_true, if_true]
  refine wpAny_bind (wpAny_pure ?_)
  simp only [Bool.not_true, Bool.false_eq_true, if_false]
  refine wpAny_bind (wpAny_seqItems ho hd ?_)
  refine wpAny_bind ?_
  show wpAny _ _ (forIn items _ _) _ _ s
  rw [← Array.forIn_toList]
  refine wpAny_forIn_list _ (fun rest r s' => r.1 = none ∧ s' = s ∧ ∀ v ∈ rest, ∃ i t, v = .int i t) _ ?_ ?_ _ _ ⟨rfl, rfl, items_int hi⟩
  · rintro v rest r s' ⟨hr, rfl, hall⟩
    obtain ⟨i, t, rfl⟩ := hall v List.mem_cons_self
    refine wpAny_bind (m := ofAClassStatement 7 (.int i t)) (wpAny_of_eq (a := false) (by unfold ofAClassStatement; rfl) ?_)
    simp only [Bool.false_eq_true, if_false]
    exact wpAny_pure ⟨rfl, rfl, fun u hu' => hall u (List.mem_cons_of_mem _ hu')⟩
  · rintro ⟨r1, r2⟩ s' ⟨hr, rfl, _⟩
    simp only at hr
    subst hr
    exact wpAny_pure h

theorem couldBeSeen {ks ks' : List Int} {a b : Addr} {Q : Bool → Shared → Prop} (hk : IsTupleKey (intKind prog w) s.heap ks a) (hk' : IsTupleKey (intKind prog w) s.heap ks' b) (h : Q false s) :
    wpAny (model prog w) A (searchCouldBeSeen (.ref a) [.ref b]) Q E s := by
  unfold searchCouldBeSeen
  refine wpAny_bind ?_
  refine wpAny_forIn_list _ (fun rest r s' => r.1 = none ∧ s' = s ∧ ∀ v ∈ rest, v = .ref b) _ ?_ ?_ _ _ ⟨rfl, rfl, by simp⟩
  · rintro v rest r s' ⟨hr, rfl, hall⟩
    obtain rfl := hall v List.mem_cons_self
    have hall' : ∀ v ∈ rest, v = Value.ref b := fun u hu' => hall u (List.mem_cons_of_mem _ hu')
    dsimp only
    split
    · exact wpAny_pure ⟨rfl, rfl, hall'⟩
    · refine wpAny_bind (wpAny_eqIsQuiet_tuple hk ?_)
      simp only [Bool.not_true, Bool.false_eq_true, if_false]
      refine wpAny_bind (wpAny_eqIsQuiet_tuple hk' ?_)
      simp only [Bool.not_true, Bool.false_eq_true, if_false]
      refine wpAny_bind (ofClass_tuple hk ?_)
      simp only [Bool.false_eq_true, if_false]
      refine wpAny_bind (ofClass_tuple hk' ?_)
      simp only [Bool.false_eq_true, if_false]
      exact wpAny_pure ⟨rfl, rfl, hall'⟩
  · rintro ⟨r1, r2⟩ s' ⟨hr, rfl, _⟩
    simp only at hr
    subst hr
    exact wpAny_pure h
end
end

section
open PySem.Calls
def OneSet (h : Int) (a : Addr) (o : Obj) : Prop := ∃ j ep led plain, o.ExactSet ∧ o.data = .set #[(h, .ref a)] ep (T1 j led plain) ∧ j = SetTable.bits h % 8

section
variable {prog : Program} {w : World} {A : Around} {E : Value → Shared → Prop} {s : Shared}

theorem T1_fits (j : Nat) (led plain : Bool) : (T1 j led plain).fits 1 = true := by
  unfold T1 SetTable.fits SetTable.fill; rfl
theorem fresh_fits (led : Bool) : (SetTable.fresh 0 0 led).fits 0 = true := by rfl

theorem update_set {S : Addr} {o : Obj} {es : Array (Int × Value)} {ep : Nat} {t : SetTable} (ho : s.heap.get? S = some o) (hd : o.data = .set es ep t) (es' : Array (Int × Value)) (t' : SetTable) :
    (s.heap.update S (Obj.putSet es' t')).get? S = some { o with data := .set es' (ep + 1) t' } := by
  have := Heap.get?_update_self (Obj.putSet es' t') ho (by rw [putSet_of es' t' hd]; rfl)
  rw [putSet_of es' t' hd] at this
  exact this

theorem probe_fresh (led : Bool) (hashAt : Nat → Int) (h : Int) : (SetTable.fresh 0 0 led).probe hashAt h ((SetTable.fresh 0 0 led).probeStart h) = some (.empty (SetTable.bits h % 8) none) := by
  unfold SetTable.probe
  show SetTable.probe.go _ _ _ (219 + 1) _ = _
  unfold SetTable.probe.go
  have e : ∀ j, (SetTable.fresh 0 0 led).slot j = .empty := by
    intro j
    unfold SetTable.slot SetTable.fresh
    simp [SetTable.has]
  rw [e]
  rfl

theorem put_fresh (led : Bool) (j : Nat) : (SetTable.fresh 0 0 led).put j = (T1 j led true, 0) := by
  unfold SetTable.put SetTable.fresh T1
  simp [SetTable.below, SetTable.below.go, SetTable.has, SetTable.insertAt]

/-- the table with one element and a second slot taken -/
theorem fits_put (j j2 : Nat) (led plain : Bool) (h : j2 ≠ j) : ((T1 j led plain).put j2).1.fits 2 = true ∧ ((T1 j led plain).put j2).2 ≤ 1 ∧ ((T1 j led plain).put j2).1.mask = 7 ∧ ((T1 j led plain).put j2).1.fill = 2 := by
  have hb : SetTable.below #[j] j2 = 0 ∨ SetTable.below #[j] j2 = 1 := by
    simp only [SetTable.below, SetTable.below.go, List.size_toArray, List.length_cons, List.length_nil]
    simp
    by_cases q : j < j2 <;> simp [q] <;> omega
  have hd : SetTable.has #[] j2 = false := by simp [SetTable.has]
  unfold SetTable.put SetTable.fits SetTable.fill T1
  rcases hb with hb | hb <;> simp [hb, hd, SetTable.insertAt]

theorem search_free {S : Addr} {x : Value} {h : Int} {es : Array (Int × Value)} {ep : Nat} {t : SetTable} {o : Obj} {stand : Option SetTable.Probe} {fuel j2 : Nat} {Q : SetFound → Shared → Prop}
    (ho : s.heap.get? S = some o) (hd : o.data = .set es ep t) (hf : t.fits es.size = true) (hg : t.gaveWay = false)
    (hp : ∀ hashAt, (∀ i, hashAt i = (es[i]?.map (·.1)).getD 0) → t.probe hashAt h (stand.getD (t.probeStart h)) = some (.empty j2 none)) (hQ : Q (.free j2 false) s) :
    wpAny (model prog w) A (setSearchFrom S x h true (fuel + 1) stand) Q E s := by
  unfold setSearchFrom
  refine wpAny_bind (wpAny_setState_of ho hd hf ?_)
  dsimp only
  rw [hg]
  simp only [Bool.false_eq_true, if_false]
  rw [hp]
  · exact wpAny_pure hQ
  · exact fun _ => rfl

theorem search_met {S b a : Addr} {ks ks' : List Int} {h : Int} {ep j fuel : Nat} {led plain : Bool} {o : Obj} {stand : Option SetTable.Probe} {next : SetTable.Probe} {Q : SetFound → Shared → Prop} (hu : A.units < cLine)
    (ho : s.heap.get? S = some o) (hd : o.data = .set #[(h, .ref b)] ep (T1 j led plain)) (hk : IsTupleKey (intKind prog w) s.heap ks a) (hk' : IsTupleKey (intKind prog w) s.heap ks' b)
    (hp : ∀ hashAt, hashAt 0 = h → (T1 j led plain).probe hashAt h (stand.getD ((T1 j led plain).probeStart h)) = some (.candidate j 0 next))
    (hQ : if ks' = ks then Q (.there none) s else wpAny (model prog w) A (setSearchFrom S (.ref a) h true fuel (some next)) Q E s) :
    wpAny (model prog w) A (setSearchFrom S (.ref a) h true (fuel + 1) stand) Q E s := by
  have hf : (T1 j led plain).fits (#[(h, Value.ref b)] : Array (Int × Value)).size = true := T1_fits j led plain
  have rest : ∀ P : Bool → Shared → Prop, P false s → wpAny (model prog w) A (searchCouldBeSeen (.ref a) (((#[(h, Value.ref b)] : Array (Int × Value)).filter (·.1 == h)).toList.map (·.2))) P E s := fun P hP => by
    have e : ((#[(h, Value.ref b)] : Array (Int × Value)).filter (·.1 == h)).toList.map (·.2) = [Value.ref b] := by simp
    rw [e]
    exact couldBeSeen hk hk' hP
  have core : wpAny (model prog w) A (do
      let equal ← holding [Value.ref b] (eqBool (Value.ref b) (Value.ref a))
      let __x ← setState S
      if (true && equal) = true then pure (SetFound.there none)
        else
          match __x.2.snd.sameMemory (T1 j led plain).moves (T1 j led plain).mask with
          | some same =>
            match if same = true then __x.2.snd.slot j else SetTable.Slot.empty with
            | SetTable.Slot.live i' =>
              match __x.fst[i']? with
              | some (_, y') => do
                let __do_lift ← isSame y' (Value.ref b)
                let still ← pure (if __do_lift = true then some i' else none)
                match still with
                  | none => do
                    rule "set.search.anew"
                    setSearchFrom S (Value.ref a) h true fuel none
                  | some i' =>
                    if equal = true then pure (SetFound.there (some i'))
                    else setSearchFrom S (Value.ref a) h true fuel (some next)
              | none => do
                let still ← pure none
                match still with
                  | none => do
                    rule "set.search.anew"
                    setSearchFrom S (Value.ref a) h true fuel none
                  | some i' =>
                    if equal = true then pure (SetFound.there (some i'))
                    else setSearchFrom S (Value.ref a) h true fuel (some next)
            | _ => do
              let still ← pure none
              match still with
                | none => do
                  rule "set.search.anew"
                  setSearchFrom S (Value.ref a) h true fuel none
                | some i' =>
                  if equal = true then pure (SetFound.there (some i'))
                  else setSearchFrom S (Value.ref a) h true fuel (some next)
          | _ => unsupported "set.changed-during-lookup:is-the-new-block-at-the-old-address") Q E s := by
    refine wpAny_bind (wpAny_holding (wpAny_eqBool_tuple hu hk' hk ?_))
    refine wpAny_bind (wpAny_setState_of ho hd hf ?_)
    by_cases q : ks' = ks
    · rw [if_pos q] at hQ
      simp only [q, decide_true, Bool.and_self, if_true]
      exact wpAny_pure hQ
    · rw [if_neg q] at hQ
      simp only [q, decide_false, Bool.and_false, Bool.false_eq_true, if_false]
      have es : (T1 j led plain).sameMemory (T1 j led plain).moves (T1 j led plain).mask = some true := by simp [SetTable.sameMemory]
      rw [es]
      dsimp only
      rw [if_pos rfl, slot_T1, if_pos rfl]
      dsimp only
      show wpAny _ _ (isSame (Value.ref b) (Value.ref b) >>= _) _ _ _
      refine wpAny_bind ?_
      unfold isSame
      dsimp only
      simp only [beq_self_eq_true, if_true]
      exact wpAny_pure (wpAny_bind (wpAny_pure hQ))
  unfold setSearchFrom
  refine wpAny_bind (wpAny_setState_of ho hd hf ?_)
  dsimp only
  rw [show (T1 j led plain).gaveWay = false by simp [SetTable.gaveWay, T1]]
  simp only [Bool.false_eq_true, if_false]
  rw [hp]
  rotate_left
  · exact rfl
  dsimp only
  cases hl : (T1 j led plain).led with
  | true =>
    simp only [Bool.not_true, Bool.false_eq_true, if_false]
    exact core
  | false =>
    simp only [Bool.not_false, if_true]
    refine wpAny_bind (rest _ ?_)
    simp only [Bool.false_eq_true, if_false]
    exact core
theorem fresh_gave (led : Bool) : (SetTable.fresh 0 0 led).gaveWay = false := by simp [SetTable.gaveWay, SetTable.fresh]
theorem T1_gave (j : Nat) (led plain : Bool) : (T1 j led plain).gaveWay = false := by simp [SetTable.gaveWay, T1]

theorem adds_first {S : Addr} {KX : Heap → Prop} {ks : List Int} {a : Addr} (hu : A.units < cLine) (hK : ∀ h, KX h → IsTupleKey (intKind prog w) h ks a) :
    Adds prog w A S (.ref a) KX (fun o => ∃ led, o = freshSet led) (OneSet (tupleKeyHash (intKind prog w) ks) a) := by
  intro s₁ E Q ⟨o, ho, led, hp⟩ hk hQ
  subst hp
  have hk1 := hK _ hk
  unfold setAdd
  refine wpAny_holding ?_
  refine wpAny_bind (wpAny_pyHash_tuple hu hk1 ?_)
  generalize tupleKeyHash (intKind prog w) ks = H at hQ ⊢
  unfold setAddHashed setAddHashedIn
  refine wpAny_holding ?_
  have hd : (freshSet led).data = .set #[] 0 (.fresh 0 0 led) := rfl
  generalize hs₂ : ({ s₁ with toks := s₁.toks + (ks.length + 1) } : Shared) = s₂
  have hh : s₂.heap = s₁.heap := by rw [← hs₂]
  have ho₂ : s₂.heap.get? S = some (freshSet led) := by rw [hh]; exact ho
  have hk₂ : IsTupleKey (intKind prog w) s₂.heap ks a := by rw [hh]; exact hk1
  refine wpAny_bind (wpAny_setState_of ho₂ hd (fresh_fits led) ?_)
  dsimp only
  rw [if_neg (by simp [byScan, Value.scannable])]
  unfold setSearch
  refine wpAny_bind (search_free ho₂ hd (fresh_fits led) (fresh_gave led) (fun hashAt _ => by rw [Option.getD_none]; exact probe_fresh led hashAt H) ?_)
  dsimp only
  refine wpAny_bind (wpAny_setState_of ho₂ hd (fresh_fits led) ?_)
  dsimp only
  rw [put_fresh]
  generalize hj : SetTable.bits H % 8 = j
  dsimp only
  rw [if_pos (show (T1 j led true).plain = true from rfl)]
  refine wpAny_bind (hashByValue_tuple hk₂ ?_)
  simp only [if_true]
  have e1 : SetTable.insertAt #[] 0 (H, Value.ref a) = #[(H, Value.ref a)] := by simp [SetTable.insertAt]
  rw [e1]
  refine wpAny_bind (wpAny_storeSet_of ho₂ hd ?_ (by show _ ≤ sizeLine; rw [sizeLine_eq]; show 1 ≤ _; decide))
  rw [if_neg (by simp [SetTable.tooFull, SetTable.fill, T1])]
  refine wpAny_pure ?_
  rw [← hs₂] at ho₂ ⊢
  exact hQ true _ _ (Heap.SameBut.update ..) ⟨_, update_set (s := { s₁ with toks := s₁.toks + (ks.length + 1) }) ho₂ hd _ _, j, 1, led, true, ⟨rfl, rfl, rfl⟩, rfl, hj.symm⟩

/-- the search for the second tuple: there, or a slot beside the first's -/
theorem search_second {S a b : Addr} {ks ks' : List Int} {H : Int} {ep j : Nat} {led plain : Bool} {o : Obj} {Q : SetFound → Shared → Prop} (hu : A.units < cLine)
    (ho : s.heap.get? S = some o) (hd : o.data = .set #[(H, .ref a)] ep (T1 j led plain)) (hk : IsTupleKey (intKind prog w) s.heap ks a) (hk' : IsTupleKey (intKind prog w) s.heap ks' b)
    (hQ : if ks = ks' then Q (.there none) s else ∀ j2, j2 ≠ j → Q (.free j2 false) s) :
    ∀ (k fuel : Nat) (p : SetTable.Probe), PGood p → Off j led plain k p → k < fuel → (ks = ks' → p.i = j) →
      ∀ stand : Option SetTable.Probe, stand.getD ((T1 j led plain).probeStart H) = p → wpAny (model prog w) A (setSearchFrom S (.ref b) H true fuel stand) Q E s
  | _, 0, _, _, _, hf, _, _, _ => absurd hf (Nat.not_lt_zero _)
  | k, fuel + 1, p, g, off, hf, he, stand, hst => by
    by_cases q : p.i = j
    · refine search_met (next := (T1 j led plain).advance p) hu ho hd hk' hk (fun hashAt h0 => ?_) ?_
      · rw [hst]
        unfold SetTable.probe
        rcases go_on j led plain hashAt H (by rw [h0]; simp) (10 * SetTable.turns 7 - 1) p g with ⟨h1, _, _⟩ | ⟨_, h2⟩
        · exact absurd q h1
        · exact h2
      · by_cases e : ks = ks'
        · rw [if_pos e] at hQ ⊢
          exact hQ
        · rw [if_neg e]
          cases k with
          | zero => exact absurd q off
          | succ k =>
            rcases off with off | off
            · exact absurd q off
            · exact search_second hu ho hd hk hk' hQ k fuel _ (adv_T1 j led plain g).1 off (by omega) (fun e' => absurd e' e) _ (Option.getD_some ..)
    · have ne : ¬ ks = ks' := fun e => q (he e)
      rw [if_neg ne] at hQ
      refine search_free (j2 := p.i) ho hd (T1_fits j led plain) (T1_gave j led plain) (fun hashAt h0 => ?_) (hQ _ q)
      rw [hst]
      unfold SetTable.probe
      rcases go_on j led plain hashAt H (by rw [h0 0]; simp) (10 * SetTable.turns 7 - 1) p g with ⟨_, h2, _⟩ | ⟨h1, _⟩
      · exact h2
      · exact absurd h1 q

theorem adds_second {S : Addr} {KX : Heap → Prop} {ks ks' : List Int} {a b : Addr} (hu : A.units < cLine) (hK : ∀ h, KX h → IsTupleKey (intKind prog w) h ks a ∧ IsTupleKey (intKind prog w) h ks' b) :
    Adds prog w A S (.ref b) KX (OneSet (tupleKeyHash (intKind prog w) ks) a) (fun o => SetSz o (if ks = ks' then 1 else 2)) := by
  intro s₁ E Q ⟨o, ho, j, ep, led, plain, hex, hd, hj⟩ hkx hQ
  have hk1 := (hK _ hkx).1
  have hk2 := (hK _ hkx).2
  unfold setAdd
  refine wpAny_holding ?_
  refine wpAny_bind (wpAny_pyHash_tuple hu hk2 ?_)
  unfold setAddHashed setAddHashedIn
  refine wpAny_holding ?_
  generalize hs₂ : ({ s₁ with toks := s₁.toks + (ks'.length + 1) } : Shared) = s₂
  have hh : s₂.heap = s₁.heap := by rw [← hs₂]
  have ho₂ : s₂.heap.get? S = some o := by rw [hh]; exact ho
  have hka : IsTupleKey (intKind prog w) s₂.heap ks a := by rw [hh]; exact hk1
  have hkb : IsTupleKey (intKind prog w) s₂.heap ks' b := by rw [hh]; exact hk2
  have hf : (T1 j led plain).fits (#[(tupleKeyHash (intKind prog w) ks, Value.ref a)] : Array (Int × Value)).size = true := T1_fits j led plain
  refine wpAny_bind (wpAny_setState_of ho₂ hd hf ?_)
  dsimp only
  rw [if_neg (by simp [byScan, Value.scannable])]
  unfold setSearch
  have back : ∀ (h' : Heap) (bb : Bool) (tk : Nat), Heap.SameBut S s₁.heap h' → (∃ o, h'.get? S = some o ∧ SetSz o (if ks = ks' then 1 else 2)) → Q bb { s₂ with heap := h', toks := tk } := fun h' bb tk hs hp => by
    rw [← hs₂]; exact hQ bb h' tk hs hp
  have search : wpAny (model prog w) A (setSearchFrom S (.ref b) (tupleKeyHash (intKind prog w) ks') true 100000 none)
      (fun r s' => s' = s₂ ∧ if ks = ks' then r = .there none else ∃ j2, j2 ≠ j ∧ r = .free j2 false) E s₂ := by
    by_cases hH : tupleKeyHash (intKind prog w) ks = tupleKeyHash (intKind prog w) ks'
    · have st := start_T1 j led plain (tupleKeyHash (intKind prog w) ks')
      rw [hH] at hd hj
      refine search_second hu ho₂ hd hka hkb ?_ 14 100000 _ st.1 (off_of j led plain 13 _ st.1 st.2.2) (by decide) (fun _ => st.2.1.trans hj.symm) none rfl
      by_cases e : ks = ks'
      · rw [if_pos e]; exact ⟨rfl, by rw [if_pos e]⟩
      · rw [if_neg e]; exact fun j2 h2 => ⟨rfl, by rw [if_neg e]; exact ⟨j2, h2, rfl⟩⟩
    · have ne : ¬ ks = ks' := fun e => hH (by rw [e])
      have st := start_T1 j led plain (tupleKeyHash (intKind prog w) ks')
      obtain ⟨j2, e2, h2, _⟩ := go_off j led plain (fun i => ((#[(tupleKeyHash (intKind prog w) ks, Value.ref a)] : Array (Int × Value))[i]?.map (·.1)).getD 0) (tupleKeyHash (intKind prog w) ks') (by simpa using hH) 14 (10 * SetTable.turns 7) _ st.1 (off_of j led plain 13 _ st.1 st.2.2) (by decide)
      refine search_free (fuel := 99999) (j2 := j2) ho₂ hd hf (T1_gave j led plain) (fun hashAt h0 => ?_) ⟨rfl, by rw [if_neg ne]; exact ⟨j2, h2, rfl⟩⟩
      rw [Option.getD_none]
      rw [show hashAt = _ from funext h0]
      exact e2
  refine wpAny_bind (wpAny_mono search (fun r s' hr => ?_) fun _ _ x => x)
  obtain ⟨rfl, hr⟩ := hr
  by_cases e : ks = ks'
  · rw [if_pos e] at hr
    subst hr
    dsimp only
    refine wpAny_pure ?_
    have := back s'.heap false s'.toks (by rw [hh]; exact Heap.SameBut.refl ..) ⟨o, ho₂, by rw [if_pos e]; exact ⟨_, _, _, hex, hd, hf, rfl⟩⟩
    exact this
  · rw [if_neg e] at hr
    obtain ⟨j2, h2, rfl⟩ := hr
    dsimp only
    refine wpAny_bind (wpAny_setState_of ho₂ hd hf ?_)
    dsimp only
    obtain ⟨f1, f2, f3, f4⟩ := fits_put j j2 led plain h2
    generalize (T1 j led plain).put j2 = P at f1 f2 f3 f4
    obtain ⟨t', p⟩ := P
    dsimp only at f1 f2 f3 f4 ⊢
    have hsz : (SetTable.insertAt #[(tupleKeyHash (intKind prog w) ks, Value.ref a)] p (tupleKeyHash (intKind prog w) ks', Value.ref b)).size = 2 := by
      unfold SetTable.insertAt
      rcases Nat.le_one_iff_eq_zero_or_eq_one.mp f2 with rfl | rfl <;> simp
    have hfull : t'.tooFull = false := by
      unfold SetTable.tooFull
      rw [f3, f4]
      decide
    have done : wpAny (model prog w) A (do
        storeSet S (SetTable.insertAt #[(tupleKeyHash (intKind prog w) ks, Value.ref a)] p (tupleKeyHash (intKind prog w) ks', Value.ref b)) t'
        if (!false && t'.tooFull) = true then do
          setRelay S (SetTable.grown ((#[(tupleKeyHash (intKind prog w) ks, Value.ref a)] : Array (Int × Value)).size + 1))
          pure true
        else pure true) Q E s' := by
      refine wpAny_bind (wpAny_storeSet_of ho₂ hd ?_ (by rw [hsz, sizeLine_eq]; decide))
      rw [hfull]
      simp only [Bool.and_false, Bool.false_eq_true, if_false]
      refine wpAny_pure ?_
      have := back _ true s'.toks (by rw [← hh]; exact Heap.SameBut.update ..) ⟨_, update_set ho₂ hd _ _, by rw [if_neg e]; exact ⟨_, _, t', hex, rfl, by rw [hsz]; exact f1, hsz⟩⟩
      exact this
    split
    · refine wpAny_bind (hashByValue_tuple hkb ?_)
      simp only [if_true]
      exact done
    · refine wpAny_bind (wpAny_pure ?_)
      simp only [if_true]
      exact done
end
end

section
open PySem.Calls
abbrev tupOf (vs : List Value) (n : Nat) : Obj := { cls := .type "tuple", data := .seq vs.toArray n }

theorem itemsAre_of {prog : Program} {w : World} : ∀ {vs : List Value} {ns : List Int}, IntsAre vs ns → ItemsAre (intKind prog w) ns vs
  | _, _, .nil => .nil
  | _, _, .cons n t h => .cons (intKind_is prog w n t) (itemsAre_of h)

section
variable {prog : Program} {w : World} {A : Around} {E : Value → Shared → Prop} {s : Shared} {h₀ : Heap} {L : Addr} {m : Str → Option Value} {news : List (Addr × Obj)}

theorem set_ledger {S : Addr} {P : Obj → Prop} {h' : Heap} (F : Fr h₀ L s.heap m) (N : News h₀ L s.heap news) (hS : S = s.heap.objs.size) (hp : ∃ o, h'.get? S = some o ∧ P o)
    (hk : ∀ b o, b < s.heap.objs.size → s.heap.get? b = some o → h'.get? b = some o) :
    ∃ o, P o ∧ Fr h₀ L h' m ∧ News h₀ L h' ((S, o) :: news) ∧ ∀ p ∈ news, p.1 < S := by
  subst hS
  obtain ⟨o, ho, hp⟩ := hp
  obtain ⟨oL, es, ep, hL, r⟩ := F.ns
  refine ⟨o, hp, ⟨⟨oL, es, ep, hk _ _ (Heap.lt_size hL) hL, r⟩, fun b x e => hk _ _ (Heap.lt_size (F.keep b x e)) (F.keep b x e), F.above⟩, fun p q => ?_, fun p q => Heap.lt_size (N p q).1⟩
  rcases List.mem_cons.mp q with rfl | q
  · refine ⟨ho, Nat.ne_of_gt (Heap.lt_size hL), ?_⟩
    cases e : h₀.get? s.heap.objs.size with
    | none => rfl
    | some x => exact absurd (Heap.lt_size (F.keep _ _ e)) (Nat.lt_irrefl _)
  · exact ⟨hk _ _ (Heap.lt_size (N p q).1) (N p q).1, (N p q).2⟩

theorem set_flat_N {D : Addr} {kx ky : Option Int} {x y : Value} {n : Nat} {Q : Value → Shared → Prop} (F : Fr h₀ L s.heap m) (N : News h₀ L s.heap news) (hh : A.handled = none)
    (hm : (D, tupOf [x, y] n) ∈ news) (hx : isOpt kx x = true) (hy : isOpt ky y = true)
    (h : ∀ S o h' tk, Fr h₀ L h' m → News h₀ L h' ((S, o) :: news) → (∀ p ∈ news, p.1 < S) → SetSz o (if kx = ky then 1 else 2) → Q (.ref S) { s with heap := h', toks := tk }) :
    wpAny (model prog w) A (call (.type "set") [.ref D]) Q E s := by
  have ht : s.heap.IsTuple D #[x, y] := ⟨_, (N _ hm).1, rfl, n, rfl⟩
  have a1 := adds_flat (prog := prog) (w := w) (A := A.in1.in1.in1) (S := s.heap.objs.size) (KX := fun _ => True) (k := kx) (x := x) (F := fun _ => false) (n := 0) hx (by decide)
  have a2 := adds_flat (prog := prog) (w := w) (A := A.in1.in1.in1) (S := s.heap.objs.size) (KX := fun _ => True) (k := ky) (x := y) (F := fun k' => false || decide (k' = kx)) (n := 1) hy (by decide)
  have a1' : Adds prog w A.in1.in1.in1 s.heap.objs.size x (fun _ => True) (fun o => ∃ led, o = freshSet led) _ := fun s₁ E Q ⟨o, ho, led, e⟩ k q => a1 s₁ E Q ⟨o, ho, e ▸ setObjOf_fresh led⟩ k q
  refine call_set_pair hh ht (fun _ _ k _ => k) trivial a1' a2 fun h' tk hp hk => ?_
  obtain ⟨o, ⟨P, F', N', l⟩⟩ := set_ledger F N rfl hp hk
  refine h _ o h' tk F' N' l ?_
  have z := SetSz.of P
  by_cases e : kx = ky
  · subst e; simpa using z
  · rw [if_neg e]
    have : (false || decide (ky = kx)) = false := by simp [Ne.symm e]
    rw [if_neg (by rw [this]; simp)] at z
    exact z

theorem set_tup_N {D a b : Addr} {ks ks' : List Int} {vs vs' : List Value} {n na nb : Nat} {Q : Value → Shared → Prop} (F : Fr h₀ L s.heap m) (N : News h₀ L s.heap news) (hh : A.handled = none) (hu : A.units + 3 < cLine)
    (hm : (D, tupOf [.ref a, .ref b] n) ∈ news) (ha : (a, tupOf vs na) ∈ news) (hb : (b, tupOf vs' nb) ∈ news) (hx : IntsAre vs ks) (hy : IntsAre vs' ks')
    (h : ∀ S o h' tk, Fr h₀ L h' m → News h₀ L h' ((S, o) :: news) → (∀ p ∈ news, p.1 < S) → SetSz o (if ks = ks' then 1 else 2) → Q (.ref S) { s with heap := h', toks := tk }) :
    wpAny (model prog w) A (call (.type "set") [.ref D]) Q E s := by
  have ht : s.heap.IsTuple D #[.ref a, .ref b] := ⟨_, (N _ hm).1, rfl, n, rfl⟩
  have ka : IsTupleKey (intKind prog w) s.heap ks a := ⟨_, vs.toArray, na, (N _ ha).1, rfl, rfl, by simpa using itemsAre_of hx⟩
  have kb : IsTupleKey (intKind prog w) s.heap ks' b := ⟨_, vs'.toArray, nb, (N _ hb).1, rfl, rfl, by simpa using itemsAre_of hy⟩
  have la : a < s.heap.objs.size := Heap.lt_size (N _ ha).1
  have lb : b < s.heap.objs.size := Heap.lt_size (N _ hb).1
  have hu3 : A.in1.in1.in1.units < cLine := by simp only [Around.in1_units]; omega
  refine call_set_pair (KX := fun h => IsTupleKey (intKind prog w) h ks a ∧ IsTupleKey (intKind prog w) h ks' b) hh ht (fun h h' k hk => ?_) ⟨ka, kb⟩
    (adds_first hu3 fun h k => k.1) (adds_second hu3 fun h k => k) fun h' tk hp hk => ?_
  · obtain ⟨⟨o1, i1, n1, g1, r1⟩, ⟨o2, i2, n2, g2, r2⟩⟩ := k
    exact ⟨⟨o1, i1, n1, hk _ _ la g1, r1⟩, ⟨o2, i2, n2, hk _ _ lb g2, r2⟩⟩
  · obtain ⟨o, ⟨P, F', N', l⟩⟩ := set_ledger F N rfl hp hk
    exact h _ o h' tk F' N' l P

theorem len_set_N {S : Addr} {o : Obj} {n : Nat} {Q : Value → Shared → Prop} (N : News h₀ L s.heap news) (hm : (S, o) ∈ news) (hz : SetSz o n) (hn : n ≤ 2)
    (h : Q (.int n (s.toks + 1)) { s with toks := s.toks + 2 }) : wpAny (model prog w) A (call (.builtin "len") [.ref S]) Q E s := by
  obtain ⟨es, ep, t, hex, hd, hf, rfl⟩ := hz
  exact call_len_set (N _ hm).1 hex hd hf (by omega) h
theorem isOpt_int (i : Int) (t : Tok) : isOpt (some i) (.int i t) = true := by simp [isOpt]
theorem isOpt_no : isOpt none .none = true := rfl
theorem le_two {p : Prop} [Decidable p] : (if p then 1 else 2) ≤ 2 := by split <;> decide
end
end

section
open PySem.Calls PySem.Spec
section
variable {prog : Program} {w : World} {A A₀ : Around} {s : Shared} {K : Frag} {L : Addr} {h₀ base : Heap} {m mg mb : Str → Option Value} {news : List (Addr × Obj)} {p : Program} {loose : List Str} {mean : ExcName → Option Value}

/-- entering a def with *rest and captured names -/
theorem enter_restC {env : Env} {outer : List Env} {R : Result → Shared → Prop} {name qual : Str} {params : Arguments} {body : List Stmt} {scope : Scope} {dV kV doc pm cdv ct oc : Value} {an od : Option Addr} {osl : Array (Option Value)} {f : Addr} {args : Args} {vs : List Value} {g₁ : Addr → Option (List (Str × Value))} {binds : Addr → List (Str × Value)}
    (B : Below A₀ base outer h₀) (F : Fr h₀ L s.heap m) (X₀ : K.In h₀) (N : News h₀ L s.heap news) (T : Top p loose mean mg mb h₀) (hA : A.frames = some (env :: outer)) (hf : env.frame = some L) (hke : env.scope.kind = .function)
    (ho : K.lookup f = some ⟨oc, od, .func (fnOf name qual params body scope dV kV doc pm an cdv ct), osl⟩) (hcd : codeIn K cdv qual = true) (hroom : A.depth < recursionLimit)
    (hv : args.pos.drop (params.posonlyargs.length + params.args.length) = vs)
    (hp : peek1 K ⟨prog, w.params⟩ (bindArgs (fnOf name qual params body scope dV kV doc pm an cdv ct) args) = some (({ cls := .type "tuple", data := .seq vs.toArray } : Obj), g₁))
    (hg : ∀ D, g₁ D = some (binds D)) (hkind : ∀ D, ((binds D).all fun y => scope.names.lookup y.1 == some .local || scope.names.lookup y.1 == some .cell) = true)
    (hnd : ((cellsFrom 0 scope.names []).map (·.1)).Nodup)
    (h : ∀ D g L' h₁ tk cells, (∀ p ∈ news, p.1 < D) → Fr h₀ L g m → Fr g L' h₁ (bindL (envOfC qual scope L' f cdv).kindOf (binds D) fun _ => none) → News g L' h₁ (cells ++ (D, ({ cls := .type "tuple", data := .seq vs.toArray } : Obj)) :: news) →
      CellsAre (bindC (envOfC qual scope L' f cdv).kindOf (binds D) fun _ => none) (cellsFrom (L' + 1) scope.names []) cells → Below A base (env :: outer) g → K.In g → Top p loose mean mg mb g → (∀ p ∈ (D, ({ cls := .type "tuple", data := .seq vs.toArray } : Obj)) :: news, p.1 < L') →
      wpAny (model prog w) (A.deeper (envOfC qual scope L' f cdv)) (execs body (envOfC qual scope L' f cdv))
        (fun fl s' => LeaveK h₀ L m g R (match fl with | .ret v => v | _ => .none) s')
        (fun e s' => wpAny (model prog w) (A.deeper (envOfC qual scope L' f cdv)) (leaving (envOfC qual scope L' f cdv) e) (fun _ s'' => R (.error e) s'') (fun e' s'' => R (.error e') s'') s')
        { s with heap := h₁, toks := tk })
    (hco : scope.isCoroutine = false) (hgen : scope.isGenerator = false) (hk : scope.kind = .function) : codeAny (model prog w) A (.call (.ref f) args) R s := by
  have _ := hv
  refine codeAny_call_function (fd := fnOf name qual params body scope dV kV doc pm an cdv ct) (body := body) hroom ((X₀.keeps F.keep) _ _ ho) rfl hco hgen rfl (codeRec_of (X₀.keeps F.keep) hcd) ?_
  refine wp_of_peek1 (o := ({ cls := .type "tuple", data := .seq vs.toArray } : Obj)) F N (X₀.keeps F.keep) rfl (r := binds) (fun D h' F' N' l => ?_) _ g₁ hp hg
  obtain ⟨FG, BG, st, lv⟩ := groundX (R := R) (s := { s with heap := h' }) B F' N' hA hf hke
  refine wpAny_newFunctionEnv_cells hk (kindsX (hkind D) _) fun env' he s' x => ?_
  subst he
  refine ⟨(T.nolimit.keeps F'.keep).keeps x.toInCall.keep, codeAny_func ?_⟩
  obtain ⟨h₁, tk, rfl, _⟩ := x.done
  have hk₁ := x.toInCall.keep
  obtain ⟨cells, NC, Y⟩ := Cl.news (h₀ := h') (Nat.le_refl _) fun n c hm => ⟨x.cell n c (lookup_of_mem_nodup (cellsFrom_names scope.names 0 (h'.objs.size + 1) [] [] rfl ▸ hnd) hm), x.above n c hm⟩
  refine wpAny_mono (h D _ h'.objs.size h₁ tk cells l FG ⟨x.toInCall.ns, fun b o e => hk₁ b o (of_hideAll _ e), Nat.le_of_eq (hideAll_size _ _)⟩ (fun p hp => ?_) Y BG (X₀.keeps st) (T.keeps st) (fun p hp => Heap.lt_size (N' p hp).1)) (fun fl s' hl => lv _ _ hl) fun _ _ y => y
  rcases List.mem_append.mp hp with hp | hp
  · refine ⟨(NC p hp).1, (NC p hp).2.1, ?_⟩
    cases q : (hideAll h' (((D, ({ cls := .type "tuple", data := .seq vs.toArray } : Obj)) :: news).map (·.1))).get? p.1 with
    | none => rfl
    | some o => have := of_hideAll _ q; rw [(NC p hp).2.2] at this; cases this
  · exact ⟨hk₁ _ _ (N' p hp).1, Nat.ne_of_lt (Heap.lt_size (N' p hp).1), hideAll_none _ (List.mem_map_of_mem hp)⟩
end
end

section
open PySem.Calls PySem.Spec
section
variable {prog : Program} {w : World} {A : Around} {E : Value → Shared → Prop} {s : Shared} {K : Frag} {x C p L : Addr} {ox : Obj} {name : Str} {h₀ : Heap} {m : Str → Option Value} {es : List DictEntry} {n : Nat} {Q : Value → Shared → Prop} {fv : Value} {rest : List Value} {expr : Bool}
/-- a static method read through an instance -/
theorem get_sm (F : Fr h₀ L s.heap m) (X₀ : K.In h₀) (I : InstAt s.heap x ox C (some (dictOf es n))) (hg : plainGet K C name = true) (hh : hasDictIn K C = true) (ha : findIn K (.ref C) name = some (some (.ref p)))
    (hgf : specialIn K (.ref p) "__get__" = some (some (.builtin "staticmethod.__get__"))) (hts : takesIn K (.ref p) = some false) (hc : copiedNames.contains name = false) (hl : getL name es = some none) (hp : recIn K p "staticmethod" = some (fv :: rest)) (hv : handedIn fv = true)
    (h : Q fv { s with toks := s.toks + 1 }) : wpAny (model prog w) A (getAttr (.ref x) name expr) Q E s :=
  get_bind (X₀.keeps F.keep) I (plainGet_of hg).1 (findObj_fn hh ha hgf hts hc (by show lookIn name (dictOf es n) = _; rw [lookIn_dict, hl])) (plainGet_of hg).2
    (wpAny_call (sm_get (s := { s with toks := s.toks + 1 }) (X₀.keeps F.keep) hp (handed_on hv h)))
end

/-- a contract: what a call of the def at f gives, whatever stands around it; it may make new objects (tl) -/
def Ctr (prog : Program) (w : World) (K : Frag) (f : Addr) (d u : Nat) (args : List Value) (Pre : List (Addr × Obj) → Prop) (Res : Value → List (Addr × Obj) → Prop) : Prop :=
  ∀ (p : Program) (loose : List Str) (mean : ExcName → Option Value) (mg mb : Str → Option Value)
    (dp un : Nat) (gd : Option (List Code)) (cn : Str) (cs : Scope) (a : Addr) (ccd : Value) (cl : List (Str × Addr)) (outer : List Env) (A₀ : Around) (base h₀ : Heap) (L : Addr) (m : Str → Option Value) (news : List (Addr × Obj)) (s : Shared) (Q E : Value → Shared → Prop),
    Below A₀ base outer h₀ → Fr h₀ L s.heap m → K.In h₀ → News h₀ L s.heap news → Top p loose mean mg mb h₀ → cs.kind = .function →
    dp + d < recursionLimit → un + u < cLine → AllBare s.gens → Pre news →
    (∀ v tl h' tk' gs', Fr h₀ L h' m → News h₀ L h' (tl ++ news) → (∀ q ∈ news, ∀ p ∈ tl, q.1 < p.1) → AllBare gs' → Res v tl → Q v { s with heap := h', toks := tk', gens := gs' }) →
    wpAny (model prog w) (ktrTop dp un gd cn cs L a ccd cl outer) (call (.ref f) args) Q E s

theorem ctr_use {prog : Program} {w : World} {K : Frag} {f : Addr} {d u : Nat} {args : List Value} {Pre : List (Addr × Obj) → Prop} {Res : Value → List (Addr × Obj) → Prop}
    {p : Program} {loose : List Str} {mean : ExcName → Option Value} {mg mb : Str → Option Value}
    {dp un : Nat} {gd : Option (List Code)} {cn : Str} {cs : Scope} {a : Addr} {ccd : Value} {cl : List (Str × Addr)} {outer : List Env} {A₀ : Around} {base h₀ : Heap} {L : Addr} {m : Str → Option Value} {news : List (Addr × Obj)} {s : Shared} {Q E : Value → Shared → Prop}
    (C : Ctr prog w K f d u args Pre Res) (B : Below A₀ base outer h₀) (F : Fr h₀ L s.heap m) (X : K.In h₀) (N : News h₀ L s.heap news) (T : Top p loose mean mg mb h₀) (hk : cs.kind = .function)
    (hd : dp + d < recursionLimit) (hu : un + u < cLine) (hg : AllBare s.gens) (hp : Pre news)
    (hret : ∀ v tl h' tk' gs', Fr h₀ L h' m → News h₀ L h' (tl ++ news) → (∀ q ∈ news, ∀ p ∈ tl, q.1 < p.1) → AllBare gs' → Res v tl → Q v { s with heap := h', toks := tk', gens := gs' }) :
    wpAny (model prog w) (ktrTop dp un gd cn cs L a ccd cl outer) (call (.ref f) args) Q E s := C _ _ _ _ _ _ _ _ _ _ _ _ _ _ _ _ _ _ _ _ _ _ _ B F X N T hk hd hu hg hp hret
end

section
open PySem.Calls PySem.Spec
/-- the attributes of the three measures, as __init__ lays them -/
abbrev ent (P : Params) (x : Str) (t : Tok) (v : Value) : DictEntry := ⟨PyData.keyHash P x, .str x t, v⟩
abbrev levD (P : Params) (t1 t2 t3 : Tok) : List DictEntry := [ent P "qval" t1 (.int 1 422), ent P "test_func" t2 (.ref 100), ent P "external" t3 (.bool true)]
abbrev damD (P : Params) (t1 t2 t3 t4 : Tok) : List DictEntry := [ent P "qval" t1 (.int 1 490), ent P "test_func" t2 (.ref 100), ent P "external" t3 (.bool true), ent P "restricted" t4 (.bool false)]
abbrev hamD (P : Params) (t1 t2 t3 t4 : Tok) : List DictEntry := [ent P "qval" t1 (.int 1 384), ent P "test_func" t2 (.ref 100), ent P "truncate" t3 (.bool false), ent P "external" t4 (.bool true)]
theorem allLt_mem {d : Addr} : ∀ {l : List (Addr × Obj)}, AllLt d l → ∀ p ∈ l, p.1 < d
  | [], _, _, h => nomatch h
  | _ :: _, h, p, hp => by
    rcases List.mem_cons.mp hp with rfl | hp
    · exact h.1
    · exact allLt_mem h.2 p hp
end

section
open PySem.Calls PySem.Spec
section
variable {M : Model} {A : Around} {E : Value → Shared → Prop} {s : Shared} {env : Env}
/-- o.m(*args): the attribute is read, no method form -/
theorem methodCall_star {o : Expr} {name : Str} {apos pos : Pos} {args : List Expr} {Q : Value → Shared → Prop}
    (h : wpAny M A (eval o env) (fun ov s₁ => wpAny M A (getAttr ov name true) (fun f s₂ => wpAny M A (callWith pos f [] (backTo pos (starEach args env)) []) Q E s₂) E s₁) E s)
    (he : eval (.Call (.Attribute o name apos) args [] pos) env = (do
      let ov ← eval o env
      standAt apos.atName
      let (f, first) ← holding [ov] (do pure (← getAttr ov name true, ([] : List Value)))
      callWith pos f first (backTo pos (starEach args env)) []) := by rfl) :
    wpAny M A (eval (.Call (.Attribute o name apos) args [] pos) env) Q E s := by
  rw [he]
  refine wpAny_bind (wpAny_mono h (fun ov s₁ h₁ => wpAny_bind (wpAny_standAt (wpAny_bind (wpAny_holding (wpAny_bind (wpAny_mono h₁ (fun fx s₂ h₂ => wpAny_pure ?_) fun _ _ x => x)))))) fun _ _ x => x)
  exact h₂
/-- a call of a bound method with one starred argument -/
theorem callWith_SB {K : Frag} {pos p : Pos} {q g : Addr} {self : Value} {first : List Value} {Q : Value → Shared → Prop} {e : Expr} {h₀ : Heap} {L : Addr} {news : List (Addr × Obj)} (_X : K.In h₀) (_N : News h₀ L s.heap news) (_hq : (q, methodObj (.ref g) self) ∈ news) (hk : fnIn K g = true)
    (h : wpAny M A (eval e env) (fun v s₁ => StarOf M A E v (fun vs s₂ => MethP K q g self s₂.heap ∧ wpAny M A (call (.ref q) (first ++ vs)) Q E s₂) s₁) E s)
    (he : starEach [.Starred e p] env = [(true, eval e env)] := by rfl) :
    wpAny M A (callWith pos (.ref q) first (backTo pos (starEach [.Starred e p] env)) []) Q E s := by
  rw [he]
  exact ks_call rfl (keeps_M hk) (ks_lone h)
/-- a call of an instance with one starred argument -/
theorem callWith_SI {K : Frag} {pos p : Pos} {x C : Addr} {ox : Obj} {od : Option Obj} {Q : Value → Shared → Prop} {e : Expr} (_X : K.In s.heap) (_I : InstAt s.heap x ox C od) (hd : ox.data = .plain)
    (h : wpAny M A (eval e env) (fun v s₁ => StarOf M A E v (fun vs s₂ => kco_P K x C ox od s₂.heap ∧ wpAny M A (call (.ref x) vs) Q E s₂) s₁) E s)
    (he : starEach [.Starred e p] env = [(true, eval e env)] := by rfl) :
    wpAny M A (callWith pos (.ref x) [] (backTo pos (starEach [.Starred e p] env)) []) Q E s := by
  rw [he]
  unfold callWith
  refine wpAny_bind (wpAny_holding (wpAny_mono (ks_lone (Q := fun a s₂ => a.kw = [] ∧ kco_P K x C ox od s₂.heap ∧ wpAny M A (call (.ref x) a.pos) Q E s₂) (wpAny_mono h (fun v s₁ h₁ => wpAny_mono h₁ (fun b s₂ h₂ => ⟨h₂.1, wpAny_mono h₂.2 (fun vs s₃ h₃ => ⟨rfl, h₃⟩) fun _ _ z => z⟩) fun _ _ z => z) fun _ _ z => z)) (fun a s₁ h₁ => wpAny_bind (wpAny_standAt ?_)) fun _ _ z => z))
  obtain ⟨kw, P, h₁⟩ := h₁
  have L := kco_keeper (M := M) P.2 hd
  refine wpAny_bind (L.here ?_)
  have tail : ∀ {t : Sem Value}, wpAny M A t Q E s₁ → wpAny M A (t >>= fun r => holding [r] point >>= fun _ => pure r) Q E s₁ :=
    fun ht => wpAny_bind (wpAny_mono ht (fun r s₂ hr => wpAny_bind (wpAny_holding (wpAny_point (wpAny_pure hr)))) fun _ _ y => y)
  rw [kw]
  exact tail (wpAny_operateT h₁)
end
end

section
open PySem.Calls
section
variable {prog : Program} {w : World} {A : Around} {E : Value → Shared → Prop} {s : Shared} {h₀ : Heap} {L : Addr} {m : Str → Option Value} {news : List (Addr × Obj)}

theorem keep_ledger {h h' : Heap} (F : Fr h₀ L h m) (N : News h₀ L h news) (hk : ∀ b o, b < h.objs.size → h.get? b = some o → h'.get? b = some o) : Fr h₀ L h' m ∧ News h₀ L h' news := by
  obtain ⟨oL, es, ep, hL, r⟩ := F.ns
  exact ⟨⟨⟨oL, es, ep, hk _ _ (Heap.lt_size hL) hL, r⟩, fun b x e => hk _ _ (Heap.lt_size (F.keep b x e)) (F.keep b x e), F.above⟩, fun p q => ⟨hk _ _ (Heap.lt_size (N p q).1) (N p q).1, (N p q).2⟩⟩

theorem all_pair {D a b : Addr} {vs us : Array Value} {n na nb : Nat} {Q : Value → Shared → Prop} (hh : A.handled = none)
    (hD : s.heap.get? D = some { cls := .type "tuple", data := .seq #[.ref a, .ref b] n }) (ha : s.heap.get? a = some { cls := .type "tuple", data := .seq vs na }) (hb : s.heap.get? b = some { cls := .type "tuple", data := .seq us nb })
    (za : ¬ (vs.size : Int) ≥ 2 ^ 63) (zb : ¬ (us.size : Int) ≥ 2 ^ 63)
    (h : ∀ h' tk, (∀ b o, b < s.heap.objs.size → s.heap.get? b = some o → h'.get? b = some o) → Q (.bool (!vs.isEmpty && !us.isEmpty)) { s with heap := h', toks := tk }) :
    wpAny (model prog w) A (call (.builtin "all") [.ref D]) Q E s := by
  have hDl := Heap.lt_size hD
  have hal := Heap.lt_size ha
  have hbl := Heap.lt_size hb
  refine call_function_tree F.kind_all F.plain_all F.entry_all (F.args_all1 _) ?_
  unfold Builtin.«all»
  refine wpAny_bind (m := oneArg "all" _) (wpAny_pure ?_)
  have ht : s.heap.IsTuple D #[.ref a, .ref b] := ⟨_, hD, rfl, n, rfl⟩
  refine wpAny_bind (wpAny_pyIter_tuple ht ?_)
  refine wpAny_pure ⟨plainId_quiet F.plain_all_loop _, ?_⟩
  generalize eI : s.heap.objs.size = I at *
  have hit0 : (s.heap.push { cls := .type "tuple_iterator", data := .fields #[.ref D, .int 0 0] }).IsTupleIter I D 0 := ⟨_, by rw [← eI]; exact Heap.get?_push_size _ rfl, rfl, rfl⟩
  have k0 : ∀ c o, c ≠ I → s.heap.get? c = some o → (s.heap.push { cls := .type "tuple_iterator", data := .fields #[.ref D, .int 0 0] }).get? c = some o := fun c o _ e => Heap.get?_push_of_some _ e
  generalize (s.heap.push { cls := .type "tuple_iterator", data := .fields #[.ref D, .int 0 0] }) = h1 at *
  refine codeAny_builtin F.entry_all_loop ?_
  rw [Around.under_plainId F.plain_all_loop _]
  show wpAny _ A.in1 (pyNext (.ref I) >>= _) _ _ _
  have tt : ∀ {h' : Heap}, (∀ c o, c ≠ I → s.heap.get? c = some o → h'.get? c = some o) → h'.IsTuple D #[.ref a, .ref b] := fun k => ⟨_, k D _ (Nat.ne_of_lt hDl) hD, rfl, n, rfl⟩
  refine wpAny_bind (wpAny_pyNext_tuple_item (s := { s with heap := h1 }) hit0 (tt k0) (x := .ref a) (by rfl) fun h2 hit2 hs2 => ?_)
  have k2 : ∀ c o, c ≠ I → s.heap.get? c = some o → h2.get? c = some o := fun c o hc e => (hs2.2 c hc).trans (k0 c o hc e)
  refine wpAny_bind (wpAny_holding (ktl_truthy (s := { s with heap := h2 }) (k2 a _ (Nat.ne_of_lt hal) ha) za ?_))
  refine wpAny_bind (wpAny_letGo ?_)
  cases hv : vs.isEmpty with
  | true =>
    simp only [Bool.not_true, Bool.false_eq_true, if_false]
    refine wpAny_bind (wpAny_rule (wpAny_pure ?_))
    have := h h2 (s.toks + 1 + 1) fun c o hc e => k2 c o (Nat.ne_of_lt hc) e
    rw [hv] at this
    exact this
  | false =>
    simp only [Bool.not_false, if_true]
    refine wpAny_pure ⟨plainId_quiet F.plain_all_loop _, ?_⟩
    refine codeAny_builtin F.entry_all_loop ?_
    rw [Around.under_plainId F.plain_all_loop _]
    show wpAny _ A.in1 (pyNext (.ref I) >>= _) _ _ _
    refine wpAny_bind (wpAny_pyNext_tuple_item (s := { s with heap := h2, toks := s.toks + 1 + 1 }) hit2 (tt k2) (x := .ref b) (by rfl) fun h3 hit3 hs3 => ?_)
    have k3 : ∀ c o, c ≠ I → s.heap.get? c = some o → h3.get? c = some o := fun c o hc e => (hs3.2 c hc).trans (k2 c o hc e)
    refine wpAny_bind (wpAny_holding (ktl_truthy (s := { s with heap := h3, toks := s.toks + 1 + 1 }) (k3 b _ (Nat.ne_of_lt hbl) hb) zb ?_))
    refine wpAny_bind (wpAny_letGo ?_)
    cases hu : us.isEmpty with
    | true =>
      simp only [Bool.not_true, Bool.false_eq_true, if_false]
      refine wpAny_bind (wpAny_rule (wpAny_pure ?_))
      have := h h3 (s.toks + 1 + 1 + 1 + 1) fun c o hc e => k3 c o (Nat.ne_of_lt hc) e
      rw [hv, hu] at this
      exact this
    | false =>
      simp only [Bool.not_false, if_true]
      refine wpAny_pure ⟨plainId_quiet F.plain_all_loop _, ?_⟩
      refine codeAny_builtin F.entry_all_loop ?_
      rw [Around.under_plainId F.plain_all_loop _]
      show wpAny _ A.in1 (pyNext (.ref I) >>= _) _ _ _
      refine wpAny_bind (wpAny_pyNext_tuple_end (s := { s with heap := h3, toks := s.toks + 1 + 1 + 1 + 1 }) (by simp [hh]) hit3 (tt k3) (by rfl) fun h4 hs4 => ?_)
      refine wpAny_bind (wpAny_rule (wpAny_pure ?_))
      have := h h4 (s.toks + 1 + 1 + 1 + 1) fun c o hc e => hs4 c o (Nat.ne_of_lt hc) (k3 c o (Nat.ne_of_lt hc) e)
      rw [hv, hu] at this
      exact this

theorem all_pair_N {D a b : Addr} {vs us : List Value} {n na nb : Nat} {Q : Value → Shared → Prop} (F : Fr h₀ L s.heap m) (N : News h₀ L s.heap news) (hh : A.handled = none)
    (hm : (D, tupOf [.ref a, .ref b] n) ∈ news) (ha : (a, tupOf vs na) ∈ news) (hb : (b, tupOf us nb) ∈ news) (za : vs.length ≤ 1000) (zb : us.length ≤ 1000)
    (h : ∀ h' tk, Fr h₀ L h' m → News h₀ L h' news → Q (.bool (!vs.isEmpty && !us.isEmpty)) { s with heap := h', toks := tk }) :
    wpAny (model prog w) A (call (.builtin "all") [.ref D]) Q E s := by
  refine all_pair hh (N _ hm).1 (N _ ha).1 (N _ hb).1 (by rw [List.size_toArray]; omega) (by rw [List.size_toArray]; omega) fun h' tk hk => ?_
  obtain ⟨F', N'⟩ := keep_ledger F N hk
  simpa using h h' tk F' N'
end
end

section
open PySem.Calls
theorem mp_slot_init : Slot "map" "__init__" "object.__init__" :=
  .of (owner := "object") (n := "__init__") (by rw [typeLookup_type, builtinLookup_eq_fast]; kernel_rfl) (by decide +kernel) (by decide +kernel) (by decide +kernel)
    (by first | exact .inl (by decide +kernel) | exact .inr (by decide +kernel)) (by rw [isSubtype_type]; kernel_rfl)
theorem mp_slot_iter : Slot "map" "__iter__" "map.__iter__" :=
  .of (owner := "map") (n := "__iter__") (by rw [typeLookup_type, builtinLookup_eq_fast]; kernel_rfl) (by decide +kernel) (by decide +kernel) (by decide +kernel)
    (by first | exact .inl (by decide +kernel) | exact .inr (by decide +kernel)) (by rw [isSubtype_type]; kernel_rfl)
theorem mp_slot_next : Slot "map" "__next__" "map.__next__" :=
  .of (owner := "map") (n := "__next__") (by rw [typeLookup_type, builtinLookup_eq_fast]; kernel_rfl) (by decide +kernel) (by decide +kernel) (by decide +kernel)
    (by first | exact .inl (by decide +kernel) | exact .inr (by decide +kernel)) (by rw [isSubtype_type]; kernel_rfl)
theorem mp_owner : Manifest.owners.lookup (String.ofList ['p', 'a', 'm'].reverse) = some Manifest.sig_map := by kernel_rfl
theorem mp_args_iter (a : Value) : argsOk "map.__iter__" ⟨[a], []⟩ := by
  unfold argsOk; rw [signature?_of (id := "map.__iter__") (n := ['_', '_', 'r', 'e', 't', 'i', '_', '_']) (o := ['p', 'a', 'm']) (by kernel_rfl) mp_owner]; kernel_rfl
theorem mp_args_next (a : Value) : argsOk "map.__next__" ⟨[a], []⟩ := by
  unfold argsOk; rw [signature?_of (id := "map.__next__") (n := ['_', '_', 't', 'x', 'e', 'n', '_', '_']) (o := ['p', 'a', 'm']) (by kernel_rfl) mp_owner]; kernel_rfl
theorem mp_entry_next : entryFor table "map.__next__" = some Builtin.«map.__next__» := entryFor_of_tree (by kernel_rfl)
theorem mp_entry_iter : entryFor table "map.__iter__" = some Builtin.«dict_keyiterator.__iter__» :=
  entryFor_alias (id' := "dict_keyiterator.__iter__") (by kernel_rfl) (by first | rfl | decide +kernel | (unfold String.splitOn; simp +decide [String.splitOnAux])) (by decide +kernel) (by kernel_rfl)
theorem mp_mro : mroOf (.type "map") = pure [.type "map", .type "object"] := by rw [mroOf_type]; kernel_rfl
theorem mp_lookup_new : typeLookup (.type "map") "__new__" = pure (some (.builtin "map.__new__")) := by rw [typeLookup_type, builtinLookup_eq_fast]; kernel_rfl
theorem mp_called : TypeCalled "map" "map.__new__" "object.__init__" :=
  ⟨by decide +kernel, by decide +kernel, ⟨_, _, mp_mro⟩, madeBy_type mp_mro mp_lookup_new (by decide +kernel), by decide +kernel, by rw [isSubtype_type]; kernel_rfl, mp_slot_init⟩
theorem mp_typeCall (a b : Value) : checkTypeCall "map" ⟨[a, b], []⟩ = pure () := by kernel_rfl
theorem mp_newCall (a b : Value) : checkBuiltinCall "map.__new__" ⟨[.type "map", a, b], []⟩ = pure () := by kernel_rfl
theorem mp_entry_new : entryFor table "map.__new__" = some Builtin.«map.__new__» := entryFor_of_tree (by kernel_rfl)
theorem mp_sub : isSubtype (.type "map") (.type "map") = pure true := by rw [isSubtype_type]; kernel_rfl

abbrev IsMap (h : Heap) (z TI : Addr) (f : Value) : Prop := h.get? z = some { cls := .type "map", dict := none, data := .fields #[.ref TI, f], slots := #[] }
abbrev IsOne (h : Heap) (T : Addr) (a : Value) : Prop := h.get? T = some { cls := .type "tuple", data := .seq #[a] }

abbrev mapT1 (h : Heap) (t : Addr) : Heap := h.push { cls := .type "tuple_iterator", data := .fields #[.ref t, .int 0 0] }
abbrev mapT2 (h : Heap) (t : Addr) : Heap := (mapT1 h t).push { cls := .type "tuple", data := .seq #[.ref h.objs.size] }
abbrev mapT3 (h : Heap) (t : Addr) (f : Value) : Heap := (mapT2 h t).push { cls := .type "map", data := .fields #[.ref (mapT1 h t).objs.size, f] }
theorem meets_mapT (f : Value) (t : Addr) (xs : Array Value) :
    Meets (Builtin.«map.__new__» ⟨[.type "map", f, .ref t], []⟩) (fun _ R s => s.heap.IsTuple t xs ∧
      R (.ok (.ret (.ref (mapT2 s.heap t).objs.size))) { s with heap := mapT3 s.heap t f }) :=
  .of_wp fun prog w A R s h => by
    obtain ⟨hp, g, d, tk, os⟩ := s; obtain ⟨hl1, h⟩ := h
    have hsub := mp_sub
    have hL1 : Heap.IsTuple (Shared.heap ⟨hp, g, d, tk, os⟩) t xs := hl1
    wp_walk using wpAny_pyIter_tuple hL1
    exact ⟨_, rfl, h⟩
abbrev mapL1 (h : Heap) (t : Addr) : Heap := h.push { cls := .type "list_iterator", data := .fields #[.ref t, .int 0 0] }
abbrev mapL2 (h : Heap) (t : Addr) : Heap := (mapL1 h t).push { cls := .type "tuple", data := .seq #[.ref h.objs.size] }
abbrev mapL3 (h : Heap) (t : Addr) (f : Value) : Heap := (mapL2 h t).push { cls := .type "map", data := .fields #[.ref (mapL1 h t).objs.size, f] }
theorem meets_mapL (f : Value) (t : Addr) (xs : Array Value) :
    Meets (Builtin.«map.__new__» ⟨[.type "map", f, .ref t], []⟩) (fun _ R s => s.heap.IsList t xs ∧
      R (.ok (.ret (.ref (mapL2 s.heap t).objs.size))) { s with heap := mapL3 s.heap t f }) :=
  .of_wp fun prog w A R s h => by
    obtain ⟨hp, g, d, tk, os⟩ := s; obtain ⟨hl1, h⟩ := h
    have hsub := mp_sub
    have hL1 : Heap.IsList (Shared.heap ⟨hp, g, d, tk, os⟩) t xs := hl1
    wp_walk using wpAny_pyIter_list hL1
    exact ⟨_, rfl, h⟩

section
variable {prog : Program} {w : World} {A : Around} {E : Value → Shared → Prop} {s : Shared}
theorem call_mapT {t : Addr} {xs : Array Value} {f : Value} {Q : Value → Shared → Prop} (ht : s.heap.IsTuple t xs)
    (h : ∀ h', IsMap h' (s.heap.objs.size + 2) (s.heap.objs.size + 1) f → IsOne h' (s.heap.objs.size + 1) (.ref s.heap.objs.size) → h'.IsTupleIter s.heap.objs.size t 0 → h'.objs.size = s.heap.objs.size + 3 →
      (∀ c o, s.heap.get? c = some o → h'.get? c = some o) → Q (.ref (s.heap.objs.size + 2)) { s with heap := h' }) :
    wpAny (model prog w) A (call (.type "map") [f, .ref t]) Q E s := by
  refine callType_new mp_called (by decide) (mp_typeCall _ _) (mp_newCall _ _) (fun obj => F.args_object_init_3 obj _ _) mp_entry_new (meets_mapT f t xs) ⟨ht, ?_⟩
  have z1 : (mapT1 s.heap t).objs.size = s.heap.objs.size + 1 := Heap.size_push ..
  have z2 : (mapT2 s.heap t).objs.size = s.heap.objs.size + 2 := by rw [Heap.size_push, z1]
  have z3 : (mapT3 s.heap t f).objs.size = s.heap.objs.size + 3 := by rw [Heap.size_push, z2]
  have g3 : (mapT3 s.heap t f).get? (mapT2 s.heap t).objs.size = some _ := Heap.get?_push_size _ rfl
  have g2 : (mapT3 s.heap t f).get? (mapT1 s.heap t).objs.size = some _ := Heap.get?_push_of_some _ (Heap.get?_push_size _ rfl)
  have g1 : (mapT3 s.heap t f).get? s.heap.objs.size = some _ := Heap.get?_push_of_some _ (Heap.get?_push_of_some _ (Heap.get?_push_size _ rfl))
  show _ ∧ _
  rw [z1, z2] at g3
  rw [z1] at g2
  rw [z2]
  exact ⟨⟨_, g3, rfl⟩, h _ g3 g2 ⟨_, g1, rfl, rfl⟩ z3 fun c o x => Heap.get?_push_of_some _ (Heap.get?_push_of_some _ (Heap.get?_push_of_some _ x))⟩
theorem call_mapL {t : Addr} {xs : Array Value} {f : Value} {Q : Value → Shared → Prop} (ht : s.heap.IsList t xs)
    (h : ∀ h', IsMap h' (s.heap.objs.size + 2) (s.heap.objs.size + 1) f → IsOne h' (s.heap.objs.size + 1) (.ref s.heap.objs.size) → h'.IsListIter s.heap.objs.size t 0 → h'.objs.size = s.heap.objs.size + 3 →
      (∀ c o, s.heap.get? c = some o → h'.get? c = some o) → Q (.ref (s.heap.objs.size + 2)) { s with heap := h' }) :
    wpAny (model prog w) A (call (.type "map") [f, .ref t]) Q E s := by
  refine callType_new mp_called (by decide) (mp_typeCall _ _) (mp_newCall _ _) (fun obj => F.args_object_init_3 obj _ _) mp_entry_new (meets_mapL f t xs) ⟨ht, ?_⟩
  have z1 : (mapL1 s.heap t).objs.size = s.heap.objs.size + 1 := Heap.size_push ..
  have z2 : (mapL2 s.heap t).objs.size = s.heap.objs.size + 2 := by rw [Heap.size_push, z1]
  have z3 : (mapL3 s.heap t f).objs.size = s.heap.objs.size + 3 := by rw [Heap.size_push, z2]
  have g3 : (mapL3 s.heap t f).get? (mapL2 s.heap t).objs.size = some _ := Heap.get?_push_size _ rfl
  have g2 : (mapL3 s.heap t f).get? (mapL1 s.heap t).objs.size = some _ := Heap.get?_push_of_some _ (Heap.get?_push_size _ rfl)
  have g1 : (mapL3 s.heap t f).get? s.heap.objs.size = some _ := Heap.get?_push_of_some _ (Heap.get?_push_of_some _ (Heap.get?_push_size _ rfl))
  show _ ∧ _
  rw [z1, z2] at g3
  rw [z1] at g2
  rw [z2]
  exact ⟨⟨_, g3, rfl⟩, h _ g3 g2 ⟨_, g1, rfl, rfl⟩ z3 fun c o x => Heap.get?_push_of_some _ (Heap.get?_push_of_some _ (Heap.get?_push_of_some _ x))⟩

/-- the next item of a tuple's iterator, asked for by the raising form -/
theorem nextOf_tuple_item {it t : Addr} {i : Nat} {items} {x : Value} {Q : Value → Shared → Prop} (hit : s.heap.IsTupleIter it t i) (ht : s.heap.IsTuple t items) (hx : items[i]? = some x)
    (hQ : ∀ h', h'.IsTupleIter it t (i + 1) → Heap.SameBut it s.heap h' → Q x { s with heap := h' }) :
    wpAny (model prog w) A (Builtin.SmallTypes.nextOf (.ref it)) Q E s := by
  obtain ⟨o, ho, hc, hd⟩ := id hit
  obtain ⟨ol, hol, _, nl, hdl⟩ := ht
  unfold Builtin.SmallTypes.nextOf
  refine wpAny_bind (wpAny_callSpecial?_slot (name := Str.ofString "__next__") hit.typeIs F.slot_tuple_iterator_next
    (wpAny_call_entry F.slot_tuple_iterator_next hit.typeIs F.entry_tuple_iterator_next ?_ (F.args_tuple_iterator_next_1 _)))
  show wpAny _ _ (field (.ref it) 0 >>= _) _ _ s
  refine wpAny_bind (wpAny_field ho hd (x := .ref t) rfl ?_)
  show wpAny _ _ (if (Value.ref t == Value.none) = true then _ else _) _ _ s
  rw [if_neg (show ¬ ((Value.ref t == Value.none) = true) from Bool.false_ne_true)]
  show wpAny _ _ (field (.ref it) 1 >>= _) _ _ s
  refine wpAny_bind (wpAny_field ho hd (x := .int i 0) rfl ?_)
  show wpAny _ _ (seqItems? (.ref t) >>= _) _ _ s
  refine wpAny_bind (wpAny_seqItems hol hdl ?_)
  simp only [Int.toNat_natCast, hx]
  refine wpAny_bind (wpAny_setField ho hd (by simp) (wpAny_pure ⟨x, rfl, wpAny_pure (hQ _ ?_ (Heap.SameBut.update ..))⟩))
  exact ⟨_, Heap.get?_update_self _ ho (Obj.isFreed_of_fields (Obj.data_mapFields hd _)), (Obj.cls_mapFields ..).trans hc, by
    rw [Obj.data_mapFields hd]; simp [rawInt]⟩
theorem nextOf_tuple_end {it t : Addr} {i : Nat} {items} {Q : Value → Shared → Prop} (hh : A.handled = none) (hit : s.heap.IsTupleIter it t i) (ht : s.heap.IsTuple t items) (hx : items[i]? = none)
    (hE : ∀ h' e, Heap.ExtBut it s.heap h' → (∃ o, h'.get? e = some o ∧ o.cls = .type "StopIteration") → E (.ref e) { s with heap := h' }) : wpAny (model prog w) A (Builtin.SmallTypes.nextOf (.ref it)) Q E s := by
  obtain ⟨o, ho, hc, hd⟩ := id hit
  obtain ⟨ol, hol, _, nl, hdl⟩ := ht
  unfold Builtin.SmallTypes.nextOf
  refine wpAny_bind (wpAny_callSpecial?_slot (name := Str.ofString "__next__") hit.typeIs F.slot_tuple_iterator_next
    (wpAny_call_entry F.slot_tuple_iterator_next hit.typeIs F.entry_tuple_iterator_next ?_ (F.args_tuple_iterator_next_1 _)))
  show wpAny _ _ (field (.ref it) 0 >>= _) _ _ s
  refine wpAny_bind (wpAny_field ho hd (x := .ref t) rfl ?_)
  show wpAny _ _ (if (Value.ref t == Value.none) = true then _ else _) _ _ s
  rw [if_neg (show ¬ ((Value.ref t == Value.none) = true) from Bool.false_ne_true)]
  show wpAny _ _ (field (.ref it) 1 >>= _) _ _ s
  refine wpAny_bind (wpAny_field ho hd (x := .int i 0) rfl ?_)
  show wpAny _ _ (seqItems? (.ref t) >>= _) _ _ s
  refine wpAny_bind (wpAny_seqItems hol hdl ?_)
  simp only [Int.toNat_natCast, hx]
  refine wpAny_bind (wpAny_rule (wpAny_bind (wpAny_setField ho hd (by simp) ?_)))
  show wpAny _ _ (newExc (.type "StopIteration") [] >>= _) _ _ _
  refine wpAny_bind ?_
  simp only [newExc, newTuple]
  refine wpAny_bind (wpAny_newObj_type ?_ (by size_fits))
  refine wpAny_bind (m := firstArgMember _ _) (wpAny_of_eq (a := Value.none) (by first | rfl | (simp only [firstArgMember]; rfl)) ?_)
  refine wpAny_newObj_type ?_ (by size_fits)
  simp only [raiseNew]
  refine wpAny_bind (wpAny_handled ?_)
  first | rw [show A.in1.handled = none from hh] | rw [hh]
  refine wpAny_bind (wpAny_pure (wpAny_throw ?_))
  exact hE _ _ (((Heap.SameBut.update ..).extBut.push _).push _) ⟨_, Heap.get?_push_size _ rfl, rfl⟩
end
theorem drawsTuple {prog : Program} {w : World} {A : Around} (hh : A.handled = none) (it l : Addr) (hne : l ≠ it) (items : Array Value) :
    Draws prog w A it [it, l] items.size (fun i v => items[i]? = some v) (fun i h => h.IsTupleIter it l i ∧ h.IsTuple l items) where
  live := fun _ _ st => let ⟨o, ho, _⟩ := st.1; ⟨o, ho⟩
  frame := fun _ _ _ st hk => ⟨st.1.at fun o e => hk it (by simp) o e, st.2.at fun o e => hk l (by simp) o e⟩
  item := fun i s Q E hi st hQ => by
    refine nextOf_tuple_item st.1 st.2 (x := items[i]) (by simp [hi]) fun h' hit' hs' => ?_
    exact hQ _ h' s.toks (by simp [hi]) ⟨hit', st.2.extBut hs'.extBut hne⟩ hs'
  done := fun s Q E st hE => nextOf_tuple_end hh st.1 st.2 (by simp) hE
end

section
open PySem.Calls
section
variable {prog : Program} {w : World} {A : Around} {E : Value → Shared → Prop} {s : Shared}
variable {z TI it : Addr} {fp : List Addr} {n i : Nat} {St : Nat → Heap → Prop} {adr : Nat → Addr} {vals : Nat → Array Value} {nn : Nat → Nat}

theorem map_len_item {Q : Value → Shared → Prop} (hz : IsMap s.heap z TI (.builtin "len")) (hTI : IsOne s.heap TI (.ref it))
    (Dr : Draws prog w A it fp n (fun i v => v = .ref (adr i)) St) (hst : St i s.heap) (hlt : i < n) (hzi : z ≠ it)
    (ha : IsT s.heap (adr i) (vals i) (nn i)) (hai : adr i ≠ it) (hfit : ¬ ((vals i).size : Int) ≥ 2 ^ 63)
    (hQ : ∀ t h' tk, St (i + 1) h' → Heap.SameBut it s.heap h' → Q (.int (vals i).size t) { s with heap := h', toks := tk }) :
    wpAny (model prog w) A (Builtin.«map.__next__» ⟨[.ref z], []⟩) (fun fin s' => ∃ v, fin = .done (.ret v) ∧ Q v s') E s := by
  show wpAny _ _ (field (.ref z) 0 >>= _) _ _ _
  refine wpAny_bind (wpAny_field hz rfl (x := .ref TI) rfl ?_)
  refine wpAny_bind (wpAny_seqItems hTI rfl ?_)
  refine wpAny_bind ?_
  simp only [List.forIn_toArray, List.forIn_cons, List.forIn_nil]
  refine wpAny_bind (wpAny_bind (wpAny_holding (Dr.item i _ _ _ hlt hst fun x h1 tk hx hst1 hs1 => wpAny_pure ?_)))
  subst hx
  refine wpAny_pure ?_
  have hz1 : IsMap h1 z TI (.builtin "len") := (hs1.2 z hzi).trans hz
  show wpAny _ _ _ _ _ { s with heap := h1, toks := tk }
  refine wpAny_bind (wpAny_field hz1 rfl (x := .builtin "len") rfl (wpAny_bind (wpAny_holding ?_)))
  have ha1 : IsT h1 (adr i) (vals i) (nn i) := (hs1.2 _ hai).trans ha
  refine P.len_tuple (s := { s with heap := h1, toks := tk }) ha1 hfit ?_
  refine wpAny_bind (wpAny_letGo ?_)
  exact wpAny_pure ⟨_, rfl, hQ _ _ _ hst1 hs1⟩
theorem map_len_end {Q : Fin → Shared → Prop} (hz : IsMap s.heap z TI (.builtin "len")) (hTI : IsOne s.heap TI (.ref it))
    (Dr : Draws prog w A it fp n (fun i v => v = .ref (adr i)) St) (hst : St n s.heap)
    (hE : ∀ h' e, Heap.ExtBut it s.heap h' → (∃ o, h'.get? e = some o ∧ o.cls = .type "StopIteration") → E (.ref e) { s with heap := h' }) :
    wpAny (model prog w) A (Builtin.«map.__next__» ⟨[.ref z], []⟩) Q E s := by
  show wpAny _ _ (field (.ref z) 0 >>= _) _ _ _
  refine wpAny_bind (wpAny_field hz rfl (x := .ref TI) rfl ?_)
  refine wpAny_bind (wpAny_seqItems hTI rfl ?_)
  refine wpAny_bind ?_
  simp only [List.forIn_toArray, List.forIn_cons, List.forIn_nil]
  exact wpAny_bind (wpAny_bind (wpAny_holding (Dr.done _ _ _ hst hE)))
end
/-- map(len, rows) as a walk -/
theorem walksMap {prog : Program} {w : World} {A : Around} {z TI it : Addr} {fp : List Addr} {n : Nat} {St : Nat → Heap → Prop} {adr : Nat → Addr} {vals : Nat → Array Value} {nn : Nat → Nat}
    (Dr : Draws prog w A.in1 it fp n (fun i v => v = .ref (adr i)) St) (hzi : z ≠ it) (hTi : TI ≠ it) (hai : ∀ i, i < n → adr i ≠ it) (hfit : ∀ i, i < n → ¬ ((vals i).size : Int) ≥ 2 ^ 63) :
    Walks prog w A z (it :: z :: TI :: fp ++ (List.range n).map adr) [it] n (fun i v => ∃ t, v = .int (vals i).size t)
      (fun i h => IsMap h z TI (.builtin "len") ∧ IsOne h TI (.ref it) ∧ St i h ∧ ∀ j, j < n → IsT h (adr j) (vals j) (nn j)) where
  sub := fun b hb => by simp at hb; simp [hb]
  frame := fun i h h' st hk => by
    obtain ⟨a, b, c, d⟩ := st
    exact ⟨hk z (by simp) _ a, hk TI (by simp) _ b, Dr.frame _ _ _ c fun x hx o e => hk x (by simp [hx]) o e, fun j hj => hk (adr j) (by simp only [List.mem_append, List.mem_map, List.mem_range]; exact .inr ⟨j, hj, rfl⟩) _ (d j hj)⟩
  item := fun i s Q E hi st hQ => by
    obtain ⟨a, b, c, d⟩ := st
    have hT : s.TypeIs (.ref z) "map" := ⟨_, a, rfl⟩
    unfold pyNext
    exact wpAny_bind (wpAny_attempt (wpAny_callSpecial?_slot (name := Str.ofString "__next__") hT mp_slot_next
      (wpAny_call_entry mp_slot_next hT mp_entry_next
        (map_len_item a b Dr c hi hzi (d i hi) (hai i hi) (hfit i hi) fun t h' tk st' hs => wpAny_pure (hQ _ h' tk ⟨t, rfl⟩ ⟨(hs.2 z hzi).trans a, (hs.2 TI hTi).trans b, st', fun j hj => (hs.2 _ (hai j hj)).trans (d j hj)⟩
          fun x o hx e => (hs.2 x (fun h => hx (by simp [h]))).trans e)) (mp_args_next _))))
  done := fun s Q E st hQ => by
    obtain ⟨a, b, c, d⟩ := st
    have hT : s.TypeIs (.ref z) "map" := ⟨_, a, rfl⟩
    unfold pyNext
    refine wpAny_bind (wpAny_attempt (wpAny_callSpecial?_slot (name := Str.ofString "__next__") hT mp_slot_next
      (wpAny_call_entry mp_slot_next hT mp_entry_next (map_len_end a b Dr c fun h' e hk he => ?_) (mp_args_next _))))
    obtain ⟨o, ho, hc⟩ := he
    refine wpAny_bind (wpAny_isInstance (T := "StopIteration") (b := true) ⟨o, ho, hc⟩ isSubtype_stop ?_)
    exact wpAny_pure (hQ h' s.toks fun x o hx e => hk x o (fun h => hx (by simp [h])) e)
  self := fun i s Q E st hQ => by
    obtain ⟨a, b, c, d⟩ := st
    have hT : s.TypeIs (.ref z) "map" := ⟨_, a, rfl⟩
    refine wpAny_pyIter_slot hT mp_slot_iter (wpAny_call_entry mp_slot_iter hT mp_entry_iter ?_ (mp_args_iter _))
    show wpAny _ _ (ret (.ref z)) _ _ s
    exact wpAny_pure ⟨_, rfl, "map", _, hT, mp_slot_next.lookup, hQ⟩
end

section
open PySem.Calls
abbrev mapO (TI : Addr) : Obj := { cls := .type "map", dict := none, data := .fields #[.ref TI, .builtin "len"], slots := #[] }
abbrev oneO (a : Addr) : Obj := { cls := .type "tuple", data := .seq #[.ref a] }
section
variable {prog : Program} {w : World} {A : Around} {E : Value → Shared → Prop} {s : Shared} {h₀ : Heap} {L : Addr} {m : Str → Option Value} {news : List (Addr × Obj)}

theorem add_ledger {h h' : Heap} {S : Addr} {o : Obj} (F : Fr h₀ L h m) (N : News h₀ L h' news) (F' : Fr h₀ L h' m) (hS : h.objs.size ≤ S) (ho : h'.get? S = some o) : News h₀ L h' ((S, o) :: news) := by
  obtain ⟨oL, es, ep, hL, r⟩ := F.ns
  intro p q
  rcases List.mem_cons.mp q with rfl | q
  · refine ⟨ho, Nat.ne_of_gt (Nat.lt_of_lt_of_le (Heap.lt_size hL) hS), ?_⟩
    cases e : h₀.get? S with
    | none => rfl
    | some x => exact absurd (Nat.lt_of_lt_of_le (Heap.lt_size (F.keep _ _ e)) hS) (Nat.lt_irrefl _)
  · exact N p q

theorem mapT_N {t : Addr} {vs : List Value} {k : Nat} {Q : Value → Shared → Prop} (F : Fr h₀ L s.heap m) (N : News h₀ L s.heap news) (hm : (t, tupOf vs k) ∈ news)
    (h : ∀ z TI it oi h', Fr h₀ L h' m → News h₀ L h' ((z, mapO TI) :: (TI, oneO it) :: (it, oi) :: news) → oi.cls = .type "tuple_iterator" ∧ oi.data = .fields #[.ref t, .int 0 0] → TI < z → it < TI → (∀ p ∈ news, p.1 < it) → Q (.ref z) { s with heap := h' }) :
    wpAny (model prog w) A (call (.type "map") [.builtin "len", .ref t]) Q E s := by
  refine call_mapT ⟨_, (N _ hm).1, rfl, k, rfl⟩ fun h' a b c d e => ?_
  obtain ⟨oi, hoi, ci, di⟩ := c
  obtain ⟨F', N'⟩ := keep_ledger F N fun b o _ x => e b o x
  have n1 := add_ledger F N' F' (Nat.le_refl _) hoi
  have n2 := add_ledger F n1 F' (Nat.le_succ _) b
  have n3 := add_ledger F n2 F' (Nat.le_add_right _ 2) a
  exact h _ _ _ oi h' F' n3 ⟨ci, di⟩ (Nat.lt_succ_self _) (Nat.lt_succ_self _) fun p q => Heap.lt_size (N p q).1

theorem mapL_N {t : Addr} {vs : Array Value} {k : Nat} {Q : Value → Shared → Prop} (F : Fr h₀ L s.heap m) (N : News h₀ L s.heap news) (hm : (t, listOf vs k) ∈ news)
    (h : ∀ z TI it oi h', Fr h₀ L h' m → News h₀ L h' ((z, mapO TI) :: (TI, oneO it) :: (it, oi) :: news) → oi.cls = .type "list_iterator" ∧ oi.data = .fields #[.ref t, .int 0 0] → TI < z → it < TI → (∀ p ∈ news, p.1 < it) → Q (.ref z) { s with heap := h' }) :
    wpAny (model prog w) A (call (.type "map") [.builtin "len", .ref t]) Q E s := by
  refine call_mapL ⟨_, (N _ hm).1, rfl, k, rfl⟩ fun h' a b c d e => ?_
  obtain ⟨oi, hoi, ci, di⟩ := c
  obtain ⟨F', N'⟩ := keep_ledger F N fun b o _ x => e b o x
  have n1 := add_ledger F N' F' (Nat.le_refl _) hoi
  have n2 := add_ledger F n1 F' (Nat.le_succ _) b
  have n3 := add_ledger F n2 F' (Nat.le_add_right _ 2) a
  exact h _ _ _ oi h' F' n3 ⟨ci, di⟩ (Nat.lt_succ_self _) (Nat.lt_succ_self _) fun p q => Heap.lt_size (N p q).1

theorem drop_it {it : Addr} {h h' : Heap} (F : Fr h₀ L h m) (N : News h₀ L h ((it, oi) :: news)) (hlt : ∀ p ∈ news, p.1 < it) (hk : ∀ b o, b ≠ it → h.get? b = some o → h'.get? b = some o) : Fr h₀ L h' m ∧ News h₀ L h' news := by
  obtain ⟨oL, es, ep, hL, r⟩ := F.ns
  have hi := N _ (List.Mem.head _)
  refine ⟨⟨⟨oL, es, ep, hk _ _ (fun e => hi.2.1 e.symm) hL, r⟩, fun b x e => hk _ _ (fun e' => ?_) (F.keep b x e), F.above⟩, fun p q => ⟨hk _ _ (Nat.ne_of_lt (hlt p q)) (N p (.tail _ q)).1, (N p (.tail _ q)).2⟩⟩
  subst e'
  rw [hi.2.2] at e
  exact absurd e (by simp)

theorem max_map_N {z TI it a b : Addr} {vs us : List Value} {na nb : Nat} {oi : Obj} {Q : Value → Shared → Prop} (F : Fr h₀ L s.heap m)
    (N : News h₀ L s.heap ((z, mapO TI) :: (TI, oneO it) :: (it, oi) :: news)) {St : Nat → Heap → Prop} {fp : List Addr}
    (Dr : Draws prog w A.in1.in1 it fp 2 (fun i v => v = .ref (if i = 0 then a else b)) St) (h0 : St 0 s.heap) (hfp : ∀ x ∈ fp, x < s.heap.objs.size)
    (l1 : TI < z) (l2 : it < TI) (l3 : ∀ p ∈ news, p.1 < it)
    (ha : (a, tupOf vs na) ∈ news) (hb : (b, tupOf us nb) ∈ news) (za : vs.length ≤ 1000) (zb : us.length ≤ 1000)
    (h : ∀ t h' tk, Fr h₀ L h' m → News h₀ L h' news → Q (.int (max vs.length us.length : Nat) t) { s with heap := h', toks := tk }) :
    wpAny (model prog w) A (call (.builtin "max") [.ref z]) Q E s := by
  have la := l3 _ ha
  have lb := l3 _ hb
  simp only at la lb
  have gz := (N _ (List.Mem.head _)).1
  have gT := (N _ (.tail _ (List.Mem.head _))).1
  have ga := (N _ (.tail _ (.tail _ (.tail _ ha)))).1
  have gb := (N _ (.tail _ (.tail _ (.tail _ hb)))).1
  have gi := (N _ (.tail _ (.tail _ (List.Mem.head _)))).1
  have W := walksMap (z := z) (TI := TI) (adr := fun i => if i = 0 then a else b) (vals := fun i => if i = 0 then vs.toArray else us.toArray) (nn := fun i => if i = 0 then na else nb) Dr (Nat.ne_of_gt (Nat.lt_trans l2 l1)) (Nat.ne_of_gt l2)
    (fun i _ => by split; exact Nat.ne_of_lt la; exact Nat.ne_of_lt lb) (fun i _ => by split <;> (rw [List.size_toArray]; omega))
  have st0 : IsMap s.heap z TI (.builtin "len") ∧ IsOne s.heap TI (.ref it) ∧ St 0 s.heap ∧ ∀ j, j < 2 → IsT s.heap (if j = 0 then a else b) (if j = 0 then vs.toArray else us.toArray) (if j = 0 then na else nb) :=
    ⟨gz, gT, h0, fun j _ => by split; exact ga; exact gb⟩
  refine call_max_walk (W.self 0 s _ _ st0 ⟨z, _, _, 2, _, _, _, rfl, W, st0, ?_, by decide, CmpOf.ints_gt (fun i => (((if i = 0 then vs.toArray else us.toArray) : Array Value).size : Int)) (fun i v h => h), fun v h' tk hP hk => ?_⟩)
  · intro x hx
    simp only [List.cons_append, List.mem_cons, List.mem_append, List.mem_map, List.mem_range] at hx
    rcases hx with rfl | rfl | rfl | hx | ⟨j, _, rfl⟩
    · exact Heap.lt_size gi
    · exact Heap.lt_size gz
    · exact Heap.lt_size gT
    · exact hfp x hx
    · split; exact Heap.lt_size ga; exact Heap.lt_size gb
  · have N1 : News h₀ L s.heap ((it, oi) :: news) := fun p q => N p (.tail _ (.tail _ q))
    obtain ⟨F', N'⟩ := drop_it F N1 l3 (h' := h') fun b o hb e => hk b o (fun h => hb (by simpa using h)) e
    obtain ⟨t, rfl⟩ := hP
    have e : (((if argBest (fun i j => decide ((((if i = 0 then vs.toArray else us.toArray) : Array Value).size : Int) > (((if j = 0 then vs.toArray else us.toArray) : Array Value).size : Int))) (2 - 1) = 0 then vs.toArray else us.toArray) : Array Value).size : Int) = (max vs.length us.length : Nat) := by
      simp only [argBest]
      by_cases q : vs.length < us.length
      · simp [q]; omega
      · simp [q]; omega
    rw [e]
    exact h t h' tk F' N'

theorem drawsMono {it : Addr} {fp : List Addr} {n n' : Nat} {P P' : Nat → Value → Prop} {St : Nat → Heap → Prop} (D : Draws prog w A it fp n P St) (hn : n = n') (h : ∀ i x, i < n → P i x → P' i x) : Draws prog w A it fp n' P' St := by
  subst hn
  exact ⟨D.live, D.frame, fun i s Q E hi st hQ => D.item i s Q E hi st fun x h' tk hx => hQ x h' tk (h i x hi hx), D.done⟩

theorem pairOf {a b : Addr} (i : Nat) (x : Value) (hi : i < (#[Value.ref a, Value.ref b] : Array Value).size) (h : (#[Value.ref a, Value.ref b] : Array Value)[i]? = some x) : x = .ref (if i = 0 then a else b) := by
  have hi' : i < 2 := hi
  rcases i with _ | _ | i
  · simpa using h.symm
  · simpa using h.symm
  · omega

theorem maxT_N {z TI it D a b : Addr} {vs us : List Value} {k na nb : Nat} {oi : Obj} {Q : Value → Shared → Prop} (F : Fr h₀ L s.heap m) (hh : A.handled = none)
    (N : News h₀ L s.heap ((z, mapO TI) :: (TI, oneO it) :: (it, oi) :: news)) (hoi : oi.cls = .type "tuple_iterator" ∧ oi.data = .fields #[.ref D, .int 0 0])
    (l1 : TI < z) (l2 : it < TI) (l3 : ∀ p ∈ news, p.1 < it) (hm : (D, tupOf [.ref a, .ref b] k) ∈ news)
    (ha : (a, tupOf vs na) ∈ news) (hb : (b, tupOf us nb) ∈ news) (za : vs.length ≤ 1000) (zb : us.length ≤ 1000)
    (h : ∀ t h' tk, Fr h₀ L h' m → News h₀ L h' news → Q (.int (max vs.length us.length : Nat) t) { s with heap := h', toks := tk }) :
    wpAny (model prog w) A (call (.builtin "max") [.ref z]) Q E s := by
  have Dr := drawsTuple (prog := prog) (w := w) (A := A.in1.in1) (by simp [hh]) it D (Nat.ne_of_lt (l3 _ hm)) #[.ref a, .ref b]
  have Dr' := drawsMono Dr (n' := 2) rfl pairOf
  have gi := (N _ (.tail _ (.tail _ (List.Mem.head _)))).1
  have gD := (N _ (.tail _ (.tail _ (.tail _ hm)))).1
  exact max_map_N F N Dr' ⟨⟨oi, gi, hoi.1, hoi.2⟩, ⟨_, gD, rfl, k, rfl⟩⟩ (by intro x hx; simp at hx; rcases hx with rfl | rfl; exact Heap.lt_size gi; exact Heap.lt_size gD) l1 l2 l3 ha hb za zb h

theorem maxL_N {z TI it D a b : Addr} {vs us : List Value} {k na nb : Nat} {oi : Obj} {Q : Value → Shared → Prop} (F : Fr h₀ L s.heap m) (hh : A.handled = none)
    (N : News h₀ L s.heap ((z, mapO TI) :: (TI, oneO it) :: (it, oi) :: news)) (hoi : oi.cls = .type "list_iterator" ∧ oi.data = .fields #[.ref D, .int 0 0])
    (l1 : TI < z) (l2 : it < TI) (l3 : ∀ p ∈ news, p.1 < it) (hm : (D, listOf #[.ref a, .ref b] k) ∈ news)
    (ha : (a, tupOf vs na) ∈ news) (hb : (b, tupOf us nb) ∈ news) (za : vs.length ≤ 1000) (zb : us.length ≤ 1000)
    (h : ∀ t h' tk, Fr h₀ L h' m → News h₀ L h' news → Q (.int (max vs.length us.length : Nat) t) { s with heap := h', toks := tk }) :
    wpAny (model prog w) A (call (.builtin "max") [.ref z]) Q E s := by
  have Dr := Draws.list (prog := prog) (w := w) (A := A.in1.in1) (by simp [hh]) it D (Nat.ne_of_lt (l3 _ hm)) #[.ref a, .ref b]
  have Dr' := drawsMono Dr (n' := 2) rfl pairOf
  have gi := (N _ (.tail _ (.tail _ (List.Mem.head _)))).1
  have gD := (N _ (.tail _ (.tail _ (.tail _ hm)))).1
  exact max_map_N F N Dr' ⟨⟨oi, gi, hoi.1, hoi.2⟩, ⟨_, gD, rfl, k, rfl⟩⟩ (by intro x hx; simp at hx; rcases hx with rfl | rfl; exact Heap.lt_size gi; exact Heap.lt_size gD) l1 l2 l3 ha hb za zb h
end
end

section
open PySem.Calls
section
variable {prog : Program} {w : World} {A : Around} {E : Value → Shared → Prop} {s : Shared} {h₀ : Heap} {L : Addr} {m : Str → Option Value} {news : List (Addr × Obj)}
theorem len_tup_N {D : Addr} {vs : List Value} {xs : List Int} {k : Nat} {Q : Value → Shared → Prop} (N : News h₀ L s.heap news) (hm : (D, tupOf vs k) ∈ news) (hx : IntsAre vs xs) (hz : vs.length ≤ 1000)
    (h : ∀ t tk, Q (.int (xs.length : Nat) t) { s with toks := tk }) : wpAny (model prog w) A (call (.builtin "len") [.ref D]) Q E s := by
  refine P.len_tuple (items := vs.toArray) (n := k) (N _ hm).1 (by rw [List.size_toArray]; omega) ?_
  rw [List.size_toArray, hx.length]
  exact h _ _
end
end

section
open PySem.Calls
/-- the walk halts here: a loop to be done by hand -/
def Halt (P : Prop) : Prop := P
theorem halt_in {P : Prop} (h : Halt P) : P := h
theorem halt_out {P : Prop} (h : P) : Halt P := h
section
variable {prog : Program} {w : World} {A : Around} {E : Value → Shared → Prop} {s : Shared} {env : Env} {h₀ : Heap} {x : Str} {body : List Stmt} {Q : Flow → Shared → Prop}
theorem For_halt {m : Str → Option Value} {px pos : Pos} {iter : Expr} (_F : Fr h₀ env.locals s.heap m) (hx : env.kindOf x = some .local)
    (hp : (env.scope.kind == .class || (env.scope.kind == .module && env.locals != env.globals)) = false)
    (h : wpAny (model prog w) A (eval iter env) (fun xv s₁ => Halt (wpAny (model prog w) A (pyIter xv) (fun it s₂ => LoopAtV prog w A h₀ env x body Q E it s₂) E s₁)) E s)
    (hs : ∀ x, foldedSetIterable iter env x = pure x := by intro _; rfl)
    (hE : PassesOwn (model prog w) A env E := by passes_own) :
    wpAny (model prog w) A (exec (.For (.Name x px) iter body [] pos) env) Q E s := For_invV h₀ hx hp h hs hE
end
end

section
open PySem.Calls
/-- the locals with these names pinned -/
def over (kvs : List (Str × Value)) (m : Str → Option Value) (y : Str) : Option Value := match kvs.lookup y with | some v => some v | none => m y
def Has (m : Str → Option Value) : List (Str × Value) → Prop
  | [] => True
  | kv :: r => m kv.1 = some kv.2 ∧ Has m r
theorem over_eq {m : Str → Option Value} : ∀ {kvs : List (Str × Value)}, Has m kvs → over kvs m = m := by
  intro kvs h
  funext y
  unfold over
  induction kvs with
  | nil => rfl
  | cons kv r ih =>
    obtain ⟨k, v⟩ := kv
    rw [List.lookup_cons]
    by_cases e : y == k
    · rw [e]; exact (eq_of_beq e ▸ h.1.symm)
    · simp only [e]; exact ih h.2
def Apart (C R : List (Addr × Obj)) : Prop := ∀ c ∈ C, ∀ q ∈ R, c.1 ≠ q.1

theorem apart1 {c : Addr} {o : Obj} {R : List (Addr × Obj)} (h : Apart [(c, o)] R) : ∀ p ∈ R, p.1 ≠ c := fun p hp => Ne.symm (h _ (List.Mem.head _) p hp)
theorem apart2 {c d : Addr} {o o' : Obj} {R : List (Addr × Obj)} (h : Apart [(c, o), (d, o')] R) : (∀ p ∈ R, p.1 ≠ c) ∧ ∀ p ∈ R, p.1 ≠ d := ⟨fun p hp => Ne.symm (h _ (List.Mem.head _) p hp), fun p hp => Ne.symm (h _ (List.Mem.tail _ (List.Mem.head _)) p hp)⟩
def TurnC (h₀ : Heap) (L : Addr) (J : List (Str × Value) → List (Addr × Obj) → Prop) (rest : List (Addr × Obj)) (s₁ : Shared) (Q : Flow → Shared → Prop) (f : Flow) (s₂ : Shared) : Prop :=
  match f with
  | .ret v => Q (.ret v) s₂
  | .brk => Q .next s₂
  | _ => ∃ h' tk m' C' kvs, s₂ = { s₁ with heap := h', toks := tk } ∧ Fr h₀ L h' m' ∧ News h₀ L h' (C' ++ rest) ∧ Apart C' rest ∧ Has m' kvs ∧ J kvs C'

theorem apartOf {c : Addr} {o : Obj} {R : List (Addr × Obj)} (h : ∀ p ∈ R, p.1 ≠ c) : Apart [(c, o)] R := fun x hx q hq => by
  cases hx with
  | head => exact Ne.symm (h q hq)
  | tail _ hx => cases hx
theorem TurnC.done {h₀ h' : Heap} {L : Addr} {J : List (Str × Value) → List (Addr × Obj) → Prop} {rest big : List (Addr × Obj)} {s₁ : Shared} {Q : Flow → Shared → Prop} {m' : Str → Option Value} {tk : Nat} (C' : List (Addr × Obj)) (kvs : List (Str × Value))
    (F : Fr h₀ L h' m') (N : News h₀ L h' big) (hs : ∀ p ∈ C' ++ rest, p ∈ big) (hA : Apart C' rest) (hH : Has m' kvs) (hJ : J kvs C') : TurnC h₀ L J rest s₁ Q .next { s₁ with heap := h', toks := tk } :=
  ⟨h', tk, m', C', kvs, rfl, F, fun p hp => N p (hs p hp), hA, hH, hJ⟩
section
variable {prog : Program} {w : World} {A : Around} {E : Value → Shared → Prop} {s : Shared} {env : Env} {h₀ : Heap} {x : Str} {body : List Stmt} {Q : Flow → Shared → Prop}

theorem loop_inv {I : Addr} {fp wr : List Addr} {n : Nat} {P : Nat → Value → Prop} {St : Nat → Heap → Prop} {m₀ : Str → Option Value} {C₀ base : List (Addr × Obj)}
    (J : Nat → List (Str × Value) → List (Addr × Obj) → Prop)
    (W : Walks prog w A I fp wr n P St) (hLf : env.locals ∉ fp) (hwr : ∀ b ∈ wr, h₀.get? b = none) (hlv : ∀ i h, St i h → ∀ b ∈ fp, ∃ o, h.get? b = some o) (hst : St 0 s.heap) (F : Fr h₀ env.locals s.heap m₀) (N : News h₀ env.locals s.heap (C₀ ++ base))
    (hC : ∀ c ∈ C₀, c.1 ∉ fp) (hB : ∀ p ∈ base, p.1 ∉ wr) (hA : Apart C₀ base) (hj : ∃ kvs₀, Has m₀ kvs₀ ∧ J 0 kvs₀ C₀)
    (turn : ∀ i v m₁ kvs C h tk rest, i < n → P i v → J i kvs C → (∀ p ∈ base, p ∈ rest) → Apart C rest → Fr h₀ env.locals h (fun y => if y = x then some v else over kvs m₁ y) → News h₀ env.locals h (C ++ rest) →
      wpAny (model prog w) A (execs body env) (TurnC h₀ env.locals (J (i + 1)) rest { s with heap := h, toks := tk } Q) E { s with heap := h, toks := tk })
    (done : ∀ m₁ kvs C h tk, J n kvs C → Apart C base → Fr h₀ env.locals h (over kvs m₁) → News h₀ env.locals h (C ++ base) → Q .next { s with heap := h, toks := tk }) :
    LoopAtV prog w A h₀ env x body Q E (.ref I) s := by
  obtain ⟨kvs₀, hH, hj⟩ := hj
  let J' : Nat → (Str → Option Value) → List (Addr × Obj) → Prop := fun i m₁ news₁ => ∃ C kvs, news₁ = C ++ base ∧ Has m₁ kvs ∧ J i kvs C ∧ Apart C base ∧ ∀ c ∈ C, c.1 ∉ fp
  refine ⟨I, fp, wr, n, P, St, m₀, C₀ ++ base, J', rfl, W, hLf, hwr, ?_, hst, F, N, ⟨C₀, kvs₀, rfl, hH, hj, hA, hC⟩, ?_, ?_⟩
  · intro p hp
    rcases List.mem_append.mp hp with h | h
    · exact fun hm => hC p h (W.sub _ hm)
    · exact hB p h
  · rintro i v m₁ news₁ s₁ own ⟨hh', tk', rfl⟩ hin hP ⟨C, kvs, rfl, hH₁, hJ, hAp, hCf⟩ hoff hsub hlive hall hst₁ F₁ N₁
    have hAr : Apart C (own ++ base) := by
      intro c hc q hq
      rcases List.mem_append.mp hq with h | h
      · exact fun e => hCf c hc (e ▸ hsub q h)
      · exact hAp c hc q h
    have N₂ : News h₀ env.locals hh' (C ++ (own ++ base)) := fun p hp => N₁ p (by
      rcases List.mem_append.mp hp with h | h
      · exact List.mem_append_right _ (List.mem_append_left _ h)
      · rcases List.mem_append.mp h with h | h
        · exact List.mem_append_left _ h
        · exact List.mem_append_right _ (List.mem_append_right _ h))
    have F₂ : Fr h₀ env.locals hh' (fun y => if y = x then some v else over kvs m₁ y) := by rw [over_eq hH₁]; exact F₁
    refine wpAny_mono (turn i v m₁ kvs C hh' tk' (own ++ base) hin hP hJ (fun p hp => List.mem_append_right _ hp) hAr F₂ N₂) (fun f s₂ p => ?_) fun _ _ e => e
    have fin : TurnC h₀ env.locals (J (i + 1)) (own ++ base) { s with heap := hh', toks := tk' } Q .next s₂ → LoopStepU h₀ env.locals wr own (J' (i + 1)) { s with heap := hh', toks := tk' } .next s₂ := by
      rintro ⟨h', tk, m', C', kvs', e, F', N', hAp', hH', hJ'⟩
      have hCf' : ∀ c ∈ C', c.1 ∉ fp := by
        intro c hc hcf
        have g := N' c (List.mem_append_left _ hc)
        cases hx : hh'.get? c.1 with
        | some o => exact hAp' c hc (c.1, o) (List.mem_append_left _ (hall c.1 hcf g.2.2 o hx)) rfl
        | none => exact absurd hx (by obtain ⟨o, ho⟩ := hlv _ _ hst₁ _ hcf; show ¬ hh'.get? c.1 = none; rw [show hh'.get? c.1 = some o from ho]; simp)
      refine ⟨rfl, h', tk, m', C' ++ base, e, F', fun p hp => N' p ?_, ?_, ⟨C', kvs', rfl, hH', hJ', fun c hc q hq => hAp' c hc q (List.mem_append_right _ hq), hCf'⟩⟩
      · rcases List.mem_append.mp hp with h | h
        · exact List.mem_append_right _ (List.mem_append_left _ h)
        · rcases List.mem_append.mp h with h | h
          · exact List.mem_append_left _ h
          · exact List.mem_append_right _ (List.mem_append_right _ h)
      · intro p hp
        rcases List.mem_append.mp hp with h | h
        · exact fun hm => hCf' p h (W.sub _ hm)
        · exact hB p h
    cases f with
    | ret v => exact .ret p
    | brk => exact .brk p
    | next => exact .next (fin p)
    | cont => exact .cont (fin p)
  · rintro h' tk m' news' F' N' _ ⟨C, kvs, rfl, hH', hJ, hAp, _⟩
    exact done m' kvs C h' tk hJ hAp (by rw [over_eq hH']; exact F') N'

/-- a loop over a range, with an invariant -/
theorem range_inv {r : Addr} {a₀ b₀ : Int} {t₀ u₀ v₀ : Tok} {n : Nat} {m₀ : Str → Option Value} {C₀ base : List (Addr × Obj)}
    (J : Nat → List (Str × Value) → List (Addr × Obj) → Prop)
    (hh : A.handled = none) (hr : IsRange s.heap r a₀ b₀ 1 t₀ u₀ v₀) (hsmall : Builtin.Range.small a₀ b₀ 1 = true) (hn : Builtin.Range.rangeSize a₀ b₀ 1 = (n : Int)) (F : Fr h₀ env.locals s.heap m₀) (N : News h₀ env.locals s.heap (C₀ ++ base))
    (hA : Apart C₀ base) (hj : ∃ kvs₀, Has m₀ kvs₀ ∧ J 0 kvs₀ C₀)
    (turn : ∀ i t m₁ kvs C h tk rest, i < n → J i kvs C → (∀ p ∈ base, p ∈ rest) → Apart C rest → Fr h₀ env.locals h (fun y => if y = x then some (.int (a₀ + (i : Nat)) t) else over kvs m₁ y) → News h₀ env.locals h (C ++ rest) →
      wpAny (model prog w) A (execs body env) (TurnC h₀ env.locals (J (i + 1)) rest { s with heap := h, toks := tk } Q) E { s with heap := h, toks := tk })
    (done : ∀ m₁ kvs C h tk, J n kvs C → Apart C base → Fr h₀ env.locals h (over kvs m₁) → News h₀ env.locals h (C ++ base) → Q .next { s with heap := h, toks := tk }) :
    wpAny (model prog w) A (pyIter (.ref r)) (fun it s₂ => LoopAtV prog w A h₀ env x body Q E it s₂) E s := by
  refine wpAny_pyIter_range hr hsmall ?_
  have W : Walks prog w A s.heap.objs.size [s.heap.objs.size] [s.heap.objs.size] n (fun i v => ∃ t, v = .int (a₀ + i * 1) t)
      (fun i h => IsRangeIter h s.heap.objs.size (a₀ + (i : Nat) * 1) ((n : Int) - (i : Nat)) 1) := Walks.range hh _ a₀ 1 n
  have hold : ∀ p ∈ C₀ ++ base, p.1 ≠ s.heap.objs.size := fun p hp => Nat.ne_of_lt (Heap.lt_size (N p hp).1)
  refine loop_inv J W ?_ ?_ (fun i h st b hb => by rw [List.mem_singleton.mp hb]; exact ⟨_, st⟩) (by show IsRangeIter _ _ _ _ _; rw [hn]; simpa using Heap.get?_push_size _ rfl) (F.push _)
    (fun p hp => ⟨Heap.get?_push_of_some _ (N p hp).1, (N p hp).2⟩) (fun c hc hm => hold c (List.mem_append_left _ hc) (List.mem_singleton.mp hm)) (fun c hc hm => hold c (List.mem_append_right _ hc) (List.mem_singleton.mp hm)) hA hj ?_ ?_
  · exact fun hm => absurd F.ns.lt ((List.mem_singleton.mp hm) ▸ Nat.lt_irrefl _)
  · intro b hb
    rw [List.mem_singleton.mp hb]
    exact next_is_new F
  · rintro i v m₁ kvs C h tk rest hi ⟨t, rfl⟩ hJ hsub hAp F₁ N₁
    rw [Int.mul_one] at F₁
    exact turn i t m₁ kvs C h tk rest hi hJ hsub hAp F₁ N₁
  · intro m₁ kvs C h tk hJ hAp F₁ N₁
    exact done m₁ kvs C h tk hJ hAp F₁ N₁
end
end

section
open PySem.Calls
abbrev kk (s : String) (v : Value) : Str × Value := (Str.ofString s, v)
theorem size1 {a b : Int} {n : Nat} (h : b = a + (n : Int)) : Builtin.Range.rangeSize a b 1 = (n : Int) := by
  subst h
  unfold Builtin.Range.rangeSize
  rw [if_pos (by omega)]
  split
  · rw [Int.ediv_one]; omega
  · omega
theorem small1 {a b : Int} {n : Nat} (h : b = a + (n : Int)) (h1 : -10000 ≤ a) (h2 : a ≤ 10000) (h3 : n ≤ 10000) : Builtin.Range.small a b 1 = true := by
  unfold Builtin.Range.small
  rw [size1 h]
  simp only [Builtin.Range.rangeFitsLong]
  simp
  omega
end

section
open PySem.Calls
theorem args_min4 (a b c d : Value) : argsOk "min" ⟨[a, b, c, d], []⟩ := by unfold argsOk; kernel_rfl
section
variable {prog : Program} {w : World} {A : Around} {E : Value → Shared → Prop} {s : Shared} {h₀ : Heap} {L : Addr} {m : Str → Option Value} {news : List (Addr × Obj)}
theorem min_tail {T : Addr} {vs : Array Value} {ns : List Int} {Q : Value → Shared → Prop} (hh : A.handled = none) (hT : s.heap.IsTuple T vs) (hv : ∀ (i : Nat) (v : Value), vs[i]? = some v → ∃ t, v = Value.int (ns.getD i 0) t) (hn : 0 < vs.size)
    (h : ∀ t h' tk, (∀ b o, b < s.heap.objs.size → s.heap.get? b = some o → h'.get? b = some o) → Q (.int (ns.getD (argBest (fun i j => decide (ns.getD i 0 < ns.getD j 0)) (vs.size - 1)) 0) t) { s with heap := h', toks := tk }) :
    wpAny (model prog w) A.in1 (pyIter (.ref T) >>= fun it => newList [] >>= fun l => again (.builtin "min.loop" ⟨[it, .none, l], []⟩))
      (fun fin s' => match fin with
      | .done f => (match (Except.ok f : Result) with | .ok (.ret v) => Q v s' | .ok _ => False | .error e => E e s')
      | .again c' => c'.quiet = true ∧ codeAny (model prog w) A c' (fun r s' => match r with | .ok (.ret v) => Q v s' | .ok _ => False | .error e => E e s') s') E s := by
  refine wpAny_bind (wpAny_pyIter_tuple hT ?_)
  refine wpAny_bind (wpAny_newObj_type ?_)
  obtain ⟨oT, gT, r⟩ := id hT
  have hTl : T < s.heap.objs.size := Heap.lt_size gT
  have W := Walks.tuple (prog := prog) (w := w) (A := A.in1) (by simp [hh]) s.heap.objs.size T (Nat.ne_of_lt hTl) vs
  generalize e1 : s.heap.push { cls := .type "tuple_iterator", data := .fields #[.ref T, .int 0 0] } = h1
  have g1 : h1.IsTupleIter s.heap.objs.size T 0 := ⟨_, by rw [← e1]; exact Heap.get?_push_size _ rfl, rfl, rfl⟩
  have k1 : ∀ b o, s.heap.get? b = some o → h1.get? b = some o := fun b o e => by rw [← e1]; exact Heap.get?_push_of_some _ e
  have z1 : h1.objs.size = s.heap.objs.size + 1 := by rw [← e1]; exact Heap.size_push ..
  have st0 : h1.IsTupleIter s.heap.objs.size T 0 ∧ h1.IsTuple T vs := ⟨g1, ⟨oT, k1 _ _ gT, r⟩⟩
  have hSf : h1.objs.size ∉ [s.heap.objs.size, T] := by
    intro hm; simp only [List.mem_cons, List.not_mem_nil, or_false] at hm; rcases hm with e | e <;> rw [z1] at e
    · exact absurd e (Nat.succ_ne_self _)
    · exact absurd hTl (by rw [← e]; exact Nat.not_lt.mpr (Nat.le_succ _))
  refine wpAny_pure ⟨plainId_quiet F.plain_min_loop _, codeAny_min_loop_first W _ (CmpOf.ints_lt (fun i => ns.getD i 0) hv) h1.objs.size hSf hn (W.frame _ _ _ st0 fun b _ o e => Heap.get?_push_of_some _ e) (Heap.get?_push_size _ rfl) fun v h' tk hP hk => ?_⟩
  obtain ⟨t, rfl⟩ := hv _ _ hP
  exact h t h' tk fun b o hb e => hk b o (fun hm => absurd (List.mem_singleton.mp hm) (Nat.ne_of_lt hb)) (by show b ≠ h1.objs.size; rw [z1]; exact Nat.ne_of_lt (Nat.lt_succ_of_lt hb)) (Heap.get?_push_of_some _ (k1 b o e))
theorem min3_N {a b c : Int} {ta tb tc : Tok} {Q : Value → Shared → Prop} (Fr₀ : Fr h₀ L s.heap m) (N : News h₀ L s.heap news) (hh : A.handled = none)
    (h : ∀ t h' tk, Fr h₀ L h' m → News h₀ L h' news → Q (.int (min a (min b c)) t) { s with heap := h', toks := tk }) : wpAny (model prog w) A (call (.builtin "min") [.int a ta, .int b tb, .int c tc]) Q E s := by
  have hname : (toString "min" ++ toString ".loop" : String) = "min.loop" := by decide
  refine call_function_tree F.kind_min F.plain_min F.entry_min (F.args_min3 _ _ _) ?_
  show wpAny _ A.in1 (Builtin.Builtins.bindParams "min" ["key", "default"] 0 ⟨[], []⟩ >>= _) _ _ s
  refine wpAny_bind (wpAny_of_eq (show Builtin.Builtins.bindParams "min" ["key", "default"] 0 ⟨[], []⟩ = pure [none, none] from rfl) ?_)
  show wpAny _ A.in1 (newTuple [.int a ta, .int b tb, .int c tc] >>= _) _ _ s
  refine wpAny_bind (wpAny_newObj_type ?_)
  rw [hname]
  refine min_tail (ns := [a, b, c]) hh ⟨_, Heap.get?_push_size _ rfl, rfl, _, rfl⟩ (fun i v e => ?_) (by simp) fun t h' tk hk => ?_
  · match i, e with
    | 0, e => simp at e; exact ⟨_, e.symm⟩
    | 1, e => simp at e; exact ⟨_, e.symm⟩
    | 2, e => simp at e; exact ⟨_, e.symm⟩
    | i + 3, e => simp at e
  · obtain ⟨F', N'⟩ := keep_ledger Fr₀ N (h' := h') fun b o hb e => hk b o (Nat.lt_of_lt_of_le hb (by rw [Heap.size_push]; exact Nat.le_succ _)) (Heap.get?_push_of_some _ e)
    have e : ([a, b, c].getD (argBest (fun i j => decide ([a, b, c].getD i 0 < [a, b, c].getD j 0)) 2) 0) = min a (min b c) := by
      by_cases h1 : b < a <;> by_cases h2 : c < a <;> by_cases h3 : c < b <;> simp [argBest, h1, h2, h3] <;> omega
    have q := h t h' tk F' N'
    rw [← e] at q
    exact q
theorem min4_N {a b c d : Int} {ta tb tc td : Tok} {Q : Value → Shared → Prop} (Fr₀ : Fr h₀ L s.heap m) (N : News h₀ L s.heap news) (hh : A.handled = none)
    (h : ∀ t h' tk, Fr h₀ L h' m → News h₀ L h' news → Q (.int (min (min a (min b c)) d) t) { s with heap := h', toks := tk }) : wpAny (model prog w) A (call (.builtin "min") [.int a ta, .int b tb, .int c tc, .int d td]) Q E s := by
  have hname : (toString "min" ++ toString ".loop" : String) = "min.loop" := by decide
  refine call_function_tree F.kind_min F.plain_min F.entry_min (args_min4 _ _ _ _) ?_
  show wpAny _ A.in1 (Builtin.Builtins.bindParams "min" ["key", "default"] 0 ⟨[], []⟩ >>= _) _ _ s
  refine wpAny_bind (wpAny_of_eq (show Builtin.Builtins.bindParams "min" ["key", "default"] 0 ⟨[], []⟩ = pure [none, none] from rfl) ?_)
  show wpAny _ A.in1 (newTuple [.int a ta, .int b tb, .int c tc, .int d td] >>= _) _ _ s
  refine wpAny_bind (wpAny_newObj_type ?_)
  rw [hname]
  refine min_tail (ns := [a, b, c, d]) hh ⟨_, Heap.get?_push_size _ rfl, rfl, _, rfl⟩ (fun i v e => ?_) (by simp) fun t h' tk hk => ?_
  · match i, e with
    | 0, e => simp at e; exact ⟨_, e.symm⟩
    | 1, e => simp at e; exact ⟨_, e.symm⟩
    | 2, e => simp at e; exact ⟨_, e.symm⟩
    | 3, e => simp at e; exact ⟨_, e.symm⟩
    | i + 4, e => simp at e
  · obtain ⟨F', N'⟩ := keep_ledger Fr₀ N (h' := h') fun b o hb e => hk b o (Nat.lt_of_lt_of_le hb (by rw [Heap.size_push]; exact Nat.le_succ _)) (Heap.get?_push_of_some _ e)
    have e : ([a, b, c, d].getD (argBest (fun i j => decide ([a, b, c, d].getD i 0 < [a, b, c, d].getD j 0)) 3) 0) = min (min a (min b c)) d := by
      by_cases h1 : b < a <;> by_cases h2 : c < a <;> by_cases h3 : c < b <;> by_cases h4 : d < a <;> by_cases h5 : d < b <;> by_cases h6 : d < c <;> simp [argBest, h1, h2, h3, h4, h5, h6] <;> omega
    have q := h t h' tk F' N'
    rw [← e] at q
    exact q
end
end

section
open PySem.Calls
section
variable {prog : Program} {w : World} {A : Around} {E : Value → Shared → Prop} {s : Shared}
theorem init_kw {T newId : String} {self a : Value} {kw : List (Str × Value)} (hl : typeLookup (.type T) "__init__" = pure (some (.builtin "object.__init__")))
    (hm : Bind.madeBy (.type T) = pure (some newId)) (hne : (some newId != some "object.__new__") = true) :
    Meets (Builtin.«object.__init__» ⟨[self, a], kw⟩) (fun _ R s => s.TypeIs self T ∧ R (.ok (.ret .none)) s) := by
  refine Meets.of_wp fun prog w A R s hs => ?_
  obtain ⟨hT, hq⟩ := hs
  repeat (any_goals (first | assumption | wp_step))
  exact ⟨_, rfl, hq⟩
theorem call_kw {T newId : String} {Bn : Builtin} {a : Value} {kw : List (Str × Value)} {S : PySem.Spec} {Q : Value → Shared → Prop} (ft : TypeCalled T newId "object.__init__")
    (hne : (some newId != some "object.__new__") = true)
    (hct : checkTypeCall T ⟨[a], kw⟩ = pure ()) (hcn : checkBuiltinCall newId ⟨[.type T, a], kw⟩ = pure ())
    (hok : ∀ obj, argsOk "object.__init__" ⟨[obj, a], kw⟩)
    (entryN : entryFor table newId = some Bn) (g : Meets (Bn ⟨[.type T, a], kw⟩) S)
    (h : S A.in1 (wants (fun obj s₁ => s₁.TypeIs obj T ∧ Q obj s₁) E) s) :
    wpAny (model prog w) A (call (.type T) [a] kw) Q E s := by
  obtain ⟨c, tl, hmro⟩ := ft.mro
  have hmade := ft.made
  have hsub := ft.sub
  refine wpAny_call (codeAny_of_tree ?_)
  show wpAny _ _ (callAny (.type T) _) _ _ _
  refine wpAny_pure ⟨Code.quiet_builtin _ (by decide +kernel), codeAny_builtin F.entry_type_call ?_⟩
  rw [Around.under_plain (weight_type_call_type T [a] kw) (units_type_call_type T [a] kw)]
  have h1 := ft.notType
  have h2 := ft.canCreate
  repeat (any_goals (first | assumption | wp_step))
  refine codeAny_mono (codeAny_call_builtin ft.plain entryN (wpAny_of_eq hcn (g prog w A.in1 _ s h))) fun r s₁ hr => ?_
  cases r with
  | error e => exact hr
  | ok fl =>
    cases fl with
    | ret obj =>
      obtain ⟨hT, hq⟩ := hr
      have hli := ft.init.lookup
      have hbi := ft.init.bind obj
      repeat (any_goals (first | assumption | wp_step))
      refine codeAny_mono (codeAny_call_builtin (R := wants (fun r s₂ => r = .none ∧ Q obj s₂) E) ft.init.plain F.entry_object_init (ft.init.check _ _ _ _ _ _ _ _ hT (hok obj) ((init_kw ft.init.lookup ft.made hne) prog w A.in1 _ s₁ ⟨hT, rfl, hq⟩))) fun r₂ s₂ hr₂ => ?_
      cases r₂ with
      | error e => exact hr₂
      | ok fl₂ =>
        cases fl₂ with
        | ret r =>
          obtain ⟨rfl, hq⟩ := hr₂
          repeat (any_goals (first | assumption | wp_step))
        | _ => exact hr₂.elim
    | _ => exact hr.elim
end
theorem en_typeCall (a s : Value) : checkTypeCall "enumerate" ⟨[a], [(Str.ofString "start", s)]⟩ = pure () := by kernel_rfl
theorem en_newCall (a s : Value) : checkBuiltinCall "enumerate.__new__" ⟨[.type "enumerate", a], [(Str.ofString "start", s)]⟩ = pure () := by kernel_rfl
theorem en_args (obj a s : Value) : argsOk "object.__init__" ⟨[obj, a], [(Str.ofString "start", s)]⟩ := by
  unfold argsOk; rw [signature?_of (id := "object.__init__") (n := ['_', '_', 't', 'i', 'n', 'i', '_', '_']) (o := ['t', 'c', 'e', 'j', 'b', 'o']) (by kernel_rfl) PySem.F.owner_object]; kernel_rfl
abbrev enH1 (h : Heap) (t : Addr) : Heap := h.push { cls := .type "tuple_iterator", data := .fields #[.ref t, .int 0 0] }
abbrev enH2 (h : Heap) (t : Addr) (i : Int) : Heap := (enH1 h t).push { cls := .type "enumerate", data := .fields #[.none, .bool false, .ref h.objs.size, rawInt i, .none, .none] }
set_option maxHeartbeats 1000000 in
theorem meets_en (t : Addr) (xs : Array Value) (u : Tok) :
    Meets (Builtin.«enumerate.__new__» ⟨[.type "enumerate", .ref t], [(Str.ofString "start", .int 1 u)]⟩) (fun _ R s => s.heap.IsTuple t xs ∧
      R (.ok (.ret (.ref (enH1 s.heap t).objs.size))) { s with heap := enH2 s.heap t 1 }) :=
  .of_wp fun prog w A R s h => by
    obtain ⟨hp, g, d, tk, os⟩ := s; obtain ⟨hl, h⟩ := h
    have hsub := sub_enumerate
    have hL : Heap.IsTuple (Shared.heap ⟨hp, g, d, tk, os⟩) t xs := hl
    have hL' := hL
    obtain ⟨⟨oc, od, odt, osl⟩, ho, rfl, n, rfl⟩ := hL'
    wp_walk using AutoSeq1.wpAny_loadPart' ho
    refine wpAny_stack_any fun st => wpAny_pure ?_
    split
    · rename_i c _ _ _ _ _
      cases (c == Value.type "enumerate")
      · wp_walk using AutoSeq1.wpAny_loadPart' ho, wpAny_pyIter_tuple hL
        exact ⟨_, rfl, h⟩
      · wp_walk using AutoSeq1.wpAny_loadPart' ho, wpAny_pyIter_tuple hL
        exact ⟨_, rfl, h⟩
    · wp_walk using AutoSeq1.wpAny_loadPart' ho, wpAny_pyIter_tuple hL
      exact ⟨_, rfl, h⟩
end

section
open PySem.Calls
section
variable {prog : Program} {w : World} {A : Around} {E : Value → Shared → Prop} {s : Shared} {env : Env} {h₀ : Heap} {target : Expr} {body : List Stmt} {Q : Flow → Shared → Prop}

theorem turns_inv {I : Addr} {fp wr : List Addr} {n : Nat} {P Md : Nat → Value → Heap → Prop} {St : Nat → Heap → Prop} {m₀ : Str → Option Value} {C₀ base : List (Addr × Obj)}
    (J : Nat → List (Str × Value) → List (Addr × Obj) → Prop)
    (W : KTurns prog w A target I fp wr n P Md St) (hLf : env.locals ∉ fp) (hwr : ∀ b ∈ wr, h₀.get? b = none) (hlv : ∀ i h, St i h → ∀ b ∈ fp, ∃ o, h.get? b = some o) (hst : St 0 s.heap) (F : Fr h₀ env.locals s.heap m₀) (N : News h₀ env.locals s.heap (C₀ ++ base))
    (hC : ∀ c ∈ C₀, c.1 ∉ fp) (hB : ∀ p ∈ base, p.1 ∉ wr) (hA : Apart C₀ base) (hj : ∃ kvs₀, Has m₀ kvs₀ ∧ J 0 kvs₀ C₀)
    (turn : ∀ i v m₁ kvs C h tk rest, i < n → P i v h → J i kvs C → (∀ p ∈ base, p ∈ rest) → Apart C rest → Fr h₀ env.locals h (over kvs m₁) → News h₀ env.locals h (C ++ rest) →
      wpAny (model prog w) A (assign target env v) (fun _ s₃ => wpAny (model prog w) A (execs body env) (TurnC h₀ env.locals (J (i + 1)) rest { s with heap := h, toks := tk } Q) E s₃) E { s with heap := h, toks := tk })
    (done : ∀ m₁ kvs C h tk, J n kvs C → Apart C base → Fr h₀ env.locals h (over kvs m₁) → News h₀ env.locals h (C ++ base) → Q .next { s with heap := h, toks := tk }) :
    TurnsAt prog w A h₀ env target body Q E (.ref I) s := by
  obtain ⟨kvs₀, hH, hj⟩ := hj
  let J' : Nat → (Str → Option Value) → List (Addr × Obj) → Prop := fun i m₁ news₁ => ∃ C kvs, news₁ = C ++ base ∧ Has m₁ kvs ∧ J i kvs C ∧ Apart C base ∧ ∀ c ∈ C, c.1 ∉ fp
  refine ⟨I, fp, wr, n, P, Md, St, m₀, C₀ ++ base, J', rfl, W, hLf, hwr, ?_, hst, F, N, ⟨C₀, kvs₀, rfl, hH, hj, hA, hC⟩, ?_, ?_⟩
  · intro p hp
    rcases List.mem_append.mp hp with h | h
    · exact fun hm => hC p h (W.sub _ hm)
    · exact hB p h
  · rintro i v m₁ news₁ hh' tk' own hin hP ⟨C, kvs, rfl, hH₁, hJ, hAp, hCf⟩ hoff hsub hlive hall hst₁ F₁ N₁
    have hAr : Apart C (own ++ base) := by
      intro c hc q hq
      rcases List.mem_append.mp hq with h | h
      · exact fun e => hCf c hc (e ▸ hsub q h)
      · exact hAp c hc q h
    have N₂ : News h₀ env.locals hh' (C ++ (own ++ base)) := fun p hp => N₁ p (by
      rcases List.mem_append.mp hp with h | h
      · exact List.mem_append_right _ (List.mem_append_left _ h)
      · rcases List.mem_append.mp h with h | h
        · exact List.mem_append_left _ h
        · exact List.mem_append_right _ (List.mem_append_right _ h))
    have F₂ : Fr h₀ env.locals hh' (over kvs m₁) := by rw [over_eq hH₁]; exact F₁
    refine wpAny_mono (turn i v m₁ kvs C hh' tk' (own ++ base) hin hP hJ (fun p hp => List.mem_append_right _ hp) hAr F₂ N₂) (fun _ s₃ p₃ => wpAny_mono p₃ (fun f s₂ p => ?_) fun _ _ e => e) fun _ _ e => e
    have fin : TurnC h₀ env.locals (J (i + 1)) (own ++ base) { s with heap := hh', toks := tk' } Q .next s₂ → LoopStepU h₀ env.locals wr own (J' (i + 1)) { s with heap := hh', toks := tk' } .next s₂ := by
      rintro ⟨h', tk, m', C', kvs', e, F', N', hAp', hH', hJ'⟩
      have hCf' : ∀ c ∈ C', c.1 ∉ fp := by
        intro c hc hcf
        have g := N' c (List.mem_append_left _ hc)
        cases hx : hh'.get? c.1 with
        | some o => exact hAp' c hc (c.1, o) (List.mem_append_left _ (hall c.1 hcf g.2.2 o hx)) rfl
        | none => exact absurd hx (by obtain ⟨o, ho⟩ := hlv _ _ hst₁ _ hcf; show ¬ hh'.get? c.1 = none; rw [show hh'.get? c.1 = some o from ho]; simp)
      refine ⟨rfl, h', tk, m', C' ++ base, e, F', fun p hp => N' p ?_, ?_, ⟨C', kvs', rfl, hH', hJ', fun c hc q hq => hAp' c hc q (List.mem_append_right _ hq), hCf'⟩⟩
      · rcases List.mem_append.mp hp with h | h
        · exact List.mem_append_right _ (List.mem_append_left _ h)
        · rcases List.mem_append.mp h with h | h
          · exact List.mem_append_left _ h
          · exact List.mem_append_right _ (List.mem_append_right _ h)
      · intro p hp
        rcases List.mem_append.mp hp with h | h
        · exact fun hm => hCf' p h (W.sub _ hm)
        · exact hB p h
    cases f with
    | ret v => exact .ret p
    | brk => exact .brk p
    | next => exact .next (fin p)
    | cont => exact .cont (fin p)
  · rintro h' tk m' news' F' N' _ ⟨C, kvs, rfl, hH', hJ, hAp, _⟩
    exact done m' kvs C h' tk hJ hAp (by rw [over_eq hH']; exact F') N'
end
section
variable {prog : Program} {w : World} {A : Around} {E : Value → Shared → Prop} {s : Shared}
theorem call_en {t : Addr} {xs : Array Value} {u : Tok} {Q : Value → Shared → Prop} (ht : s.heap.IsTuple t xs)
    (h : ∀ h', IsEnum h' (s.heap.objs.size + 1) s.heap.objs.size 1 .none → h'.IsTupleIter s.heap.objs.size t 0 → h'.objs.size = s.heap.objs.size + 2 →
      (∀ b o, s.heap.get? b = some o → h'.get? b = some o) → Q (.ref (s.heap.objs.size + 1)) { s with heap := h' }) :
    wpAny (model prog w) A (call (.type "enumerate") [.ref t] [(Str.ofString "start", .int 1 u)]) Q E s := by
  refine call_kw F.called_enumerate (by decide) (en_typeCall _ _) (en_newCall _ _) (fun obj => en_args obj _ _) F.entry_enumerate_new (meets_en t xs u) ⟨ht, ?_⟩
  have hz : (enH1 s.heap t).objs.size = s.heap.objs.size + 1 := Heap.size_push ..
  have he := Heap.get?_push_size (enH1 s.heap t) (o := { cls := .type "enumerate", data := .fields #[.none, .bool false, .ref s.heap.objs.size, rawInt 1, .none, .none] }) rfl
  show _ ∧ _
  rw [hz] at he ⊢
  exact ⟨⟨_, he, rfl⟩, h _ he ⟨_, Heap.get?_push_of_some _ (Heap.get?_push_size _ rfl), rfl, rfl⟩ (by rw [Heap.size_push, hz]) fun b o x => Heap.get?_push_of_some _ (Heap.get?_push_of_some _ x)⟩
end
theorem drawsShift {prog : Program} {w : World} {A : Around} {it : Addr} {fp : List Addr} {n : Nat} {P : Nat → Value → Prop} {St : Nat → Heap → Prop} (D : Draws prog w A it fp n P St) :
    Draws prog w A it fp (n + 1) (fun j => P (j - 1)) (fun j h => 1 ≤ j ∧ St (j - 1) h) where
  live := fun i h st => D.live _ _ st.2
  frame := fun i h h' st hk => ⟨st.1, D.frame _ _ _ st.2 hk⟩
  item := fun i s Q E hi st hQ => D.item (i - 1) s Q E (by have := st.1; omega) st.2 fun x h' tk hx hs => hQ x h' tk hx ⟨by omega, by have := st.1; rw [show i + 1 - 1 = i - 1 + 1 by omega]; exact hs⟩
  done := fun s Q E st hE => D.done s Q E st.2 hE
theorem walksShift {prog : Program} {w : World} {A : Around} {I : Addr} {fp wr : List Addr} {n : Nat} {Pt : Nat → Array Value → Prop} {St : Nat → Heap → Prop} {Mid : Nat → Addr → Heap → Prop} (W : WalksT prog w A I fp wr (n + 1) Pt St Mid) :
    WalksT prog w A I fp wr n (fun i => Pt (i + 1)) (fun i => St (i + 1)) (fun i => Mid (i + 1)) where
  sub := W.sub
  frame := fun i => W.frame (i + 1)
  item := fun i s Q E hi st hQ => W.item (i + 1) s Q E (by omega) st hQ
  go := fun elts k pos i T s Q E => W.go elts k pos (i + 1) T s Q E
  apart := fun i => W.apart (i + 1)
  done := W.done
  self := fun i => W.self (i + 1)

section
variable {prog : Program} {w : World} {A : Around} {E : Value → Shared → Prop} {s : Shared} {env : Env} {h₀ : Heap} {elts : List Expr} {k : Nat} {pos : Pos} {body : List Stmt} {Q : Flow → Shared → Prop}
/-- for i, c in enumerate(t, start=1), with an invariant -/
theorem en_inv {t : Addr} {vs : List Value} {xs : List Int} {nt : Nat} {u : Tok} {m₀ : Str → Option Value} {C₀ base : List (Addr × Obj)}
    (J : Nat → List (Str × Value) → List (Addr × Obj) → Prop)
    (hh : A.handled = none) (F : Fr h₀ env.locals s.heap m₀) (N : News h₀ env.locals s.heap (C₀ ++ base)) (hm : (t, tupOf vs nt) ∈ base) (hi : IntsAre vs xs)
    (hA : Apart C₀ base) (hj : ∃ kvs₀, Has m₀ kvs₀ ∧ J 0 kvs₀ C₀)
    (turn : ∀ i T ti tx m₁ kvs C h tk rest, i < xs.length → IsTup h T #[.int ((i : Int) + 1) ti, .int (xs.getD i 0) tx] → J i kvs C → (∀ p ∈ base, p ∈ rest) → Apart C rest → Fr h₀ env.locals h (over kvs m₁) → News h₀ env.locals h (C ++ rest) →
      wpAny (model prog w) A (assign (.Tuple elts k pos) env (.ref T)) (fun _ s₃ => wpAny (model prog w) A (execs body env) (TurnC h₀ env.locals (J (i + 1)) rest { s with heap := h, toks := tk } Q) E s₃) E { s with heap := h, toks := tk })
    (done : ∀ m₁ kvs C h tk, J xs.length kvs C → Apart C base → Fr h₀ env.locals h (over kvs m₁) → News h₀ env.locals h (C ++ base) → Q .next { s with heap := h, toks := tk }) :
    wpAny (model prog w) A (call (.type "enumerate") [.ref t] [(Str.ofString "start", .int 1 u)]) (fun xv s₁ => wpAny (model prog w) A (pyIter xv) (fun it s₂ => TurnsAt prog w A h₀ env (.Tuple elts k pos) body Q E it s₂) E s₁) E s := by
  have gt := N _ (List.mem_append_right _ hm)
  have hlt : t < s.heap.objs.size := Heap.lt_size gt.1
  refine call_en ⟨_, gt.1, rfl, nt, rfl⟩ fun h' hE hI hsz hk => ?_
  refine wpAny_pyIter_enum (s := { s with heap := h' }) hE ?_
  have D := drawsTuple (prog := prog) (w := w) (A := A.in1) (by simp [hh]) s.heap.objs.size t (Nat.ne_of_lt hlt) vs.toArray
  have hsz' : vs.toArray.size = xs.length := by rw [List.size_toArray, hi.length]
  rw [hsz'] at D
  have W := walksShift (WalksT.enumerateD (drawsShift D) (s.heap.objs.size + 1) (Nat.succ_ne_self _) (by intro hx; rcases List.mem_cons.mp hx with e | hx; exact Nat.succ_ne_self _ e; exact absurd hlt (by rw [← List.mem_singleton.mp hx]; exact Nat.not_lt.mpr (Nat.le_succ _))) (List.mem_cons_self ..))
  obtain ⟨F', N'⟩ := keep_ledger F N fun b o _ e => hk b o e
  have hnew : ∀ b, s.heap.objs.size ≤ b → h₀.get? b = none := fun b hb => ktu_new F hb
  have hLs : env.locals < s.heap.objs.size := F.ns.lt
  refine turns_inv (s := { s with heap := h' }) J (KTurns.ofWalksU W.toU) ?_ ?_ ?_ ?_ F' N' ?_ ?_ hA hj ?_ ?_
  · intro hx
    rcases List.mem_cons.mp hx with e | hx
    · exact absurd hLs (by rw [e]; exact Nat.not_lt.mpr (Nat.le_succ _))
    · rcases List.mem_cons.mp hx with e | hx
      · exact absurd hLs (by rw [e]; exact Nat.lt_irrefl _)
      · exact gt.2.1 (List.mem_singleton.mp hx).symm
  · intro b hb
    rcases List.mem_cons.mp hb with rfl | hb
    · exact hnew _ (Nat.le_succ _)
    · rw [List.mem_singleton.mp hb]; exact hnew _ (Nat.le_refl _)
  · intro i h st b hb
    obtain ⟨⟨old, he⟩, _, ⟨oi, hoi, _⟩, ⟨ot, hot, _⟩⟩ := st
    rcases List.mem_cons.mp hb with rfl | hb
    · exact ⟨_, he⟩
    · rcases List.mem_cons.mp hb with rfl | hb
      · exact ⟨_, hoi⟩
      · rw [List.mem_singleton.mp hb]; exact ⟨_, hot⟩
  · exact ⟨⟨.none, hE⟩, Nat.le_refl _, hI, ⟨_, hk _ _ gt.1, rfl, nt, rfl⟩⟩
  · intro c hc hx
    have hcl := Heap.lt_size (N c (List.mem_append_left _ hc)).1
    rcases List.mem_cons.mp hx with e | hx
    · exact absurd hcl (by rw [e]; exact Nat.not_lt.mpr (Nat.le_succ _))
    · rcases List.mem_cons.mp hx with e | hx
      · exact absurd hcl (by rw [e]; exact Nat.lt_irrefl _)
      · exact hA c hc _ hm (List.mem_singleton.mp hx)
  · intro c hc hx
    have hcl := Heap.lt_size (N c (List.mem_append_right _ hc)).1
    rcases List.mem_cons.mp hx with e | hx
    · exact absurd hcl (by rw [e]; exact Nat.not_lt.mpr (Nat.le_succ _))
    · exact absurd hcl (by rw [List.mem_singleton.mp hx]; exact Nat.lt_irrefl _)
  · rintro i v m₁ kvs C h tk rest hlt' ⟨T, vals, rfl, ⟨ti, x, hx, rfl⟩, hT⟩ hJ hsub hAp F₁ N₁
    obtain ⟨tx, hxs⟩ := hi.get i (xs.getD i 0) (by rw [List.getD_eq_getElem?_getD, List.getElem?_eq_getElem hlt']; rfl)
    have hx' : vs[i]? = some x := by simpa using hx
    rw [hxs] at hx'
    obtain rfl := Option.some.inj hx'
    exact turn i T ti tx m₁ kvs C h tk rest hlt' (by have e : ((i + 1 : Nat) : Int) = (i : Int) + 1 := by omega
                                                     rw [← e]; exact hT) hJ hsub hAp F₁ N₁
  · intro m₁ kvs C h tk hJ hAp F₁ N₁
    exact done m₁ kvs C h tk hJ hAp F₁ N₁
end
section
theorem callWith_TK {M : Model} {A : Around} {E : Value → Shared → Prop} {s : Shared} {env : Env} {pos : Pos} {T : String} {Q : Value → Shared → Prop} {e : Expr} {rest : List Expr} {kws : List Keyword} (hall : (backToKw pos (keywordEach kws env)).all (·.1.isSome) = true)
    (h : wpAny M A (spliced (backTo pos (starEach (e :: rest) env))) (fun vs s₁ => wpAny M A (evalAll ((backToKw pos (keywordEach kws env)).map (·.2)))
      (fun ks s₂ => wpAny M A (call (.type T) ([] ++ vs) (((backToKw pos (keywordEach kws env)).filterMap (·.1)).zip ks)) Q E s₂) E s₁) E s)
    (hplain : ((backTo pos (starEach (e :: rest) env)).any (·.1) || (backToKw pos (keywordEach kws env)).any (·.1.isNone)) = false := by rfl) (he : starEach (e :: rest) env = (false, eval e env) :: starEach rest env := by rfl) :
    wpAny M A (callWith pos (.type T) [] (backTo pos (starEach (e :: rest) env)) (backToKw pos (keywordEach kws env))) Q E s :=
  callWith_of (P := fun _ => True) hplain (fun h _ => ⟨.machine, .inr (.inl rfl), Looks.of_pure rfl⟩) (evalArgs_kw2 hall (wpAny_mono h (fun _ _ h₁ => wpAny_mono h₁ (fun _ _ h₂ => ⟨trivial, h₂⟩) fun _ _ z => z) fun _ _ z => z) he)
end
end

section
open PySem.Calls
theorem atKey_stored {K : Type} [DecidableEq K] {xs : List (K × Addr × Value)} {k k' : K} {a : Addr} {v : Value} :
    (atKey (storedH xs k a v) k').map (·.2) = if k' = k then some v else (atKey xs k').map (·.2) := by
  rw [← valueAt_kvsOf, kvsOf_storedH, ← valueAt_kvsOf]
  generalize kvsOf xs = kvs
  unfold stored
  by_cases ha : kvs.any (fun kv => decide (kv.1 = k)) = true
  · rw [if_pos ha]
    have hm : ∀ l : List (K × Value), valueAt (l.map fun kv => if kv.1 = k then (kv.1, v) else kv) k' = if k' = k then (valueAt l k').map fun _ => v else valueAt l k' := by
      intro l
      induction l with
      | nil => simp [valueAt]
      | cons y l ih =>
        obtain ⟨y1, y2⟩ := y
        by_cases h1 : y1 = k
        · subst h1
          by_cases h2 : y1 = k'
          · subst h2; simp [valueAt]
          · have h3 : ¬ k' = y1 := fun e => h2 e.symm
            rw [if_neg h3] at ih ⊢
            simp only [valueAt, List.map_cons] at ih ⊢
            simp only [if_true, List.find?_cons, h2, decide_false] at ih ⊢
            exact ih
        · by_cases h2 : y1 = k'
          · subst h2
            simp [valueAt, h1]
          · simp only [valueAt, List.map_cons, h1, if_false, List.find?_cons, h2, decide_false] at ih ⊢
            exact ih
    rw [hm]
    by_cases e : k' = k
    · subst e
      rw [if_pos rfl, if_pos rfl]
      have : (valueAt kvs k').isSome = true := by rw [valueAt_isSome_eq_any]; exact ha
      cases hv : valueAt kvs k' with
      | none => rw [hv] at this; cases this
      | some _ => rfl
    · rw [if_neg e, if_neg e]
  · rw [if_neg ha]
    have hn : valueAt kvs k = none := by
      cases hv : valueAt kvs k with
      | none => rfl
      | some _ => exact absurd (by rw [← valueAt_isSome_eq_any, hv]; rfl) ha
    unfold valueAt at hn ⊢
    rw [List.find?_append]
    by_cases e : k' = k
    · subst e
      rw [if_pos rfl]
      cases hf : kvs.find? (fun kv => decide (kv.1 = k')) with
      | none => simp
      | some _ => rw [hf] at hn; cases hn
    · rw [if_neg e]
      cases hf : kvs.find? (fun kv => decide (kv.1 = k')) with
      | none => simp [Ne.symm e, List.find?_cons]; 
      | some _ => simp
def upd2 (f : Int → Int → Option Int) (a b x : Int) (a' b' : Int) : Option Int := if a' = a ∧ b' = b then some x else f a' b'
/-- a dict keyed by pairs of ints, with its keys, on the ledger C -/
def TabC (prog : Program) (w : World) (d : Addr) (f : Int → Int → Option Int) (k : Nat) (C : List (Addr × Obj)) : Prop :=
  ∃ o es ep xs, (d, o) ∈ C ∧ o.ExactDict ∧ o.data = .dict es ep ∧ es.toList = xs.map (entryOfKey (tupleKind (intKind prog w))) ∧ (xs.map (·.1)).Nodup ∧ xs.length ≤ k ∧
    (∀ x ∈ xs, ∃ ok, (x.2.1, ok) ∈ C ∧ TupKeyObj (intKind prog w) x.1 ok) ∧ ∀ a b v, f a b = some v → ∃ t, (atKey xs [a, b]).map (·.2) = some (Value.int v t)
def IntD (prog : Program) (w : World) (o : Obj) (g : Int → Int) (k : Nat) : Prop :=
  ∃ kvs, o.IsDictOf (intKind prog w) kvs ∧ kvs.length ≤ k ∧ ∀ c, match valueAt kvs c with | some v => ∃ t, v = Value.int (g c) t | none => g c = 0
section
variable {prog : Program} {w : World} {A : Around} {E : Value → Shared → Prop} {s : Shared} {h₀ h : Heap} {L d T : Addr} {m : Str → Option Value} {big C R : List (Addr × Obj)} {f : Int → Int → Option Int} {k n : Nat} {a b x : Int} {ta tb u : Tok}
theorem TabC.empty {o : Obj} (h : o.IsDictOf (intKind prog w) []) : TabC prog w d (fun _ _ => none) 0 [(d, o)] := by
  obtain ⟨es, ep, hc, hd, _, hp, _⟩ := h
  exact ⟨o, es, ep, [], List.Mem.head _, hc, hd, List.length_eq_zero_iff.mp hp.length, List.nodup_nil, Nat.le_refl _, (fun _ hx => by simp at hx), (fun _ _ _ e => by cases e)⟩
theorem IntD.empty {o : Obj} (h : o.IsDictOf (intKind prog w) []) : IntD prog w o (fun _ => 0) 0 := ⟨[], h, Nat.le_refl _, fun _ => rfl⟩
theorem pairKey : TupKeyObj (intKind prog w) [a, b] (tupOf [.int a ta, .int b tb] n) := ⟨rfl, _, n, rfl, .cons (intKind_is prog w a ta) (.cons (intKind_is prog w b tb) .nil)⟩
theorem TabC.at (hT : TabC prog w d f k C) (N : News h₀ L h C) : ∃ xs, h.DictOfH (tupleKind (intKind prog w)) d xs ∧ xs.length ≤ k ∧ ∀ a b v, f a b = some v → ∃ t, (atKey xs [a, b]).map (·.2) = some (Value.int v t) := by
  obtain ⟨o, es, ep, xs, hm, hc, hd, he, hn, hk, hx, hf⟩ := hT
  exact ⟨xs, ⟨o, es, ep, N.get hm, hc, hd, he, fun x hxx => let ⟨_, hmk, t⟩ := hx x hxx; t.key (N.get hmk), hn⟩, hk, hf⟩
theorem tab_get {value slice : PySem.Expr} {Q : Value → Shared → Prop} (hu : A.units + 1 < cLine) (N : News h₀ L s.heap big) (hT : TabC prog w d f k C) (hs : ∀ p ∈ C, p ∈ big) (hm : (T, tupOf [.int a ta, .int b tb] n) ∈ big) (hf : f a b = some x)
    (h : ∀ t tk, Q (.int x t) { s with toks := tk })
    (hsb : subscripted slice false (.ref d) (.ref T) = operate [.ref d, .ref T] (getItem (.ref d) (.ref T)) := by with_unfolding_all rfl) (hg : ∀ r, letTemporaryGo value (.ref d) r = pure () := by intro _; with_unfolding_all rfl) :
    wpAny (model prog w) A (subscriptTail value slice (.ref d) (.ref T)) Q E s := by
  obtain ⟨xs, hd, _, hv⟩ := hT.at (h := s.heap) (h₀ := h₀) (L := L) fun p hp => N p (hs p hp)
  obtain ⟨t, hv⟩ := hv a b x hf
  obtain ⟨p, hp, e⟩ := Option.map_eq_some_iff.mp hv
  have q := h t (s.toks + 3)
  rw [← e] at q
  exact subscriptTail_builtin hd.typeIs slot_dict_getitem.lookup (wpAny_getItem_heap (knd := tupleKind (intKind prog w)) (tupleKind_room_in1 hu) (pairKey.key (N.get hm)) hd hp q) hsb hg
theorem tab_set {Q : Unit → Shared → Prop} (hu : A.units + 1 < cLine) (F : Fr h₀ L s.heap m) (N : News h₀ L s.heap big) (hT : TabC prog w d f k C) (hs : ∀ p ∈ C ++ R, p ∈ big) (hA : Apart C R)
    (hm : (T, tupOf [.int a ta, .int b tb] n) ∈ big) (hTR : ∀ p ∈ R, p.1 ≠ T) (hk : k ≤ 1000000)
    (h : ∀ h' C' tk, Fr h₀ L h' m → News h₀ L h' (C' ++ R) → TabC prog w d (upd2 f a b x) (k + 1) C' → Apart C' R → Q () { s with heap := h', toks := tk }) :
    wpAny (model prog w) A (setItem (.ref d) (.ref T) (.int x u)) Q E s := by
  obtain ⟨o, es, ep, xs, hmd, hc, hd, he, hn, hkk, hx, hf⟩ := hT
  have NC : News h₀ L s.heap C := fun p hp => N p (hs p (List.mem_append_left _ hp))
  have hD : s.heap.DictOfH (tupleKind (intKind prog w)) d xs := ⟨o, es, ep, NC.get hmd, hc, hd, he, fun y hy => let ⟨_, hmk, t⟩ := hx y hy; t.key (NC.get hmk), hn⟩
  have hdbig := N _ (hs _ (List.mem_append_left _ hmd))
  have hne : ∀ {y : Addr} {oy : Obj}, s.heap.get? y = some oy → oy.cls = .type "tuple" → y ≠ d := by
    intro y oy g hcl e
    subst e
    have h1 := g.symm.trans hdbig.1
    obtain rfl := Option.some.inj h1
    rw [hc.1] at hcl
    injection hcl with h2
    exact absurd h2 (by decide)
  have hTd : T ≠ d := hne (N _ hm).1 rfl
  have hsz : xs.length ≤ sizeLine := by have : sizeLine = 16777216 := by decide
                                        omega
  refine wpAny_setItem_heap (hsz := hsz) (knd := tupleKind (intKind prog w)) (tupleKind_room_in1 hu) (pairKey.key (N.get hm)) hD fun h' hm' hsame => ?_
  obtain ⟨o', es', ep', ho', hc', hd', he', _, hn'⟩ := hm'
  have keepC : ∀ p ∈ C, p.1 ≠ d → p ∈ C.map fun p => if p.1 = d then (d, o') else p := fun p hp hpd => List.mem_map.mpr ⟨p, hp, by simp [hpd]⟩
  have F' := F.change hsame hdbig.2.1 hdbig.2.2
  refine h h' ((T, tupOf [.int a ta, .int b tb] n) :: C.map fun p => if p.1 = d then (d, o') else p) _ F' ?_ ?_ ?_
  · intro p hp
    rcases List.mem_append.mp hp with hp | hp
    · rcases List.mem_cons.mp hp with rfl | hp
      · exact ⟨(hsame.2 T hTd).trans (N _ hm).1, (N _ hm).2⟩
      · obtain ⟨q, hq, rfl⟩ := List.mem_map.mp hp
        by_cases e : q.1 = d
        · rw [if_pos e]; exact ⟨ho', hdbig.2⟩
        · rw [if_neg e]; exact ⟨(hsame.2 _ e).trans (NC q hq).1, (NC q hq).2⟩
    · have := N p (hs p (List.mem_append_right _ hp))
      exact ⟨(hsame.2 _ (Ne.symm (hA _ hmd p hp))).trans this.1, this.2⟩
  · refine ⟨o', es', ep', storedH xs [a, b] T (.int x u), List.mem_cons_of_mem _ (List.mem_map.mpr ⟨(d, o), hmd, by simp⟩), hc', hd', he', hn', ?_, ?_, ?_⟩
    · unfold storedH; split
      · rw [List.length_map]; omega
      · rw [List.length_append]; simp; omega
    · intro y hy
      rcases mem_storedH hy with ⟨z, hz, e1, e2⟩ | ⟨e1, e2⟩
      · obtain ⟨oky, hmk, t⟩ := hx z hz
        exact ⟨oky, by rw [e2]; exact List.mem_cons_of_mem _ (keepC _ hmk (hne (NC.get hmk) t.1)), by rw [e1]; exact t⟩
      · exact ⟨_, by rw [e2]; exact List.mem_cons_self .., by rw [e1]; exact pairKey⟩
    · intro a' b' v e
      rw [atKey_stored]
      unfold upd2 at e
      by_cases q : a' = a ∧ b' = b
      · rw [if_pos q] at e
        rw [if_pos (by rw [q.1, q.2])]
        exact ⟨u, by rw [Option.some.inj e]⟩
      · rw [if_neg q] at e
        rw [if_neg (fun e' => q (by simpa using e'))]
        exact hf a' b' v e
  · intro c hcc p hp
    rcases List.mem_cons.mp hcc with rfl | hcc
    · exact Ne.symm (hTR p hp)
    · obtain ⟨q, hq, rfl⟩ := List.mem_map.mp hcc
      by_cases e : q.1 = d
      · rw [if_pos e]; exact hA _ hmd p hp
      · rw [if_neg e]; exact hA q hq p hp
theorem intd_meth {o : Obj} {g : Int → Int} {pl : Sem Bool} {Q : Value × List Value → Shared → Prop} (N : News h₀ L s.heap big) (hm : (d, o) ∈ big) (hI : IntD prog w o g k) (h : Q (.builtin "dict.get", [.ref d]) s) :
    wpAny (model prog w) A (getMethod (.ref d) "get" pl) Q E s := by
  obtain ⟨kvs, hd, _⟩ := hI
  have hD : s.heap.DictOf (intKind prog w) d kvs := Heap.dictOf_iff.mpr ⟨o, N.get hm, hd⟩
  exact getMethod_builtin hD.typeIs PySem.F.plainAttrs_dict PySem.F.slot_dict_get PySem.F.type_dict_get hD.mapOf.noDict h
theorem intd_get {o : Obj} {g : Int → Int} {c : Int} {tc tz : Tok} {Q : Value → Shared → Prop} (lo : (d == sysModules) = false) (N : News h₀ L s.heap big) (hm : (d, o) ∈ big) (hI : IntD prog w o g k) (h : ∀ t tk, Q (.int (g c) t) { s with toks := tk }) :
    wpAny (model prog w) A (call (.builtin "dict.get") [.ref d, .int c tc, .int 0 tz]) Q E s := by
  obtain ⟨kvs, hd, _, hv⟩ := hI
  have hD : s.heap.DictOf (intKind prog w) d kvs := Heap.dictOf_iff.mpr ⟨o, N.get hm, hd⟩
  refine call_meetsIn PySem.F.slot_dict_get hD.typeIs PySem.F.entry_dict_get (PySem.F.args_dict_get_3 _ _ _) (meets_dict_get_default (intKind prog w) d (intKind_is prog w c tc) lo (.int 0 tz)) ⟨_, hD.mapOf, ?_⟩
  have hvc := hv c
  cases e : valueAt kvs c with
  | none => rw [e] at hvc; have q := h tz (s.toks + 1); rw [hvc] at q; exact q
  | some v => rw [e] at hvc; obtain ⟨t, rfl⟩ := hvc; exact h t (s.toks + 1)
theorem valueAt_stored' {K : Type} [DecidableEq K] (kvs : List (K × Value)) (k k' : K) (v : Value) : valueAt (stored kvs k v) k' = if k' = k then some v else valueAt kvs k' := by
  have h := atKey_stored (xs := kvs.map fun y => (y.1, ((0 : Nat), y.2))) (k := k) (k' := k') (a := (0 : Nat)) (v := v)
  have e : kvsOf (kvs.map fun y => (y.1, ((0 : Nat), y.2))) = kvs := by simp [kvsOf, List.map_map, Function.comp_def]
  rw [← valueAt_kvsOf, ← valueAt_kvsOf, kvsOf_storedH, e] at h
  exact h
theorem intd_set {o : Obj} {g : Int → Int} {c : Int} {tc : Tok} {Q : Unit → Shared → Prop} (F : Fr h₀ L s.heap m) (N : News h₀ L s.heap big) (hm : (d, o) ∈ big) (hI : IntD prog w o g k) (hs : ∀ p ∈ R, p ∈ big) (hR : ∀ p ∈ R, p.1 ≠ d) (hk : k ≤ 1000000)
    (h : ∀ h' o' tk, Fr h₀ L h' m → News h₀ L h' ((d, o') :: R) → IntD prog w o' (fun y => if y = c then x else g y) (k + 1) → Q () { s with heap := h', toks := tk }) :
    wpAny (model prog w) A (setItem (.ref d) (.int c tc) (.int x u)) Q E s := by
  obtain ⟨kvs, hd, hkk, hv⟩ := hI
  have hD : s.heap.DictOf (intKind prog w) d kvs := Heap.dictOf_iff.mpr ⟨o, N.get hm, hd⟩
  have hdb := N _ hm
  have hsz : kvs.length ≤ sizeLine := by have : sizeLine = 16777216 := by decide
                                         omega
  refine wpAny_setItem_pairs (hsz := hsz) (intKind_is prog w c tc) hD fun h' hD' hsame => ?_
  obtain ⟨o', ho', hd'⟩ := Heap.dictOf_iff.mp hD'
  refine h h' o' _ (F.change hsame hdb.2.1 hdb.2.2) ?_ ⟨_, hd', Nat.le_trans (stored_length_le _ _ _) (Nat.succ_le_succ hkk), fun y => ?_⟩
  · intro p hp
    rcases List.mem_cons.mp hp with rfl | hp
    · exact ⟨ho', hdb.2⟩
    · exact ⟨(hsame.2 _ (hR p hp)).trans (N p (hs p hp)).1, (N p (hs p hp)).2⟩
  · rw [valueAt_stored']
    by_cases e : y = c
    · subst e; simp only [if_true]; exact ⟨u, rfl⟩
    · simp only [if_neg e]; exact hv y
end
end

section
open PySem.Calls
section
variable {prog : Program} {w : World} {A : Around} {E : Value → Shared → Prop} {s : Shared} {env : Env} {h₀ : Heap} {x : Str} {body : List Stmt} {Q : Flow → Shared → Prop}
/-- a loop over a list of ints on the ledger, with an invariant -/
theorem list_inv {l : Addr} {vs : List Value} {ns : List Int} {c : Nat} {m₀ : Str → Option Value} {C₀ base : List (Addr × Obj)}
    (J : Nat → List (Str × Value) → List (Addr × Obj) → Prop)
    (hh : A.handled = none) (F : Fr h₀ env.locals s.heap m₀) (N : News h₀ env.locals s.heap (C₀ ++ base)) (hm : (l, listOf vs.toArray c) ∈ base) (hi : IntsAre vs ns)
    (hA : Apart C₀ base) (hj : ∃ kvs₀, Has m₀ kvs₀ ∧ J 0 kvs₀ C₀)
    (turn : ∀ i t m₁ kvs C h tk rest, i < ns.length → J i kvs C → (∀ p ∈ base, p ∈ rest) → Apart C rest → Fr h₀ env.locals h (fun y => if y = x then some (.int (ns.getD i 0) t) else over kvs m₁ y) → News h₀ env.locals h (C ++ rest) →
      wpAny (model prog w) A (execs body env) (TurnC h₀ env.locals (J (i + 1)) rest { s with heap := h, toks := tk } Q) E { s with heap := h, toks := tk })
    (done : ∀ m₁ kvs C h tk, J ns.length kvs C → Apart C base → Fr h₀ env.locals h (over kvs m₁) → News h₀ env.locals h (C ++ base) → Q .next { s with heap := h, toks := tk }) :
    wpAny (model prog w) A (pyIter (.ref l)) (fun it s₂ => LoopAtV prog w A h₀ env x body Q E it s₂) E s := by
  have gl := N _ (List.mem_append_right _ hm)
  have hll : l < s.heap.objs.size := Heap.lt_size gl.1
  have hl : s.heap.IsList l vs.toArray := ⟨_, gl.1, rfl, c, rfl⟩
  refine wpAny_pyIter_list hl ?_
  have W := Walks.list (prog := prog) (w := w) hh s.heap.objs.size l (Nat.ne_of_lt hll) vs.toArray
  have hlen : vs.toArray.size = ns.length := by simp [hi.length]
  rw [hlen] at W
  have hold : ∀ p ∈ C₀ ++ base, p.1 ≠ s.heap.objs.size := fun p hp => Nat.ne_of_lt (Heap.lt_size (N p hp).1)
  refine loop_inv J W ?_ ?_ (fun i h st b hb => ?_) ⟨⟨_, Heap.get?_push_size _ rfl, rfl, rfl⟩, hl.push _⟩ (F.push _)
    (fun p hp => ⟨Heap.get?_push_of_some _ (N p hp).1, (N p hp).2⟩) (fun p hp hx => ?_) (fun p hp hx => hold p (List.mem_append_right _ hp) (List.mem_singleton.mp hx)) hA hj ?_ ?_
  · intro hx
    rcases List.mem_cons.mp hx with e | hx
    · exact absurd F.ns.lt (e ▸ Nat.lt_irrefl _)
    · exact gl.2.1 (List.mem_singleton.mp hx).symm
  · intro b hb
    rw [List.mem_singleton.mp hb]
    exact next_is_new F
  · rcases List.mem_cons.mp hb with rfl | hb
    · exact let ⟨o, e, _⟩ := st.1; ⟨o, e⟩
    · rw [List.mem_singleton.mp hb]; exact let ⟨o, e, _⟩ := st.2; ⟨o, e⟩
  · rcases List.mem_cons.mp hx with e | hx
    · exact hold p (List.mem_append_left _ hp) e
    · exact hA p hp _ hm (List.mem_singleton.mp hx)
  · rintro i v m₁ kvs C h tk rest hlt hP hJ hsub hAp F₁ N₁
    obtain ⟨t, hx⟩ := hi.get i (ns.getD i 0) (by rw [List.getD_eq_getElem?_getD, List.getElem?_eq_getElem hlt]; rfl)
    have hx' : vs[i]? = some v := by simpa using hP
    rw [hx] at hx'
    obtain rfl := Option.some.inj hx'
    exact turn i t m₁ kvs C h tk rest hlt hJ hsub hAp F₁ N₁
  · intro m₁ kvs C h tk hJ hAp F₁ N₁
    exact done m₁ kvs C h tk hJ hAp F₁ N₁
end
end

section
open PySem.Calls
section
variable {M : Model} {A : Around} {E : Value → Shared → Prop} {s : Shared} {h₀ : Heap} {L : Addr} {m : Str → Option Value} {news : List (Addr × Obj)}
theorem newsNil {h : Heap} (_F : Fr h₀ L h m) : News h₀ L h [] := fun _ h => nomatch h
/-- the ways of an expression meet again: an int -/
theorem cut_int {t : Sem Value} {Q : Value → Shared → Prop} (P : Int → Prop) (_F : Fr h₀ L s.heap m)
    (h : wpAny M A t (fun v s' => ∃ p tk h' k, v = Value.int p tk ∧ P p ∧ s' = { s with heap := h', toks := k } ∧ Fr h₀ L h' m) E s)
    (k : ∀ p tk h' kk, P p → Fr h₀ L h' m → Q (.int p tk) { s with heap := h', toks := kk }) : wpAny M A t Q E s :=
  wpAny_mono h (fun v s' hv => by obtain ⟨p, tk, h', kk, rfl, hp, rfl, F⟩ := hv; exact k p tk h' kk hp F) fun _ _ e => e
theorem take2' {h : Heap} {t c : Addr × Obj} {r : List (Addr × Obj)} (N : News h₀ L h (c :: t :: r)) : News h₀ L h (c :: r) := fun p hp => by
  rcases List.mem_cons.mp hp with rfl | hp
  · exact N _ (.head _)
  · exact N _ (.tail _ (.tail _ hp))
def MetL (h₀ : Heap) (L : Addr) (m : Str → Option Value) (news : List (Addr × Obj)) (P : List Int → Prop) (s : Shared) (v : Value) (s' : Shared) : Prop :=
  ∃ D vs ns c h' k, v = Value.ref D ∧ IntsAre vs ns ∧ P ns ∧ s' = { s with heap := h', toks := k } ∧ Fr h₀ L h' m ∧ News h₀ L h' ((D, listOf (List.toArray vs) c) :: news) ∧ ∀ p ∈ news, p.1 < D
theorem MetL.intro {P : List Int → Prop} {D : Addr} {vs : List Value} {ns : List Int} {c : Nat} {h' : Heap} {k : Nat} (F : Fr h₀ L h' m) (N : News h₀ L h' ((D, listOf (List.toArray vs) c) :: news)) (hi : IntsAre vs ns) (hp : P ns) (hl : ∀ p ∈ news, p.1 < D) :
    MetL h₀ L m news P s (.ref D) { s with heap := h', toks := k } := ⟨D, vs, ns, c, h', k, rfl, hi, hp, rfl, F, N, hl⟩
/-- the ways of an expression meet again: a list of ints -/
theorem cut_list {t : Sem Value} {Q : Value → Shared → Prop} (P : List Int → Prop) (_F : Fr h₀ L s.heap m) (_N : News h₀ L s.heap news)
    (h : wpAny M A t (MetL h₀ L m news P s) E s)
    (k : ∀ D vs ns c h' kk, IntsAre vs ns → P ns → Fr h₀ L h' m → News h₀ L h' ((D, listOf (List.toArray vs) c) :: news) → (∀ p ∈ news, p.1 < D) → Q (.ref D) { s with heap := h', toks := kk }) : wpAny M A t Q E s :=
  wpAny_mono h (fun v s' hv => by obtain ⟨D, vs, ns, c, h', kk, rfl, hi, hp, rfl, F, N, l⟩ := hv; exact k D vs ns c h' kk hi hp F N l) fun _ _ e => e
end
end

section
open PySem.Calls
section
variable {prog : Program} {w : World} {A : Around} {E : Value → Shared → Prop} {s : Shared} {h₀ : Heap} {L R : Addr} {m : Str → Option Value} {news : List (Addr × Obj)}
theorem fmod3 (x : Int) : x.fmod 3 = 0 ∨ x.fmod 3 = 1 ∨ x.fmod 3 = 2 := by
  have h1 := Int.fmod_nonneg_of_pos x (b := 3) (by decide)
  have h2 := Int.fmod_lt_of_pos x (b := 3) (by decide)
  omega
/-- one of three rows, by a number's rest -/
theorem row3 {value slice : PySem.Expr} {a b c : Addr} {n : Nat} {x : Int} {u : Tok} {Q : Value → Shared → Prop} (N : News h₀ L s.heap news) (hm : (R, listOf #[.ref a, .ref b, .ref c] n) ∈ news)
    (h : ∀ i l, i = x.fmod 3 → (i = 0 ∧ l = a) ∨ (i = 1 ∧ l = b) ∨ (i = 2 ∧ l = c) → Q (.ref l) s)
    (hs : subscripted slice false (.ref R) (.int (x.fmod 3) u) = operate [.ref R, .int (x.fmod 3) u] (getItem (.ref R) (.int (x.fmod 3) u)) := by with_unfolding_all rfl) :
    wpAny (model prog w) A (subscriptTail value slice (.ref R) (.int (x.fmod 3) u)) Q E s := by
  have hl : s.heap.IsList R #[.ref a, .ref b, .ref c] := ⟨_, (N _ hm).1, rfl, n, rfl⟩
  have h3 := fmod3 x
  rcases h3 with e | e | e
  · exact item_listR hl (by omega) (by omega) (x := .ref a) (by rw [e]; rfl) (h _ a rfl (.inl ⟨e, rfl⟩)) hs
  · exact item_listR hl (by omega) (by omega) (x := .ref b) (by rw [e]; rfl) (h _ b rfl (.inr (.inl ⟨e, rfl⟩))) hs
  · exact item_listR hl (by omega) (by omega) (x := .ref c) (by rw [e]; rfl) (h _ c rfl (.inr (.inr ⟨e, rfl⟩))) hs
end
section
variable {prog : Program} {w : World} {A : Around} {E : Value → Shared → Prop} {s : Shared} {h₀ : Heap} {L D : Addr} {m : Str → Option Value} {news news' : List (Addr × Obj)} {vs : List Value} {ks : List Int} {n : Nat} {x : Int} {u : Tok}
theorem ints_snoc : ∀ {vs : List Value} {ks : List Int}, IntsAre vs ks → IntsAre (vs ++ [Value.int x u]) (ks ++ [x])
  | _, _, .nil => .cons _ _ .nil
  | _, _, .cons a t h => .cons a t (ints_snoc h)
theorem push_N {Q : Value → Shared → Prop} (F : Fr h₀ L s.heap m) (N : News h₀ L s.heap news) (hi : IntsAre vs ks) (hz : ks.length ≤ 1000) (U : Upd D (listOf vs.toArray n) (listOf (List.toArray (vs ++ [Value.int x u])) (n + 1)) news news')
    (h : ∀ h', Fr h₀ L h' m → News h₀ L h' news' → IntsAre (vs ++ [Value.int x u]) (ks ++ [x]) → Q .none { s with heap := h' }) : wpAny (model prog w) A (call (.builtin "list.append") [.ref D, .int x u]) Q E s := by
  obtain ⟨pre, post, rfl, rfl, a, b⟩ := U.split
  have z := N (D, listOf vs.toArray n) (List.mem_append.mpr (.inr (.head _)))
  have hsz : vs.toArray.size ≤ sizeLine := by
    have h1 : sizeLine = 16777216 := by decide
    rw [List.size_toArray, hi.length, h1]; omega
  refine append_at (hsz := hsz) (its := vs.toArray) (n := n) z.1 fun h' hs ho => h h' (F.change hs z.2.1 z.2.2) (fun p hp => ?_) (ints_snoc hi)
  rcases List.mem_append.mp hp with hp | hp
  · have := N p (List.mem_append.mpr (.inl hp))
    exact ⟨(hs.2 _ (a p hp)).trans this.1, this.2⟩
  · rcases List.mem_cons.mp hp with rfl | hp
    · refine ⟨?_, z.2⟩
      rw [ho]
      simp [W.listOf]
    · have := N p (List.mem_append.mpr (.inr (.tail _ hp)))
      exact ⟨(hs.2 _ (b p hp)).trans this.1, this.2⟩
end
section
variable {a b c : Addr} {o1 o2 o3 : Obj} {R : List (Addr × Obj)}
theorem apart3a (h : Apart [(a, o1), (b, o2), (c, o3)] R) : ∀ p ∈ R, p.1 ≠ a := fun p hp => Ne.symm (h _ (.head _) p hp)
theorem apart3b (h : Apart [(a, o1), (b, o2), (c, o3)] R) : ∀ p ∈ R, p.1 ≠ b := fun p hp => Ne.symm (h _ (.tail _ (.head _)) p hp)
theorem apart3c (h : Apart [(a, o1), (b, o2), (c, o3)] R) : ∀ p ∈ R, p.1 ≠ c := fun p hp => Ne.symm (h _ (.tail _ (.tail _ (.head _))) p hp)
theorem apart3 (h1 : ∀ p ∈ R, p.1 ≠ a) (h2 : ∀ p ∈ R, p.1 ≠ b) (h3 : ∀ p ∈ R, p.1 ≠ c) : Apart [(a, o1), (b, o2), (c, o3)] R := fun x hx q hq => by
  simp only [List.mem_cons, List.not_mem_nil, or_false] at hx
  rcases hx with rfl | rfl | rfl
  · exact Ne.symm (h1 q hq)
  · exact Ne.symm (h2 q hq)
  · exact Ne.symm (h3 q hq)
end
end

section
open PySem.Calls
section
variable {prog : Program} {w : World} {A : Around} {E : Value → Shared → Prop} {s : Shared} {h₀ : Heap} {L D : Addr} {m : Str → Option Value} {news : List (Addr × Obj)}
theorem tuple_of_row {l : Addr} {vs : List Value} {ks : List Int} {n : Nat} {Q : Value → Shared → Prop} (F : Fr h₀ L s.heap m) (N : News h₀ L s.heap news) (hm : (l, listOf vs.toArray n) ∈ news) (hi : IntsAre vs ks) (hz : ks.length ≤ 1000)
    (h : ∀ D h', Fr h₀ L h' m → News h₀ L h' ((D, tupOf vs 0) :: news) → (∀ p ∈ news, p.1 < D) → Q (.ref D) { s with heap := h' }) : wpAny (model prog w) A (call (.type "tuple") [.ref l]) Q E s :=
  kde_tupleOf (items := vs.toArray) (zs := vs) F N ⟨_, (N _ hm).1, rfl, n, rfl⟩ (by rw [List.size_toArray, hi.length]; omega) (by simp) h
end
end

section
def sub1 (b : Bool) : Int := if b then 0 else 1
/-- Levenshtein's table: f i j says whether the letters number i and j are the same -/
def lv (f : Nat → Nat → Bool) : Nat → Nat → Int
  | 0, j => j
  | i + 1, 0 => (i + 1 : Nat)
  | i + 1, j + 1 => min (lv f i j + sub1 (f i j)) (min (lv f i (j + 1) + 1) (lv f (i + 1) j + 1))
def rowOf (n : Nat) (g : Nat → Int) : List Int := (List.range n).map g
theorem rowOf_length (n : Nat) (g : Nat → Int) : (rowOf n g).length = n := by simp [rowOf]
theorem rowOf_get {n : Nat} {g : Nat → Int} {i : Nat} (h : i < n) : (rowOf n g)[i]? = some (g i) := by simp [rowOf, h]
theorem rowOf_congr {n : Nat} {g g' : Nat → Int} (h : ∀ i, i < n → g i = g' i) : rowOf n g = rowOf n g' := List.map_congr_left fun i hi => h i (List.mem_range.mp hi)
theorem rowOf_set {n : Nat} {g g' : Nat → Int} {k : Nat} {v : Int} (hv : g' k = v) (h : ∀ i, i < n → i ≠ k → g i = g' i) : (rowOf n g).set k v = rowOf n g' := by
  apply List.ext_getElem?
  intro i
  rw [List.getElem?_set]
  by_cases e : k = i
  · subst e
    by_cases l : k < n
    · simp [rowOf, l, hv]
    · simp [rowOf, l]
  · rw [if_neg e]
    by_cases l : i < n
    · rw [rowOf_get l, rowOf_get l, h i l (fun q => e q.symm)]
    · simp [rowOf, l]
/-- the row under way: up to j of the new one, then zeros -/
def under (g : Nat → Int) (j c : Nat) : Int := if c ≤ j then g c else 0
end

section
/-- the last place up to i (counted from 1; 0: none) that holds c -/
def lastR (xs : List Int) (c : Int) : Nat → Nat
  | 0 => 0
  | i + 1 => if xs.getD i 0 = c then i + 1 else lastR xs c i
theorem lastR_le (xs : List Int) (c : Int) : ∀ i, lastR xs c i ≤ i
  | 0 => Nat.le_refl _
  | i + 1 => by
    unfold lastR
    split
    · exact Nat.le_refl _
    · exact Nat.le_trans (lastR_le xs c i) (Nat.le_succ _)
/-- the table of the unrestricted Damerau distance, as the text fills it -/
def dm (M : Int) (xs ys : List Int) : Nat → Nat → Int
  | 0, j => j
  | i + 1, 0 => (i + 1 : Nat)
  | i + 1, j + 1 =>
    min (min (dm M xs ys i j + (if xs.getD i 0 = ys.getD j 0 then 0 else 1)) (min (dm M xs ys (i + 1) j + 1) (dm M xs ys i (j + 1) + 1)))
      ((if lastR xs (ys.getD j 0) i = 0 ∨ lastR ys (xs.getD i 0) j = 0 then M else dm M xs ys (lastR xs (ys.getD j 0) i - 1) (lastR ys (xs.getD i 0) j - 1)) + ((i : Int) + 1 - lastR xs (ys.getD j 0) i) - 1 + ((j : Int) + 1 - lastR ys (xs.getD i 0) j))
termination_by i j => i + j
decreasing_by
  · omega
  · omega
  · omega
  · have h1 := lastR_le xs (ys.getD j 0) i
    have h2 := lastR_le ys (xs.getD i 0) j
    omega
def tb (M : Int) (xs ys : List Int) (a b : Int) : Int := if a < 0 ∨ b < 0 then M else dm M xs ys a.toNat b.toNat
def dom1 (i : Nat) (a b : Int) : Prop := (a = -1 ∧ b = -1) ∨ (0 ≤ a ∧ a < (i : Int) ∧ (b = -1 ∨ b = 0))
def dom2 (n j : Nat) (a b : Int) : Prop := dom1 (n + 1) a b ∨ (0 ≤ b ∧ b < (j : Int) ∧ (a = -1 ∨ a = 0))
def dom3 (n m i : Nat) (a b : Int) : Prop := dom2 n (m + 1) a b ∨ (-1 ≤ a ∧ a ≤ (i : Int) ∧ -1 ≤ b ∧ b ≤ (m : Int))
def dom4 (n m i j : Nat) (a b : Int) : Prop := dom3 n m i a b ∨ (a = (i : Int) + 1 ∧ -1 ≤ b ∧ b ≤ (j : Int))
end

section
abbrev LI := List Int
/-- an alignment of two rows and its cost (tr: adjacent exchanges, with what lies between) -/
inductive Ed (tr : Bool) : LI → LI → Nat → Prop
  | nil : Ed tr [] [] 0
  | same {xs ys n} (z : Int) : Ed tr xs ys n → Ed tr (z :: xs) (z :: ys) n
  | sub {xs ys n} (x y : Int) : Ed tr xs ys n → Ed tr (x :: xs) (y :: ys) (n + 1)
  | ins {xs ys n} (y : Int) : Ed tr xs ys n → Ed tr xs (y :: ys) (n + 1)
  | del {xs ys n} (x : Int) : Ed tr xs ys n → Ed tr (x :: xs) ys (n + 1)
  | tra {xs ys n} (x y : Int) (u v : LI) : tr = true → Ed tr xs ys n → Ed tr (x :: (u ++ y :: xs)) (y :: (v ++ x :: ys)) (n + u.length + v.length + 1)
/-- an alignment that costs at most n -/
def Wa (tr : Bool) (xs ys : LI) (n : Nat) : Prop := ∃ m, m ≤ n ∧ Ed tr xs ys m
variable {tr : Bool}
theorem Wa.up {xs ys : LI} {n k : Nat} (h : Wa tr xs ys n) (l : n ≤ k) : Wa tr xs ys k := let ⟨m, a, b⟩ := h; ⟨m, Nat.le_trans a l, b⟩
theorem Wa.nil : Wa tr [] [] 0 := ⟨0, Nat.le_refl _, .nil⟩
theorem Wa.same {xs ys : LI} {n : Nat} (z : Int) (h : Wa tr xs ys n) : Wa tr (z :: xs) (z :: ys) n := let ⟨m, a, b⟩ := h; ⟨m, a, .same z b⟩
theorem Wa.sub {xs ys : LI} {n : Nat} (x y : Int) (h : Wa tr xs ys n) : Wa tr (x :: xs) (y :: ys) (n + 1) := let ⟨m, a, b⟩ := h; ⟨m + 1, Nat.succ_le_succ a, .sub x y b⟩
theorem Wa.ins {xs ys : LI} {n : Nat} (y : Int) (h : Wa tr xs ys n) : Wa tr xs (y :: ys) (n + 1) := let ⟨m, a, b⟩ := h; ⟨m + 1, Nat.succ_le_succ a, .ins y b⟩
theorem Wa.del {xs ys : LI} {n : Nat} (x : Int) (h : Wa tr xs ys n) : Wa tr (x :: xs) ys (n + 1) := let ⟨m, a, b⟩ := h; ⟨m + 1, Nat.succ_le_succ a, .del x b⟩
theorem Wa.tra {xs ys : LI} {n : Nat} (x y : Int) (u v : LI) (t : tr = true) (h : Wa tr xs ys n) : Wa tr (x :: (u ++ y :: xs)) (y :: (v ++ x :: ys)) (n + u.length + v.length + 1) :=
  let ⟨m, a, b⟩ := h; ⟨m + u.length + v.length + 1, by omega, .tra x y u v t b⟩
theorem Wa.dels {xs ys : LI} {n : Nat} (u : LI) (h : Wa tr xs ys n) : Wa tr (u ++ xs) ys (n + u.length) := by
  induction u with
  | nil => exact h
  | cons x u ih => exact (ih.del x).up (by simp; omega)
theorem Wa.inss {xs ys : LI} {n : Nat} (v : LI) (h : Wa tr xs ys n) : Wa tr xs (v ++ ys) (n + v.length) := by
  induction v with
  | nil => exact h
  | cons x u ih => exact (ih.ins x).up (by simp; omega)
theorem Wa.refl : ∀ xs : LI, Wa tr xs xs 0
  | [] => .nil
  | x :: xs => (Wa.refl xs).same x
theorem Wa.symm {xs ys : LI} {n : Nat} (h : Wa tr xs ys n) : Wa tr ys xs n := by
  obtain ⟨m, a, b⟩ := h
  refine Wa.up ?_ a
  clear a
  induction b with
  | nil => exact .nil
  | same z _ ih => exact ih.same z
  | sub x y _ ih => exact ih.sub y x
  | ins y _ ih => exact ih.del y
  | del x _ ih => exact ih.ins x
  | tra x y u v t _ ih => exact (ih.tra y x v u t).up (by omega)

/-- what stands against the first letter y of the second row -/
inductive Inv (tr : Bool) (xs : LI) (y : Int) (ys : LI) (n : Nat) : Prop
  | same (u xs' : LI) (m : Nat) : xs = u ++ y :: xs' → Wa tr xs' ys m → m + u.length ≤ n → Inv tr xs y ys n
  | sub (u : LI) (x : Int) (xs' : LI) (m : Nat) : xs = u ++ x :: xs' → Wa tr xs' ys m → m + u.length + 1 ≤ n → Inv tr xs y ys n
  | ins (u r : LI) (m : Nat) : xs = u ++ r → Wa tr r ys m → m + u.length + 1 ≤ n → Inv tr xs y ys n
  | tra (w : LI) (x : Int) (u xs' v ys' : LI) (m : Nat) : tr = true → xs = w ++ x :: (u ++ y :: xs') → ys = v ++ x :: ys' → Wa tr xs' ys' m → m + w.length + u.length + v.length + 1 ≤ n → Inv tr xs y ys n
theorem inv_cons {xs : LI} {y : Int} {ys : LI} {n : Nat} (x : Int) (h : Inv tr xs y ys n) : Inv tr (x :: xs) y ys (n + 1) := by
  cases h with
  | same u xs' m e w l => exact .same (x :: u) xs' m (by rw [e]; rfl) w (by simp; omega)
  | sub u x' xs' m e w l => exact .sub (x :: u) x' xs' m (by rw [e]; rfl) w (by simp; omega)
  | ins u r m e w l => exact .ins (x :: u) r m (by rw [e]; rfl) w (by simp; omega)
  | tra w' x' u xs' v ys' m t e e' w l => exact .tra (x :: w') x' u xs' v ys' m t (by rw [e]; rfl) e' w (by simp; omega)
theorem inv_ed {xs zs : LI} {n : Nat} (h : Ed tr xs zs n) : ∀ {y : Int} {ys : LI}, zs = y :: ys → Inv tr xs y ys n := by
  induction h with
  | nil => intro y ys e; cases e
  | same z h _ => intro y ys e; cases e; exact .same [] _ _ rfl ⟨_, Nat.le_refl _, h⟩ (by simp)
  | sub x y' h _ => intro y ys e; cases e; exact .sub [] x _ _ rfl ⟨_, Nat.le_refl _, h⟩ (by simp)
  | ins y' h _ => intro y ys e; cases e; exact .ins [] _ _ rfl ⟨_, Nat.le_refl _, h⟩ (by simp)
  | del x h ih => intro y ys e; exact inv_cons x (ih e)
  | tra x y' u v t h _ => intro y ys e; cases e; exact .tra [] x u _ v _ _ t rfl rfl ⟨_, Nat.le_refl _, h⟩ (by simp)
theorem Inv.mono {xs : LI} {y : Int} {ys : LI} {n k : Nat} (h : Inv tr xs y ys n) (hl : n ≤ k) : Inv tr xs y ys k := by
  cases h with
  | same u xs' m e w l => exact .same u xs' m e w (Nat.le_trans l hl)
  | sub u x' xs' m e w l => exact .sub u x' xs' m e w (Nat.le_trans l hl)
  | ins u r m e w l => exact .ins u r m e w (Nat.le_trans l hl)
  | tra w' x' u xs' v ys' m t e e' w l => exact .tra w' x' u xs' v ys' m t e e' w (Nat.le_trans l hl)
theorem inv_wa {xs : LI} {y : Int} {ys : LI} {n : Nat} (h : Wa tr xs (y :: ys) n) : Inv tr xs y ys n := let ⟨_, a, b⟩ := h; (inv_ed b rfl).mono a

/-- one unit change of a row -/
inductive Op (tr : Bool) : LI → LI → Prop
  | ins {ys} (c : Int) : Op tr ys (c :: ys)
  | del {ys} (c : Int) : Op tr (c :: ys) ys
  | sub {ys} (c d : Int) : Op tr (c :: ys) (d :: ys)
  | tra {ys} (c d : Int) : tr = true → Op tr (c :: d :: ys) (d :: c :: ys)
  | tail {ys ys'} (z : Int) : Op tr ys ys' → Op tr (z :: ys) (z :: ys')

theorem wa_del {xs : LI} {y : Int} {ys : LI} {n : Nat} (h : Wa tr xs (y :: ys) n) : Wa tr xs ys (n + 1) := by
  cases inv_wa h with
  | same u xs' m e w l => rw [e]; exact ((w.del y).dels u).up (by omega)
  | sub u x xs' m e w l => rw [e]; exact ((w.del x).dels u).up (by omega)
  | ins u r m e w l => rw [e]; exact (w.dels u).up (by omega)
  | tra w' x u xs' v ys' m t e e' w l => rw [e, e']; exact ((((((w.del y).dels u).same x).inss v).dels w')).up (by omega)
theorem wa_sub {xs : LI} {y : Int} {ys : LI} {n : Nat} (d : Int) (h : Wa tr xs (y :: ys) n) : Wa tr xs (d :: ys) (n + 1) := by
  cases inv_wa h with
  | same u xs' m e w l => rw [e]; exact ((w.sub y d).dels u).up (by omega)
  | sub u x xs' m e w l => rw [e]; exact ((w.sub x d).dels u).up (by omega)
  | ins u r m e w l => rw [e]; exact ((w.ins d).dels u).up (by omega)
  | tra w' x u xs' v ys' m t e e' w l => rw [e, e']; exact ((((((w.del y).dels u).same x).inss v).ins d).dels w').up (by omega)
end

section
variable {tr : Bool}
theorem wa_tra {xs ys : LI} {c d : Int} {n : Nat} (t : tr = true) (h : Wa tr xs (c :: d :: ys) n) : Wa tr xs (d :: c :: ys) (n + 1) := by
  cases inv_wa h with
  | same u xs' m e w l =>
    cases inv_wa w with
    | same u2 xs2 m2 e2 w2 l2 => rw [e, e2]; exact ((Wa.tra c d u2 [] t w2).dels u).up (by simp; omega)
    | sub u2 x xs2 m2 e2 w2 l2 => rw [e, e2]; exact ((((w2.sub x c).dels u2).sub c d).dels u).up (by omega)
    | ins u2 r m2 e2 w2 l2 => rw [e, e2]; exact ((((w2.dels u2).same c).ins d).dels u).up (by omega)
    | tra q x u2 xs2 v2 ys2 m2 _ e2 f2 w2 l2 => rw [e, e2, f2]; exact ((((((((w2.del d).dels u2).same x).inss v2).dels q).same c).ins d).dels u).up (by omega)
  | sub u x xs' m e w l =>
    cases inv_wa w with
    | same u2 xs2 m2 e2 w2 l2 => rw [e, e2]; exact ((((w2.sub d c).dels u2).sub x d).dels u).up (by omega)
    | sub u2 x2 xs2 m2 e2 w2 l2 => rw [e, e2]; exact ((((w2.sub x2 c).dels u2).sub x d).dels u).up (by omega)
    | ins u2 r m2 e2 w2 l2 => rw [e, e2]; exact ((((w2.dels u2).sub x c).ins d).dels u).up (by omega)
    | tra q x2 u2 xs2 v2 ys2 m2 _ e2 f2 w2 l2 => rw [e, e2, f2]; exact ((((Wa.tra x2 d u2 (c :: v2) t w2).dels q).del x).dels u).up (by simp; omega)
  | ins u r m e w l =>
    cases inv_wa w with
    | same u2 xs2 m2 e2 w2 l2 => rw [e, e2]; exact ((((w2.ins c).same d).dels u2).dels u).up (by omega)
    | sub u2 x2 xs2 m2 e2 w2 l2 => rw [e, e2]; exact ((((w2.ins c).sub x2 d).dels u2).dels u).up (by omega)
    | ins u2 r2 m2 e2 w2 l2 => rw [e, e2]; exact ((((w2.ins c).ins d).dels u2).dels u).up (by omega)
    | tra q x2 u2 xs2 v2 ys2 m2 _ e2 f2 w2 l2 => rw [e, e2, f2]; exact (((Wa.tra x2 d u2 (c :: v2) t w2).dels q).dels u).up (by simp; omega)
  | tra q x u xs' v ys' m _ e f w l =>
    cases v with
    | nil =>
      simp only [List.nil_append, List.cons.injEq] at f
      obtain ⟨rfl, rfl⟩ := f
      rw [e]; exact ((((w.same c).dels u).same d).dels q).up (by omega)
    | cons a v' =>
      simp only [List.cons_append, List.cons.injEq] at f
      obtain ⟨rfl, rfl⟩ := f
      rw [e]; exact (((Wa.tra x c u v' t w).ins d).dels q).up (by simp at l ⊢; omega)

inductive Spl (tr : Bool) (v : LI) (x : Int) (w : LI) (r : LI) : Prop
  | inV (v' : LI) : r = v' ++ x :: w → v'.length ≤ v.length + 1 → Spl tr v x w r
  | inW (w' : LI) : r = v ++ x :: w' → Op tr w w' → Spl tr v x w r
  | gone : r = v ++ w → Spl tr v x w r
  | other (c : Int) : r = v ++ c :: w → Spl tr v x w r
  | left (v0 : LI) (c : Int) : v = v0 ++ [c] → r = v0 ++ x :: c :: w → Spl tr v x w r
  | right (c : Int) (w0 : LI) : tr = true → w = c :: w0 → r = v ++ c :: x :: w0 → Spl tr v x w r
theorem op_split {x : Int} {w : LI} : ∀ {v r s : LI}, Op tr s r → s = v ++ x :: w → Spl tr v x w r := by
  intro v
  induction v with
  | nil =>
    intro r s h e
    simp only [List.nil_append] at e
    subst e
    cases h with
    | ins c => exact .inV [c] rfl (by simp)
    | del => exact .gone rfl
    | sub _ d => exact .other d rfl
    | tra _ d t => exact .right d _ t rfl rfl
    | tail _ h => exact .inW _ rfl h
  | cons a v0 ih =>
    intro r s h e
    simp only [List.cons_append] at e
    subst e
    generalize hs : v0 ++ x :: w = s0 at h
    cases h with
    | ins c => subst hs; exact .inV (c :: a :: v0) rfl (by simp)
    | del => subst hs; exact .inV v0 rfl (by simp; omega)
    | sub _ d => subst hs; exact .inV (d :: v0) rfl (by simp)
    | tra _ d t =>
      cases v0 with
      | nil =>
        simp only [List.nil_append, List.cons.injEq] at hs
        obtain ⟨rfl, rfl⟩ := hs
        exact .left [] a rfl rfl
      | cons b v1 =>
        simp only [List.cons_append, List.cons.injEq] at hs
        obtain ⟨rfl, rfl⟩ := hs
        exact .inV (b :: a :: v1) rfl (by simp)
    | tail _ h =>
      cases ih h hs.symm with
      | inV v' e l => exact .inV (a :: v') (by rw [e]; rfl) (by simp; omega)
      | inW w' e o => exact .inW w' (by rw [e]; rfl) o
      | gone e => exact .gone (by rw [e]; rfl)
      | other c e => exact .other c (by rw [e]; rfl)
      | left v1 c e f => exact .left (a :: v1) c (by rw [e]; rfl) (by rw [f]; rfl)
      | right c w0 t e f => exact .right c w0 t e (by rw [f]; rfl)

theorem op_wa : ∀ (k : Nat) {ys ys' xs : LI} {n : Nat}, ys.length ≤ k → Op tr ys ys' → Wa tr xs ys n → Wa tr xs ys' (n + 1) := by
  intro k
  induction k with
  | zero =>
    intro ys ys' xs n hk h a
    cases h with
    | ins c => exact a.ins c
    | del => simp at hk
    | sub _ d => simp at hk
    | tra _ d t => simp at hk
    | tail _ h => simp at hk
  | succ k ih =>
    intro ys ys' xs n hk h a
    cases h with
    | ins c => exact a.ins c
    | del => exact wa_del a
    | sub _ d => exact wa_sub d a
    | tra _ d t => exact wa_tra t a
    | @tail t t' z h =>
      have hk' : t.length ≤ k := by simp at hk; omega
      cases inv_wa a with
      | same u xs' m e w l => rw [e]; exact (((ih hk' h w).same z).dels u).up (by omega)
      | sub u x xs' m e w l => rw [e]; exact (((ih hk' h w).sub x z).dels u).up (by omega)
      | ins u r m e w l => rw [e]; exact (((ih hk' h w).ins z).dels u).up (by omega)
      | tra q x u xs' v ys2 m tt e f w l =>
        have hl := congrArg List.length f
        simp at hl
        cases op_split h f with
        | inV v' e2 l2 => rw [e, e2]; exact ((Wa.tra x z u v' tt w).dels q).up (by omega)
        | inW w' e2 o => rw [e, e2]; exact ((Wa.tra x z u v tt (ih (by omega) o w)).dels q).up (by omega)
        | gone e2 => rw [e, e2]; exact (((((w.inss v).same z).dels u).del x).dels q).up (by omega)
        | other c e2 => rw [e, e2]; exact ((((((w.ins c).inss v).same z).dels u).del x).dels q).up (by omega)
        | left v0 c e2 f2 =>
          have := congrArg List.length e2
          simp at this
          rw [e, f2]; exact ((Wa.tra x z u v0 tt (w.ins c)).dels q).up (by omega)
        | right c w0 _ e2 f2 =>
          subst e2
          rw [e, f2]
          cases inv_wa w with
          | same u2 xs2 m2 e3 w3 l3 => rw [e3]; exact ((((((((w3.ins x).same c).dels u2).inss v).same z).dels u).del x).dels q).up (by omega)
          | sub u2 x2 xs2 m2 e3 w3 l3 =>
            rw [e3, show v ++ c :: x :: w0 = (v ++ [c]) ++ x :: w0 by simp]
            exact ((Wa.tra x z u (v ++ [c]) tt ((w3.del x2).dels u2)).dels q).up (by simp; omega)
          | ins u2 r m2 e3 w3 l3 =>
            rw [e3, show v ++ c :: x :: w0 = (v ++ [c]) ++ x :: w0 by simp]
            exact ((Wa.tra x z u (v ++ [c]) tt (w3.dels u2)).dels q).up (by simp; omega)
          | tra q2 x2 u2 xs2 v2 ys3 m2 _ e3 f3 w3 l3 =>
            rw [e3, f3]
            exact (((((((Wa.tra x2 c u2 (x :: v2) tt w3).dels q2).inss v).same z).dels u).del x).dels q).up (by simp; omega)
end

section
variable {tr : Bool}
inductive Pa (tr : Bool) (xs : LI) : LI → Nat → Prop
  | refl : Pa tr xs xs 0
  | step {ys zs n} : Pa tr xs ys n → Op tr ys zs → Pa tr xs zs (n + 1)
theorem Pa.wa {xs ys : LI} {n : Nat} (h : Pa tr xs ys n) : Wa tr xs ys n := by
  induction h with
  | refl => exact .refl _
  | step _ o ih => exact op_wa _ (Nat.le_refl _) o ih
theorem Op.symm {xs ys : LI} (h : Op tr xs ys) : Op tr ys xs := by
  induction h with
  | ins c => exact .del c
  | del c => exact .ins c
  | sub c d => exact .sub d c
  | tra c d t => exact .tra d c t
  | tail z _ ih => exact .tail z ih
theorem Pa.trans {xs ys zs : LI} {n m : Nat} (a : Pa tr xs ys n) (b : Pa tr ys zs m) : Pa tr xs zs (n + m) := by
  induction b with
  | refl => exact a
  | step _ o ih => exact ih.step o
theorem Pa.one {xs ys : LI} (o : Op tr xs ys) : Pa tr xs ys 1 := .step .refl o
theorem Pa.cast {xs ys : LI} {n k : Nat} (a : Pa tr xs ys n) (e : n = k) : Pa tr xs ys k := e ▸ a
theorem Pa.symm {xs ys : LI} {n : Nat} (a : Pa tr xs ys n) : Pa tr ys xs n := by
  induction a with
  | refl => exact .refl
  | step _ o ih => exact (Pa.trans (.one o.symm) ih).cast (by omega)

theorem Op.pre {xs ys : LI} (o : Op tr xs ys) : ∀ c : LI, Op tr (c ++ xs) (c ++ ys)
  | [] => o
  | z :: c => .tail z (o.pre c)
theorem Op.app {xs ys : LI} (o : Op tr xs ys) (c : LI) : Op tr (xs ++ c) (ys ++ c) := by
  induction o with
  | ins d => exact .ins d
  | del d => exact .del d
  | sub d e => exact .sub d e
  | tra d e t => exact .tra d e t
  | tail z _ ih => exact .tail z ih
theorem Op.rev {xs ys : LI} (o : Op tr xs ys) : Op tr xs.reverse ys.reverse := by
  induction o with
  | @ins ys c => rw [List.reverse_cons]; simpa using (Op.ins (tr := tr) (ys := []) c).pre ys.reverse
  | @del ys c => rw [List.reverse_cons]; simpa using (Op.del (tr := tr) (ys := []) c).pre ys.reverse
  | @sub ys c d => rw [List.reverse_cons, List.reverse_cons]; exact (Op.sub (tr := tr) (ys := []) c d).pre ys.reverse
  | @tra ys c d t => simp only [List.reverse_cons, List.append_assoc]; exact (Op.tra (tr := tr) (ys := []) d c t).pre ys.reverse
  | tail z _ ih => rw [List.reverse_cons, List.reverse_cons]; exact ih.app [z]
theorem Pa.pre {xs ys : LI} {n : Nat} (a : Pa tr xs ys n) (c : LI) : Pa tr (c ++ xs) (c ++ ys) n := by
  induction a with
  | refl => exact .refl
  | step _ o ih => exact ih.step (o.pre c)
theorem Pa.app {xs ys : LI} {n : Nat} (a : Pa tr xs ys n) (c : LI) : Pa tr (xs ++ c) (ys ++ c) n := by
  induction a with
  | refl => exact .refl
  | step _ o ih => exact ih.step (o.app c)
theorem Pa.rev {xs ys : LI} {n : Nat} (a : Pa tr xs ys n) : Pa tr xs.reverse ys.reverse n := by
  induction a with
  | refl => exact .refl
  | step _ o ih => exact ih.step o.rev
theorem Pa.inss (v ys : LI) : Pa tr ys (v ++ ys) v.length := by
  induction v with
  | nil => exact .refl
  | cons c v ih => exact ih.step (.ins c)
theorem Pa.dels (v ys : LI) : Pa tr (v ++ ys) ys v.length := (Pa.inss v ys).symm
theorem Ed.pa {xs ys : LI} {n : Nat} (h : Ed tr xs ys n) : Pa tr xs ys n := by
  induction h with
  | nil => exact .refl
  | same z _ ih => exact ih.pre [z]
  | sub x y _ ih => exact (ih.pre [x]).step (.sub x y)
  | ins y _ ih => exact ih.step (.ins y)
  | del x _ ih => exact (Pa.trans (.one (.del x)) ih).cast (by omega)
  | @tra xs ys n x y u v t _ ih =>
    have a1 : Pa tr (x :: (u ++ y :: xs)) (x :: (u ++ y :: ys)) n := by simpa using ih.pre (x :: (u ++ [y]))
    have a2 : Pa tr (x :: (u ++ y :: ys)) (x :: y :: ys) u.length := (Pa.dels u (y :: ys)).pre [x]
    have a3 : Pa tr (x :: y :: ys) (y :: x :: ys) 1 := .one (.tra x y t)
    have a4 : Pa tr (y :: x :: ys) (y :: (v ++ x :: ys)) v.length := (Pa.inss v (x :: ys)).pre [y]
    exact (((a1.trans a2).trans a3).trans a4).cast (by omega)
theorem Wa.pa {xs ys : LI} {n : Nat} (h : Wa tr xs ys n) : ∃ m, m ≤ n ∧ Pa tr xs ys m := let ⟨m, a, b⟩ := h; ⟨m, a, b.pa⟩
theorem wa_trans {a b c : LI} {n m : Nat} (h : Wa tr a b n) (k : Wa tr b c m) : Wa tr a c (n + m) := by
  obtain ⟨n', l1, p⟩ := h.pa
  obtain ⟨m', l2, q⟩ := k.pa
  exact (p.trans q).wa.up (by omega)
theorem wa_rev {a b : LI} {n : Nat} (h : Wa tr a b n) : Wa tr a.reverse b.reverse n := by
  obtain ⟨n', l1, p⟩ := h.pa
  exact p.rev.wa.up l1
theorem wa_app {a b c d : LI} {n m : Nat} (h : Wa tr a b n) (k : Wa tr c d m) : Wa tr (a ++ c) (b ++ d) (n + m) := by
  obtain ⟨n', l1, p⟩ := h.pa
  obtain ⟨m', l2, q⟩ := k.pa
  exact ((p.app c).trans (q.pre b)).wa.up (by omega)
theorem op_len {a b : LI} (o : Op tr a b) : a.length ≤ b.length + 1 ∧ b.length ≤ a.length + 1 := by
  induction o with
  | ins c => simp only [List.length_cons]; omega
  | del c => simp only [List.length_cons]; omega
  | sub c d => simp only [List.length_cons]; omega
  | tra c d t => simp only [List.length_cons]; omega
  | tail z _ ih => simp only [List.length_cons]; omega
theorem pa_len {a b : LI} {n : Nat} (h : Pa tr a b n) : a.length ≤ b.length + n ∧ b.length ≤ a.length + n := by
  induction h with
  | refl => simp
  | step _ o ih => have := op_len o; omega
theorem wa_len {a b : LI} {n : Nat} (h : Wa tr a b n) : a.length ≤ b.length + n ∧ b.length ≤ a.length + n := by
  obtain ⟨m, l, p⟩ := h.pa
  have := pa_len p
  omega
theorem wa_zero {a b : LI} (h : Wa tr a b 0) : a = b := by
  obtain ⟨m, l, p⟩ := h.pa
  have : m = 0 := by omega
  subst this
  cases p
  rfl
theorem wa_max : ∀ a b : LI, Wa tr a b (max a.length b.length)
  | [], [] => .nil
  | [], y :: ys => by simpa using (Wa.refl (tr := tr) []).inss (y :: ys)
  | x :: xs, [] => by simpa using (Wa.refl (tr := tr) []).dels (x :: xs)
  | x :: xs, y :: ys => ((wa_max xs ys).sub x y).up (by simp only [List.length_cons]; omega)
theorem wa_sum (a b : LI) : Wa tr a b (a.length + b.length) := by
  have h := (((Wa.refl (tr := tr) []).inss b).dels a)
  simp at h
  exact h.up (by omega)
theorem wa_pre1 {a b : LI} {z : Int} {n : Nat} (h : Wa tr (z :: a) (z :: b) n) : Wa tr a b n := by
  cases inv_wa h with
  | same u xs' m e w l =>
    cases u with
    | nil => simp at e; obtain rfl := e; exact w.up (by simp at l; omega)
    | cons q u' => simp at e; obtain ⟨rfl, rfl⟩ := e; exact ((w.del z).dels u').up (by simp at l; omega)
  | sub u x xs' m e w l =>
    cases u with
    | nil => simp at e; obtain ⟨rfl, rfl⟩ := e; exact w.up (by omega)
    | cons q u' => simp at e; obtain ⟨rfl, rfl⟩ := e; exact ((w.del x).dels u').up (by simp at l; omega)
  | ins u r m e w l =>
    cases u with
    | nil => simp at e; subst e; exact ((wa_del w.symm).symm).up (by omega)
    | cons q u' => simp at e; obtain ⟨rfl, rfl⟩ := e; exact (w.dels u').up (by simp at l; omega)
  | tra q x u xs' v ys' m t e f w l =>
    subst f
    cases q with
    | nil => simp at e; obtain ⟨rfl, rfl⟩ := e; exact (((w.same z).inss v).dels u).up (by omega)
    | cons q0 q' => simp at e; obtain ⟨rfl, rfl⟩ := e; exact (((((w.del z).dels u).same x).inss v).dels q').up (by simp at l; omega)
theorem wa_pre {a b : LI} {n : Nat} : ∀ c : LI, Wa tr (c ++ a) (c ++ b) n → Wa tr a b n
  | [], h => h
  | _ :: c, h => wa_pre c (wa_pre1 h)
theorem wa_suf {a b c : LI} {n : Nat} (h : Wa tr (a ++ c) (b ++ c) n) : Wa tr a b n := by
  have := wa_rev h
  rw [List.reverse_append, List.reverse_append] at this
  simpa using wa_rev (wa_pre _ this)
/-- k is the least cost -/
def Mn (tr : Bool) (a b : LI) (k : Int) : Prop := ∃ n : Nat, k = n ∧ Wa tr a b n ∧ ∀ m, Wa tr a b m → n ≤ m
end

section
variable {tr : Bool}
/-- the first i letters, last one first -/
def Rp (xs : LI) (i : Nat) : LI := (xs.take i).reverse
theorem Rp_zero (xs : LI) : Rp xs 0 = [] := by simp [Rp]
theorem Rp_len {xs : LI} {i : Nat} (h : i ≤ xs.length) : (Rp xs i).length = i := by simp [Rp]; omega
theorem Rp_succ {xs : LI} {i : Nat} (h : i < xs.length) : Rp xs (i + 1) = xs.getD i 0 :: Rp xs i := by
  unfold Rp
  rw [List.take_add_one, List.getElem?_eq_getElem h, List.reverse_append, List.getD_eq_getElem?_getD, List.getElem?_eq_getElem h]
  rfl
theorem Rp_split {xs : LI} {k : Nat} : ∀ {i : Nat}, k ≤ i → i ≤ xs.length → ∃ u, Rp xs i = u ++ Rp xs k ∧ u.length = i - k := by
  intro i
  induction i with
  | zero => intro h _; have : k = 0 := by omega
            subst this; exact ⟨[], rfl, rfl⟩
  | succ i ih =>
    intro h l
    by_cases e : k = i + 1
    · subst e; exact ⟨[], rfl, by simp⟩
    · obtain ⟨u, hu, lu⟩ := ih (by omega) (by omega)
      exact ⟨xs.getD i 0 :: u, by rw [Rp_succ (by omega), hu]; rfl, by simp; omega⟩
theorem Rp_inv {xs u t : LI} {y : Int} {i : Nat} (h : i ≤ xs.length) (e : Rp xs i = u ++ y :: t) : t.length < i ∧ t = Rp xs t.length ∧ xs.getD t.length 0 = y ∧ u.length = i - t.length - 1 := by
  have hl : i = u.length + t.length + 1 := by
    have := congrArg List.length e
    rw [Rp_len h] at this
    simp at this
    omega
  obtain ⟨w, hw, lw⟩ := Rp_split (xs := xs) (k := t.length + 1) (i := i) (by omega) h
  rw [e, Rp_succ (by omega)] at hw
  have := List.append_inj hw (by omega)
  obtain ⟨_, h2⟩ := this
  injection h2 with h3 h4
  exact ⟨by omega, h4, h3.symm, by omega⟩
theorem Mn.nil_l (ys : LI) : Mn tr [] ys (ys.length : Int) := ⟨ys.length, rfl, by simpa using (Wa.refl (tr := tr) []).inss ys, fun m h => by have := (wa_len h).2; simpa using this⟩
theorem Mn.nil_r (xs : LI) : Mn tr xs [] (xs.length : Int) := ⟨xs.length, rfl, by simpa using (Wa.refl (tr := tr) []).dels xs, fun m h => by have := (wa_len h).1; simpa using this⟩
theorem Mn.cons {xs ys : LI} {x y : Int} {d d1 d2 : Int} (h : Mn false xs ys d) (h1 : Mn false (x :: xs) ys d1) (h2 : Mn false xs (y :: ys) d2) :
    Mn false (x :: xs) (y :: ys) (min (d + (if x = y then 0 else 1)) (min (d2 + 1) (d1 + 1))) := by
  obtain ⟨n, rfl, w, l⟩ := h
  obtain ⟨n1, rfl, w1, l1⟩ := h1
  obtain ⟨n2, rfl, w2, l2⟩ := h2
  have hb := w2.del x
  have hd := w1.ins y
  by_cases e : x = y
  · subst e
    have ha := w.same x
    rw [if_pos rfl]
    have hm : ∃ c : Nat, (c : Int) = min ((n : Int) + 0) (min ((n2 : Int) + 1) ((n1 : Int) + 1)) := ⟨min n (min (n2 + 1) (n1 + 1)), by omega⟩
    obtain ⟨c, hc⟩ := hm
    refine ⟨c, hc.symm, ?_, fun m hm => ?_⟩
    · have : c = n ∨ c = n2 + 1 ∨ c = n1 + 1 := by omega
      rcases this with rfl | rfl | rfl
      · exact ha
      · exact hb
      · exact hd
    · obtain ⟨k, hk, ed⟩ := hm
      cases ed with
      | same z q => have := l _ ⟨_, Nat.le_refl _, q⟩; omega
      | sub _ _ q => have := l _ ⟨_, Nat.le_refl _, q⟩; omega
      | ins _ q => have := l1 _ ⟨_, Nat.le_refl _, q⟩; omega
      | del _ q => have := l2 _ ⟨_, Nat.le_refl _, q⟩; omega
      | tra _ _ u v t q => cases t
  · have ha := w.sub x y
    rw [if_neg e]
    have hm : ∃ c : Nat, (c : Int) = min ((n : Int) + 1) (min ((n2 : Int) + 1) ((n1 : Int) + 1)) := ⟨min (n + 1) (min (n2 + 1) (n1 + 1)), by omega⟩
    obtain ⟨c, hc⟩ := hm
    refine ⟨c, hc.symm, ?_, fun m hm => ?_⟩
    · have : c = n + 1 ∨ c = n2 + 1 ∨ c = n1 + 1 := by omega
      rcases this with rfl | rfl | rfl
      · exact ha
      · exact hb
      · exact hd
    · obtain ⟨k, hk, ed⟩ := hm
      cases ed with
      | same z q => exact absurd rfl e
      | sub _ _ q => have := l _ ⟨_, Nat.le_refl _, q⟩; omega
      | ins _ q => have := l1 _ ⟨_, Nat.le_refl _, q⟩; omega
      | del _ q => have := l2 _ ⟨_, Nat.le_refl _, q⟩; omega
      | tra _ _ u v t q => cases t
theorem lastR_ge {xs : List Int} {c : Int} {k : Nat} (e : xs.getD k 0 = c) : ∀ {i : Nat}, k < i → k + 1 ≤ lastR xs c i := by
  intro i
  induction i with
  | zero => intro h; omega
  | succ i ih =>
    intro h
    unfold lastR
    split
    · omega
    · rename_i hn
      by_cases q : k = i
      · subst q; exact absurd e hn
      · exact ih (by omega)
theorem lastR_is {xs : List Int} {c : Int} : ∀ {i : Nat}, lastR xs c i ≠ 0 → xs.getD (lastR xs c i - 1) 0 = c := by
  intro i
  induction i with
  | zero => intro h; exact absurd rfl h
  | succ i ih =>
    intro h
    unfold lastR at h ⊢
    split
    · rename_i q; simpa using q
    · rename_i q; rw [if_neg q] at h; exact ih h
/-- Levenshtein's table holds the least costs -/
theorem lv_min (xs ys : List Int) : ∀ i j : Nat, i ≤ xs.length → j ≤ ys.length → Mn false (Rp xs i) (Rp ys j) (lv (fun i j => decide (xs[i]? = ys[j]?)) i j) := by
  intro i
  induction i with
  | zero =>
    intro j _ hj
    rw [Rp_zero, lv]
    have := Mn.nil_l (tr := false) (Rp ys j)
    rw [Rp_len hj] at this
    exact this
  | succ i ihi =>
    intro j
    induction j with
    | zero =>
      intro hi _
      rw [Rp_zero, lv]
      have := Mn.nil_r (tr := false) (Rp xs (i + 1))
      rw [Rp_len hi] at this
      exact this
    | succ j ihj =>
      intro hi hj
      have h1 := ihi j (by omega) (by omega)
      have h2 := ihi (j + 1) (by omega) hj
      have h3 := ihj hi (by omega)
      rw [Rp_succ (by omega)] at h3 ⊢
      rw [Rp_succ (by omega)] at h2 ⊢
      rw [lv]
      have key := Mn.cons h1 h3 h2
      have e : sub1 (decide (xs[i]? = ys[j]?)) = if xs.getD i 0 = ys.getD j 0 then 0 else 1 := by
        unfold sub1
        rw [List.getD_eq_getElem?_getD, List.getD_eq_getElem?_getD, List.getElem?_eq_getElem (by omega : i < xs.length), List.getElem?_eq_getElem (by omega : j < ys.length)]
        by_cases q : xs[i] = ys[j] <;> simp [q]
      rw [e]
      exact key
end

section
theorem Mn.consT {xs ys : LI} {x y : Int} {d d1 d2 t : Int} (h : Mn true xs ys d) (h1 : Mn true (x :: xs) ys d1) (h2 : Mn true xs (y :: ys) d2) (ht : 0 ≤ t) (hT : Wa true (x :: xs) (y :: ys) t.toNat)
    (hL : ∀ u v xs' ys' k, xs = u ++ y :: xs' → ys = v ++ x :: ys' → Wa true xs' ys' k → t ≤ (k : Int) + (u.length : Int) + (v.length : Int) + 1) :
    Mn true (x :: xs) (y :: ys) (min (min (d + (if x = y then 0 else 1)) (min (d1 + 1) (d2 + 1))) t) := by
  obtain ⟨n, rfl, w, l⟩ := h
  obtain ⟨n1, rfl, w1, l1⟩ := h1
  obtain ⟨n2, rfl, w2, l2⟩ := h2
  obtain ⟨n3, rfl⟩ : ∃ n3 : Nat, t = n3 := ⟨t.toNat, by omega⟩
  rw [Int.toNat_natCast] at hT
  have hb := w2.del x
  have hd := w1.ins y
  by_cases e : x = y
  · subst e
    have ha := w.same x
    rw [if_pos rfl]
    have hm : ∃ c : Nat, (c : Int) = min (min ((n : Int) + 0) (min ((n1 : Int) + 1) ((n2 : Int) + 1))) n3 := ⟨min (min n (min (n1 + 1) (n2 + 1))) n3, by omega⟩
    obtain ⟨c, hc⟩ := hm
    refine ⟨c, hc.symm, ?_, fun m hm => ?_⟩
    · have : c = n ∨ c = n2 + 1 ∨ c = n1 + 1 ∨ c = n3 := by omega
      rcases this with rfl | rfl | rfl | rfl
      · exact ha
      · exact hb
      · exact hd
      · exact hT
    · obtain ⟨k, hk, ed⟩ := hm
      generalize hz : x :: xs = zs at ed
      generalize hz' : x :: ys = zs' at ed
      cases ed with
      | nil => cases hz
      | same z q => cases hz; cases hz'; have := l _ ⟨_, Nat.le_refl _, q⟩; omega
      | sub _ _ q => cases hz; cases hz'; have := l _ ⟨_, Nat.le_refl _, q⟩; omega
      | ins _ q => cases hz'; rw [← hz] at q; have := l1 _ ⟨_, Nat.le_refl _, q⟩; omega
      | del _ q => cases hz; rw [← hz'] at q; have := l2 _ ⟨_, Nat.le_refl _, q⟩; omega
      | tra _ _ u v t q =>
        injection hz with a1 a2
        injection hz' with a3 a4
        subst a1
        subst a3
        have := hL u v _ _ _ a2 a4 ⟨_, Nat.le_refl _, q⟩
        omega
  · have ha := w.sub x y
    rw [if_neg e]
    have hm : ∃ c : Nat, (c : Int) = min (min ((n : Int) + 1) (min ((n1 : Int) + 1) ((n2 : Int) + 1))) n3 := ⟨min (min (n + 1) (min (n1 + 1) (n2 + 1))) n3, by omega⟩
    obtain ⟨c, hc⟩ := hm
    refine ⟨c, hc.symm, ?_, fun m hm => ?_⟩
    · have : c = n + 1 ∨ c = n2 + 1 ∨ c = n1 + 1 ∨ c = n3 := by omega
      rcases this with rfl | rfl | rfl | rfl
      · exact ha
      · exact hb
      · exact hd
      · exact hT
    · obtain ⟨k, hk, ed⟩ := hm
      generalize hz : x :: xs = zs at ed
      generalize hz' : y :: ys = zs' at ed
      cases ed with
      | nil => cases hz
      | same z q => cases hz; cases hz'; exact absurd rfl e
      | sub _ _ q => cases hz; cases hz'; have := l _ ⟨_, Nat.le_refl _, q⟩; omega
      | ins _ q => cases hz'; rw [← hz] at q; have := l1 _ ⟨_, Nat.le_refl _, q⟩; omega
      | del _ q => cases hz; rw [← hz'] at q; have := l2 _ ⟨_, Nat.le_refl _, q⟩; omega
      | tra _ _ u v t q =>
        injection hz with a1 a2
        injection hz' with a3 a4
        subst a1
        subst a3
        have := hL u v _ _ _ a2 a4 ⟨_, Nat.le_refl _, q⟩
        omega
theorem Mn.le_of {tr : Bool} {a b : LI} {k : Int} (h : Mn tr a b k) {n : Nat} (w : Wa tr a b n) : k ≤ n := by
  obtain ⟨m, rfl, _, l⟩ := h
  have := l n w
  omega
theorem Mn.wa {tr : Bool} {a b : LI} {k : Int} (h : Mn tr a b k) : 0 ≤ k ∧ Wa tr a b k.toNat := by
  obtain ⟨m, rfl, w, l⟩ := h
  exact ⟨by omega, by rw [Int.toNat_natCast]; exact w⟩
/-- the Damerau table holds the least costs -/
theorem dm_min (M : Int) (xs ys : List Int) (hM : M = (xs.length : Int) + (ys.length : Int)) : ∀ (k i j : Nat), i + j ≤ k → i ≤ xs.length → j ≤ ys.length → Mn true (Rp xs i) (Rp ys j) (dm M xs ys i j) := by
  intro k
  induction k with
  | zero =>
    intro i j hk _ hj
    have : i = 0 := by omega
    subst this
    have := Mn.nil_l (tr := true) (Rp ys j)
    rw [Rp_len hj] at this
    rw [Rp_zero, dm]
    exact this
  | succ k ih =>
    intro i j hk hi hj
    cases i with
    | zero =>
      have := Mn.nil_l (tr := true) (Rp ys j)
      rw [Rp_len hj] at this
      rw [Rp_zero, dm]
      exact this
    | succ i =>
      cases j with
      | zero =>
        have := Mn.nil_r (tr := true) (Rp xs (i + 1))
        rw [Rp_len hi] at this
        rw [Rp_zero, dm]
        exact this
      | succ j =>
        have h1 := ih i j (by omega) (by omega) (by omega)
        have h2 := ih i (j + 1) (by omega) (by omega) hj
        have h3 := ih (i + 1) j (by omega) hi (by omega)
        rw [Rp_succ (by omega)] at h3 ⊢
        rw [Rp_succ (by omega)] at h2 ⊢
        rw [dm]
        have b1 := lastR_le xs (ys.getD j 0) i
        have b2 := lastR_le ys (xs.getD i 0) j
        have lenI := Rp_len (xs := xs) (i := i) (by omega)
        have lenJ := Rp_len (xs := ys) (i := j) (by omega)
        by_cases hz : lastR xs (ys.getD j 0) i = 0 ∨ lastR ys (xs.getD i 0) j = 0
        · rw [if_pos hz]
          refine Mn.consT h1 h3 h2 (by omega) ((wa_sum _ _).up ?_) ?_
          · simp only [List.length_cons]; omega
          · intro u v xs' ys' c e1 e2 _
            obtain ⟨p1, _, p3, _⟩ := Rp_inv (by omega) e1
            obtain ⟨q1, _, q3, _⟩ := Rp_inv (by omega) e2
            have := lastR_ge p3 p1
            have := lastR_ge q3 q1
            omega
        · rw [if_neg hz]
          have z1 : lastR xs (ys.getD j 0) i ≠ 0 := fun e => hz (.inl e)
          have z2 : lastR ys (xs.getD i 0) j ≠ 0 := fun e => hz (.inr e)
          have h4 := ih (lastR xs (ys.getD j 0) i - 1) (lastR ys (xs.getD i 0) j - 1) (by omega) (by omega) (by omega)
          obtain ⟨p4, w4⟩ := h4.wa
          obtain ⟨u, hu, lu⟩ := Rp_split (xs := xs) (k := lastR xs (ys.getD j 0) i) (i := i) b1 (by omega)
          obtain ⟨v, hv, lv'⟩ := Rp_split (xs := ys) (k := lastR ys (xs.getD i 0) j) (i := j) b2 (by omega)
          have r1 := Rp_succ (xs := xs) (i := lastR xs (ys.getD j 0) i - 1) (by omega)
          have r2 := Rp_succ (xs := ys) (i := lastR ys (xs.getD i 0) j - 1) (by omega)
          rw [Nat.sub_add_cancel (by omega), lastR_is z1] at r1
          rw [Nat.sub_add_cancel (by omega), lastR_is z2] at r2
          refine Mn.consT h1 h3 h2 (by omega) ?_ ?_
          · rw [hu, hv, r1, r2]
            exact (Wa.tra (xs.getD i 0) (ys.getD j 0) u v rfl w4).up (by omega)
          · intro u' v' xs' ys' c e1 e2 w
            obtain ⟨p1, p2, p3, p5⟩ := Rp_inv (by omega) e1
            obtain ⟨q1, q2, q3, q5⟩ := Rp_inv (by omega) e2
            have g1 := lastR_ge p3 p1
            have g2 := lastR_ge q3 q1
            obtain ⟨a, ha, la⟩ := Rp_split (xs := xs) (k := xs'.length) (i := lastR xs (ys.getD j 0) i - 1) (by omega) (by omega)
            obtain ⟨b, hb, lb⟩ := Rp_split (xs := ys) (k := ys'.length) (i := lastR ys (xs.getD i 0) j - 1) (by omega) (by omega)
            rw [← p2] at ha
            rw [← q2] at hb
            have := h4.le_of (n := c + b.length + a.length) (by rw [ha, hb]; exact (w.inss b).dels a)
            omega
/-- what holds of least costs -/
structure Metric (D : LI → LI → Int) : Prop where
  sym : ∀ a b, D a b = D b a
  zero : ∀ a b, D a b = 0 ↔ a = b
  len : ∀ a b, (a.length : Int) - b.length ≤ D a b ∧ (b.length : Int) - a.length ≤ D a b ∧ D a b ≤ max (a.length : Int) b.length
  tri : ∀ a b c, D a c ≤ D a b + D b c
structure Metric2 (D : LI → LI → Int) : Prop extends Metric D where
  suf : ∀ a b c, D (a ++ c) (b ++ c) = D a b
  rev : ∀ a b, D a.reverse b.reverse = D a b
  cat : ∀ a b c d, D (a ++ b) (c ++ d) ≤ D a c + D b d
theorem metric_of {tr : Bool} {D : LI → LI → Int} (h : ∀ a b, Mn tr a.reverse b.reverse (D a b)) : Metric2 D := by
  have wa : ∀ a b, 0 ≤ D a b ∧ Wa tr a b (D a b).toNat := fun a b => ⟨(h a b).wa.1, by have := wa_rev (h a b).wa.2; simpa using this⟩
  have le : ∀ {a b n}, Wa tr a b n → D a b ≤ n := fun w => (h _ _).le_of (wa_rev w)
  have sym1 : ∀ a b, D a b ≤ D b a := fun a b => by have := le (wa b a).2.symm; have := (wa b a).1; omega
  refine { sym := fun a b => by have := sym1 a b; have := sym1 b a; omega, zero := fun a b => ⟨fun e => ?_, fun e => ?_⟩, len := fun a b => ?_, tri := fun a b c => ?_, suf := fun a b c => ?_, rev := fun a b => ?_, cat := fun a b c d => ?_ }
  · have := (wa a b).2
    rw [e] at this
    exact wa_zero this
  · subst e
    have := le (Wa.refl (tr := tr) a)
    have := (wa a a).1
    omega
  · have h1 := wa_len (wa a b).2
    have h2 := le (wa_max (tr := tr) a b)
    have := (wa a b).1
    omega
  · have := le (wa_trans (wa a b).2 (wa b c).2)
    have := (wa a b).1
    have := (wa b c).1
    omega
  · have h1 := le (wa_app (wa a b).2 (Wa.refl (tr := tr) c))
    have h2 := le (wa_suf (wa (a ++ c) (b ++ c)).2)
    have := (wa a b).1
    have := (wa (a ++ c) (b ++ c)).1
    omega
  · have h1 := le (wa_rev (wa a b).2)
    have h2 := wa_rev (wa a.reverse b.reverse).2
    simp only [List.reverse_reverse] at h2
    have h2 := le h2
    have := (wa a b).1
    have := (wa a.reverse b.reverse).1
    omega
  · have := le (wa_app (wa a c).2 (wa b d).2)
    have := (wa a c).1
    have := (wa b d).1
    omega
end

section
theorem Rp_all (xs : LI) : Rp xs xs.length = xs.reverse := by simp [Rp]
def dLraw (xs ys : LI) : Int := lv (fun i j => decide (xs[i]? = ys[j]?)) xs.length ys.length
def dDraw (xs ys : LI) : Int := dm ((xs.length : Int) + (ys.length : Int)) xs ys xs.length ys.length
theorem metL : Metric2 dLraw := metric_of (tr := false) fun a b => by
  have := lv_min a b a.length b.length (Nat.le_refl _) (Nat.le_refl _)
  rw [Rp_all, Rp_all] at this
  exact this
theorem metD : Metric2 dDraw := metric_of (tr := true) fun a b => by
  have := dm_min _ a b rfl (a.length + b.length) a.length b.length (Nat.le_refl _) (Nat.le_refl _) (Nat.le_refl _)
  rw [Rp_all, Rp_all] at this
  exact this
/-- places below n that differ, the shorter row filled up -/
def hamN (xs ys : LI) : Nat → Int
  | 0 => 0
  | n + 1 => hamN xs ys n + (if xs[n]? = ys[n]? then 0 else 1)
def dHraw (xs ys : LI) : Int := hamN xs ys (max xs.length ys.length)
theorem hamN_nonneg (xs ys : LI) : ∀ n, 0 ≤ hamN xs ys n
  | 0 => Int.le_refl _
  | n + 1 => by have := hamN_nonneg xs ys n; unfold hamN; split <;> omega
theorem hamN_le (xs ys : LI) : ∀ n, hamN xs ys n ≤ n
  | 0 => Int.le_refl _
  | n + 1 => by have := hamN_le xs ys n; unfold hamN; split <;> omega
theorem hamN_sym (xs ys : LI) : ∀ n, hamN xs ys n = hamN ys xs n
  | 0 => rfl
  | n + 1 => by
    unfold hamN
    rw [hamN_sym xs ys n]
    by_cases e : xs[n]? = ys[n]?
    · rw [if_pos e, if_pos e.symm]
    · rw [if_neg e, if_neg (fun q => e q.symm)]
theorem hamN_tri (xs ys zs : LI) : ∀ n, hamN xs zs n ≤ hamN xs ys n + hamN ys zs n
  | 0 => by simp [hamN]
  | n + 1 => by
    have := hamN_tri xs ys zs n
    unfold hamN
    by_cases e1 : xs[n]? = ys[n]? <;> by_cases e2 : ys[n]? = zs[n]? <;> by_cases e3 : xs[n]? = zs[n]?
    all_goals first
      | (simp only [e1, e2, e3, if_true, if_false]; omega)
      | (simp only [if_pos e1, if_pos e2, if_neg e3]; exact absurd (e1.trans e2) e3)
      | (first | rw [if_pos e1] | rw [if_neg e1]) ; (first | rw [if_pos e2] | rw [if_neg e2]); (first | rw [if_pos e3] | rw [if_neg e3]); omega
theorem hamN_more (xs ys : LI) {n : Nat} (hx : xs.length ≤ n) (hy : ys.length ≤ n) : ∀ k, hamN xs ys (n + k) = hamN xs ys n
  | 0 => rfl
  | k + 1 => by
    have ih := hamN_more xs ys hx hy k
    rw [show n + (k + 1) = (n + k) + 1 by omega]
    unfold hamN
    rw [ih, List.getElem?_eq_none (show xs.length ≤ n + k by omega), List.getElem?_eq_none (show ys.length ≤ n + k by omega), if_pos rfl, Int.add_zero]
    cases n <;> simp [hamN]
theorem hamN_max (xs ys : LI) {n : Nat} (hx : xs.length ≤ n) (hy : ys.length ≤ n) : hamN xs ys n = dHraw xs ys := by
  unfold dHraw
  have := hamN_more xs ys (n := max xs.length ys.length) (by omega) (by omega) (n - max xs.length ys.length)
  rw [show max xs.length ys.length + (n - max xs.length ys.length) = n by omega] at this
  exact this
theorem hamN_zero (xs ys : LI) : ∀ n, hamN xs ys n = 0 → ∀ i, i < n → xs[i]? = ys[i]?
  | 0, _, _, h => by omega
  | n + 1, h, i, hi => by
    have h0 := hamN_nonneg xs ys n
    unfold hamN at h
    by_cases e : xs[n]? = ys[n]?
    · rw [if_pos e] at h
      by_cases q : i = n
      · subst q; exact e
      · exact hamN_zero xs ys n (by omega) i (by omega)
    · rw [if_neg e] at h; omega
theorem hamN_same (xs : LI) : ∀ n, hamN xs xs n = 0
  | 0 => rfl
  | n + 1 => by unfold hamN; rw [hamN_same xs n, if_pos rfl]; rfl
theorem hamN_far (xs ys : LI) : ∀ n, n ≤ ys.length → (n : Int) - xs.length ≤ hamN xs ys n
  | 0, _ => by simp only [hamN]; omega
  | n + 1, h => by
    have := hamN_far xs ys n (by omega)
    have h0 := hamN_nonneg xs ys n
    unfold hamN
    by_cases q : xs.length ≤ n
    · rw [List.getElem?_eq_none q, List.getElem?_eq_getElem (by omega : n < ys.length), if_neg (by simp)]; omega
    · split <;> omega
theorem metH : Metric dHraw where
  sym := fun a b => by unfold dHraw; rw [hamN_sym, Nat.max_comm]
  zero := fun a b => ⟨fun e => by
    apply List.ext_getElem?
    intro i
    by_cases q : i < max a.length b.length
    · exact hamN_zero a b _ e i q
    · rw [List.getElem?_eq_none (by omega), List.getElem?_eq_none (by omega)], fun e => by subst e; exact hamN_same a _⟩
  len := fun a b => by
    have h1 := hamN_le a b (max a.length b.length)
    have h2 := hamN_far a b b.length (Nat.le_refl _)
    have h3 := hamN_far b a a.length (Nat.le_refl _)
    have h0 := hamN_nonneg a b (max a.length b.length)
    unfold dHraw
    refine ⟨?_, ?_, by omega⟩
    · rcases Nat.le_total a.length b.length with q | q
      · omega
      · rw [Nat.max_eq_left q, hamN_sym]; exact h3
    · rcases Nat.le_total a.length b.length with q | q
      · rw [Nat.max_eq_right q]; exact h2
      · omega
  tri := fun a b c => by
    have h := hamN_tri a b c (max (max a.length b.length) c.length)
    rw [hamN_max a c (by omega) (by omega), hamN_max a b (by omega) (by omega), hamN_max b c (by omega) (by omega)] at h
    exact h
theorem qd_of {D : LI → LI → Int} (M : Metric D) (xs ys : LI) : (if xs = ys then (0 : Int) else if xs = [] ∨ ys = [] then ((max xs.length ys.length : Nat) : Int) else D xs ys) = D xs ys := by
  by_cases e : xs = ys
  · rw [if_pos e]; exact ((M.zero xs ys).mpr e).symm
  · rw [if_neg e]
    by_cases f : xs = [] ∨ ys = []
    · rw [if_pos f]
      have := M.len xs ys
      rcases f with f | f <;> subst f <;> simp at this ⊢ <;> omega
    · rw [if_neg f]
end

section
open PySem.Calls
abbrev IsZipG (h : Heap) (z TI TO : Addr) (f0 f1 : Value) : Prop :=
  h.get? z = some { cls := .type "zip", dict := none, data := .fields #[f0, f1, .bool false, .ref TI, .ref TO], slots := #[] }
def OwnOk (f : Value) : Prop := f = .none ∨ ∃ T : Nat, f = rawInt T
section
variable {prog : Program} {w : World} {A : Around} {E : Value → Shared → Prop} {s : Shared}
theorem wpAny_ifAlive {M : Model} {a : Addr} {Q : Option Obj → Shared → Prop} (h : Q (s.heap.get? a) s) : wpAny M A (loadIfAlive a) Q E s := fun Γ p _ => by
  unfold loadIfAlive
  rw [Sem.wp_loadIfAlive]
  exact h
theorem owned_free {z TI TO : Addr} {f0 f1 : Value} {Q : Bool → Shared → Prop} (hz : IsZipG s.heap z TI TO f0 f1) (hf : OwnOk f0) (h1 : Q true s)
    (h2 : ∀ h', IsZipG h' z TI TO f0 (.bool true) → Heap.SameBut z s.heap h' → Q false { s with heap := h' }) : wpAny (model prog w) A (Builtin.SmallTypes.ownedTupleIsFree (.ref z)) Q E s := by
  unfold Builtin.SmallTypes.ownedTupleIsFree
  refine wpAny_bind (wpAny_field hz rfl (x := f0) rfl ?_)
  rcases hf with rfl | ⟨T, rfl⟩
  · exact wpAny_pure h1
  · show wpAny _ _ (loadIfAlive (Int.toNat (T : Int)) >>= _) _ _ s
    refine wpAny_bind (wpAny_ifAlive ?_)
    cases hT : s.heap.get? (Int.toNat (T : Int)) with
    | none =>
      simp only [Option.isNone_none, if_true]
      exact wpAny_pure h1
    | some o =>
      simp only [Option.isNone_some, Bool.false_eq_true, if_false]
      refine wpAny_bind (wpAny_field hz rfl (x := f1) rfl ?_)
      by_cases hb : (f1 != Value.bool true) = true
      · rw [if_pos hb]
        refine wpAny_bind (wpAny_setField_rec hz (by simp) fun h' hz' hs' => wpAny_pure (h2 h' hz' hs'))
      · rw [if_neg hb]
        have e : f1 = Value.bool true := by simpa using hb
        subst e
        exact wpAny_pure (h2 s.heap hz ⟨rfl, fun _ _ => rfl⟩)
/-- zip of two lists draws a pair, whoever holds the last one -/
theorem zipG_item {z TI TO i1 i2 l1 l2 : Addr} {k1 k2 : Nat} {xs ys : Array Value} {x y a b f0 f1 : Value} {Q : Value → Shared → Prop} (D : ZipApart z TI TO i1 i2 l1 l2)
    (hz : IsZipG s.heap z TI TO f0 f1) (hf : OwnOk f0) (hTI : IsPair s.heap TI (.ref i1) (.ref i2)) (hTO : IsPair s.heap TO a b)
    (h1 : s.heap.IsListIter i1 l1 k1) (h2 : s.heap.IsListIter i2 l2 k2) (hl1 : s.heap.IsList l1 xs) (hl2 : s.heap.IsList l2 ys) (hx : xs[k1]? = some x) (hy : ys[k2]? = some y)
    (hQ : ∀ T h' g0 g1 a' b', IsZipG h' z TI TO g0 g1 → OwnOk g0 → IsPair h' TO a' b' → h'.IsListIter i1 l1 (k1 + 1) → h'.IsListIter i2 l2 (k2 + 1) → IsPair h' T x y → s.heap.objs.size ≤ T →
      (∀ c o, c ≠ z → c ≠ TO → c ≠ i1 → c ≠ i2 → s.heap.get? c = some o → h'.get? c = some o) → Q (.ref T) { s with heap := h' }) :
    wpAny (model prog w) A (Builtin.«zip.__next__» ⟨[.ref z], []⟩) (fun fin s' => ∃ v, fin = .done (.ret v) ∧ Q v s') E s := by
  show wpAny _ _ (field (.ref z) 2 >>= _) _ _ _
  refine wpAny_bind (wpAny_field hz rfl (x := .bool false) rfl ?_)
  show wpAny _ _ (field (.ref z) 3 >>= _) _ _ _
  refine wpAny_bind (wpAny_field hz rfl (x := .ref TI) rfl ?_)
  refine wpAny_bind (wpAny_seqItems hTI rfl ?_)
  show wpAny _ _ (Builtin.SmallTypes.ownedTupleIsFree (.ref z) >>= _) _ _ _
  refine wpAny_bind (owned_free hz hf ?_ fun h₁ hz₁ hs₁ => ?_)
  · simp only [if_true]
    refine wpAny_bind (wpAny_rule ?_)
    refine wpAny_bind (wpAny_field hz rfl (x := .ref TO) rfl ?_)
    refine wpAny_bind (wpAny_setField_rec hz (by simp) fun h₁ hz₁ hs₁ => ?_)
    replace hz₁ : IsZipG h₁ z TI TO .ellipsis f1 := hz₁
    refine wpAny_bind ?_
    simp only [List.zipIdx_cons, List.zipIdx_nil, List.forIn_cons, List.forIn_nil]
    refine wpAny_bind (wpAny_bind (wpAny_onRaise ?_))
    show wpAny _ _ (Builtin.SmallTypes.nextOf (.ref i1) >>= _) _ _ _
    refine wpAny_bind (wpAny_nextOf_list_item (h1.extBut hs₁.extBut D.i1z) (hl1.extBut hs₁.extBut D.l1z) hx fun h₂ h1₂ hs₂ => wpAny_pure ?_)
    have hTO₂ : IsPair h₂ TO a b := hs₂.extBut _ _ D.TOi1 (hs₁.extBut _ _ D.TOz hTO)
    refine wpAny_bind (wpAny_seqItems hTO₂ rfl ?_)
    refine wpAny_bind (wpAny_updateSeq_pair hTO₂ fun h₃ hTO₃ hs₃ => ?_)
    replace hTO₃ : IsPair h₃ TO x b := hTO₃
    refine wpAny_bind (wpAny_letGo (wpAny_pure ?_))
    refine wpAny_bind (wpAny_bind (wpAny_onRaise ?_))
    show wpAny _ _ (Builtin.SmallTypes.nextOf (.ref i2) >>= _) _ _ _
    refine wpAny_bind (wpAny_nextOf_list_item (((h2.extBut hs₁.extBut D.i2z).extBut hs₂.extBut D.i12.symm).extBut hs₃.extBut D.TOi2.symm)
      (((hl2.extBut hs₁.extBut D.l2z).extBut hs₂.extBut D.l2i1).extBut hs₃.extBut D.l2TO) hy fun h₄ h2₄ hs₄ => wpAny_pure ?_)
    have hTO₄ : IsPair h₄ TO x b := hs₄.extBut _ _ D.TOi2 hTO₃
    refine wpAny_bind (wpAny_seqItems hTO₄ rfl ?_)
    refine wpAny_bind (wpAny_updateSeq_pair hTO₄ fun h₅ hTO₅ hs₅ => ?_)
    replace hTO₅ : IsPair h₅ TO x y := hTO₅
    refine wpAny_bind (wpAny_letGo (wpAny_pure (wpAny_pure ?_)))
    refine wpAny_bind (wpAny_seqItems hTO₅ rfl ?_)
    refine wpAny_bind (wpAny_newTuple ?_)
    have hsz : h₅.objs.size = s.heap.objs.size := by rw [hs₅.1, hs₄.1, hs₃.1, hs₂.1, hs₁.1]
    have hz₅ : IsZipG h₅ z TI TO .ellipsis f1 := hs₅.extBut _ _ D.TOz.symm (hs₄.extBut _ _ D.i2z.symm (hs₃.extBut _ _ D.TOz.symm (hs₂.extBut _ _ D.i1z.symm hz₁)))
    have hk₅ : ∀ c o, c ≠ z → c ≠ TO → c ≠ i1 → c ≠ i2 → s.heap.get? c = some o → h₅.get? c = some o := fun c o c1 c2 c3 c4 e =>
      hs₅.extBut _ _ c2 (hs₄.extBut _ _ c4 (hs₃.extBut _ _ c2 (hs₂.extBut _ _ c3 (hs₁.extBut _ _ c1 e))))
    have h1₅ : h₅.IsListIter i1 l1 (k1 + 1) := ((h1₂.extBut hs₃.extBut D.TOi1.symm).extBut hs₄.extBut D.i12).extBut hs₅.extBut D.TOi1.symm
    have h2₅ : h₅.IsListIter i2 l2 (k2 + 1) := h2₄.extBut hs₅.extBut D.TOi2.symm
    have hzlt : z < h₅.objs.size := Heap.lt_size hz₅
    show wpAny _ _ (Builtin.SmallTypes.ownedTupleHandOut (.ref z) (.ref h₅.objs.size) >>= _) _ _ _
    refine wpAny_bind ?_
    unfold Builtin.SmallTypes.ownedTupleHandOut
    have hz₆ : IsZipG (h₅.push { cls := .type "tuple", data := .seq #[x, y] }) z TI TO .ellipsis f1 := Heap.get?_push_of_some _ hz₅
    refine wpAny_bind (wpAny_setField_rec hz₆ (by simp) fun h₇ hz₇ hs₇ => ?_)
    replace hz₇ : IsZipG h₇ z TI TO (rawInt h₅.objs.size) f1 := hz₇
    refine wpAny_setField_rec hz₇ (by simp) fun h₈ hz₈ hs₈ => ?_
    replace hz₈ : IsZipG h₈ z TI TO (rawInt h₅.objs.size) (.bool false) := hz₈
    have up : ∀ c o, c ≠ z → h₅.get? c = some o → h₈.get? c = some o := fun c o c1 e => hs₈.extBut _ _ c1 (hs₇.extBut _ _ c1 (Heap.get?_push_of_some _ e))
    have hT₈ : IsPair h₈ h₅.objs.size x y := hs₈.extBut _ _ (Nat.ne_of_gt hzlt) (hs₇.extBut _ _ (Nat.ne_of_gt hzlt) (Heap.get?_push_size _ rfl))
    refine wpAny_pure ⟨_, rfl, ?_⟩
    exact hQ h₅.objs.size h₈ _ _ x y hz₈ (.inr ⟨_, rfl⟩) (up _ _ D.TOz hTO₅) (h1₅.at fun o e => up _ o D.i1z e) (h2₅.at fun o e => up _ o D.i2z e) hT₈ (Nat.le_of_eq hsz.symm) fun c o c1 c2 c3 c4 e => up c o c1 (hk₅ c o c1 c2 c3 c4 e)
  · simp only [Bool.false_eq_true, if_false]
    have hTI₁ : IsPair h₁ TI (.ref i1) (.ref i2) := hs₁.extBut _ _ D.TIz hTI
    refine wpAny_bind ?_
    simp only [List.forIn_toArray, List.forIn_cons, List.forIn_nil]
    refine wpAny_bind (wpAny_bind (wpAny_holding ?_))
    show wpAny _ _ (Builtin.SmallTypes.nextOf (.ref i1) >>= _) _ _ _
    refine wpAny_bind (wpAny_nextOf_list_item (h1.extBut hs₁.extBut D.i1z) (hl1.extBut hs₁.extBut D.l1z) hx fun h₂ h1₂ hs₂ => wpAny_pure ?_)
    refine wpAny_pure ?_
    refine wpAny_bind (wpAny_bind (wpAny_holding ?_))
    show wpAny _ _ (Builtin.SmallTypes.nextOf (.ref i2) >>= _) _ _ _
    refine wpAny_bind (wpAny_nextOf_list_item ((h2.extBut hs₁.extBut D.i2z).extBut hs₂.extBut D.i12.symm) ((hl2.extBut hs₁.extBut D.l2z).extBut hs₂.extBut D.l2i1) hy fun h₄ h2₄ hs₄ => wpAny_pure ?_)
    refine wpAny_pure ?_
    refine wpAny_pure ?_
    refine wpAny_bind (wpAny_newTuple (hsz := by show (2 : Nat) ≤ 16777216; decide) ?_)
    have hsz : h₄.objs.size = s.heap.objs.size := by rw [hs₄.1, hs₂.1, hs₁.1]
    have k₄ : ∀ c o, c ≠ z → c ≠ i1 → c ≠ i2 → s.heap.get? c = some o → h₄.get? c = some o := fun c o c1 c3 c4 e => hs₄.extBut _ _ c4 (hs₂.extBut _ _ c3 (hs₁.extBut _ _ c1 e))
    refine wpAny_pure ⟨_, rfl, ?_⟩
    exact hQ h₄.objs.size _ _ _ a b (Heap.get?_push_of_some _ (hs₄.extBut _ _ D.i2z.symm (hs₂.extBut _ _ D.i1z.symm hz₁))) hf (Heap.get?_push_of_some _ (k₄ _ _ D.TOz D.TOi1 D.TOi2 hTO))
      ((h1₂.extBut hs₄.extBut D.i12).at fun o e => Heap.get?_push_of_some _ e) (h2₄.at fun o e => Heap.get?_push_of_some _ e) (Heap.get?_push_size _ rfl) (Nat.le_of_eq hsz.symm) fun c o c1 _ c3 c4 e => Heap.get?_push_of_some _ (k₄ c o c1 c3 c4 e)
theorem zipG_end {z TI TO i1 i2 l1 l2 : Addr} {k1 k2 : Nat} {xs ys : Array Value} {a b f0 f1 : Value} {Q : Fin → Shared → Prop} (hh : A.handled = none) (D : ZipApart z TI TO i1 i2 l1 l2)
    (hz : IsZipG s.heap z TI TO f0 f1) (hf : OwnOk f0) (hTI : IsPair s.heap TI (.ref i1) (.ref i2)) (_hTO : IsPair s.heap TO a b)
    (h1 : s.heap.IsListIter i1 l1 k1) (_h2 : s.heap.IsListIter i2 l2 k2) (hl1 : s.heap.IsList l1 xs) (_hl2 : s.heap.IsList l2 ys) (hx : xs[k1]? = none)
    (hE : ∀ h' e, (∀ c o, c ≠ z → c ≠ TO → c ≠ i1 → c ≠ i2 → s.heap.get? c = some o → h'.get? c = some o) → (∃ o, h'.get? e = some o ∧ o.cls = .type "StopIteration") → E (.ref e) { s with heap := h' }) :
    wpAny (model prog w) A (Builtin.«zip.__next__» ⟨[.ref z], []⟩) Q E s := by
  show wpAny _ _ (field (.ref z) 2 >>= _) _ _ _
  refine wpAny_bind (wpAny_field hz rfl (x := .bool false) rfl ?_)
  show wpAny _ _ (field (.ref z) 3 >>= _) _ _ _
  refine wpAny_bind (wpAny_field hz rfl (x := .ref TI) rfl ?_)
  refine wpAny_bind (wpAny_seqItems hTI rfl ?_)
  show wpAny _ _ (Builtin.SmallTypes.ownedTupleIsFree (.ref z) >>= _) _ _ _
  refine wpAny_bind (owned_free hz hf ?_ fun h₁ hz₁ hs₁ => ?_)
  · simp only [if_true]
    refine wpAny_bind (wpAny_rule ?_)
    refine wpAny_bind (wpAny_field hz rfl (x := .ref TO) rfl ?_)
    refine wpAny_bind (wpAny_setField_rec hz (by simp) fun h₁ hz₁ hs₁ => ?_)
    replace hz₁ : IsZipG h₁ z TI TO .ellipsis f1 := hz₁
    refine wpAny_bind ?_
    simp only [List.zipIdx_cons, List.zipIdx_nil, List.forIn_cons, List.forIn_nil]
    refine wpAny_bind (wpAny_bind (wpAny_onRaise ?_))
    show wpAny _ _ (Builtin.SmallTypes.nextOf (.ref i1) >>= _) _ _ _
    refine wpAny_bind (wpAny_nextOf_list_end hh (h1.extBut hs₁.extBut D.i1z) (hl1.extBut hs₁.extBut D.l1z) hx fun h₂ e hs₂ he => ?_)
    obtain ⟨oe, hoe, hce⟩ := he
    have hz₂ : IsZipG h₂ z TI TO .ellipsis f1 := hs₂ _ _ D.i1z.symm hz₁
    have hez : e ≠ z := fun x => by subst x; rw [hz₂] at hoe; cases hoe; simp at hce
    refine wpAny_setField_rec hz₂ (by simp) fun h₃ _ hs₃ => hE h₃ e (fun c o c1 _ c3 _ x => hs₃.extBut _ _ c1 (hs₂ _ _ c3 (hs₁.extBut _ _ c1 x))) ⟨oe, hs₃.extBut _ _ hez hoe, hce⟩
  · simp only [Bool.false_eq_true, if_false]
    refine wpAny_bind ?_
    simp only [List.forIn_toArray, List.forIn_cons, List.forIn_nil]
    refine wpAny_bind (wpAny_bind (wpAny_holding ?_))
    show wpAny _ _ (Builtin.SmallTypes.nextOf (.ref i1) >>= _) _ _ _
    exact wpAny_bind (wpAny_nextOf_list_end hh (h1.extBut hs₁.extBut D.i1z) (hl1.extBut hs₁.extBut D.l1z) hx fun h₂ e hs₂ he => hE h₂ e (fun c o c1 _ c3 _ x => hs₂ _ _ c3 (hs₁.extBut _ _ c1 x)) he)
/-- where a zip of two lists stands -/
def ZS (z TI TO i1 i2 l1 l2 : Addr) (xs ys : Array Value) (i : Nat) (h : Heap) : Prop :=
  ∃ f0 f1 a b, IsZipG h z TI TO f0 f1 ∧ OwnOk f0 ∧ IsPair h TI (.ref i1) (.ref i2) ∧ IsPair h TO a b ∧ h.IsListIter i1 l1 i ∧ h.IsListIter i2 l2 i ∧ h.IsList l1 xs ∧ h.IsList l2 ys
theorem ZS.frame {z TI TO i1 i2 l1 l2 : Addr} {xs ys : Array Value} {i : Nat} {h h' : Heap} (st : ZS z TI TO i1 i2 l1 l2 xs ys i h) (hk : ∀ b ∈ [z, TI, TO, i1, i2, l1, l2], ∀ o, h.get? b = some o → h'.get? b = some o) : ZS z TI TO i1 i2 l1 l2 xs ys i h' := by
  obtain ⟨f0, f1, a, b, hz, hf, hTI, hTO, h1, h2, hl1, hl2⟩ := st
  exact ⟨f0, f1, a, b, hk z (by simp) _ hz, hf, hk TI (by simp) _ hTI, hk TO (by simp) _ hTO, h1.at fun o e => hk i1 (by simp) o e, h2.at fun o e => hk i2 (by simp) o e,
      hl1.at fun o e => hk l1 (by simp) o e, hl2.at fun o e => hk l2 (by simp) o e⟩
theorem zip_draw {z TI TO i1 i2 l1 l2 : Addr} {xs ys : Array Value} {i : Nat} {x y : Value} {Q : Option Value → Shared → Prop} (D : ZipApart z TI TO i1 i2 l1 l2) (st : ZS z TI TO i1 i2 l1 l2 xs ys i s.heap) (hx : xs[i]? = some x) (hy : ys[i]? = some y)
    (hQ : ∀ T h', IsPair h' T x y → s.heap.objs.size ≤ T → ZS z TI TO i1 i2 l1 l2 xs ys (i + 1) h' → (∀ c o, c ∉ [z, TO, i1, i2] → s.heap.get? c = some o → h'.get? c = some o) → Q (some (.ref T)) { s with heap := h' }) :
    wpAny (model prog w) A (pyNext (.ref z)) Q E s := by
  obtain ⟨f0, f1, a, b, hz, hf, hTI, hTO, h1, h2, hl1, hl2⟩ := st
  have hT : s.TypeIs (.ref z) "zip" := ⟨_, hz, rfl⟩
  unfold pyNext
  refine wpAny_bind (wpAny_attempt (wpAny_callSpecial?_slot (name := Str.ofString "__next__") hT F.slot_zip_next
    (wpAny_call_entry F.slot_zip_next hT F.entry_zip_next
      (zipG_item D hz hf hTI hTO h1 h2 hl1 hl2 hx hy fun T h' g0 g1 a' b' a1 a2 a3 a4 a5 a6 a7 hk => wpAny_pure (hQ T h' a6 a7 ?_ ?_)) (F.args_zip_next_1 _))))
  · exact ⟨g0, g1, a', b', a1, a2, hk _ _ D.TIz D.TITO D.TIi1 D.TIi2 hTI, a3, a4, a5, hl1.at fun o e => hk _ o D.l1z D.l1TO D.l1i1 D.l1i2 e, hl2.at fun o e => hk _ o D.l2z D.l2TO D.l2i1 D.l2i2 e⟩
  · exact fun c o hc e => hk c o (fun x => hc (by simp [x])) (fun x => hc (by simp [x])) (fun x => hc (by simp [x])) (fun x => hc (by simp [x])) e
theorem zip_over {z TI TO i1 i2 l1 l2 : Addr} {xs ys : Array Value} {i : Nat} {Q : Option Value → Shared → Prop} (hh : A.handled = none) (D : ZipApart z TI TO i1 i2 l1 l2) (st : ZS z TI TO i1 i2 l1 l2 xs ys i s.heap) (hx : xs[i]? = none)
    (hQ : ∀ h', (∀ c o, c ∉ [z, TO, i1, i2] → s.heap.get? c = some o → h'.get? c = some o) → Q none { s with heap := h' }) :
    wpAny (model prog w) A (pyNext (.ref z)) Q E s := by
  obtain ⟨f0, f1, a, b, hz, hf, hTI, hTO, h1, h2, hl1, hl2⟩ := st
  have hT : s.TypeIs (.ref z) "zip" := ⟨_, hz, rfl⟩
  unfold pyNext
  refine wpAny_bind (wpAny_attempt (wpAny_callSpecial?_slot (name := Str.ofString "__next__") hT F.slot_zip_next
    (wpAny_call_entry F.slot_zip_next hT F.entry_zip_next (zipG_end hh D hz hf hTI hTO h1 h2 hl1 hl2 hx fun h' e hk he => ?_) (F.args_zip_next_1 _))))
  obtain ⟨o, ho, hc⟩ := he
  refine wpAny_bind (wpAny_isInstance (T := "StopIteration") (b := true) ⟨o, ho, hc⟩ isSubtype_stop ?_)
  exact wpAny_pure (hQ _ fun c o hc e => hk c o (fun x => hc (by simp [x])) (fun x => hc (by simp [x])) (fun x => hc (by simp [x])) (fun x => hc (by simp [x])) e)
end
end

section
open PySem.Calls
section
variable {prog : Program} {w : World} {A : Around}
theorem pass_len (n i : Nat) : (passing (fun _ => true) n i).length = n - i := by
  unfold passing
  rw [List.filter_eq_self.mpr (by simp)]
  simp
/-- the turns of a generator expression over a zip of two lists: its element sees the drawn pair -/
theorem seg_pairs {elt iter : Expr} {nm : Str} {px : Pos} {scope : Scope} {pos : Pos} {z TI TO i1 i2 l1 l2 : Addr} {xs ys : Array Value} {fp : List Addr} {n : Nat} {cenv : Env} (F : Nat → Value → Prop) (href : Heap)
    (hh : A.handled = none) (D : ZipApart z TI TO i1 i2 l1 l2) (hnx : xs.size = n) (hny : ys.size = n)
    (hx : cenv.kindOf nm = some .local) (hp : (cenv.scope.kind == .class || (cenv.scope.kind == .module && cenv.locals != cenv.globals)) = false)
    (hco : cenv.scope.isCoroutine = false) (hCf : cenv.locals ∉ fp) (hfp : ∀ b ∈ [z, TI, TO, i1, i2, l1, l2], b ∈ fp)
    (hel : ∀ (A' : Around) E' i T x y (s₂ : Shared) m₂, A'.handled = none → A'.depth ≤ A.depth + 1 → A'.units ≤ A.units + 3 → xs[i]? = some x → ys[i]? = some y → s₂.heap.Ns cenv.locals m₂ → m₂ nm = some (.ref T) → IsPair s₂.heap T x y →
      (∀ b ∈ fp, b ∉ [z, TO, i1, i2] → ∀ o, href.get? b = some o → s₂.heap.get? b = some o) → wpAny (model prog w) A' (eval elt cenv) (fun v s₃ => F i v ∧ Keeps s₂ s₃) E' s₂) :
    ∀ (k i : Nat) (s₀ s : Shared) (m : Str → Option Value), n - i = k → i ≤ n → ZS z TI TO i1 i2 l1 l2 xs ys i s.heap → s.heap.Ns cenv.locals m → GenSince cenv.locals [z, TO, i1, i2] s₀ s →
      (∀ b ∈ fp, b ∉ [z, TO, i1, i2] → ∀ o, href.get? b = some o → s.heap.get? b = some o) →
      Seg (model prog w) A (fun n s₀ r s₁ => r = .ok .next ∧ (n = 0 ∧ GenSince cenv.locals [z, TO, i1, i2] s₀ s₁)) (genProto cenv.locals fp [z, TO, i1, i2] (fun _ => true) n F) (passing (fun _ => true) n i).length s₀
        (.compLoop (.GeneratorExp elt [⟨.Name nm px, iter, [], 0⟩] scope pos) 0 (.ref z) .none cenv)
        ((model prog w).den (.compLoop (.GeneratorExp elt [⟨.Name nm px, iter, [], 0⟩] scope pos) 0 (.ref z) .none cenv)) [] s := by
  have hh' : (A.over (.compLoop (.GeneratorExp elt [⟨.Name nm px, iter, [], 0⟩] scope pos) 0 (.ref z) .none cenv) []).handled = none := hh
  have hdep' : (A.over (.compLoop (.GeneratorExp elt [⟨.Name nm px, iter, [], 0⟩] scope pos) 0 (.ref z) .none cenv) []).depth ≤ A.depth + 1 := Nat.le_of_eq rfl
  have huni' : (A.over (.compLoop (.GeneratorExp elt [⟨.Name nm px, iter, [], 0⟩] scope pos) 0 (.ref z) .none cenv) []).units ≤ A.units + 3 := Nat.le_of_eq rfl
  have hwf : ∀ b ∈ [z, TO, i1, i2], b ∈ fp := fun b hb => hfp b (by simp at hb ⊢; rcases hb with rfl | rfl | rfl | rfl <;> simp)
  have hCw : cenv.locals ∉ [z, TO, i1, i2] := fun h => hCf (hwf _ h)
  have zs : ∀ {i h h'}, ZS z TI TO i1 i2 l1 l2 xs ys i h → (∀ b ∈ fp, ∀ o, h.get? b = some o → h'.get? b = some o) → ZS z TI TO i1 i2 l1 l2 xs ys i h' := fun st hk => st.frame fun b hb o e => hk b (hfp b hb) o e
  intro k
  induction k with
  | zero =>
    intro i s₀ s m hk hi hst hn hsince hkp
    have hin : i = n := by omega
    subst hin
    show Seg _ A _ _ _ s₀ _ ((compTurn (.GeneratorExp elt [⟨.Name nm px, iter, [], 0⟩] scope pos) 0 (.ref z) .none cenv).onRaise (leaving cenv)) [] s
    rw [compTurn_gen, Sem.onRaise_eq_wrap]
    refine seg_bind_wrap (wpAny_standAt ?_)
    refine seg_bind_wrap (zip_over hh' D hst (Array.getElem?_eq_none (Nat.le_of_eq hnx)) fun h' hk' => ?_)
    exact seg_end (.ok .next) ⟨rfl, by rw [passing_end]; rfl, hsince.step fun b o _ hw e => hk' b o hw e⟩
  | succ k ih =>
    intro i s₀ s m hk hi hst hn hsince hkp
    have hlt : i < n := by omega
    show Seg _ A _ _ _ s₀ _ ((compTurn (.GeneratorExp elt [⟨.Name nm px, iter, [], 0⟩] scope pos) 0 (.ref z) .none cenv).onRaise (leaving cenv)) [] s
    rw [compTurn_gen, Sem.onRaise_eq_wrap]
    refine seg_bind_wrap (wpAny_standAt ?_)
    have ex : xs[i]? = some (xs[i]'(by omega)) := Array.getElem?_eq_getElem (by omega)
    have ey : ys[i]? = some (ys[i]'(by omega)) := Array.getElem?_eq_getElem (by omega)
    refine seg_bind_wrap (zip_draw D hst ex ey fun T h₁ hPT hTs hst₁ hk₁ => ?_)
    have hCT : T ≠ cenv.locals := Nat.ne_of_gt (Nat.lt_of_lt_of_le hn.lt hTs)
    refine seg_bind_wrap (wpAny_of_eq (rfl : letOwnedTupleGo (.Name nm px) (.ref z) (.ref T) = pure ()) ?_)
    refine seg_bind_wrap (wpAny_assign_Name (wpAny_storeName_local hx (hn.at' fun o e => hk₁ _ o hCw e) (fun h₂ hn₂ hs₂ => ?_) hp))
    have up₂ : ∀ b o, b ≠ cenv.locals → b ∉ [z, TO, i1, i2] → s.heap.get? b = some o → h₂.get? b = some o := fun b o hbC hbw e => hs₂.extBut b o hbC (hk₁ b o hbw e)
    have hst₂ : ZS z TI TO i1 i2 l1 l2 xs ys (i + 1) h₂ := zs hst₁ fun b hb o e => hs₂.extBut b o (fun h => hCf (h ▸ hb)) e
    have hPT₂ : IsPair h₂ T (xs[i]'(by omega)) (ys[i]'(by omega)) := hs₂.extBut _ _ hCT hPT
    have hkp₂ : ∀ b ∈ fp, b ∉ [z, TO, i1, i2] → ∀ o, href.get? b = some o → h₂.get? b = some o := fun b hb hbw o e => up₂ b o (fun h => hCf (h ▸ hb)) hbw (hkp b hb hbw o e)
    refine seg_bind_wrap ?_
    show wpAny _ _ (pure true) _ _ _
    refine wpAny_pure ?_
    rw [passing_true hlt rfl, List.length_cons]
    simp only [if_true]
    have hy : ∀ v, yieldOut cenv v = yieldValue v := fun v => by simp only [yieldOut, hco, Bool.false_eq_true, if_false]
    simp only [hy]
    rw [Sem.bind_eq_wrap', Sem.bind_eq_wrap', Sem.wrap_wrap, Sem.wrap_wrap]
    refine seg_wrap (wpAny_mono (hel _ _ i T _ _ _ _ hh' hdep' huni' ex ey hn₂ (by simp) hPT₂ hkp₂) (fun y s₄ h₄ => ?_) fun _ _ e => e)
    obtain ⟨hFy, h₄, tk₄, rfl, hk₄⟩ := h₄
    have hsince₂ : GenSince cenv.locals [z, TO, i1, i2] s₀ { s with heap := h₄, toks := tk₄ } := hsince.step fun b o hbC hbw e => hk₄ b o (up₂ b o hbC hbw e)
    refine seg_at (seg_yield rfl rfl rfl ⟨⟨i, passing_here hlt rfl, hFy⟩, hsince₂, fun s'' hal => ?_⟩)
    refine seg_again rfl (ih (i + 1) s'' s'' _ (by omega) hlt (zs hst₂ fun b hb o e => hal b (List.mem_cons_of_mem _ hb) o (hk₄ b o e))
      ((hn₂.keeps hk₄).at' fun o e => hal _ (List.mem_cons_self ..) o e) (GenSince.refl _ _ _) fun b hb hbw o e => hal b (List.mem_cons_of_mem _ hb) o (hk₄ b o (hkp₂ b hb hbw o e)))
end
end

section
open PySem.Calls
section
variable {prog : Program} {w : World} {A : Around} {E : Value → Shared → Prop} {s : Shared}
theorem zip_iter {z TI TO : Addr} {f0 f1 : Value} {Q : Value → Shared → Prop} (hz : IsZipG s.heap z TI TO f0 f1) (h : Q (.ref z) s) : wpAny (model prog w) A (pyIter (.ref z)) Q E s := by
  have hT : s.TypeIs (.ref z) "zip" := ⟨_, hz, rfl⟩
  refine wpAny_pyIter_slot hT F.slot_zip_iter (wpAny_call_entry F.slot_zip_iter hT F.entry_zip_iter ?_ (F.args_zip_iter_1 _))
  show wpAny _ _ (ret (.ref z)) _ _ s
  exact wpAny_pure ⟨_, rfl, "zip", _, hT, F.slot_zip_next.lookup, h⟩
theorem start_pairs {elt iter : Expr} {nm : Str} {px : Pos} {scope : Scope} {pos : Pos} {z TI TO i1 i2 l1 l2 : Addr} {xs ys : Array Value} {fp : List Addr} {n : Nat} {cenv : Env} (F : Nat → Value → Prop) (href : Heap)
    (hh : A.handled = none) (D : ZipApart z TI TO i1 i2 l1 l2) (hnx : xs.size = n) (hny : ys.size = n)
    (hx : cenv.kindOf nm = some .local) (hp : (cenv.scope.kind == .class || (cenv.scope.kind == .module && cenv.locals != cenv.globals)) = false)
    (hco : cenv.scope.isCoroutine = false) (hCf : cenv.locals ∉ fp) (hfp : ∀ b ∈ [z, TI, TO, i1, i2, l1, l2], b ∈ fp)
    (hel : ∀ (A' : Around) E' i T x y (s₂ : Shared) m₂, A'.handled = none → A'.depth ≤ A.depth + 1 → A'.units ≤ A.units + 3 → xs[i]? = some x → ys[i]? = some y → s₂.heap.Ns cenv.locals m₂ → m₂ nm = some (.ref T) → IsPair s₂.heap T x y →
      (∀ b ∈ fp, b ∉ [z, TO, i1, i2] → ∀ o, href.get? b = some o → s₂.heap.get? b = some o) → wpAny (model prog w) A' (eval elt cenv) (fun v s₃ => F i v ∧ Keeps s₂ s₃) E' s₂)
    (s₀ s : Shared) (m : Str → Option Value) (hst : ZS z TI TO i1 i2 l1 l2 xs ys 0 s.heap) (hn : s.heap.Ns cenv.locals m) (hsince : GenSince cenv.locals [z, TO, i1, i2] s₀ s)
    (hkp : ∀ b ∈ fp, b ∉ [z, TO, i1, i2] → ∀ o, href.get? b = some o → s.heap.get? b = some o) :
    Seg (model prog w) A (fun n s₀ r s₁ => r = .ok .next ∧ (n = 0 ∧ GenSince cenv.locals [z, TO, i1, i2] s₀ s₁)) (genProto cenv.locals fp [z, TO, i1, i2] (fun _ => true) n F) (passing (fun _ => true) n 0).length s₀
      (.compStart (.GeneratorExp elt [⟨.Name nm px, iter, [], 0⟩] scope pos) 0 (.ref z) .none cenv)
      ((model prog w).den (.compStart (.GeneratorExp elt [⟨.Name nm px, iter, [], 0⟩] scope pos) 0 (.ref z) .none cenv)) [] s := by
  have loop := seg_pairs (iter := iter) (px := px) (scope := scope) (pos := pos) F href hh D hnx hny hx hp hco hCf hfp hel n 0 s₀ s m (Nat.sub_zero _) (Nat.zero_le _) hst hn hsince hkp
  show Seg _ A _ _ _ s₀ _ ((compStart (.GeneratorExp elt [⟨.Name nm px, iter, [], 0⟩] scope pos) 0 (.ref z) .none cenv).onRaise (leaving cenv)) [] s
  unfold compStart
  rw [Sem.onRaise_eq_wrap]
  show Seg _ A _ _ _ s₀ _ ((ask >>= _).wrap _ _ _ _) [] s
  refine seg_bind_wrap (wpAny_askSetting ?_)
  obtain ⟨f0, f1, a, b, hz, _⟩ := hst
  split
  · exact seg_again rfl loop
  · first
      | exact seg_bind_wrap (wpAny_rule (seg_bind_wrap (wpAny_standAt (seg_bind_wrap (zip_iter hz (seg_again rfl loop))))))
      | (refine seg_bind_wrap (wpAny_rule ?_); show Seg _ A _ _ _ s₀ _ ((standAt iter.pos >>= _).wrap _ _ _ _) [] s; exact seg_bind_wrap (wpAny_standAt (seg_bind_wrap (zip_iter hz (seg_again rfl loop)))))
theorem genAt_pairs {elt iter : Expr} {nm : Str} {px : Pos} {scope : Scope} {pos : Pos} {z TI TO i1 i2 l1 l2 a : Addr} {g : Nat} {xs ys : Array Value} {fp : List Addr} {n : Nat} {cenv : Env} (F : Nat → Value → Prop)
    (hh : A.handled = none) (D : ZipApart z TI TO i1 i2 l1 l2) (hnx : xs.size = n) (hny : ys.size = n)
    (hx : cenv.kindOf nm = some .local) (hp : (cenv.scope.kind == .class || (cenv.scope.kind == .module && cenv.locals != cenv.globals)) = false)
    (hco : cenv.scope.isCoroutine = false) (hCf : cenv.locals ∉ fp) (hfp : ∀ b ∈ [z, TI, TO, i1, i2, l1, l2], b ∈ fp) {m : Str → Option Value}
    (hel : ∀ (A' : Around) E' i T x y (s₂ : Shared) m₂, A'.handled = none → A'.depth ≤ A.depth + 1 → A'.units ≤ A.units + 4 → xs[i]? = some x → ys[i]? = some y → s₂.heap.Ns cenv.locals m₂ → m₂ nm = some (.ref T) → IsPair s₂.heap T x y →
      (∀ b ∈ fp, b ∉ [z, TO, i1, i2] → ∀ o, s.heap.get? b = some o → s₂.heap.get? b = some o) → wpAny (model prog w) A' (eval elt cenv) (fun v s₃ => F i v ∧ Keeps s₂ s₃) E' s₂)
    (hg : s.heap.IsGen a g) (hgs : s.gens[g]? = some (.fresh (.compStart (.GeneratorExp elt [⟨.Name nm px, iter, [], 0⟩] scope pos) 0 (.ref z) .none cenv)))
    (hst : ZS z TI TO i1 i2 l1 l2 xs ys 0 s.heap) (hn : s.heap.Ns cenv.locals m) (hl : s.heap.NoLimit) : GenAt prog w A a g cenv.locals fp [z, TO, i1, i2] (fun _ => true) n F 0 s :=
  ⟨hg, hl, _, hgs, fun s'' hal => ⟨rfl, start_pairs (A := A.in1) F s.heap hh D hnx hny hx hp hco hCf hfp hel s'' s'' m (hst.frame fun b hb o e => hal b (List.mem_cons_of_mem _ (hfp b hb)) o e)
    (hn.at' fun o e => hal _ (List.mem_cons_self ..) o e) (GenSince.refl _ _ _) fun b hb _ o e => hal b (List.mem_cons_of_mem _ hb) o e⟩⟩
end
end

section
open PySem.Calls
section
variable {prog : Program} {w : World} {A : Around} {E : Value → Shared → Prop} {s : Shared}
theorem ZS.lt {z TI TO i1 i2 l1 l2 : Addr} {xs ys : Array Value} {i : Nat} {h : Heap} (st : ZS z TI TO i1 i2 l1 l2 xs ys i h) : ∀ b ∈ [z, TI, TO, i1, i2, l1, l2], b < h.objs.size := by
  obtain ⟨f0, f1, a, b, hz, hf, hTI, hTO, ⟨_, h1, _⟩, ⟨_, h2, _⟩, ⟨_, hl1, _⟩, ⟨_, hl2, _⟩⟩ := st
  intro c hc
  simp only [List.mem_cons, List.not_mem_nil, or_false] at hc
  rcases hc with rfl | rfl | rfl | rfl | rfl | rfl | rfl <;> (exact Heap.lt_size (by assumption))
/-- a generator expression over a zip of two lists is made -/
theorem genexp_zip {env : Env} {elt iter : Expr} {nm : Str} {px : Pos} {scope : Scope} {cl : List (Str × Addr)} {pos : Pos} {Q : Value → Shared → Prop}
    (hh : A.handled = none) (hco : scope.isCoroutine = false) (hclos : closureFor scope env = pure cl) (hcell : ∀ y ∈ scope.names, y.2 ≠ .cell) (h0 : scope.names.lookup (".0" : Str) = some NameKind.local)
    (hx : scope.names.lookup nm = some .local) (hkind : scope.kind = .function) (hroom : A.depth < recursionLimit)
    (h : wpAny (model prog w) A (eval iter env) (fun xv s₁ => wpAny (model prog w) A (pyIter xv) (fun it s₂ => s₂.heap.NoLimit ∧
      wpAny (model prog w) A (genexprCode env pos (env.qual ++ "<genexpr>") scope) (fun code s₃ => wpAny (model prog w) A (builtinsFor env.globals env.builtins) (fun bi s₄ =>
        ∃ z TI TO i1 i2 l1 l2 xs ys n F, it = .ref z ∧ ZipApart z TI TO i1 i2 l1 l2 ∧ Array.size xs = n ∧ Array.size ys = n ∧ ZS z TI TO i1 i2 l1 l2 xs ys 0 s₄.heap ∧ s₄.heap.NoLimit ∧ cStatics ∉ [z, TO, i1, i2] ∧
          (∀ href : Heap, (∀ b o, s₄.heap.get? b = some o → href.get? b = some o) →
            ∀ (A' : Around) E' i T x y (s₂ : Shared) m₂, A'.handled = none → A'.depth ≤ A.depth + 1 → A'.units ≤ A.units + 8 → xs[i]? = some x → ys[i]? = some y → s₂.heap.Ns s₄.heap.objs.size m₂ → m₂ nm = some (.ref T) → IsPair s₂.heap T x y →
              (∀ b ∈ List.range s₄.heap.objs.size, b ∉ [z, TO, i1, i2] → ∀ o, href.get? b = some o → s₂.heap.get? b = some o) →
              wpAny (model prog w) A' (eval elt (genEnv scope cl s₄.heap.objs.size code bi env)) (fun v s₃ => F i v ∧ Keeps s₂ s₃) E' s₂) ∧
          (∀ a h₅ tk gs, gs.bare = true → s₄.heap.objs.size < a → h₅.objs.size = a + 1 → (∀ b o, s₄.heap.get? b = some o → h₅.get? b = some o) →
            WalksS prog w A.in4 a (a :: s₄.heap.objs.size :: List.range s₄.heap.objs.size) (s₄.heap.objs.size :: [z, TO, i1, i2]) (GenOnlyQ s₄.gens.size) (passing (fun _ => true) n 0).length
              (fun j y => ∃ i, (passing (fun _ => true) n 0)[j]? = some i ∧ F i y) (GenAt prog w A.in4 a s₄.gens.size s₄.heap.objs.size (List.range s₄.heap.objs.size) [z, TO, i1, i2] (fun _ => true) n F) →
            GenAt prog w A.in4 a s₄.gens.size s₄.heap.objs.size (List.range s₄.heap.objs.size) [z, TO, i1, i2] (fun _ => true) n F 0 { s₄ with gens := s₄.gens.push gs, toks := tk, heap := h₅ } →
            Q (.ref a) { s₄ with gens := s₄.gens.push gs, toks := tk, heap := h₅ })) E s₃) E s₂) E s₁) E s)
    (hs : ∀ x, genFold iter env x = pure x) :
    wpAny (model prog w) A (eval (.GeneratorExp elt [⟨.Name nm px, iter, [], 0⟩] scope pos) env) Q E s := by
  refine wpAny_GeneratorExp_make hco hclos hcell h0 hkind hroom (wpAny_mono h (fun xv s₁ h₁ => wpAny_mono h₁ (fun it s₂ h₂ => ⟨h₂.1, wpAny_mono h₂.2 (fun code s₃ h₃ => wpAny_mono h₃ (fun bi s₄ h₄ => ?_)
    fun _ _ e => e) fun _ _ e => e⟩) fun _ _ e => e) fun _ _ e => e) hs
  obtain ⟨z, TI, TO, i1, i2, l1, l2, xs, ys, n, F, rfl, D, hnx, hny, hst, hl₄, hcw, hq, hQ⟩ := h₄
  have hfp := hst.lt
  have hclt : cStatics < s₄.heap.objs.size := let ⟨_, hn, _⟩ := hl₄; hn.lt
  intro h' hn' hs'
  have hsz : h'.objs.size = s₄.heap.objs.size + 1 := by rw [hs'.1, Heap.size_push]
  have keep' : ∀ b o, s₄.heap.get? b = some o → h'.get? b = some o := fun b o e => hs'.extBut b o (Nat.ne_of_lt (Heap.lt_size e)) (Heap.get?_push_of_some _ e)
  have hsub : ∀ b ∈ [z, TO, i1, i2], b ∈ List.range s₄.heap.objs.size := fun b hb => List.mem_range.mpr (hfp b (by simp at hb ⊢; rcases hb with rfl | rfl | rfl | rfl <;> simp))
  have haC : h'.objs.size ≠ s₄.heap.objs.size := by rw [hsz]; exact Nat.succ_ne_self _
  have haf : h'.objs.size ∉ List.range s₄.heap.objs.size := fun hm => by have := List.mem_range.mp hm; omega
  have keep₅ : ∀ b o, s₄.heap.get? b = some o → (h'.push { cls := .type "generator", data := .fields #[.int s₄.gens.size 0, .str "<genexpr>" (s₄.toks + 1), .str (env.qual ++ "<genexpr>") (s₄.toks + 1 + 1)] }).get? b = some o :=
    fun b o e => Heap.get?_push_of_some _ (keep' b o e)
  refine hQ _ _ _ _ rfl (by omega) (by rw [Heap.size_push]) keep₅ (WalksS.genexpQ (A := A.in4) hh _ _ _ _ [z, TO, i1, i2] (fun _ => true) n F haC haf hsub hroom (List.mem_range.mpr hclt) (Nat.ne_of_lt hclt) hcw) ?_
  exact genAt_pairs (A := A.in4) (cenv := genEnv scope cl s₄.heap.objs.size code bi env) (m := fun y => if y = ".0" then some (.ref z) else none) F hh D hnx hny hx (by simp [genEnv, hkind]) hco
    (fun hm => Nat.lt_irrefl _ (List.mem_range.mp hm)) (fun b hb => List.mem_range.mpr (hfp b hb)) (hq _ keep₅) ⟨_, _, _, Heap.get?_push_size _ rfl, rfl, rfl, rfl⟩ (Array.getElem?_push_size ..) (hst.frame fun b _ o e => keep₅ b o e) (hn'.push _) (hl₄.keeps keep₅)
end
end

theorem memOf {α : Type} {a : α} {l : List α} (h : a ∈ l) : List.Mem a l := h
local macro_rules | `(tactic| k_mem) => `(tactic| ((fail_if_success (refine' List.Mem.tail _ ?_)); (fail_if_success (first | (with_reducible show List.Mem _ []) | (with_reducible show _ ∈ []))); first | (with_reducible assumption) | (refine memOf ?_; with_reducible assumption) | assumption))
local macro_rules | `(tactic| walk_at "mine room") => `(tactic| ((try simp only [depth_deeper, depth_under_make, depth_under_kw, depth_in1, depth_caller]); (try dsimp only [ktrTop]); first | omega | (simp only [recursionLimit]; omega)))
local macro_rules | `(tactic| walk_at "mine units") => `(tactic| ((try simp only [units_in1, units_deeper, Around.mark_units, units_caller]); (try dsimp only [ktrTop]); first | omega | (have hcL9 := cLine_is; omega)))
local macro_rules | `(tactic| k_room) => `(tactic| first | walk_at "mine room" | ktr_room)
-- entering a def from a contract
local macro_rules | `(tactic| ktr_enter) => `(tactic| (refine' code_def ?k1 ?k2 ?k3 ?k4 ?k5 ?kA ?kF ?kK ?k6 ?k7 ?k8 ?k9 ?kB ?_ ?c2 ?c3 ?c4 ?c5; (case kA => exact rfl); (case kF => exact rfl); (case kK => first | exact rfl | assumption); (case k1 => k_asm); (case k2 => k_asm); (case k3 => k_asm); (case k4 => k_asm); (case k5 => k_asm); (case k6 => k_is); (case k7 => k_is); (case k8 => k_room); (case k9 => first | exact BindsTo.of_eq rfl | exact binds_K (by k_in) rfl (by k_is) rfl rfl rfl); (case c5 => decide); (case kB => exact locs rfl); (case c2 => exact rfl); (case c3 => exact rfl); (case c4 => exact rfl); k_whole; intro g' L' h' FG' F' N' B' X' T'; (try dsimp only); (try k_lift B'); (try k_fold)))
local macro_rules | `(tactic| ktr_enter) => `(tactic| (kp_kind "rest"; (refine' kp_rest ?k1 ?k2 ?k3 ?k4 ?k5 ?kA ?kF ?kK ?k6 ?k7 ?k8 ?kV ?kP ?kG ?kB ?_ ?c2 ?c3 ?c4 ?c5; (case kA => exact rfl); (case kF => exact rfl); (case kK => first | exact rfl | assumption); (case k1 => k_asm); (case k2 => k_asm); (case k3 => k_asm); (case k4 => k_asm); (case k5 => k_asm); (case k6 => k_is); (case k7 => k_is); (case k8 => k_room); (case kV => kl_lit); (case kP => exact rfl); (case kG => exact fun _ => rfl); (case kB => exact fun _ => locs rfl); (case c5 => decide); (case c2 => exact rfl); (case c3 => exact rfl); (case c4 => exact rfl); k_whole; intro D' g' L' h' l1 FG' F' N' B' X' T'; (try k_lt l1); (try dsimp only); (try k_lift B'); (try k_fold))))
local macro_rules | `(tactic| ktr_enter) => `(tactic| (kp_kind "rest"; (refine' enter_restC ?k1 ?k2 ?k3 ?k4 ?k5 ?kA ?kF ?kK ?k6 ?k7 ?k8 ?kV ?kP ?kG ?kB ?kD ?_ ?c2 ?c3 ?c4; (case kA => exact rfl); (case kF => exact rfl); (case kK => first | exact rfl | assumption); (case k1 => k_asm); (case k2 => k_asm); (case k3 => k_asm); (case k4 => k_asm); (case k5 => k_asm); (case k6 => k_is); (case k7 => k_is); (case k8 => k_room); (case kV => kl_lit); (case kP => exact rfl); (case kG => exact fun _ => rfl); (case kB => exact fun _ => rfl); (case kD => decide +kernel); (case c2 => exact rfl); (case c3 => exact rfl); (case c4 => exact rfl); k_whole; intro D' g' L' h' tk' cells' l1 FG' F' N' Y' B' X' T' l2; (try k_lt l1); (try k_lt l2); k_cells Y'; (try simp only [List.cons_append, List.nil_append] at N'); (try dsimp only); (try k_lift B'); (try k_fold))))
local macro_rules | `(tactic| k_enter) => `(tactic| ktr_enter)
-- sets, static methods
local macro_rules | `(tactic| walk_at "call type:set cons nil") => `(tactic| (k_here; (with_reducible show wpAny _ _ (call (Value.type _) [Value.ref _]) _ _ _); k_dflt (refine' set_tup_N ?F ?N ?hh ?hu ?hm ?ha ?hb ?hx ?hy ?_; (case F => k_asm); (case N => k_asm); (case hh => exact rfl); (case hu => ktr_units); (case hm => k_mem); (case ha => k_mem); (case hb => k_mem); (case hx => k_asm); (case hy => k_asm); k_whole); intro S' o' h' tk' F' N' l1 hz'; (try k_lt l1)))
local macro_rules | `(tactic| walk_at "call type:set cons nil") => `(tactic| (k_here; (with_reducible show wpAny _ _ (call (Value.type _) [Value.ref _]) _ _ _); k_dflt (refine' set_flat_N ?F ?N ?hh ?hm ?hx ?hy ?_; (case F => k_asm); (case N => k_asm); (case hh => exact rfl); (case hm => k_mem); (case hx => first | exact isOpt_int _ _ | exact isOpt_no | assumption); (case hy => first | exact isOpt_int _ _ | exact isOpt_no | assumption); k_whole); intro S' o' h' tk' F' N' l1 hz'; (try k_lt l1)))
local macro_rules | `(tactic| walk_at "call builtin:len") => `(tactic| (k_here; (with_reducible show wpAny _ _ (call (Value.builtin _) [Value.ref _]) _ _ _); k_dflt (refine' len_set_N ?N ?m ?z ?n ?_; (case N => k_asm); (case m => k_mem); (case z => assumption); (case n => exact le_two); k_whole)))
local macro_rules | `(tactic| walk_at "getAttr ref") => `(tactic| (k_here; k_dflt (refine' get_sm ?k1 ?k2 ?k4 ?k5 ?k6 ?k7 ?k9 ?k10 ?k11 ?k12 ?k13 ?k14 ?_; (case k1 => k_asm); (case k2 => k_asm); (case k4 => k_inst); (case k5 => k_is); (case k6 => k_is); (case k7 => k_is); (case k9 => k_is); (case k10 => k_is); (case k11 => decide +kernel); (case k12 => k_get); (case k13 => k_is); (case k14 => k_handed); k_whole)))
-- starred calls
local macro_rules | `(tactic| walk_at "eval Call Attribute") => `(tactic| (k_here; (with_reducible show wpAny _ _ (eval (Expr.Call (Expr.Attribute _ _ _) [Expr.Starred _ _] [] _) _) _ _ _); refine methodCall_star ?_))
local macro_rules | `(tactic| walk_at "callWith ref") => `(tactic| (k_here; (with_reducible show wpAny _ _ (callWith _ (Value.ref _) _ (backTo _ (starEach [Expr.Starred _ _] _)) []) _ _ _); k_dflt (refine' callWith_SB ?k1 ?k2 ?k3 ?k4 ?_; (case k1 => k_asm); (case k2 => k_asm); (case k3 => k_mem); (case k4 => k_is); k_whole)))
local macro_rules | `(tactic| walk_at "callWith ref") => `(tactic| (k_here; (with_reducible show wpAny _ _ (callWith _ (Value.ref _) [] (backTo _ (starEach [Expr.Starred _ _] _)) []) _ _ _); kco_here; k_dflt (refine' callWith_SI ?k1 ?k2 ?k3 ?_; (case k1 => k_in); (case k2 => k_inst); (case k3 => rfl); k_whole)))
-- closing a contract
local macro_rules | `(tactic| walk_at "mine lt") => `(tactic| first | assumption | exact (And.right (a := _) (by assumption)) | exact (And.right (a := _) (And.right (a := _) (by assumption))) | exact (And.right (a := _) (And.right (a := _) (And.right (a := _) (by assumption)))) | exact (And.right (a := _) (And.right (a := _) (And.right (a := _) (And.right (a := _) (by assumption))))) | exact (And.right (a := _) (And.right (a := _) (And.right (a := _) (And.right (a := _) (And.right (a := _) (by assumption)))))) | exact (And.right (a := _) (And.right (a := _) (And.right (a := _) (And.right (a := _) (And.right (a := _) (And.right (a := _) (by assumption))))))) | exact (And.right (a := _) (And.right (a := _) (And.right (a := _) (And.right (a := _) (And.right (a := _) (And.right (a := _) (And.right (a := _) (by assumption)))))))) | exact (And.right (a := _) (And.right (a := _) (And.right (a := _) (And.right (a := _) (And.right (a := _) (And.right (a := _) (And.right (a := _) (And.right (a := _) (by assumption))))))))) | exact (And.right (a := _) (And.right (a := _) (And.right (a := _) (And.right (a := _) (And.right (a := _) (And.right (a := _) (And.right (a := _) (And.right (a := _) (And.right (a := _) (by assumption)))))))))) | exact (And.right (a := _) (And.right (a := _) (And.right (a := _) (And.right (a := _) (And.right (a := _) (And.right (a := _) (And.right (a := _) (And.right (a := _) (And.right (a := _) (And.right (a := _) (by assumption))))))))))))
local macro_rules | `(tactic| walk_at "mine ord") => `(tactic| (intro q9 hq9 p9 hp9; (first | (cases hp9; done) | (cases hp9 with | head => exact allLt_mem (by walk_at "mine lt") q9 hq9 | tail _ hp9 => cases hp9) | (cases hp9 with | head => exact allLt_mem (by walk_at "mine lt") q9 hq9 | tail _ hp9 => (cases hp9 with | head => exact allLt_mem (by walk_at "mine lt") q9 hq9 | tail _ hp9 => cases hp9)))))
local macro_rules | `(tactic| walk_at "mine sub0") => `(tactic| (intro p9 hp9; (repeat' (first | exact hp9 | refine List.Mem.tail _ ?_))))
local macro_rules | `(tactic| walk_at "mine sub1") => `(tactic| (intro p9 hp9; cases hp9 with | head => (repeat' (first | exact List.Mem.head _ | refine List.Mem.tail _ ?_)) | tail _ hp9 => (repeat' (first | exact hp9 | refine List.Mem.tail _ ?_))))
local macro_rules | `(tactic| walk_at "mine sub2") => `(tactic| (intro p9 hp9; cases hp9 with | head => (repeat' (first | exact List.Mem.head _ | refine List.Mem.tail _ ?_)) | tail _ hp9 => (cases hp9 with | head => (repeat' (first | exact List.Mem.head _ | refine List.Mem.tail _ ?_)) | tail _ hp9 => (repeat' (first | exact hp9 | refine List.Mem.tail _ ?_)))))
local macro_rules | `(tactic| k_all) => `(tactic| (intro p9 hp9; exact Nat.ne_of_lt (allLt_mem (by walk_at "mine lt") p9 hp9)))
local macro_rules | `(tactic| k_all) => `(tactic| (intro p9 hp9; exact Nat.ne_of_gt (allLt_mem (by walk_at "mine lt") p9 hp9)))

theorem ident_flat (prog : Program) (w : World) (i j : Option Int) (x y : Value) (hx : isOpt i x = true) (hy : isOpt j y = true) :
    Ctr prog w (hd.heap_39 w.params) 100 1 20 [x, y] (fun _ => True) (fun v tl => v = .bool (decide (i = j)) ∧ tl = []) := by
  unfold Ctr
  intro p loose mean mg mb dp un gd cn cs a ccd cl outer A₀ base h₀ L m news s Q E B F X N T hk hd hu hg hpre hret
  refine wpAny_call ?_
  k_dflt ktr_enter
  k_steps
  refine hret _ [] _ _ _ (by k_asm) (cb_drop (by k_asm) (by intro p hp; repeat' (first | exact hp | refine List.Mem.tail _ ?_))) (fun _ _ _ h => nomatch h) hg ⟨?_, rfl⟩
  by_cases e : i = j <;> simp [e]

theorem ident_tup (prog : Program) (w : World) (xs ys : List Int) (vs us : List Value) (nx ny : Nat) (ax ay : Addr) (hx : IntsAre vs xs) (hy : IntsAre us ys) :
    Ctr prog w (hd.heap_39 w.params) 100 1 20 [.ref ax, .ref ay] (fun news => (ax, tupOf vs nx) ∈ news ∧ (ay, tupOf us ny) ∈ news) (fun v tl => v = .bool (decide (xs = ys)) ∧ tl = []) := by
  unfold Ctr
  intro p loose mean mg mb dp un gd cn cs a ccd cl outer A₀ base h₀ L m news s Q E B F X N T hk hd hu hg hpre hret
  obtain ⟨hp1, hp2⟩ := hpre
  refine wpAny_call ?_
  k_dflt ktr_enter
  k_steps
  refine hret _ [] _ _ _ (by k_asm) (cb_drop (by k_asm) (by intro p hp; repeat' (first | exact hp | refine List.Mem.tail _ ?_))) (fun _ _ _ h => nomatch h) hg ⟨?_, rfl⟩
  by_cases e : xs = ys <;> simp [e]

local macro_rules | `(tactic| walk_at "call ref") => `(tactic| (k_here; (with_reducible show wpAny _ _ (call (Value.ref 100) _) _ _ _); k_dflt (refine' ctr_use (ident_tup _ _ _ _ _ _ _ _ _ _ ?hx ?hy) ?k1 ?k2 ?k3 ?k4 ?k5 ?kK ?kd ?ku ?kg ?kp ?_; (case k4 => k_asm); (case kp => exact ⟨by k_mem, by k_mem⟩); (case k1 => k_asm); (case k2 => k_asm); (case k3 => k_asm); (case k5 => k_asm); (case kK => first | exact rfl | assumption); (case kd => first | walk_at "mine room" | ktr_room); (case ku => first | walk_at "mine units" | ktr_units); (case kg => k_asm); (case hx => k_asm); (case hy => k_asm); k_whole; intro v9 tl9 h9 tk9 gs9 F9 N9 o9 G9 r9; obtain ⟨e9, f9⟩ := r9; subst e9; subst f9; (try simp only [List.nil_append] at N9); clear o9; (try dsimp only); (try k_fold))))

theorem seqs_L (prog : Program) (w : World) (t1 t2 t3 : Tok) (x dx ax ay : Addr) (n : Nat) :
    Ctr prog w (hd.heap_39 w.params) 108 1 20 [.ref x, .ref ax, .ref ay] (fun news => (x, instObj 214 dx) ∈ news ∧ (dx, dictOf (levD w.params t1 t2 t3) n) ∈ news) (fun v tl => ∃ D c, v = .ref D ∧ tl = [(D, listOf #[.ref ax, .ref ay] c)]) := by
  unfold Ctr
  intro p loose mean mg mb dp un gd cn cs a ccd cl outer A₀ base h₀ L m news s Q E B F X N T hk hd hu hg hpre hret
  obtain ⟨hp1, hp2⟩ := hpre
  refine wpAny_call ?_
  k_dflt ktr_enter
  k_steps
  refine hret _ [_] _ _ _ (by k_asm) (cb_drop (by k_asm) (by walk_at "mine sub1")) (by walk_at "mine ord") hg ⟨_, _, rfl, rfl⟩

theorem seqs_D (prog : Program) (w : World) (t1 t2 t3 t4 : Tok) (x dx ax ay : Addr) (n : Nat) :
    Ctr prog w (hd.heap_39 w.params) 108 1 20 [.ref x, .ref ax, .ref ay] (fun news => (x, instObj 255 dx) ∈ news ∧ (dx, dictOf (damD w.params t1 t2 t3 t4) n) ∈ news) (fun v tl => ∃ D c, v = .ref D ∧ tl = [(D, listOf #[.ref ax, .ref ay] c)]) := by
  unfold Ctr
  intro p loose mean mg mb dp un gd cn cs a ccd cl outer A₀ base h₀ L m news s Q E B F X N T hk hd hu hg hpre hret
  obtain ⟨hp1, hp2⟩ := hpre
  refine wpAny_call ?_
  k_dflt ktr_enter
  k_steps
  refine hret _ [_] _ _ _ (by k_asm) (cb_drop (by k_asm) (by walk_at "mine sub1")) (by walk_at "mine ord") hg ⟨_, _, rfl, rfl⟩

theorem seqs_H (prog : Program) (w : World) (t1 t2 t3 t4 : Tok) (x dx ax ay : Addr) (n : Nat) :
    Ctr prog w (hd.heap_39 w.params) 108 1 20 [.ref x, .ref ax, .ref ay] (fun news => (x, instObj 173 dx) ∈ news ∧ (dx, dictOf (hamD w.params t1 t2 t3 t4) n) ∈ news) (fun v tl => ∃ D c, v = .ref D ∧ tl = [(D, listOf #[.ref ax, .ref ay] c)]) := by
  unfold Ctr
  intro p loose mean mg mb dp un gd cn cs a ccd cl outer A₀ base h₀ L m news s Q E B F X N T hk hd hu hg hpre hret
  obtain ⟨hp1, hp2⟩ := hpre
  refine wpAny_call ?_
  k_dflt ktr_enter
  k_steps
  refine hret _ [_] _ _ _ (by k_asm) (cb_drop (by k_asm) (by walk_at "mine sub1")) (by walk_at "mine ord") hg ⟨_, _, rfl, rfl⟩

-- all, map, max
theorem tlen {vs us : List Value} {xs : List Int} (h : IntsAre vs xs) (hz : xs.length ≤ 1000) : vs.length ≤ 1000 := by rw [h.length]; exact hz
local macro_rules | `(tactic| walk_at "mine small") => `(tactic| first | assumption | (rw [IntsAre.length (by assumption)]; first | assumption | omega))
local macro_rules | `(tactic| walk_at "call builtin:all") => `(tactic| (k_here; (with_reducible show wpAny _ _ (call (Value.builtin _) [Value.ref _]) _ _ _); k_dflt (refine' all_pair_N ?F ?N ?hh ?hm ?ha ?hb ?za ?zb ?_; (case F => k_asm); (case N => k_asm); (case hh => exact rfl); (case hm => k_mem); (case ha => k_mem); (case hb => k_mem); (case za => walk_at "mine small"); (case zb => walk_at "mine small"); k_whole); intro h' tk' F' N'; (try dsimp only); (try k_fold)))
local macro_rules | `(tactic| walk_at "call type:map") => `(tactic| (k_here; (with_reducible show wpAny _ _ (call (Value.type _) [_, Value.ref _]) _ _ _); k_dflt (refine' mapT_N ?F ?N ?hm ?_; (case F => k_asm); (case N => k_asm); (case hm => k_mem); k_whole); intro z' TI' it' oi' h' F' N' ho' l2' l1' l0'; (try k_lt l0'); (try dsimp only); (try k_fold)))
local macro_rules | `(tactic| walk_at "call type:map") => `(tactic| (k_here; (with_reducible show wpAny _ _ (call (Value.type _) [_, Value.ref _]) _ _ _); k_dflt (refine' mapL_N ?F ?N ?hm ?_; (case F => k_asm); (case N => k_asm); (case hm => k_mem); k_whole); intro z' TI' it' oi' h' F' N' ho' l2' l1' l0'; (try k_lt l0'); (try dsimp only); (try k_fold)))
local macro_rules | `(tactic| walk_at "call builtin:max") => `(tactic| (k_here; (with_reducible show wpAny _ _ (call (Value.builtin _) [Value.ref _]) _ _ _); k_dflt (refine' maxT_N ?F ?hh ?N ?ho ?l1 ?l2 ?l3 ?hm ?ha ?hb ?za ?zb ?_; (case F => k_asm); (case hh => exact rfl); (case N => k_asm); (case ho => assumption); (case l1 => assumption); (case l2 => assumption); (case l3 => exact allLt_mem (by assumption)); (case hm => k_mem); (case ha => k_mem); (case hb => k_mem); (case za => walk_at "mine small"); (case zb => walk_at "mine small"); k_whole); intro t' h' tk' F' N'; (try dsimp only); (try k_fold)))
local macro_rules | `(tactic| walk_at "call builtin:max") => `(tactic| (k_here; (with_reducible show wpAny _ _ (call (Value.builtin _) [Value.ref _]) _ _ _); k_dflt (refine' maxL_N ?F ?hh ?N ?ho ?l1 ?l2 ?l3 ?hm ?ha ?hb ?za ?zb ?_; (case F => k_asm); (case hh => exact rfl); (case N => k_asm); (case ho => assumption); (case l1 => assumption); (case l2 => assumption); (case l3 => exact allLt_mem (by assumption)); (case hm => k_mem); (case ha => k_mem); (case hb => k_mem); (case za => walk_at "mine small"); (case zb => walk_at "mine small"); k_whole); intro t' h' tk' F' N'; (try dsimp only); (try k_fold)))

theorem max_c (prog : Program) (w : World) (xs ys : List Int) (vs us : List Value) (nx ny : Nat) (ax ay : Addr) (hx : IntsAre vs xs) (hy : IntsAre us ys) (zx : xs.length ≤ 1000) (zy : ys.length ≤ 1000) :
    Ctr prog w (hd.heap_39 w.params) 55 1 20 [.ref ax, .ref ay] (fun news => (ax, tupOf vs nx) ∈ news ∧ (ay, tupOf us ny) ∈ news) (fun v tl => (∃ t, v = .int (max xs.length ys.length : Nat) t) ∧ tl = []) := by
  unfold Ctr
  intro p loose mean mg mb dp un gd cn cs a ccd cl outer A₀ base h₀ L m news s Q E B F X N T hk hd hu hg hpre hret
  obtain ⟨hp1, hp2⟩ := hpre
  refine wpAny_call ?_
  k_dflt ktr_enter
  k_steps
  refine hret _ [] _ _ _ (by k_asm) (cb_drop (by k_asm) (by walk_at "mine sub0")) (by walk_at "mine ord") (by assumption) ⟨?_, rfl⟩
  rw [hx.length, hy.length]
  exact ⟨_, rfl⟩

local macro_rules | `(tactic| walk_at "call ref") => `(tactic| (k_here; (with_reducible show wpAny _ _ (call (Value.ref 55) _) _ _ _); k_dflt (refine' ctr_use (max_c _ _ _ _ _ _ _ _ _ _ ?hx ?hy ?zx ?zy) ?k1 ?k2 ?k3 ?k4 ?k5 ?kK ?kd ?ku ?kg ?kp ?_; (case k4 => k_asm); (case kp => exact ⟨by k_mem, by k_mem⟩); (case k1 => k_asm); (case k2 => k_asm); (case k3 => k_asm); (case k5 => k_asm); (case kK => first | exact rfl | assumption); (case kd => first | walk_at "mine room" | ktr_room); (case ku => first | walk_at "mine units" | ktr_units); (case kg => assumption); (case hx => k_asm); (case hy => k_asm); (case zx => assumption); (case zy => assumption); k_whole; intro v9 tl9 h9 tk9 gs9 F9 N9 o9 G9 r9; obtain ⟨e9, f9⟩ := r9; obtain ⟨t9, e9⟩ := e9; subst e9; subst f9; (try simp only [List.nil_append] at N9); clear o9; (try dsimp only); (try k_fold))))

/-- what quick_answer gives -/
def quickRes (xs ys : List Int) (v : Value) : Prop := if xs = ys then ∃ t, v = .int 0 t else if xs = [] ∨ ys = [] then ∃ t, v = .int (max xs.length ys.length : Nat) t else v = .none
theorem isEmpty_ints {vs : List Value} {xs : List Int} (h : IntsAre vs xs) : vs.isEmpty = decide (xs = []) := by cases h <;> simp
theorem quick0 {xs ys : List Int} (e : xs = ys) (t : Tok) : quickRes xs ys (.int 0 t) := by unfold quickRes; rw [if_pos e]; exact ⟨_, rfl⟩
theorem quick1 {xs ys : List Int} {vs us : List Value} (hx : IntsAre vs xs) (hy : IntsAre us ys) (e : ¬ xs = ys) (f : (!vs.isEmpty && !us.isEmpty) = true) : quickRes xs ys .none := by
  rw [isEmpty_ints hx, isEmpty_ints hy] at f
  unfold quickRes
  rw [if_neg e, if_neg (by simpa using f)]
theorem quick2 {xs ys : List Int} {vs us : List Value} (hx : IntsAre vs xs) (hy : IntsAre us ys) (e : ¬ xs = ys) (f : (!vs.isEmpty && !us.isEmpty) = false) (t : Tok) : quickRes xs ys (.int (max xs.length ys.length : Nat) t) := by
  rw [isEmpty_ints hx, isEmpty_ints hy] at f
  unfold quickRes
  rw [if_neg e, if_pos (by by_cases a : xs = [] <;> by_cases b : ys = [] <;> simp_all)]
  exact ⟨_, rfl⟩

theorem quick_L (prog : Program) (w : World) (xs ys : List Int) (vs us : List Value) (nx ny : Nat) (ax ay : Addr) (hx : IntsAre vs xs) (hy : IntsAre us ys) (zx : xs.length ≤ 1000) (zy : ys.length ≤ 1000) (t1 t2 t3 : Tok) (x dx : Addr) (n : Nat) :
    Ctr prog w (hd.heap_39 w.params) 93 3 60 [.ref x, .ref ax, .ref ay] (fun news => (x, instObj 214 dx) ∈ news ∧ (dx, dictOf (levD w.params t1 t2 t3) n) ∈ news ∧ (ax, tupOf vs nx) ∈ news ∧ (ay, tupOf us ny) ∈ news)
      (fun v tl => quickRes xs ys v ∧ tl = []) := by
  unfold Ctr
  intro p loose mean mg mb dp un gd cn cs a ccd cl outer A₀ base h₀ L m news s Q E B F X N T hk hd hu hg hpre hret
  obtain ⟨hp1, hp2, hp3, hp4⟩ := hpre
  refine wpAny_call ?_
  k_dflt ktr_enter
  k_steps
  all_goals (refine hret _ [] _ _ _ (by k_asm) (cb_drop (by k_asm) (by walk_at "mine sub0")) (by walk_at "mine ord") (by assumption) ⟨?_, rfl⟩)
  all_goals first | exact quick0 (by assumption) _ | exact quick1 hx hy (by assumption) (by assumption) | exact quick2 hx hy (by assumption) (by assumption) _

theorem quick_D (prog : Program) (w : World) (xs ys : List Int) (vs us : List Value) (nx ny : Nat) (ax ay : Addr) (hx : IntsAre vs xs) (hy : IntsAre us ys) (zx : xs.length ≤ 1000) (zy : ys.length ≤ 1000) (t1 t2 t3 t4 : Tok) (x dx : Addr) (n : Nat) :
    Ctr prog w (hd.heap_39 w.params) 93 3 60 [.ref x, .ref ax, .ref ay] (fun news => (x, instObj 255 dx) ∈ news ∧ (dx, dictOf (damD w.params t1 t2 t3 t4) n) ∈ news ∧ (ax, tupOf vs nx) ∈ news ∧ (ay, tupOf us ny) ∈ news)
      (fun v tl => quickRes xs ys v ∧ tl = []) := by
  unfold Ctr
  intro p loose mean mg mb dp un gd cn cs a ccd cl outer A₀ base h₀ L m news s Q E B F X N T hk hd hu hg hpre hret
  obtain ⟨hp1, hp2, hp3, hp4⟩ := hpre
  refine wpAny_call ?_
  k_dflt ktr_enter
  k_steps
  all_goals (refine hret _ [] _ _ _ (by k_asm) (cb_drop (by k_asm) (by walk_at "mine sub0")) (by walk_at "mine ord") (by assumption) ⟨?_, rfl⟩)
  all_goals first | exact quick0 (by assumption) _ | exact quick1 hx hy (by assumption) (by assumption) | exact quick2 hx hy (by assumption) (by assumption) _

theorem quick_H (prog : Program) (w : World) (xs ys : List Int) (vs us : List Value) (nx ny : Nat) (ax ay : Addr) (hx : IntsAre vs xs) (hy : IntsAre us ys) (zx : xs.length ≤ 1000) (zy : ys.length ≤ 1000) (t1 t2 t3 t4 : Tok) (x dx : Addr) (n : Nat) :
    Ctr prog w (hd.heap_39 w.params) 93 3 60 [.ref x, .ref ax, .ref ay] (fun news => (x, instObj 173 dx) ∈ news ∧ (dx, dictOf (hamD w.params t1 t2 t3 t4) n) ∈ news ∧ (ax, tupOf vs nx) ∈ news ∧ (ay, tupOf us ny) ∈ news)
      (fun v tl => quickRes xs ys v ∧ tl = []) := by
  unfold Ctr
  intro p loose mean mg mb dp un gd cn cs a ccd cl outer A₀ base h₀ L m news s Q E B F X N T hk hd hu hg hpre hret
  obtain ⟨hp1, hp2, hp3, hp4⟩ := hpre
  refine wpAny_call ?_
  k_dflt ktr_enter
  k_steps
  all_goals (refine hret _ [] _ _ _ (by k_asm) (cb_drop (by k_asm) (by walk_at "mine sub0")) (by walk_at "mine ord") (by assumption) ⟨?_, rfl⟩)
  all_goals first | exact quick0 (by assumption) _ | exact quick1 hx hy (by assumption) (by assumption) | exact quick2 hx hy (by assumption) (by assumption) _

section
open PySem.Calls
section
variable {prog : Program} {w : World} {A : Around} {E : Value → Shared → Prop} {s : Shared} {h₀ : Heap} {L D : Addr} {m : Str → Option Value} {news news' : List (Addr × Obj)} {vs : List Value} {n c : Nat} {k x : Int} {t u : Tok} {g : Nat → Int} {xs : List Int}
theorem isTup_of {h : Heap} {n : Nat} {a : Array Value} (e : h.get? D = some { cls := .type "tuple", data := .seq a n }) : IsTup h D a := by
  first | exact ⟨_, e⟩ | exact e | exact ⟨_, e, rfl, rfl⟩ | exact ⟨_, e, rfl, _, rfl⟩ | (unfold IsTup; exact ⟨_, e, rfl, rfl⟩)
theorem rowOf_getD (h0 : 0 ≤ k) (h1 : k < c) : (rowOf c g).getD k.toNat 0 = g k.toNat := by
  rw [List.getD_eq_getElem?_getD, rowOf_get (by omega)]; rfl
theorem row_sub {value slice : PySem.Expr} {Q : Value → Shared → Prop} (N : News h₀ L s.heap news) (hm : (D, listOf vs.toArray n) ∈ news) (hi : IntsAre vs (rowOf c g)) (h0 : 0 ≤ k) (h1 : k < c) (hfit : c ≤ 10000) (h : ∀ t, Q (.int (g k.toNat) t) s)
    (hs : subscripted slice false (.ref D) (.int k u) = operate [.ref D, .int k u] (getItem (.ref D) (.int k u)) := by with_unfolding_all rfl) :
    wpAny (model prog w) A (subscriptTail value slice (.ref D) (.int k u)) Q E s :=
  ksa_sub N hm hi h0 (by rw [rowOf_length]; omega) (by omega) (by rw [rowOf_getD h0 h1]; exact h) hs
theorem row_neg {value slice : PySem.Expr} {Q : Value → Shared → Prop} (N : News h₀ L s.heap news) (hm : (D, listOf vs.toArray n) ∈ news) (hi : IntsAre vs (rowOf (c + 1) g)) (h : ∀ t, Q (.int (g c) t) s)
    (hs : subscripted slice false (.ref D) (.int (-1) u) = operate [.ref D, .int (-1) u] (getItem (.ref D) (.int (-1) u)) := by with_unfolding_all rfl) :
    wpAny (model prog w) A (subscriptTail value slice (.ref D) (.int (-1) u)) Q E s :=
  item_list_ints_negR (PySem.IsL.isList (n := n) (N _ hm).1) hi (by omega) (by rw [rowOf_length]; omega) (by omega) (by
    rw [rowOf_length, show (-1 + ((c + 1 : Nat) : Int)).toNat = c by omega, List.getD_eq_getElem?_getD, rowOf_get (Nat.lt_succ_self c)]; exact h) hs
theorem tup_sub {value slice : PySem.Expr} {Q : Value → Shared → Prop} (N : News h₀ L s.heap news) (hm : (D, tupOf vs n) ∈ news) (hi : IntsAre vs xs) (h0 : 0 ≤ k) (h1 : k < xs.length) (hfit : xs.length ≤ 10000) (h : ∀ t, Q (.int (xs.getD k.toNat 0) t) s)
    (hs : subscripted slice false (.ref D) (.int k u) = operate [.ref D, .int k u] (getItem (.ref D) (.int k u)) := by with_unfolding_all rfl) :
    wpAny (model prog w) A (subscriptTail value slice (.ref D) (.int k u)) Q E s := by
  obtain ⟨t, hx⟩ := hi.get k.toNat _ (ints_getD h0 h1)
  exact item_tupleT (l := vs) (j := k.toNat) (isTup_of (N _ hm).1) (by omega) (by omega) (by rw [hi.length]; exact seqIndex_of h0 h1) hx (h t) hs
theorem row_set {Q : Unit → Shared → Prop} (F : Fr h₀ L s.heap m) (N : News h₀ L s.heap news) (U : Upd D (listOf vs.toArray n) (listOf (vs.set k.toNat (.int x u)).toArray n) news news') (hi : IntsAre vs (rowOf c g)) (h0 : 0 ≤ k) (h1 : k < c) (hfit : c ≤ 10000)
    (h : ∀ h', Fr h₀ L h' m → News h₀ L h' news' → IntsAre (vs.set k.toNat (.int x u)) ((rowOf c g).set k.toNat x) → Q () { s with heap := h' }) :
    wpAny (model prog w) A (setItem (.ref D) (.int k t) (.int x u)) Q E s :=
  ksa_set F N U hi h0 (by rw [rowOf_length]; omega) (by omega) fun h' a b c' _ _ => h h' a b c'
end
end
local macro_rules | `(tactic| walk_at "subscriptTail Name BinOp ref int") => `(tactic| (k_here; (with_reducible show wpAny _ _ (subscriptTail _ _ (Value.ref _) (Value.int _ _)) _ _ _); k_dflt (refine' row_sub ?k1 ?k2 ?k3 ?k4 ?k5 ?k6 ?_ ?k7; (case k1 => k_asm); (case k2 => k_mem); (case k3 => assumption); (case k4 => omega); (case k5 => omega); (case k6 => omega); (case k7 => with_unfolding_all rfl); k_whole); intro t'))
local macro_rules | `(tactic| walk_at "subscriptTail Name Name ref int") => `(tactic| (k_here; (with_reducible show wpAny _ _ (subscriptTail _ _ (Value.ref _) (Value.int _ _)) _ _ _); k_dflt (refine' row_sub ?k1 ?k2 ?k3 ?k4 ?k5 ?k6 ?_ ?k7; (case k1 => k_asm); (case k2 => k_mem); (case k3 => assumption); (case k4 => omega); (case k5 => omega); (case k6 => omega); (case k7 => with_unfolding_all rfl); k_whole); intro t'))
local macro_rules | `(tactic| walk_at "subscriptTail Name BinOp ref int") => `(tactic| (k_here; (with_reducible show wpAny _ _ (subscriptTail _ _ (Value.ref _) (Value.int _ _)) _ _ _); k_dflt (refine' tup_sub ?k1 ?k2 ?k3 ?k4 ?k5 ?k6 ?_ ?k7; (case k1 => k_asm); (case k2 => k_mem); (case k3 => assumption); (case k4 => omega); (case k5 => omega); (case k6 => omega); (case k7 => with_unfolding_all rfl); k_whole); intro t'))
local macro_rules | `(tactic| walk_at "setItem ref int") => `(tactic| (k_here; (with_reducible show wpAny _ _ (setItem (Value.ref _) (Value.int _ _) (Value.int _ _)) _ _ _); k_dflt (refine' row_set ?k1 ?k2 ?k3 ?k4 ?k5 ?k6 ?k7 ?_; (case k1 => k_asm); (case k2 => k_asm); (case k3 => k_upd); (case k4 => assumption); (case k5 => omega); (case k6 => omega); (case k7 => omega); k_whole); intro h' F' N' hi'))
local macro_rules | `(tactic| walk_at "call builtin:len") => `(tactic| (k_here; (with_reducible show wpAny _ _ (call (Value.builtin _) [Value.ref _]) _ _ _); k_dflt (refine' len_tup_N ?N ?m ?x ?z ?_; (case N => k_asm); (case m => k_mem); (case x => assumption); (case z => walk_at "mine small"); k_whole); intro t' tk'; (try dsimp only)))
local macro_rules | `(tactic| walk_at "exec For") => `(tactic| (k_here; (with_reducible show wpAny _ _ (exec (Stmt.For _ _ _ _ _) _) _ _ _); refine halt_in ?_))
local macro_rules | `(tactic| walk_at "exec For Name Call cons nil") => `(tactic| (k_here; (with_reducible show wpAny _ _ (exec (Stmt.For _ _ _ _ _) _) _ _ _); refine halt_in ?_))
local macro_rules | `(tactic| walk_at "exec For Tuple Call cons nil") => `(tactic| (k_here; (with_reducible show wpAny _ _ (exec (Stmt.For _ _ _ _ _) _) _ _ _); refine halt_in ?_))
local macro_rules | `(tactic| walk_at "exec For Name BoolOp cons nil") => `(tactic| (k_here; (with_reducible show wpAny _ _ (exec (Stmt.For _ _ _ _ _) _) _ _ _); refine halt_in ?_))
local macro_rules | `(tactic| walk_at "call builtin:min") => `(tactic| (k_here; (with_reducible show wpAny _ _ (call (Value.builtin _) [Value.int _ _, Value.int _ _, Value.int _ _]) _ _ _); k_dflt (refine' min3_N ?F ?N ?hh ?_; (case F => k_asm); (case N => k_asm); (case hh => exact rfl); k_whole); intro t' h' tk' F' N'; (try dsimp only); (try k_fold)))
local macro_rules | `(tactic| walk_at "call builtin:min") => `(tactic| (k_here; (with_reducible show wpAny _ _ (call (Value.builtin _) [Value.int _ _, Value.int _ _, Value.int _ _, Value.int _ _]) _ _ _); k_dflt (refine' min4_N ?F ?N ?hh ?_; (case F => k_asm); (case N => k_asm); (case hh => exact rfl); k_whole); intro t' h' tk' F' N'; (try dsimp only); (try k_fold)))
local macro_rules | `(tactic| k_all) => `(tactic| exact apart1 (by assumption))
local macro_rules | `(tactic| walk_at "subscriptTail Name UnaryOp ref int") => `(tactic| (k_here; (with_reducible show wpAny _ _ (subscriptTail _ _ (Value.ref _) (Value.int _ _)) _ _ _); k_dflt (refine' row_neg ?k1 ?k2 ?k3 ?_ ?k7; (case k1 => k_asm); (case k2 => k_mem); (case k3 => assumption); (case k7 => with_unfolding_all rfl); k_whole); intro t'))

theorem row0 (f : Nat → Nat → Bool) (k n : Nat) (h : k = n) : rangeKs 0 k = rowOf n (lv f 0) := by
  subst h
  unfold rangeKs rowOf
  exact List.map_congr_left fun i _ => by simp [lv]

def eqAt (xs ys : List Int) (i j : Nat) : Bool := decide (xs[i]? = ys[j]?)
def levOut (x ax ay : Addr) (xs ys : List Int) (k : Nat) (kvs : List (Str × Value)) (C : List (Addr × Obj)) : Prop :=
  ∃ CUR vc cc tc, kvs = [kk "self" (.ref x), kk "s1" (.ref ax), kk "s2" (.ref ay), kk "cols" (.int ((ys.length : Int) + 1) tc), kk "cur" (.ref CUR)] ∧ C = [(CUR, listOf (List.toArray vc) cc)] ∧ IntsAre vc (rowOf (ys.length + 1) (lv (eqAt xs ys) k))

def levIn (x ax ay PREV : Addr) (xs ys : List Int) (i : Nat) (j : Nat) (kvs : List (Str × Value)) (C : List (Addr × Obj)) : Prop :=
  ∃ CUR vc cc tc tr, kvs = [kk "self" (.ref x), kk "s1" (.ref ax), kk "s2" (.ref ay), kk "cols" (.int ((ys.length : Int) + 1) tc), kk "r" (.int (1 + (i : Int)) tr), kk "prev" (.ref PREV), kk "cur" (.ref CUR)] ∧ C = [(CUR, listOf (List.toArray vc) cc)] ∧ IntsAre vc (rowOf (ys.length + 1) (under (lv (eqAt xs ys) (i + 1)) j))

theorem take2 {h₀ h : Heap} {L : Addr} {t c : Addr × Obj} {r big : List (Addr × Obj)} (N : News h₀ L h (t :: c :: big)) (hs : ∀ p ∈ r, p ∈ big) : News h₀ L h (c :: r) := fun p hp => by
  rcases List.mem_cons.mp hp with rfl | hp
  · exact N _ (.tail _ (.head _))
  · exact N _ (.tail _ (.tail _ (hs p hp)))
theorem flatRep (k : Nat) (z : Int) : (List.replicate k [z]).flatten = List.replicate k z := by induction k with
  | zero => rfl
  | succ k ih => simp [List.replicate_succ, ih]
theorem start_row (f : Nat → Nat → Bool) (i n k : Nat) (h : k = n) : [1 + (i : Int)] ++ (List.replicate k [(0 : Int)]).flatten = rowOf (n + 1) (under (lv f (i + 1)) 0) := by
  subst h
  rw [flatRep]
  apply List.ext_getElem?
  intro j
  cases j with
  | zero => simp [rowOf, under, lv]; omega
  | succ j =>
    by_cases l : j < k
    · simp [rowOf, under, l, List.getElem?_replicate]
    · simp [rowOf, under, l, List.getElem?_replicate]
theorem end_row (g : Nat → Int) (n : Nat) : rowOf (n + 1) (under g n) = rowOf (n + 1) g := rowOf_congr fun i hi => by unfold under; rw [if_pos (by omega)]

theorem set_step {vs : List Value} {n j k : Nat} {V : Int} {g : Nat → Int} (h : IntsAre vs ((rowOf n (under g j)).set k V)) (hk : k = j + 1) (hV : V = g (j + 1)) : IntsAre vs (rowOf n (under g (j + 1))) := by
  subst hk; subst hV
  rw [rowOf_set (g' := under g (j + 1)) (by unfold under; rw [if_pos (Nat.le_refl _)])] at h
  · exact h
  · intro i _ hi
    unfold under
    by_cases e : i ≤ j
    · rw [if_pos e, if_pos (by omega)]
    · rw [if_neg e, if_neg (by omega)]
theorem sub_val {xs ys : List Int} {i j : Nat} (hi : i < xs.length) (hj : j < ys.length) :
    (if (!(((if some (xs.getD i 0) = some (ys.getD j 0) then 1 else 2 : Nat) : Int) == 1)) = true then (1 : Int) else 0) = sub1 (eqAt xs ys i j) := by
  unfold sub1 eqAt
  rw [List.getD_eq_getElem?_getD, List.getD_eq_getElem?_getD, List.getElem?_eq_getElem hi, List.getElem?_eq_getElem hj]
  by_cases e : xs[i] = ys[j] <;> simp [e]
theorem lev_val {xs ys : List Int} {i j : Nat} (hi : i < xs.length) (hj : j < ys.length) :
    min (lv (eqAt xs ys) i (1 + (j : Int) - 1).toNat + if (!(((if some (xs.getD (1 + (i : Int) - 1).toNat 0) = some (ys.getD (1 + (j : Int) - 1).toNat 0) then 1 else 2 : Nat) : Int) == 1)) = true then (1 : Int) else 0)
      (min (lv (eqAt xs ys) i (1 + (j : Int)).toNat + 1) (under (lv (eqAt xs ys) (i + 1)) j (1 + (j : Int) - 1).toNat + 1)) = lv (eqAt xs ys) (i + 1) (j + 1) := by
  have e1 : (1 + (j : Int) - 1).toNat = j := by omega
  have e2 : (1 + (i : Int) - 1).toNat = i := by omega
  have e3 : (1 + (j : Int)).toNat = j + 1 := by omega
  rw [e1, e2, e3, sub_val hi hj]
  unfold under
  rw [if_pos (Nat.le_refl _), lv]
theorem cycled (prog : Program) (w : World) (xs ys : List Int) (vs us : List Value) (nx ny : Nat) (ax ay : Addr) (hx : IntsAre vs xs) (hy : IntsAre us ys) (zx : xs.length ≤ 100) (zy : ys.length ≤ 100) (t1 t2 t3 : Tok) (x dx : Addr) (n : Nat) :
    Ctr prog w (hd.heap_39 w.params) 204 3 60 [.ref x, .ref ax, .ref ay] (fun news => (x, instObj 214 dx) ∈ news ∧ (dx, dictOf (levD w.params t1 t2 t3) n) ∈ news ∧ (ax, tupOf vs nx) ∈ news ∧ (ay, tupOf us ny) ∈ news)
      (fun v tl => (∃ t, v = .int (lv (eqAt xs ys) xs.length ys.length) t) ∧ tl = []) := by
  unfold Ctr
  intro p loose mean mg mb dp un gd cn cs a ccd cl outer A₀ base h₀ L m news s Q E B F X N T hk hd hu hg hpre hret
  obtain ⟨hp1, hp2, hp3, hp4⟩ := hpre
  refine wpAny_call ?_
  k_dflt ktr_enter
  k_steps
  all_goals (refine halt_out ?_)
  (rename Fr _ _ _ _ => lF')
  k_dflt (refine' For_halt lF' ?k1 ?k2 ?_)
  (case k1 => exact rfl); (case k2 => exact rfl)
  k_steps
  all_goals (refine halt_out ?_)
  rename IsRange _ _ _ _ _ _ _ _ => R'
  (rename Fr _ _ _ _ => lF'); (rename News _ _ _ _ => lN')
  (rename IntsAre _ (rangeKs _ _) => hI')
  rename ∀ p ∈ news, p.1 < _ => hAp
  k_dflt (refine' range_inv (C₀ := [_]) (base := news) (n := xs.length) (levOut x ax ay xs ys) ?k1 R' ?k2 ?k3 lF' lN' ?k5 ?k6 ?turn ?done)
  (case k1 => exact rfl)
  (case k2 => exact small1 (n := xs.length) (by omega) (by omega) (by omega) (by omega))
  (case k3 => exact size1 (by omega))
  (case k5 => intro c hc q hq; cases hc with | head => exact Nat.ne_of_gt (hAp q hq) | tail _ hc => cases hc)
  (case k6 => rw [row0 (eqAt xs ys) _ (ys.length + 1) (by omega)] at hI'; exact ⟨[kk "self" _, kk "s1" _, kk "s2" _, kk "cols" _, kk "cur" _], by with_unfolding_all exact ⟨rfl, rfl, rfl, rfl, rfl, trivial⟩, ⟨_, _, _, _, rfl, rfl, hI'⟩⟩)
  (case turn =>
    intro i ti m₁ kvs C h1 tk1 rest hi hJ hsub hApt F₁ N₁
    obtain ⟨CUR, vc, cc, tc, rfl, rfl, hvc⟩ := hJ
    have r1 := hsub _ hp1; have r2 := hsub _ hp2; have r3 := hsub _ hp3; have r4 := hsub _ hp4
    clear hAp lF' lN' hI' R'
    simp only [List.cons_append, List.nil_append] at N₁
    k_steps
    all_goals (refine halt_out ?_)
    (rename Fr _ _ _ _ => lF')
    k_dflt (refine' For_halt lF' ?k1 ?k2 ?_)
    (case k1 => exact rfl); (case k2 => exact rfl)
    k_steps
    all_goals (refine halt_out ?_)
    rename IsRange _ _ _ _ _ _ _ _ => R'
    (rename Fr _ _ _ _ => lF'); (rename News _ _ _ _ => lN')
    (rename IntsAre _ ([_] ++ _) => hI')
    rw [start_row (eqAt xs ys) i ys.length _ (by omega)] at hI'
    have lN2 := take2 (r := (CUR, listOf (List.toArray vc) cc) :: rest) lN' (by walk_at "mine sub0")
    k_dflt (refine' range_inv (C₀ := [_]) (base := (CUR, listOf (List.toArray vc) cc) :: rest) (n := ys.length) (levIn x ax ay CUR xs ys i) ?j1 R' ?j2 ?j3 lF' lN2 ?j5 ?j6 ?iturn ?idone)
    (case j1 => exact rfl)
    (case j2 => exact small1 (n := ys.length) (by omega) (by omega) (by omega) (by omega))
    (case j3 => exact size1 (by omega))
    (case j5 => intro c hc q hq; cases hc with | head => exact Nat.ne_of_gt (allLt_mem (by walk_at "mine lt") q hq) | tail _ hc => cases hc)
    (case j6 => exact ⟨[kk "self" _, kk "s1" _, kk "s2" _, kk "cols" _, kk "r" _, kk "prev" _, kk "cur" _], by with_unfolding_all exact ⟨rfl, rfl, rfl, rfl, rfl, rfl, rfl, trivial⟩, ⟨_, _, _, _, _, rfl, rfl, hI'⟩⟩)
    (case iturn =>
      intro j tj m₂ kvs C h2 tk2 rest2 hj hJ hsub2 hApt2 F₂ N₂
      obtain ⟨CU2, v2, c2, tc2, tr2, rfl, rfl, hv2⟩ := hJ
      have q0 := hsub2 _ (List.Mem.head _)
      have q1 := hsub2 _ (List.Mem.tail _ r1); have q2 := hsub2 _ (List.Mem.tail _ r2); have q3 := hsub2 _ (List.Mem.tail _ r3); have q4 := hsub2 _ (List.Mem.tail _ r4)
      clear lF' lN' lN2 hI' R'
      simp only [List.cons_append, List.nil_append] at N₂
      k_steps
      (rename Fr _ _ _ _ => lF'); (rename News _ _ _ _ => lN')
      (rename IntsAre _ (List.set _ _ _) => hI')
      refine TurnC.done [(CU2, _)] [kk "self" _, kk "s1" _, kk "s2" _, kk "cols" _, kk "r" _, kk "prev" _, kk "cur" _] lF' lN' (by walk_at "mine sub0") (apartOf (apart1 hApt2)) (by with_unfolding_all exact ⟨rfl, rfl, rfl, rfl, rfl, rfl, rfl, trivial⟩) ⟨_, _, _, _, _, rfl, rfl, set_step hI' (by omega) (lev_val hi hj)⟩)
    (case idone =>
      intro m₂ kvs C h2 tk2 hJ hApt2 F₂ N₂
      obtain ⟨CU2, v2, c2, tc2, tr2, rfl, rfl, hv2⟩ := hJ
      rw [end_row] at hv2
      simp only [List.cons_append, List.nil_append] at N₂
      k_steps
      refine TurnC.done [(CU2, _)] [kk "self" _, kk "s1" _, kk "s2" _, kk "cols" _, kk "cur" _] F₂ N₂ (by intro p9 hp9; rcases List.mem_cons.mp hp9 with e9 | hp9; exact e9 ▸ List.Mem.head _; exact List.Mem.tail _ (List.Mem.tail _ hp9)) (apartOf fun p9 hp9 => apart1 hApt2 p9 (List.Mem.tail _ hp9)) (by with_unfolding_all exact ⟨rfl, rfl, rfl, rfl, rfl, trivial⟩) ⟨_, _, _, _, rfl, rfl, hv2⟩))
  (case done =>
    intro m₂ kvs C h2 tk2 hJ hApt2 F₂ N₂
    obtain ⟨CU2, v2, c2, tc2, rfl, rfl, hv2⟩ := hJ
    clear hAp lF' lN' hI' R'
    simp only [List.cons_append, List.nil_append] at N₂
    k_steps
    refine hret _ [] _ _ _ (by k_asm) (cb_drop (by k_asm) (by walk_at "mine sub0")) (by walk_at "mine ord") (by assumption) ⟨?_, rfl⟩
    exact ⟨_, rfl⟩)

section
open PySem.Calls
def Knows (f : Int → Int → Option Int) (P : Int → Int → Prop) (g : Int → Int → Int) : Prop := ∀ a b, P a b → f a b = some (g a b)
theorem allLt_right {d : Addr} {C R : List (Addr × Obj)} (h : AllLt d (C ++ R)) : ∀ p ∈ R, p.1 ≠ d := fun p hp => Nat.ne_of_lt (allLt_mem h p (List.mem_append_right _ hp))
section
variable {prog : Program} {w : World} {A : Around} {E : Value → Shared → Prop} {s : Shared} {h₀ h : Heap} {L T D1 D2 : Addr} {m : Str → Option Value} {news : List (Addr × Obj)} {n : Nat} {a b x : Int} {ta tb u : Tok} {o1 o2 : Obj}
theorem tab_set0 {Q : Unit → Shared → Prop} (hu : A.units + 1 < cLine) (F : Fr h₀ L s.heap m) (N : News h₀ L s.heap ((T, tupOf [.int a ta, .int b tb] n) :: (D2, o2) :: (D1, o1) :: news)) (hE : o1.IsDictOf (intKind prog w) [])
    (l : D1 < D2 ∧ AllLt D2 news) (l0 : ∀ p ∈ news, p.1 < D1) (lT : D2 < T ∧ D1 < T ∧ AllLt T news)
    (h : ∀ h' C' tk, Fr h₀ L h' m → News h₀ L h' (C' ++ (D2, o2) :: news) → TabC prog w D1 (upd2 (fun _ _ => none) a b x) 1 C' → Apart C' ((D2, o2) :: news) → Q () { s with heap := h', toks := tk }) :
    wpAny (model prog w) A (setItem (.ref D1) (.ref T) (.int x u)) Q E s := by
  refine tab_set (C := [(D1, o1)]) (R := (D2, o2) :: news) hu F N (TabC.empty hE) ?_ ?_ (List.Mem.head _) ?_ (by decide) h
  · intro p hp
    rcases List.mem_cons.mp hp with rfl | hp
    · exact .tail _ (.tail _ (.head _))
    · rcases List.mem_cons.mp hp with rfl | hp
      · exact .tail _ (.head _)
      · exact .tail _ (.tail _ (.tail _ hp))
  · refine apartOf fun p hp => ?_
    rcases List.mem_cons.mp hp with rfl | hp
    · exact Nat.ne_of_gt l.1
    · exact Nat.ne_of_lt (l0 p hp)
  · intro p hp
    rcases List.mem_cons.mp hp with rfl | hp
    · exact Nat.ne_of_lt lT.1
    · exact Nat.ne_of_lt (allLt_mem lT.2.2 p hp)
end
theorem allLt_right' {d : Addr} {C R : List (Addr × Obj)} (h : ∀ p ∈ C ++ R, p.1 < d) : ∀ p ∈ R, p.1 ≠ d := fun p hp => Nat.ne_of_lt (h p (List.mem_append_right _ hp))
theorem newsLt {h₀ h : Heap} {L : Addr} {C R : List (Addr × Obj)} (N : News h₀ L h (C ++ R)) : ∀ p ∈ R, p.1 ≠ h.objs.size := fun p hp => Nat.ne_of_lt (Heap.lt_size (N p (List.mem_append_right _ hp)).1)
theorem newsLt2 {h₀ h : Heap} {L : Addr} {big R : List (Addr × Obj)} (N : News h₀ L h big) (hs : ∀ p ∈ R, p ∈ big) : ∀ p ∈ R, p.1 ≠ h.objs.size := fun p hp => Nat.ne_of_lt (Heap.lt_size (N p (hs p hp)).1)
end
local macro_rules | `(tactic| walk_at "mine subR") => `(tactic| (intro p9 hp9; (repeat' (first | exact List.mem_append_right _ hp9 | refine List.Mem.tail _ ?_))))
local macro_rules | `(tactic| walk_at "mine subL") => `(tactic| (intro p9 hp9; (repeat' (first | exact List.mem_append_left _ hp9 | refine List.Mem.tail _ ?_))))
local macro_rules | `(tactic| walk_at "setItem ref ref") => `(tactic| (k_here; refine halt_in ?_))
local macro_rules | `(tactic| walk_at "setItem ref ref") => `(tactic| (k_here; (with_reducible show wpAny _ _ (setItem (Value.ref _) (Value.ref _) (Value.int _ _)) _ _ _); (rename TabC _ _ _ _ _ _ => hT9); (rename Apart _ _ => hA9); k_dflt (refine' tab_set ?hu ?F ?N hT9 ?hs hA9 ?hm ?hTR ?hk ?_; (case hu => ktr_units); (case F => k_asm); (case N => k_asm); (case hs => walk_at "mine sub0"); (case hm => k_mem); (case hTR => first | exact allLt_right (by walk_at "mine lt") | exact allLt_right' (by assumption) | exact newsLt (by assumption) | exact newsLt2 (by assumption) (by walk_at "mine subR")); (case hk => omega); k_whole); clear hT9 hA9; intro h' C' tk' F' N' hT' hA'; (try dsimp only); (try k_fold)))
local macro_rules | `(tactic| walk_at "setItem ref ref") => `(tactic| (k_here; (with_reducible show wpAny _ _ (setItem (Value.ref _) (Value.ref _) (Value.int _ _)) _ _ _); k_dflt (refine' tab_set0 ?hu ?F ?N ?hE ?l ?l0 ?lT ?_; (case hu => ktr_units); (case F => k_asm); (case N => k_asm); (case hE => assumption); (case l => assumption); (case l0 => assumption); (case lT => assumption); k_whole); intro h' C' tk' F' N' hT' hA'; (try dsimp only); (try k_fold)))
local macro_rules | `(tactic| walk_at "subscriptTail Name Tuple ref ref") => `(tactic| (k_here; (with_reducible show wpAny _ _ (subscriptTail _ _ (Value.ref _) (Value.ref _)) _ _ _); (rename TabC _ _ _ _ _ _ => hT9); (rename Knows _ _ _ => hK9); k_dflt (refine' tab_get ?hu ?N hT9 ?hs ?hm (hK9 _ _ ?hf) ?_ ?s1 ?s2; (case hu => ktr_units); (case N => k_asm); (case hs => walk_at "mine subL"); (case hm => k_mem); (case hf => first | omega | (unfold dom4 dom3 dom2 dom1; omega) | (simp only [dom4, dom3, dom2, dom1]; omega)); (case s1 => with_unfolding_all rfl); (case s2 => (intro _; with_unfolding_all rfl)); k_whole); intro t' tk'; (try dsimp only); (try k_fold)))
local macro_rules | `(tactic| walk_at "getMethod ref") => `(tactic| (k_here; (rename IntD _ _ _ _ _ => hI9); k_dflt (refine' intd_meth ?N ?m hI9 ?_; (case N => k_asm); (case m => k_mem); k_whole)))
local macro_rules | `(tactic| walk_at "call builtin:dict.get") => `(tactic| (k_here; (rename IntD _ _ _ _ _ => hI9); k_dflt (refine' intd_get ?lo ?N ?m hI9 ?_; (case lo => assumption); (case N => k_asm); (case m => k_mem); k_whole); intro t' tk'; (try dsimp only); (try k_fold)))
local macro_rules | `(tactic| walk_at "setItem ref int") => `(tactic| (k_here; (with_reducible show wpAny _ _ (setItem (Value.ref _) (Value.int _ _) (Value.int _ _)) _ _ _); (rename IntD _ _ _ _ _ => hI9); refine halt_in ?_))
local macro_rules | `(tactic| walk_at "callWith type:enumerate nil") => `(tactic| (k_here; refine callWith_TK (by rfl) ?_))
local macro_rules | `(tactic| walk_at "callWith type:enumerate") => `(tactic| (k_here; refine callWith_TK (by rfl) ?_))

theorem Knows.upd {f : Int → Int → Option Int} {P P' : Int → Int → Prop} {g : Int → Int → Int} {a b x : Int} (h : Knows f P g) (hx : x = g a b) (hp : ∀ a' b', P' a' b' → ¬ (a' = a ∧ b' = b) → P a' b') : Knows (upd2 f a b x) P' g := fun a' b' q => by
  unfold upd2
  by_cases e : a' = a ∧ b' = b
  · rw [if_pos e, hx, e.1, e.2]
  · rw [if_neg e]; exact h _ _ (hp _ _ q e)
theorem Knows.mono {f : Int → Int → Option Int} {P P' : Int → Int → Prop} {g : Int → Int → Int} (h : Knows f P g) (hp : ∀ a' b', P' a' b' → P a' b') : Knows f P' g := fun a' b' q => h _ _ (hp _ _ q)
abbrev damM (xs ys : List Int) : Int := (xs.length : Int) + (ys.length : Int)
theorem tb_neg1 {M : Int} {xs ys : List Int} {a : Int} : tb M xs ys a (-1) = M := by unfold tb; rw [if_pos (by omega)]
theorem tb_neg0 {M : Int} {xs ys : List Int} {b : Int} : tb M xs ys (-1) b = M := by unfold tb; rw [if_pos (by omega)]
theorem tb_col {M : Int} {xs ys : List Int} (i : Nat) : tb M xs ys (i : Int) 0 = (i : Int) := by
  unfold tb
  rw [if_neg (by omega)]
  cases i with
  | zero => simp [dm]
  | succ i => rw [Int.toNat_natCast]; simp [dm]
theorem tb_row {M : Int} {xs ys : List Int} (j : Nat) : tb M xs ys 0 (j : Int) = (j : Int) := by
  unfold tb
  rw [if_neg (by omega)]
  simp [dm]
def damK (x ax ay dd da : Addr) (xs ys : List Int) (u1 u2 u3 : Tok) : List (Str × Value) :=
  [kk "self" (.ref x), kk "s1" (.ref ax), kk "s2" (.ref ay), kk "d" (.ref dd), kk "da" (.ref da), kk "len1" (.int (xs.length : Int) u1), kk "len2" (.int (ys.length : Int) u2), kk "maxdist" (.int (damM xs ys) u3)]
def damJ (prog : Program) (w : World) (dd : Addr) (xs ys : List Int) (P : Int → Int → Prop) (k : Nat) (C : List (Addr × Obj)) : Prop := ∃ f k', TabC prog w dd f k' C ∧ k' ≤ k ∧ Knows f P (tb (damM xs ys) xs ys)
def damJ1 (prog : Program) (w : World) (x ax ay dd da : Addr) (xs ys : List Int) (i : Nat) (kvs : List (Str × Value)) (C : List (Addr × Obj)) : Prop :=
  ∃ u1 u2 u3, kvs = damK x ax ay dd da xs ys u1 u2 u3 ∧ damJ prog w dd xs ys (dom1 i) (1 + 2 * i) C
def damJ2 (prog : Program) (w : World) (x ax ay dd da : Addr) (xs ys : List Int) (j : Nat) (kvs : List (Str × Value)) (C : List (Addr × Obj)) : Prop :=
  ∃ u1 u2 u3, kvs = damK x ax ay dd da xs ys u1 u2 u3 ∧ damJ prog w dd xs ys (dom2 xs.length j) (300 + 2 * j) C
def damJ3 (prog : Program) (w : World) (x ax ay dd da : Addr) (xs ys : List Int) (i : Nat) (kvs : List (Str × Value)) (C : List (Addr × Obj)) : Prop :=
  ∃ u1 u2 u3 o Cd k, kvs = damK x ax ay dd da xs ys u1 u2 u3 ∧ C = (da, o) :: Cd ∧ IntD prog w o (fun c => (lastR xs c i : Int)) k ∧ k ≤ i ∧ damJ prog w dd xs ys (dom3 xs.length ys.length i) (1000 + 100 * i) Cd ∧ ∀ p ∈ Cd, p.1 ≠ da
def damJ4 (prog : Program) (w : World) (x ax ay dd da : Addr) (xs ys : List Int) (i : Nat) (j : Nat) (kvs : List (Str × Value)) (C : List (Addr × Obj)) : Prop :=
  ∃ u1 u2 u3 u4 u5 u6, kvs = damK x ax ay dd da xs ys u1 u2 u3 ++ [kk "i" (.int ((i : Int) + 1) u4), kk "cs1" (.int (xs.getD i 0) u5), kk "db" (.int (lastR ys (xs.getD i 0) j : Int) u6)] ∧
    damJ prog w dd xs ys (dom4 xs.length ys.length i j) (1000 + 100 * i + j) C
theorem swapN {h₀ h : Heap} {L a : Addr} {o : Obj} {C R : List (Addr × Obj)} (N : News h₀ L h (C ++ (a, o) :: R)) : News h₀ L h (((a, o) :: C) ++ R) := fun p hp => N p (by
  rcases List.mem_append.mp hp with hp | hp
  · rcases List.mem_cons.mp hp with rfl | hp
    · exact List.mem_append_right _ (.head _)
    · exact List.mem_append_left _ hp
  · exact List.mem_append_right _ (.tail _ hp))
theorem swapN' {h₀ h : Heap} {L a : Addr} {o : Obj} {C R : List (Addr × Obj)} (N : News h₀ L h ((a, o) :: (C ++ R))) : News h₀ L h (C ++ (a, o) :: R) := fun p hp => N p (by
  rcases List.mem_append.mp hp with hp | hp
  · exact .tail _ (List.mem_append_left _ hp)
  · rcases List.mem_cons.mp hp with rfl | hp
    · exact .head _
    · exact .tail _ (List.mem_append_right _ hp))
theorem swapA {a : Addr} {o : Obj} {C R : List (Addr × Obj)} (h : Apart C ((a, o) :: R)) (hR : ∀ p ∈ R, p.1 ≠ a) : Apart ((a, o) :: C) R := fun c hc q hq => by
  rcases List.mem_cons.mp hc with rfl | hc
  · exact Ne.symm (hR q hq)
  · exact h c hc q (.tail _ hq)
theorem swapA' {a : Addr} {o : Obj} {C R : List (Addr × Obj)} (h : Apart ((a, o) :: C) R) (hC : ∀ p ∈ C, p.1 ≠ a) : Apart C ((a, o) :: R) := fun c hc q hq => by
  rcases List.mem_cons.mp hq with rfl | hq
  · exact hC c hc
  · exact h c (.tail _ hc) q hq
theorem tb_nn {M : Int} {xs ys : List Int} (i j : Nat) : tb M xs ys (i : Int) (j : Int) = dm M xs ys i j := by
  unfold tb
  rw [if_neg (by omega), Int.toNat_natCast, Int.toNat_natCast]
theorem tb_last {M : Int} {xs ys : List Int} (l k : Nat) : tb M xs ys ((l : Int) - 1) ((k : Int) - 1) = if l = 0 ∨ k = 0 then M else dm M xs ys (l - 1) (k - 1) := by
  by_cases e : l = 0 ∨ k = 0
  · rw [if_pos e]; unfold tb; rw [if_pos (by omega)]
  · rw [if_neg e, show (l : Int) - 1 = ((l - 1 : Nat) : Int) by omega, show (k : Int) - 1 = ((k - 1 : Nat) : Int) by omega, tb_nn]
theorem dam_val {M : Int} {xs ys : List Int} {i j : Nat} {c : Int} (hc : c = if xs.getD i 0 = ys.getD j 0 then 0 else 1) :
    min (min (tb M xs ys ((i : Int) + 1 - 1) ((j : Int) + 1 - 1) + c) (min (tb M xs ys ((i : Int) + 1) ((j : Int) + 1 - 1) + 1) (tb M xs ys ((i : Int) + 1 - 1) ((j : Int) + 1) + 1)))
      (tb M xs ys ((lastR xs (ys.getD j 0) i : Int) - 1) ((lastR ys (xs.getD i 0) j : Int) - 1) + ((i : Int) + 1 - (lastR xs (ys.getD j 0) i : Int)) - 1 + ((j : Int) + 1 - (lastR ys (xs.getD i 0) j : Int))) = tb M xs ys ((i : Int) + 1) ((j : Int) + 1) := by
  rw [tb_last, show (i : Int) + 1 - 1 = (i : Int) by omega, show (j : Int) + 1 - 1 = (j : Int) by omega, show (i : Int) + 1 = ((i + 1 : Nat) : Int) by omega, show (j : Int) + 1 = ((j + 1 : Nat) : Int) by omega, tb_nn, tb_nn, tb_nn, tb_nn, hc]
  conv => rhs; rw [dm]
  rw [show (i : Int) + 1 = ((i + 1 : Nat) : Int) by omega, show (j : Int) + 1 = ((j + 1 : Nat) : Int) by omega]
theorem same_one {a b : Int} (h : ((if some a = some b then 1 else 2 : Nat) : Int) = 1) : a = b := by
  by_cases e : a = b
  · exact e
  · rw [if_neg (fun q => e (Option.some.inj q))] at h; exact absurd h (by decide)
theorem same_two {a b : Int} (h : ((if some a = some b then 1 else 2 : Nat) : Int) ≠ 1) : ¬ a = b := fun e => h (by rw [e, if_pos rfl]; rfl)
theorem lastR_hit {ys : List Int} {x : Int} {j : Nat} (h : x = ys.getD j 0) : ((lastR ys x (j + 1) : Nat) : Int) = (j : Int) + 1 := by
  unfold lastR; rw [if_pos h.symm]; omega
theorem lastR_miss {ys : List Int} {x : Int} {j : Nat} (h : ¬ x = ys.getD j 0) : ((lastR ys x (j + 1) : Nat) : Int) = (lastR ys x j : Int) := by
  conv => lhs; unfold lastR
  rw [if_neg (fun e => h e.symm)]
theorem lastR_fun (xs : List Int) (i : Nat) : (fun y => if y = xs.getD i 0 then (i : Int) + 1 else (lastR xs y i : Int)) = fun c => ((lastR xs c (i + 1) : Nat) : Int) := by
  funext c
  by_cases e : c = xs.getD i 0
  · rw [if_pos e, lastR_hit e]
  · rw [if_neg e, lastR_miss e]
theorem unres (prog : Program) (w : World) (xs ys : List Int) (vs us : List Value) (nx ny : Nat) (ax ay : Addr) (hx : IntsAre vs xs) (hy : IntsAre us ys) (zx : xs.length ≤ 100) (zy : ys.length ≤ 100) (t1 t2 t3 t4 : Tok) (x dx : Addr) (n : Nat) :
    Ctr prog w (hd.heap_39 w.params) 238 3 60 [.ref x, .ref ax, .ref ay] (fun news => (x, instObj 255 dx) ∈ news ∧ (dx, dictOf (damD w.params t1 t2 t3 t4) n) ∈ news ∧ (ax, tupOf vs nx) ∈ news ∧ (ay, tupOf us ny) ∈ news)
      (fun v tl => (∃ t, v = .int (dm (damM xs ys) xs ys xs.length ys.length) t) ∧ tl = []) := by
  unfold Ctr
  intro p loose mean mg mb dp un gd cn cs a ccd cl outer A₀ base h₀ L m news s Q E B F X N T hk hd hu hg hpre hret
  obtain ⟨hp1, hp2, hp3, hp4⟩ := hpre
  refine wpAny_call ?_
  k_dflt ktr_enter
  k_steps
  all_goals (refine halt_out ?_)
  (rename Fr _ _ _ _ => lF')
  k_dflt (refine' For_halt lF' ?k1 ?k2 ?_)
  (case k1 => exact rfl); (case k2 => exact rfl)
  k_steps
  all_goals (refine halt_out ?_)
  rename IsRange _ _ _ _ _ _ _ _ => R'
  (rename Fr _ _ _ _ => lF'); (rename News _ _ _ _ => lN')
  rename TabC _ _ _ _ _ _ => hT9
  rename Apart _ _ => hA9
  have hK9 : Knows (upd2 (fun _ _ => none) (-1) (-1) ((xs.length : Int) + (ys.length : Int))) (dom1 0) (tb (damM xs ys) xs ys) := Knows.upd (P := fun _ _ => False) (fun _ _ h => h.elim) tb_neg1.symm (by intro a' b' h1 h2; unfold dom1 at h1; omega)
  k_dflt (refine range_inv (n := xs.length + 1) (damJ1 prog w x ax ay _ _ xs ys) rfl R' (small1 (n := xs.length + 1) (by omega) (by omega) (by omega) (by omega)) (size1 (by omega)) lF' lN' hA9 ⟨damK _ _ _ _ _ _ _ _ _ _, by with_unfolding_all exact ⟨rfl, rfl, rfl, rfl, rfl, rfl, rfl, rfl, trivial⟩, ⟨_, _, _, rfl, ⟨_, _, hT9, by omega, hK9⟩⟩⟩ ?turn1 ?done1)
  (case turn1 =>
    intro i ti m₁ kvs C h1 tk1 rest hi hJ hsub hApt F₁ N₁
    obtain ⟨u1, u2, u3, rfl, f1, k1, hT1, hk1, hK1⟩ := hJ
    have r1 := hsub _ (List.Mem.tail _ hp1); have r2 := hsub _ (List.Mem.tail _ hp2); have r3 := hsub _ (List.Mem.tail _ hp3); have r4 := hsub _ (List.Mem.tail _ hp4)
    clear lF' lN' R' hT9 hA9 hK9
    k_steps
    (rename Fr _ _ _ _ => lF'); (rename News _ _ _ _ => lN')
    rename TabC _ _ _ _ _ _ => hT9
    rename Apart _ _ => hA9
    refine TurnC.done _ (damK _ _ _ _ _ _ _ _ _ _) lF' lN' (fun _ h => h) hA9 (by with_unfolding_all exact ⟨rfl, rfl, rfl, rfl, rfl, rfl, rfl, rfl, trivial⟩) ⟨_, _, _, rfl, ⟨_, _, hT9, by omega, ?_⟩⟩
    refine Knows.upd (P := fun a b => dom1 i a b ∨ (a = (i : Int) ∧ b = -1)) (Knows.upd hK1 ?_ ?_) ?_ ?_
    · exact tb_neg1.symm
    · intro a' b' h1 h2; unfold dom1 at *; omega
    · rw [Int.zero_add]; exact (tb_col i).symm
    · intro a' b' h1 h2; unfold dom1 at *; omega)
  (case done1 =>
    intro m₂ kvs C h2 tk2 hJ hApt F₁ N₁
    obtain ⟨u1, u2, u3, rfl, f1, k1, hT1, hk1, hK1⟩ := hJ
    clear lF' lN' R' hT9 hA9 hK9
    k_steps
    all_goals (refine halt_out ?_)
    (rename Fr _ _ _ _ => lF')
    k_dflt (refine' For_halt lF' ?k1 ?k2 ?_)
    (case k1 => exact rfl); (case k2 => exact rfl)
    k_steps
    all_goals (refine halt_out ?_)
    rename IsRange _ _ _ _ _ _ _ _ => R'
    (rename Fr _ _ _ _ => lF'); (rename News _ _ _ _ => lN')
    k_dflt (refine range_inv (n := ys.length + 1) (damJ2 prog w x ax ay _ _ xs ys) rfl R' (small1 (n := ys.length + 1) (by omega) (by omega) (by omega) (by omega)) (size1 (by omega)) lF' lN' hApt ⟨damK _ _ _ _ _ _ _ _ _ _, by with_unfolding_all exact ⟨rfl, rfl, rfl, rfl, rfl, rfl, rfl, rfl, trivial⟩, ⟨_, _, _, rfl, ⟨_, _, hT1, by omega, Knows.mono hK1 (by intro a' b' h1; unfold dom2 at h1; rcases h1 with h1 | h1; exact h1; omega)⟩⟩⟩ ?turn2 ?done2)
    (case turn2 =>
      intro j ti m₁ kvs C h1 tk1 rest hi hJ hsub hApt F₁ N₁
      clear hT1 hK1 lF' lN' R'
      obtain ⟨u1, u2, u3, rfl, f1, k1, hT1, hk1, hK1⟩ := hJ
      have r1 := hsub _ (List.Mem.tail _ hp1); have r2 := hsub _ (List.Mem.tail _ hp2); have r3 := hsub _ (List.Mem.tail _ hp3); have r4 := hsub _ (List.Mem.tail _ hp4)
      k_steps
      (rename Fr _ _ _ _ => lF'); (rename News _ _ _ _ => lN')
      rename TabC _ _ _ _ _ _ => hT9
      rename Apart _ _ => hA9
      refine TurnC.done _ (damK _ _ _ _ _ _ _ _ _ _) lF' lN' (fun _ h => h) hA9 (by with_unfolding_all exact ⟨rfl, rfl, rfl, rfl, rfl, rfl, rfl, rfl, trivial⟩) ⟨_, _, _, rfl, ⟨_, _, hT9, by omega, ?_⟩⟩
      refine Knows.upd (P := fun a b => dom2 xs.length j a b ∨ (b = (j : Int) ∧ a = -1)) (Knows.upd hK1 ?_ ?_) ?_ ?_
      · exact tb_neg0.symm
      · intro a' b' h1 h2; simp only [dom2, dom1] at *; omega
      · rw [Int.zero_add]; exact (tb_row j).symm
      · intro a' b' h1 h2; simp only [dom2, dom1] at *; omega)
    (case done2 =>
      intro m₂ kvs C h2 tk2 hJ hApt F₁ N₁
      clear hT1 hK1 lF' lN' R'
      obtain ⟨u1, u2, u3, rfl, f1, k1, hT1, hk1, hK1⟩ := hJ
      k_steps
      all_goals (refine halt_out ?_)
      (rename Fr _ _ _ _ => lF')
      k_dflt (refine' For_turns lF' ?_)
      k_steps
      rename Obj.IsDictOf (intKind prog w) _ [] => hE1
      rename (_ == sysModules) = false => loA
      rename _ ∧ AllLt _ news => hL2
      have hA3 := swapA hApt (fun p hp => Nat.ne_of_lt (allLt_mem hL2.2 p hp))
      have hC3 : ∀ p ∈ C, p.1 ≠ _ := fun p hp => hApt p hp _ (List.Mem.head _)
      have hI3 := IntD.empty hE1
      (rename Fr _ _ _ _ => lF')
      have lN' := swapN N₁
      k_dflt (refine en_inv (damJ3 prog w x ax ay _ _ xs ys) rfl lF' lN' hp3 hx hA3 ⟨damK _ _ _ _ _ _ _ _ _ _, by with_unfolding_all exact ⟨rfl, rfl, rfl, rfl, rfl, rfl, rfl, rfl, trivial⟩, ⟨_, _, _, _, _, _, rfl, rfl, hI3, Nat.le_refl _, ⟨_, _, hT1, by omega, Knows.mono hK1 (by intro a' b' h1; simp only [dom3, dom2, dom1] at *; omega)⟩, hC3⟩⟩ ?turn3 ?done3)
      (case turn3 =>
        intro i T ti tx m₁ kvs C3 h1 tk1 rest hi hIT hJ hsub hApt F₁ N₁
        clear hT1 hK1 lF' lN' hA3 hC3 hI3 hE1 hL2
        obtain ⟨u1, u2, u3, o3, Cd, k3, rfl, rfl, hI3, hk3, ⟨f1, k1, hT1, hk1, hK1⟩, hC3⟩ := hJ
        have r1 := List.mem_append_right Cd (hsub _ hp1); have r2 := List.mem_append_right Cd (hsub _ hp2); have r3 := List.mem_append_right Cd (hsub _ hp3); have r4 := List.mem_append_right Cd (hsub _ hp4)
        simp only [List.cons_append] at N₁
        k_steps
        all_goals (refine halt_out ?_)
        (rename Fr _ _ _ _ => lF')
        k_dflt (refine' For_turns lF' ?_)
        k_steps
        (rename Fr _ _ _ _ => lF'); (rename News _ _ _ _ => lN')
        k_dflt (refine en_inv (damJ4 prog w x ax ay _ _ xs ys i) rfl lF' (swapN' lN') (List.Mem.tail _ (hsub _ hp4)) (by assumption) (swapA' hApt hC3) ⟨damK _ _ _ _ _ _ _ _ _ _ ++ [kk "i" _, kk "cs1" _, kk "db" _], by with_unfolding_all exact ⟨rfl, rfl, rfl, rfl, rfl, rfl, rfl, rfl, rfl, rfl, rfl, trivial⟩, ⟨_, _, _, _, _, _, rfl, ⟨_, _, hT1, by omega, Knows.mono hK1 (by intro a' b' h1; simp only [dom4, dom3, dom2, dom1] at *; omega)⟩⟩⟩ ?turn4 ?done4)
        (case turn4 =>
          intro j T2 tj ty m₂ kvs C4 h2 tk2 rest2 hj hJT hJ hsub2 hApt2 F₂ N₂
          clear hT1 hK1 lF' lN' r1 r2 r3 r4
          obtain ⟨u1, u2, u3, u4, u5, u6, rfl, f1, k1, hT1, hk1, hK1⟩ := hJ
          have q0 := List.mem_append_right C4 (hsub2 _ (List.Mem.head _))
          have r1 := List.mem_append_right C4 (hsub2 _ (List.Mem.tail _ (hsub _ hp1))); have r2 := List.mem_append_right C4 (hsub2 _ (List.Mem.tail _ (hsub _ hp2))); have r3 := List.mem_append_right C4 (hsub2 _ (List.Mem.tail _ (hsub _ hp3))); have r4 := List.mem_append_right C4 (hsub2 _ (List.Mem.tail _ (hsub _ hp4)))
          have b1 := lastR_le xs (ys.getD j 0) i
          have b2 := lastR_le ys (xs.getD i 0) j
          k_steps
          · (rename Fr _ _ _ _ => lF'); (rename News _ _ _ _ => lN')
            rename TabC _ _ _ _ _ _ => hT9
            rename Apart _ _ => hA9
            have hcB : xs.getD i 0 = ys.getD j 0 := same_one (by assumption)
            have hdb := lastR_hit (ys := ys) (x := xs.getD i 0) (j := j) hcB
            refine TurnC.done _ (damK x ax ay _ _ xs ys u1 u2 u3 ++ [kk "i" (.int ((i : Int) + 1) u4), kk "cs1" (.int (xs.getD i 0) u5), kk "db" (.int ((lastR ys (xs.getD i 0) (j + 1) : Nat) : Int) tj)]) lF' lN' (fun _ h => h) hA9 (by rw [hdb]; with_unfolding_all exact ⟨rfl, rfl, rfl, rfl, rfl, rfl, rfl, rfl, rfl, rfl, rfl, trivial⟩) ⟨_, _, _, _, _, _, rfl, ⟨_, _, hT9, by omega, ?_⟩⟩
            rename Knows _ _ _ => hK8
            refine Knows.upd hK8 (dam_val (by rw [if_pos hcB])) ?_
            intro a' b' h1 h2
            rcases h1 with h1 | h1
            · exact Or.inl h1
            · exact Or.inr (by omega)
          · (rename Fr _ _ _ _ => lF'); (rename News _ _ _ _ => lN')
            rename TabC _ _ _ _ _ _ => hT9
            rename Apart _ _ => hA9
            have hcB : ¬ xs.getD i 0 = ys.getD j 0 := same_two (by assumption)
            have hdb := lastR_miss (ys := ys) (x := xs.getD i 0) (j := j) hcB
            refine TurnC.done _ (damK x ax ay _ _ xs ys u1 u2 u3 ++ [kk "i" (.int ((i : Int) + 1) u4), kk "cs1" (.int (xs.getD i 0) u5), kk "db" (.int ((lastR ys (xs.getD i 0) (j + 1) : Nat) : Int) u6)]) lF' lN' (fun _ h => h) hA9 (by rw [hdb]; with_unfolding_all exact ⟨rfl, rfl, rfl, rfl, rfl, rfl, rfl, rfl, rfl, rfl, rfl, trivial⟩) ⟨_, _, _, _, _, _, rfl, ⟨_, _, hT9, by omega, ?_⟩⟩
            rename Knows _ _ _ => hK8
            refine Knows.upd hK8 (dam_val (by rw [if_neg hcB])) ?_
            intro a' b' h1 h2
            rcases h1 with h1 | h1
            · exact Or.inl h1
            · exact Or.inr (by omega)
          )
        (case done4 =>
          intro m₂ kvs C4 h2 tk2 hJ hApt2 F₂ N₂
          clear hT1 hK1 lF' lN' r1 r2 r3 r4
          obtain ⟨u1, u2, u3, u4, u5, u6, rfl, f1, k1, hT1, hk1, hK1⟩ := hJ
          k_steps
          all_goals (refine halt_out ?_)
          (rename Fr _ _ _ _ => lF'); (rename News _ _ _ _ => lN')
          rename IntD _ _ _ _ _ => hI3
          have hda : ∀ p ∈ C4 ++ rest, p.1 ≠ _ := fun p hp => (List.mem_append.mp hp).elim (fun hp => hApt2 p hp _ (List.Mem.head _)) (fun hp => Ne.symm (hApt _ (List.Mem.head _) p hp))
          k_dflt (refine intd_set (R := C4 ++ rest) lF' lN' (List.mem_append_right _ (List.Mem.head _)) hI3 (fun p hp => (List.mem_append.mp hp).elim (fun hp => List.mem_append_left _ hp) (fun hp => List.mem_append_right _ (List.Mem.tail _ hp))) hda (by omega) ?_)
          intro h9 o9 tk9 F9 N9 I9
          rw [lastR_fun] at I9
          k_steps
          (rename Fr _ _ _ _ => lF'); (rename News _ _ _ _ => lN')
          refine TurnC.done (_ :: C4) (damK _ _ _ _ _ _ _ _ _ _) lF' lN' (fun _ h => h) ?_ (by with_unfolding_all exact ⟨rfl, rfl, rfl, rfl, rfl, rfl, rfl, rfl, trivial⟩) ⟨_, _, _, _, _, _, rfl, rfl, I9, by omega, ⟨_, _, hT1, by omega, Knows.mono hK1 ?_⟩, fun p hp => hApt2 p hp _ (List.Mem.head _)⟩
          · intro c hc q hq
            rcases List.mem_cons.mp hc with rfl | hc
            · exact hApt _ (List.Mem.head _) q hq
            · exact hApt2 c hc q (List.Mem.tail _ hq)
          · intro a' b' h1
            rcases h1 with h1 | h1
            · exact Or.inl (Or.inl h1)
            · unfold dom4 dom3
              rcases Int.lt_or_le (i : Int) a' with hl | hl
              · exact Or.inr (by omega)
              · exact Or.inl (Or.inr (by omega))))
      (case done3 =>
        intro m₁ kvs C3 h1 tk1 hJ hApt F₁ N₁
        clear hT1 hK1 lF' lN' hA3 hC3 hI3 hE1 hL2
        obtain ⟨u1, u2, u3, o3, Cd, k3, rfl, rfl, hI3, hk3, ⟨f1, k1, hT1, hk1, hK1⟩, hC3⟩ := hJ
        simp only [List.cons_append] at N₁
        k_steps
        refine hret _ [] _ _ _ (by k_asm) (cb_drop (by k_asm) (by intro p9 hp9; repeat' (first | exact List.mem_append_right _ hp9 | refine List.Mem.tail _ ?_))) (by walk_at "mine ord") (by assumption) ⟨⟨_, by rw [tb_nn]⟩, rfl⟩)))

def qd (g : Int) (xs ys : List Int) : Int := if xs = ys then 0 else if xs = [] ∨ ys = [] then (max xs.length ys.length : Nat) else g
theorem quick_cases {xs ys : List Int} {v : Value} (h : quickRes xs ys v) : (xs = ys ∧ ∃ t, v = .int 0 t) ∨ (¬ xs = ys ∧ (xs = [] ∨ ys = []) ∧ ∃ t, v = .int (max xs.length ys.length : Nat) t) ∨ (¬ xs = ys ∧ ¬ (xs = [] ∨ ys = []) ∧ v = .none) := by
  unfold quickRes at h
  by_cases e : xs = ys
  · rw [if_pos e] at h; exact .inl ⟨e, h⟩
  · rw [if_neg e] at h
    by_cases f : xs = [] ∨ ys = []
    · rw [if_pos f] at h; exact .inr (.inl ⟨e, f, h⟩)
    · rw [if_neg f] at h; exact .inr (.inr ⟨e, f, h⟩)
theorem qd0 {g : Int} {xs ys : List Int} (h : xs = ys) : qd g xs ys = 0 := by unfold qd; rw [if_pos h]
theorem qd1 {g : Int} {xs ys : List Int} (h : ¬ xs = ys) (f : xs = [] ∨ ys = []) : qd g xs ys = (max xs.length ys.length : Nat) := by unfold qd; rw [if_neg h, if_pos f]
theorem qd2 {g : Int} {xs ys : List Int} (h : ¬ xs = ys) (f : ¬ (xs = [] ∨ ys = [])) : qd g xs ys = g := by unfold qd; rw [if_neg h, if_neg f]
theorem le1000 {n : Nat} (h : n ≤ 100) : n ≤ 1000 := by omega
local macro_rules | `(tactic| walk_at "call ref") => `(tactic| (k_here; (with_reducible show wpAny _ _ (call (Value.ref 108) _) _ _ _); k_dflt (refine' ctr_use (seqs_L _ _ _ _ _ _ _ _ _ _) ?k1 ?k2 ?k3 ?k4 ?k5 ?kK ?kd ?ku ?kg ?kp ?_; (case k4 => k_asm); (case kp => exact ⟨by k_mem, by k_mem⟩); (case k1 => k_asm); (case k2 => k_asm); (case k3 => k_asm); (case k5 => k_asm); (case kK => first | exact rfl | assumption); (case kd => first | walk_at "mine room" | ktr_room); (case ku => first | walk_at "mine units" | ktr_units); (case kg => assumption); k_whole; intro v9 tl9 h9 tk9 gs9 F9 N9 o9 G9 r9; obtain ⟨D9, c9, e9, f9⟩ := r9; subst e9; subst f9; (try simp only [List.nil_append, List.cons_append] at N9); have l9 := allLt_of (fun q9 hq9 => o9 q9 hq9 _ (List.Mem.head _)); clear o9; (try k_lt l9); (try dsimp only); (try k_fold))))
local macro_rules | `(tactic| walk_at "call ref") => `(tactic| (k_here; (with_reducible show wpAny _ _ (call (Value.ref 93) _) _ _ _); k_dflt (refine' ctr_use (quick_L _ _ _ _ _ _ _ _ _ _ ?hx ?hy ?zx ?zy _ _ _ _ _ _) ?k1 ?k2 ?k3 ?k4 ?k5 ?kK ?kd ?ku ?kg ?kp ?_; (case k4 => k_asm); (case kp => exact ⟨by k_mem, by k_mem, by k_mem, by k_mem⟩); (case k1 => k_asm); (case k2 => k_asm); (case k3 => k_asm); (case k5 => k_asm); (case kK => first | exact rfl | assumption); (case kd => first | walk_at "mine room" | ktr_room); (case ku => first | walk_at "mine units" | ktr_units); (case kg => assumption); (case hx => k_asm); (case hy => k_asm); (case zx => exact le1000 (by assumption)); (case zy => exact le1000 (by assumption)); k_whole; intro v9 tl9 h9 tk9 gs9 F9 N9 o9 G9 r9; obtain ⟨e9, f9⟩ := r9; subst f9; (try simp only [List.nil_append] at N9); clear o9; (rcases quick_cases e9 with ⟨c9, t9, v9⟩ | ⟨c9, d9, t9, v9⟩ | ⟨c9, d9, v9⟩) <;> (clear e9; subst v9; (try dsimp only); (try k_fold)))))
local macro_rules | `(tactic| walk_at "call ref") => `(tactic| (k_here; (with_reducible show wpAny _ _ (call (Value.ref 108) _) _ _ _); k_dflt (refine' ctr_use (seqs_D _ _ _ _ _ _ _ _ _ _ _) ?k1 ?k2 ?k3 ?k4 ?k5 ?kK ?kd ?ku ?kg ?kp ?_; (case k4 => k_asm); (case kp => exact ⟨by k_mem, by k_mem⟩); (case k1 => k_asm); (case k2 => k_asm); (case k3 => k_asm); (case k5 => k_asm); (case kK => first | exact rfl | assumption); (case kd => first | walk_at "mine room" | ktr_room); (case ku => first | walk_at "mine units" | ktr_units); (case kg => assumption); k_whole; intro v9 tl9 h9 tk9 gs9 F9 N9 o9 G9 r9; obtain ⟨D9, c9, e9, f9⟩ := r9; subst e9; subst f9; (try simp only [List.nil_append, List.cons_append] at N9); have l9 := allLt_of (fun q9 hq9 => o9 q9 hq9 _ (List.Mem.head _)); clear o9; (try k_lt l9); (try dsimp only); (try k_fold))))
local macro_rules | `(tactic| walk_at "call ref") => `(tactic| (k_here; (with_reducible show wpAny _ _ (call (Value.ref 93) _) _ _ _); k_dflt (refine' ctr_use (quick_D _ _ _ _ _ _ _ _ _ _ ?hx ?hy ?zx ?zy _ _ _ _ _ _ _) ?k1 ?k2 ?k3 ?k4 ?k5 ?kK ?kd ?ku ?kg ?kp ?_; (case k4 => k_asm); (case kp => exact ⟨by k_mem, by k_mem, by k_mem, by k_mem⟩); (case k1 => k_asm); (case k2 => k_asm); (case k3 => k_asm); (case k5 => k_asm); (case kK => first | exact rfl | assumption); (case kd => first | walk_at "mine room" | ktr_room); (case ku => first | walk_at "mine units" | ktr_units); (case kg => assumption); (case hx => k_asm); (case hy => k_asm); (case zx => exact le1000 (by assumption)); (case zy => exact le1000 (by assumption)); k_whole; intro v9 tl9 h9 tk9 gs9 F9 N9 o9 G9 r9; obtain ⟨e9, f9⟩ := r9; subst f9; (try simp only [List.nil_append] at N9); clear o9; (rcases quick_cases e9 with ⟨c9, t9, v9⟩ | ⟨c9, d9, t9, v9⟩ | ⟨c9, d9, v9⟩) <;> (clear e9; subst v9; (try dsimp only); (try k_fold)))))
local macro_rules | `(tactic| walk_at "call ref") => `(tactic| (k_here; (with_reducible show wpAny _ _ (call (Value.ref 108) _) _ _ _); k_dflt (refine' ctr_use (seqs_H _ _ _ _ _ _ _ _ _ _ _) ?k1 ?k2 ?k3 ?k4 ?k5 ?kK ?kd ?ku ?kg ?kp ?_; (case k4 => k_asm); (case kp => exact ⟨by k_mem, by k_mem⟩); (case k1 => k_asm); (case k2 => k_asm); (case k3 => k_asm); (case k5 => k_asm); (case kK => first | exact rfl | assumption); (case kd => first | walk_at "mine room" | ktr_room); (case ku => first | walk_at "mine units" | ktr_units); (case kg => assumption); k_whole; intro v9 tl9 h9 tk9 gs9 F9 N9 o9 G9 r9; obtain ⟨D9, c9, e9, f9⟩ := r9; subst e9; subst f9; (try simp only [List.nil_append, List.cons_append] at N9); have l9 := allLt_of (fun q9 hq9 => o9 q9 hq9 _ (List.Mem.head _)); clear o9; (try k_lt l9); (try dsimp only); (try k_fold))))
local macro_rules | `(tactic| walk_at "call ref") => `(tactic| (k_here; (with_reducible show wpAny _ _ (call (Value.ref 93) _) _ _ _); k_dflt (refine' ctr_use (quick_H _ _ _ _ _ _ _ _ _ _ ?hx ?hy ?zx ?zy _ _ _ _ _ _ _) ?k1 ?k2 ?k3 ?k4 ?k5 ?kK ?kd ?ku ?kg ?kp ?_; (case k4 => k_asm); (case kp => exact ⟨by k_mem, by k_mem, by k_mem, by k_mem⟩); (case k1 => k_asm); (case k2 => k_asm); (case k3 => k_asm); (case k5 => k_asm); (case kK => first | exact rfl | assumption); (case kd => first | walk_at "mine room" | ktr_room); (case ku => first | walk_at "mine units" | ktr_units); (case kg => assumption); (case hx => k_asm); (case hy => k_asm); (case zx => exact le1000 (by assumption)); (case zy => exact le1000 (by assumption)); k_whole; intro v9 tl9 h9 tk9 gs9 F9 N9 o9 G9 r9; obtain ⟨e9, f9⟩ := r9; subst f9; (try simp only [List.nil_append] at N9); clear o9; (rcases quick_cases e9 with ⟨c9, t9, v9⟩ | ⟨c9, d9, t9, v9⟩ | ⟨c9, d9, v9⟩) <;> (clear e9; subst v9; (try dsimp only); (try k_fold)))))
local macro_rules | `(tactic| walk_at "call ref") => `(tactic| (k_here; (with_reducible show wpAny _ _ (call (Value.ref 204) _) _ _ _); k_dflt (refine' ctr_use (cycled _ _ _ _ _ _ _ _ _ _ ?hx ?hy ?zx ?zy _ _ _ _ _ _) ?k1 ?k2 ?k3 ?k4 ?k5 ?kK ?kd ?ku ?kg ?kp ?_; (case k4 => k_asm); (case kp => exact ⟨by k_mem, by k_mem, by k_mem, by k_mem⟩); (case k1 => k_asm); (case k2 => k_asm); (case k3 => k_asm); (case k5 => k_asm); (case kK => first | exact rfl | assumption); (case kd => first | walk_at "mine room" | ktr_room); (case ku => first | walk_at "mine units" | ktr_units); (case kg => assumption); (case hx => k_asm); (case hy => k_asm); (case zx => assumption); (case zy => assumption); k_whole; intro v9 tl9 h9 tk9 gs9 F9 N9 o9 G9 r9; obtain ⟨e9, f9⟩ := r9; obtain ⟨t9, e9⟩ := e9; subst e9; subst f9; (try simp only [List.nil_append] at N9); clear o9; (try dsimp only); (try k_fold))))
local macro_rules | `(tactic| walk_at "call ref") => `(tactic| (k_here; (with_reducible show wpAny _ _ (call (Value.ref 238) _) _ _ _); k_dflt (refine' ctr_use (unres _ _ _ _ _ _ _ _ _ _ ?hx ?hy ?zx ?zy _ _ _ _ _ _ _) ?k1 ?k2 ?k3 ?k4 ?k5 ?kK ?kd ?ku ?kg ?kp ?_; (case k4 => k_asm); (case kp => exact ⟨by k_mem, by k_mem, by k_mem, by k_mem⟩); (case k1 => k_asm); (case k2 => k_asm); (case k3 => k_asm); (case k5 => k_asm); (case kK => first | exact rfl | assumption); (case kd => first | walk_at "mine room" | ktr_room); (case ku => first | walk_at "mine units" | ktr_units); (case kg => assumption); (case hx => k_asm); (case hy => k_asm); (case zx => assumption); (case zy => assumption); k_whole; intro v9 tl9 h9 tk9 gs9 F9 N9 o9 G9 r9; obtain ⟨e9, f9⟩ := r9; obtain ⟨t9, e9⟩ := e9; subst e9; subst f9; (try simp only [List.nil_append] at N9); clear o9; (try dsimp only); (try k_fold))))

theorem dist_L (prog : Program) (w : World) (xs ys : List Int) (vs us : List Value) (nx ny : Nat) (ax ay : Addr) (hx : IntsAre vs xs) (hy : IntsAre us ys) (zx : xs.length ≤ 100) (zy : ys.length ≤ 100) (t1 t2 t3 : Tok) (x dx : Addr) (n : Nat) :
    Ctr prog w (hd.heap_39 w.params) 65 7 140 [.ref x, .ref ax, .ref ay] (fun news => (x, instObj 214 dx) ∈ news ∧ (dx, dictOf (levD w.params t1 t2 t3) n) ∈ news ∧ (ax, tupOf vs nx) ∈ news ∧ (ay, tupOf us ny) ∈ news)
      (fun v tl => (∃ t, v = .int (qd (lv (eqAt xs ys) xs.length ys.length) xs ys) t) ∧ tl = []) := by
  unfold Ctr
  intro p loose mean mg mb dp un gd cn cs a ccd cl outer A₀ base h₀ L m news s Q E B F X N T hk hd hu hg hpre hret
  obtain ⟨hp1, hp2, hp3, hp4⟩ := hpre
  refine wpAny_call ?_
  k_dflt ktr_enter
  k_steps
  all_goals (refine hret _ [] _ _ _ (by k_asm) (cb_drop (by k_asm) (by walk_at "mine sub0")) (by walk_at "mine ord") (by assumption) ⟨?_, rfl⟩)
  all_goals first | exact ⟨_, by rw [qd0 (by assumption)]⟩ | exact ⟨_, by rw [qd1 (by assumption) (by assumption)]⟩ | exact ⟨_, by rw [qd2 (by assumption) (by assumption)]⟩
theorem dist_D (prog : Program) (w : World) (xs ys : List Int) (vs us : List Value) (nx ny : Nat) (ax ay : Addr) (hx : IntsAre vs xs) (hy : IntsAre us ys) (zx : xs.length ≤ 100) (zy : ys.length ≤ 100) (t1 t2 t3 t4 : Tok) (x dx : Addr) (n : Nat) :
    Ctr prog w (hd.heap_39 w.params) 65 7 140 [.ref x, .ref ax, .ref ay] (fun news => (x, instObj 255 dx) ∈ news ∧ (dx, dictOf (damD w.params t1 t2 t3 t4) n) ∈ news ∧ (ax, tupOf vs nx) ∈ news ∧ (ay, tupOf us ny) ∈ news)
      (fun v tl => (∃ t, v = .int (qd (dm (damM xs ys) xs ys xs.length ys.length) xs ys) t) ∧ tl = []) := by
  unfold Ctr
  intro p loose mean mg mb dp un gd cn cs a ccd cl outer A₀ base h₀ L m news s Q E B F X N T hk hd hu hg hpre hret
  obtain ⟨hp1, hp2, hp3, hp4⟩ := hpre
  refine wpAny_call ?_
  k_dflt ktr_enter
  k_steps
  all_goals (refine hret _ [] _ _ _ (by k_asm) (cb_drop (by k_asm) (by walk_at "mine sub0")) (by walk_at "mine ord") (by assumption) ⟨?_, rfl⟩)
  all_goals first | exact ⟨_, by rw [qd0 (by assumption)]⟩ | exact ⟨_, by rw [qd1 (by assumption) (by assumption)]⟩ | exact ⟨_, by rw [qd2 (by assumption) (by assumption)]⟩

/-- a contract of a tree -/
def CtrT (prog : Program) (w : World) (K : Frag) (d u : Nat) (t : Sem Value) (Pre : List (Addr × Obj) → Prop) (Res : Value → List (Addr × Obj) → Prop) : Prop :=
  ∀ (p : Program) (loose : List Str) (mean : ExcName → Option Value) (mg mb : Str → Option Value)
    (dp un : Nat) (gd : Option (List Code)) (cn : Str) (cs : Scope) (a : Addr) (ccd : Value) (cl : List (Str × Addr)) (outer : List Env) (A₀ : Around) (base h₀ : Heap) (L : Addr) (m : Str → Option Value) (news : List (Addr × Obj)) (s : Shared) (Q E : Value → Shared → Prop),
    Below A₀ base outer h₀ → Fr h₀ L s.heap m → K.In h₀ → News h₀ L s.heap news → Top p loose mean mg mb h₀ → cs.kind = .function →
    dp + d < recursionLimit → un + u < cLine → AllBare s.gens → Pre news →
    (∀ v tl h' tk' gs', Fr h₀ L h' m → News h₀ L h' (tl ++ news) → (∀ q ∈ news, ∀ p ∈ tl, q.1 < p.1) → AllBare gs' → Res v tl → Q v { s with heap := h', toks := tk', gens := gs' }) →
    wpAny (model prog w) (ktrTop dp un gd cn cs L a ccd cl outer) t Q E s
theorem ctrt_use {prog : Program} {w : World} {K : Frag} {d u : Nat} {t : Sem Value} {Pre : List (Addr × Obj) → Prop} {Res : Value → List (Addr × Obj) → Prop}
    {p : Program} {loose : List Str} {mean : ExcName → Option Value} {mg mb : Str → Option Value}
    {dp un : Nat} {gd : Option (List Code)} {cn : Str} {cs : Scope} {a : Addr} {ccd : Value} {cl : List (Str × Addr)} {outer : List Env} {A₀ : Around} {base h₀ : Heap} {L : Addr} {m : Str → Option Value} {news : List (Addr × Obj)} {s : Shared} {Q E : Value → Shared → Prop}
    (C : CtrT prog w K d u t Pre Res) (B : Below A₀ base outer h₀) (F : Fr h₀ L s.heap m) (X : K.In h₀) (N : News h₀ L s.heap news) (T : Top p loose mean mg mb h₀) (hk : cs.kind = .function)
    (hd : dp + d < recursionLimit) (hu : un + u < cLine) (hg : AllBare s.gens) (hp : Pre news)
    (hret : ∀ v tl h' tk' gs', Fr h₀ L h' m → News h₀ L h' (tl ++ news) → (∀ q ∈ news, ∀ p ∈ tl, q.1 < p.1) → AllBare gs' → Res v tl → Q v { s with heap := h', toks := tk', gens := gs' }) :
    wpAny (model prog w) (ktrTop dp un gd cn cs L a ccd cl outer) t Q E s := C _ _ _ _ _ _ _ _ _ _ _ _ _ _ _ _ _ _ _ _ _ _ _ B F X N T hk hd hu hg hp hret
theorem ord2 {news : List (Addr × Obj)} {x d : Addr} {ox od : Obj} (h1 : ∀ p ∈ news, p.1 < d) (h2 : d < x) : ∀ q ∈ news, ∀ p ∈ [(x, ox), (d, od)], q.1 < p.1 := fun q hq p hp => by
  rcases List.mem_cons.mp hp with rfl | hp
  · exact Nat.lt_trans (h1 q hq) h2
  · rw [List.mem_singleton.mp hp]; exact h1 q hq
theorem mk_L (prog : Program) (w : World) : CtrT prog w (hd.heap_39 w.params) 7 140 (call (.ref 214) [] []) (fun _ => True)
    (fun v tl => ∃ x dx t1 t2 t3 n, v = .ref x ∧ tl = [(x, instObj 214 dx), (dx, dictOf (levD w.params t1 t2 t3) n)]) := by
  unfold CtrT
  intro p loose mean mg mb dp un gd cn cs a ccd cl outer A₀ base h₀ L m news s Q E B F X N T hk hd hu hg hpre hret
  k_steps
  (rename News _ _ _ _ => lN')
  refine hret _ [_, _] _ _ _ (by k_asm) lN' (ord2 (by assumption) (by assumption)) hg ⟨_, _, _, _, _, _, rfl, rfl⟩
theorem mk_D (prog : Program) (w : World) : CtrT prog w (hd.heap_39 w.params) 7 140 (call (.ref 255) [] [("restricted", .bool false)]) (fun _ => True)
    (fun v tl => ∃ x dx t1 t2 t3 t4 n, v = .ref x ∧ tl = [(x, instObj 255 dx), (dx, dictOf (damD w.params t1 t2 t3 t4) n)]) := by
  unfold CtrT
  intro p loose mean mg mb dp un gd cn cs a ccd cl outer A₀ base h₀ L m news s Q E B F X N T hk hd hu hg hpre hret
  k_steps
  (rename News _ _ _ _ => lN')
  refine hret _ [_, _] _ _ _ (by k_asm) lN' (ord2 (by assumption) (by assumption)) hg ⟨_, _, _, _, _, _, _, rfl, rfl⟩
theorem mk_H (prog : Program) (w : World) : CtrT prog w (hd.heap_39 w.params) 7 140 (call (.ref 173) [] []) (fun _ => True)
    (fun v tl => ∃ x dx t1 t2 t3 t4 n, v = .ref x ∧ tl = [(x, instObj 173 dx), (dx, dictOf (hamD w.params t1 t2 t3 t4) n)]) := by
  unfold CtrT
  intro p loose mean mg mb dp un gd cn cs a ccd cl outer A₀ base h₀ L m news s Q E B F X N T hk hd hu hg hpre hret
  k_steps
  (rename News _ _ _ _ => lN')
  refine hret _ [_, _] _ _ _ (by k_asm) lN' (ord2 (by assumption) (by assumption)) hg ⟨_, _, _, _, _, _, _, rfl, rfl⟩
local macro_rules | `(tactic| walk_at "call ref") => `(tactic| (k_here; (with_reducible show wpAny _ _ (call (Value.ref 214) _ _) _ _ _); k_dflt (refine' ctrt_use (mk_L _ _) ?k1 ?k2 ?k3 ?k4 ?k5 ?kK ?kd ?ku ?kg ?kp ?_; (case k4 => k_asm); (case kp => exact True.intro); (case k1 => k_asm); (case k2 => k_asm); (case k3 => k_asm); (case k5 => k_asm); (case kK => first | exact rfl | assumption); (case kd => first | walk_at "mine room" | ktr_room); (case ku => first | walk_at "mine units" | ktr_units); (case kg => assumption); k_whole; intro v9 tl9 h9 tk9 gs9 F9 N9 o9 G9 r9; obtain ⟨x9, d9, a9, b9, c9, n9, e9, f9⟩ := r9; subst e9; subst f9; (try simp only [List.nil_append, List.cons_append] at N9); have l9 := allLt_of (fun q9 hq9 => o9 q9 hq9 _ (List.Mem.head _)); have m9 := allLt_of (fun q9 hq9 => o9 q9 hq9 _ (List.Mem.tail _ (List.Mem.head _))); clear o9; (try simp only [AllLt, and_true] at l9); (try simp only [AllLt, and_true] at m9); (try dsimp only); (try k_fold))))
local macro_rules | `(tactic| walk_at "call ref") => `(tactic| (k_here; (with_reducible show wpAny _ _ (call (Value.ref 255) _ _) _ _ _); k_dflt (refine' ctrt_use (mk_D _ _) ?k1 ?k2 ?k3 ?k4 ?k5 ?kK ?kd ?ku ?kg ?kp ?_; (case k4 => k_asm); (case kp => exact True.intro); (case k1 => k_asm); (case k2 => k_asm); (case k3 => k_asm); (case k5 => k_asm); (case kK => first | exact rfl | assumption); (case kd => first | walk_at "mine room" | ktr_room); (case ku => first | walk_at "mine units" | ktr_units); (case kg => assumption); k_whole; intro v9 tl9 h9 tk9 gs9 F9 N9 o9 G9 r9; obtain ⟨x9, d9, a9, b9, c9, y9, n9, e9, f9⟩ := r9; subst e9; subst f9; (try simp only [List.nil_append, List.cons_append] at N9); have l9 := allLt_of (fun q9 hq9 => o9 q9 hq9 _ (List.Mem.head _)); have m9 := allLt_of (fun q9 hq9 => o9 q9 hq9 _ (List.Mem.tail _ (List.Mem.head _))); clear o9; (try simp only [AllLt, and_true] at l9); (try simp only [AllLt, and_true] at m9); (try dsimp only); (try k_fold))))
local macro_rules | `(tactic| walk_at "call ref") => `(tactic| (k_here; (with_reducible show wpAny _ _ (call (Value.ref 173) _ _) _ _ _); k_dflt (refine' ctrt_use (mk_H _ _) ?k1 ?k2 ?k3 ?k4 ?k5 ?kK ?kd ?ku ?kg ?kp ?_; (case k4 => k_asm); (case kp => exact True.intro); (case k1 => k_asm); (case k2 => k_asm); (case k3 => k_asm); (case k5 => k_asm); (case kK => first | exact rfl | assumption); (case kd => first | walk_at "mine room" | ktr_room); (case ku => first | walk_at "mine units" | ktr_units); (case kg => assumption); k_whole; intro v9 tl9 h9 tk9 gs9 F9 N9 o9 G9 r9; obtain ⟨x9, d9, a9, b9, c9, y9, n9, e9, f9⟩ := r9; subst e9; subst f9; (try simp only [List.nil_append, List.cons_append] at N9); have l9 := allLt_of (fun q9 hq9 => o9 q9 hq9 _ (List.Mem.head _)); have m9 := allLt_of (fun q9 hq9 => o9 q9 hq9 _ (List.Mem.tail _ (List.Mem.head _))); clear o9; (try simp only [AllLt, and_true] at l9); (try simp only [AllLt, and_true] at m9); (try dsimp only); (try k_fold))))

section
open PySem.Calls
/-- the law's end: True, nothing of what stood before is changed but one table -/
def LawQ (g₀ : Heap) (L : Addr) (s₁ : Shared) (fl : Flow) (s' : Shared) : Prop :=
  ∃ m, fl = .ret (.bool true) ∧ Fr g₀ L s'.heap m ∧ GrownAt 167 s'.heap ∧ AllBare s'.gens ∧ s'.os = s₁.os
theorem LawQ.intro {g₀ : Heap} {L : Addr} {s₁ s' : Shared} {m : Str → Option Value} {news : List (Addr × Obj)} {ps : Array Value} {b : Bool} (hb : b = true) (F : Fr g₀ L s'.heap m) (N : News g₀ L s'.heap news) (hm : (167, tabObj ps) ∈ news) (hg : AllBare s'.gens)
    (ho : s'.os = s₁.os) : LawQ g₀ L s₁ (.ret (.bool b)) s' := ⟨m, by rw [hb], F, GrownAt.of N hm, hg, ho⟩
theorem law_end {c : ClaimW} {cl : Str → Option Addr} {mean : ExcName → Option Value} {args : List WData} {s₁ s' : Shared} {L : Addr} {m : Str → Option Value} (hT : TabsAt [(169, 167)] s₁.heap)
    (F : Fr (ghostOf s₁.heap [(169, 167)]) L s'.heap m) (hgr : GrownAt 167 s'.heap) (hg : AllBare s'.gens) (hos : s'.os = s₁.os) (hn : ∀ cls, c.raises args cls = false) (hp : c.post args (.bool true) args = true) :
    GoodWG c cl mean args s₁ (.ok (.ret (.bool true))) s' := by
  have keep : ∀ b o, b ≠ 167 → s₁.heap.get? b = some o → s'.heap.get? b = some o := fun b o hb e => F.keep b o (ghost_ne e (by simpa using hb))
  have hq := hT (169, 167) (List.Mem.head _)
  obtain ⟨ps, hP⟩ := hgr
  refine ⟨.inl ⟨_, .bool true, [], rfl, hn, .bool true, hp, fun _ => ⟨List.nodup_nil, fun _ h => nomatch h⟩⟩, ⟨fun b o e => ?_, fun b o e => ?_⟩, hos, hg⟩
  · by_cases hb : b = 167
    · subst hb
      have e2 : s₁.heap.get? 167 = some (tabObj #[]) := hq.2
      rw [e] at e2
      obtain rfl := Option.some.inj e2
      exact .inr (.inl ⟨(hq.1.tab hq.2).isCodeTable, rfl, #[], ps, rfl, by rw [Array.empty_append]; exact hP⟩)
    · exact .inl (keep b o hb e)
  · by_cases hb : b = 167
    · subst hb; exact ⟨_, hP⟩
    · exact ⟨o, keep b o hb e⟩
section
variable {M : Model} {A : Around} {E : Value → Shared → Prop} {s : Shared} {h₀ : Heap} {L : Addr} {m : Str → Option Value} {news : List (Addr × Obj)}
/-- the ways of an expression meet again: an int -/
theorem cut_intN {t : Sem Value} {Q : Value → Shared → Prop} (P : Int → Prop) (_F : Fr h₀ L s.heap m) (_N : News h₀ L s.heap news)
    (h : wpAny M A t (fun v s' => ∃ p tk h' k, v = Value.int p tk ∧ P p ∧ s' = { s with heap := h', toks := k } ∧ Fr h₀ L h' m ∧ News h₀ L h' news) E s)
    (k : ∀ p tk h' kk, P p → Fr h₀ L h' m → News h₀ L h' news → Q (.int p tk) { s with heap := h', toks := kk }) : wpAny M A t Q E s :=
  wpAny_mono h (fun v s' hv => by obtain ⟨p, tk, h', kk, rfl, hp, rfl, F, N⟩ := hv; exact k p tk h' kk hp F N) fun _ _ e => e
end
theorem permR6 {h₀ h : Heap} {L : Addr} {d r a b c t : Addr × Obj} (N : News h₀ L h [d, r, a, b, c, t]) : News h₀ L h ([a, b, c] ++ [d, r, t]) := fun p hp => N p (by
  simp only [List.cons_append, List.nil_append, List.mem_cons, List.not_mem_nil, or_false] at hp ⊢
  rcases hp with h | h | h | h | h | h <;> simp [h])
inductive HM : Prop
  | mk
end

section
open PySem.Calls PySem.Spec PySem.SeqAt
section
variable {prog : Program} {w : World} {A : Around} {E : Value → Shared → Prop} {s : Shared} {h₀ : Heap} {L a b : Addr} {m : Str → Option Value} {news : List (Addr × Obj)} {xs ys : List Value} {ns ms : List Int} {na nb : Nat}
theorem shaped_tup (ns : List Int) : shaped (.tuple (ns.map PyData.int)) = true := by
  simp [shaped, PyData.canLay0, PyData.depth, ke_canLayAll0, ke_depthAll]
/-- two tuples of ints on the ledger compared -/
theorem eq_tupN {Q : Value → Shared → Prop} (N : News h₀ L s.heap news) (ha : (a, tupOf xs na) ∈ news) (hb : (b, tupOf ys nb) ∈ news) (hi : IntsAre xs ns) (hj : IntsAre ys ms) (hu : A.units + 64 < cLine)
    (h : Q (.bool (decide (ns = ms))) s) : wpAny (model prog w) A (compareOp .Eq (.ref a) (.ref b)) Q E s := by
  have r1 : Reads s.heap (.ref a) (.tuple (ns.map PyData.int)) [] := reads_tuple_at (N.get ha) rfl rfl (by simpa using readsAll_of_ints hi)
  have r2 : Reads s.heap (.ref b) (.tuple (ms.map PyData.int)) [] := reads_tuple_at (N.get hb) rfl rfl (by simpa using readsAll_of_ints hj)
  exact eq_dataH_same r1 r2 (shaped_tup ns) (shaped_tup ms) hu (by simp only [noMix]; exact noMix_ints ns ms) (by simp only [PySem.Spec.same]; rw [same_ints]; exact h)
end
theorem eq_bools {D : List Int → List Int → Int} (M : Metric D) (a b : List Int) : decide (a = b) = decide (D a b = 0) := by
  by_cases h : a = b
  · rw [decide_eq_true h, decide_eq_true ((M.zero a b).mpr h)]
  · rw [decide_eq_false h, decide_eq_false (fun e => h ((M.zero a b).mp e))]
/-- what a metric says of two rows -/
theorem pair_facts {D : List Int → List Int → Int} (M : Metric D) (a b : List Int) : D b a = D a b ∧ ((a.length : Nat) : Int) - (b.length : Nat) ≤ D a b ∧ ((b.length : Nat) : Int) - (a.length : Nat) ≤ D a b ∧ (D a b ≤ (a.length : Nat) ∨ D a b ≤ (b.length : Nat)) := by
  have h := M.len a b
  refine ⟨M.sym b a, h.1, h.2.1, ?_⟩
  omega
theorem tri_facts {D : List Int → List Int → Int} (M : Metric D) (a b c : List Int) : D a b ≤ D b c + D c a ∧ D b c ≤ D c a + D a b ∧ D c a ≤ D a b + D b c := by
  have h1 := M.tri a c b; have h2 := M.tri b a c; have h3 := M.tri c b a
  rw [M.sym a c, M.sym c b] at h1; rw [M.sym b a, M.sym a c] at h2; rw [M.sym c b, M.sym b a] at h3
  omega
end

section
open PySem.Calls
def TurnG (h₀ : Heap) (L : Addr) (J : Array GenState → List (Str × Value) → List (Addr × Obj) → Prop) (rest : List (Addr × Obj)) (s₁ : Shared) (Q : Flow → Shared → Prop) (f : Flow) (s₂ : Shared) : Prop :=
  match f with
  | .ret v => Q (.ret v) s₂
  | .brk => Q .next s₂
  | _ => ∃ h' tk gs m' C' kvs, s₂ = { s₁ with heap := h', toks := tk, gens := gs } ∧ Fr h₀ L h' m' ∧ News h₀ L h' (C' ++ rest) ∧ Apart C' rest ∧ Has m' kvs ∧ J gs kvs C'
theorem TurnG.done {h₀ h' : Heap} {L : Addr} {J : Array GenState → List (Str × Value) → List (Addr × Obj) → Prop} {rest big : List (Addr × Obj)} {s₁ : Shared} {Q : Flow → Shared → Prop} {m' : Str → Option Value} {tk : Nat} {gs : Array GenState} (C' : List (Addr × Obj)) (kvs : List (Str × Value))
    (F : Fr h₀ L h' m') (N : News h₀ L h' big) (hs : ∀ p ∈ C' ++ rest, p ∈ big) (hA : Apart C' rest) (hH : Has m' kvs) (hJ : J gs kvs C') : TurnG h₀ L J rest s₁ Q .next { s₁ with heap := h', toks := tk, gens := gs } :=
  ⟨h', tk, gs, m', C', kvs, rfl, F, fun p hp => N p (hs p hp), hA, hH, hJ⟩
section
variable {prog : Program} {w : World} {A : Around} {s : Shared} {env : Env} {h₀ : Heap} {target : Expr} {body : List Stmt} {Q : Flow → Shared → Prop}
/-- a loop over a made tuple, with an invariant; generators may come and go -/
theorem pairs_loop {T : Addr} {items : Array Value} {no : Nat} {m₀ : Str → Option Value} {C₀ base : List (Addr × Obj)}
    (J : Nat → Array GenState → List (Str × Value) → List (Addr × Obj) → Prop)
    (hh : A.handled = none) (F : Fr h₀ env.locals s.heap m₀) (N : News h₀ env.locals s.heap (C₀ ++ base)) (hT : (T, ({ cls := .type "tuple", data := .seq items no } : Obj)) ∈ base)
    (hA : Apart C₀ base) (hj : ∃ kvs, Has m₀ kvs ∧ J 0 s.gens kvs C₀)
    (turn : ∀ i D m₁ kvs C h tk gs rest, i < items.size → items[i]? = some D → J i gs kvs C → (∀ p ∈ base, p ∈ rest) → Apart C rest → Fr h₀ env.locals h (over kvs m₁) → News h₀ env.locals h (C ++ rest) →
      wpAny (model prog w) A (assign target env D) (fun _ s₂ => wpAny (model prog w) A (execs body env) (TurnG h₀ env.locals (J (i + 1)) rest s Q) (fun _ _ => False) s₂) (fun _ _ => False) { s with heap := h, toks := tk, gens := gs })
    (done : ∀ m₁ kvs C h tk gs, J items.size gs kvs C → Apart C base → Fr h₀ env.locals h (over kvs m₁) → News h₀ env.locals h (C ++ base) → Q .next { s with heap := h, toks := tk, gens := gs }) :
    wpAny (model prog w) A (pyIter (.ref T)) (fun it s₂ => codeAny (model prog w) A (.forLoop target it body [] env) (fun r s' => match r with | .ok f => Q f s' | .error e => cameBackBy (model prog w) A env (fun _ _ => False) e s') s₂) (fun _ _ => False) s := by
  have gT := N _ (List.mem_append_right _ hT)
  have ht : ∀ h : Heap, h.get? T = some ({ cls := .type "tuple", data := .seq items no } : Obj) → h.IsTuple T items := fun h e => ⟨_, e, rfl, no, rfl⟩
  refine wpAny_pyIter_tuple (ht _ gT.1) ?_
  have hIL : s.heap.objs.size ≠ env.locals := Nat.ne_of_gt F.ns.lt
  have hI0 : h₀.get? s.heap.objs.size = none := next_is_new F
  have hold : ∀ p ∈ C₀ ++ base, p.1 ≠ s.heap.objs.size := fun p hp => Nat.ne_of_lt (Heap.lt_size (N p hp).1)
  generalize hI : s.heap.objs.size = I at *
  have hbase : ∀ p ∈ base, p.1 ≠ I := fun p hp => hold p (List.mem_append_right _ hp)
  refine codeAny_forLoop_any (fun n s' => ∃ i h tk gs m kvs C, i ≤ items.size ∧ n = items.size - i ∧ s' = { s with heap := h, toks := tk, gens := gs } ∧ h.IsTupleIter I T i ∧ Fr h₀ env.locals h m ∧ News h₀ env.locals h (C ++ base) ∧ Has m kvs ∧ J i gs kvs C ∧ (∀ c ∈ C, c.1 ≠ I) ∧ Apart C base) ?_ items.size ?_
  · rintro n s' ⟨i, h, tk, gs, m, kvs, C, hi, rfl, rfl, hit, F₁, N₁, hH, hJ, hCI, hAp⟩
    have gT₁ := (N₁ _ (List.mem_append_right _ hT)).1
    have step : ∀ {h'}, Heap.ExtBut I h h' → Fr h₀ env.locals h' m ∧ News h₀ env.locals h' (C ++ base) := fun {h'} hx =>
      ⟨⟨F₁.ns.extBut hx (Ne.symm hIL), fun b o e => hx b o (fun q => by rw [q, hI0] at e; cases e) (F₁.keep b o e), F₁.above⟩,
       fun p hp => ⟨hx _ _ (by rcases List.mem_append.mp hp with hp | hp; exact hCI p hp; exact hbase p hp) (N₁ p hp).1, (N₁ p hp).2⟩⟩
    by_cases hlt : i < items.size
    · refine wpAny_pyNext_tuple_item (x := items[i]) hit (ht _ gT₁) (Array.getElem?_eq_getElem hlt) fun h' hit' hs' => ?_
      obtain ⟨F₂, N₂⟩ := step hs'.extBut
      refine letGo_tupleiter hit' ?_
      obtain ⟨oI, hoI, hcI, hdI⟩ := id hit'
      have N₃ : News h₀ env.locals h' (C ++ ((I, oI) :: base)) := fun p hp => by
        rcases List.mem_append.mp hp with hp | hp
        · exact N₂ p (List.mem_append_left _ hp)
        · rcases List.mem_cons.mp hp with rfl | hp
          · exact ⟨hoI, hIL, hI0⟩
          · exact N₂ p (List.mem_append_right _ hp)
      have hA₃ : Apart C ((I, oI) :: base) := fun c hc q hq => by
        rcases List.mem_cons.mp hq with rfl | hq
        · exact hCI c hc
        · exact hAp c hc q hq
      refine wpAny_mono (turn i items[i] m kvs C h' tk gs ((I, oI) :: base) hlt (Array.getElem?_eq_getElem hlt) hJ (fun p hp => List.mem_cons_of_mem _ hp) hA₃ (by rw [over_eq hH]; exact F₂) N₃)
        (fun _ s₂ h₂ => wpAny_mono h₂ (fun f s₃ h₃ => ?_) fun _ _ x => x.elim) fun _ _ x => x.elim
      have fin : TurnG h₀ env.locals (J (i + 1)) ((I, oI) :: base) s Q .next s₃ → ∃ n', n' < items.size - i ∧ ∃ i h tk gs m kvs C, i ≤ items.size ∧ n' = items.size - i ∧ s₃ = { s with heap := h, toks := tk, gens := gs } ∧ h.IsTupleIter I T i ∧ Fr h₀ env.locals h m ∧ News h₀ env.locals h (C ++ base) ∧ Has m kvs ∧ J i gs kvs C ∧ (∀ c ∈ C, c.1 ≠ I) ∧ Apart C base := by
        rintro ⟨h4, tk4, gs4, m4, C4, kvs4, rfl, F4, N4, A4, H4, J4⟩
        refine ⟨items.size - (i + 1), by omega, i + 1, h4, tk4, gs4, m4, kvs4, C4, hlt, rfl, rfl, ⟨oI, (N4 _ (List.mem_append_right _ (List.mem_cons_self ..))).1, hcI, hdI⟩, F4, fun p hp => ?_, H4, J4, fun c hc => A4 c hc _ (List.mem_cons_self ..), fun c hc q hq => A4 c hc q (List.mem_cons_of_mem _ hq)⟩
        rcases List.mem_append.mp hp with hp | hp
        · exact N4 p (List.mem_append_left _ hp)
        · exact N4 p (List.mem_append_right _ (List.mem_cons_of_mem _ hp))
      cases f with
      | ret v => exact h₃
      | brk => exact h₃
      | next => exact fin h₃
      | cont => exact fin h₃
    · have hi' : i = items.size := by omega
      subst hi'
      refine wpAny_pyNext_tuple_end hh hit (ht _ gT₁) (by simp) fun h' hx => ?_
      obtain ⟨F₂, N₂⟩ := step hx
      show wpAny _ _ (pure Flow.next) _ _ _
      exact wpAny_pure (done m kvs C h' tk gs hJ hAp (by rw [over_eq hH]; exact F₂) N₂)
  · obtain ⟨kvs, hH, hj⟩ := hj
    refine ⟨0, _, _, _, m₀, kvs, C₀, Nat.zero_le _, (Nat.sub_zero _).symm, rfl, ⟨_, by rw [← hI]; exact Heap.get?_push_size _ rfl, rfl, rfl⟩, F.push _, fun p hp => ⟨Heap.get?_push_of_some _ (N p hp).1, (N p hp).2⟩, hH, hj, fun c hc => hold c (List.mem_append_left _ hc), hA⟩
/-- a for whose source is made first -/
theorem For_pairs {iter : Expr} {pos : Pos} (h : wpAny (model prog w) A (eval iter env) (fun xv s₁ => Halt (wpAny (model prog w) A (pyIter xv) (fun it s₂ => codeAny (model prog w) A (.forLoop target it body [] env) (fun r s' => match r with | .ok f => Q f s' | .error e => cameBackBy (model prog w) A env (fun _ _ => False) e s') s₂) (fun _ _ => False) s₁)) (fun _ _ => False) s)
    (hs : ∀ x, foldedSetIterable iter env x = pure x) : wpAny (model prog w) A (exec (.For target iter body [] pos) env) Q (fun _ _ => False) s := wpAny_For h hs
end
end

section
open PySem.Calls
abbrev pairO (P R : Addr) : Obj := { cls := .type "tuple", data := .seq #[.ref P, .ref R] }
/-- what holds of the law's loop behind i turns -/
def farJ (pick : Int) (tp : Tok) (a b c x FAR : Addr) (d : Nat → Int) (i : Nat) (gs : Array GenState) (kvs : List (Str × Value)) (C : List (Addr × Obj)) : Prop :=
  ∃ vs cc ps, AllBare gs ∧ TriplesOk (Array.toList ps) ∧ kvs = [kk "pick" (.int pick tp), kk "a" (.ref a), kk "b" (.ref b), kk "c" (.ref c), kk "measure" (.ref x), kk "far" (.ref FAR)] ∧ C = [(FAR, listOf (List.toArray vs) cc), (167, tabObj ps)] ∧ IntsAre vs ((List.range i).map d)
theorem far_snoc {vs : List Value} {d : Nat → Int} {i : Nat} {k : Int} {t : Tok} (h : IntsAre (vs ++ [Value.int k t]) ((List.range i).map d ++ [k])) (e : d i = k) : IntsAre (vs ++ [Value.int k t]) ((List.range (i + 1)).map d) := by
  rw [List.range_succ, List.map_append, List.map_cons, List.map_nil, e]; exact h
theorem far_len {d : Nat → Int} {i : Nat} (h : i < 3) : ((List.range i).map d).length ≤ 1000 := by rw [List.length_map, List.length_range]; omega
/-- the three distances -/
abbrev threeD (Dist : List Int → List Int → Int) (A B C : List Int) (i : Nat) : Int := match i with | 0 => Dist A B | 1 => Dist B C | _ => Dist C A
/-- the i-th of three pairs -/
theorem pair_at {rest base : List (Addr × Obj)} {D1 D2 D3 a b c : Addr} {va vb vc : List Value} {A B C : List Int} {Dist : List Int → List Int → Int} {i : Nat} {Dv : Value} (hs : ∀ p ∈ base, p ∈ rest)
    (h1 : (D1, pairO a b) ∈ base) (h2 : (D2, pairO b c) ∈ base) (h3 : (D3, pairO c a) ∈ base) (ma : (a, tupOf va 0) ∈ base) (mb : (b, tupOf vb 0) ∈ base) (mc : (c, tupOf vc 0) ∈ base)
    (ia : IntsAre va A) (ib : IntsAre vb B) (ic : IntsAre vc C) (la : A.length ≤ 100) (lb : B.length ≤ 100) (lc : C.length ≤ 100) (hi : i < (#[Value.ref D1, Value.ref D2, Value.ref D3] : Array Value).size) (hD : (#[Value.ref D1, Value.ref D2, Value.ref D3] : Array Value)[i]? = some Dv) :
    i < 3 ∧ ∃ D P R vx vy X Y, Dv = .ref D ∧ (D, pairO P R) ∈ rest ∧ (P, tupOf vx 0) ∈ rest ∧ (R, tupOf vy 0) ∈ rest ∧ IntsAre vx X ∧ IntsAre vy Y ∧ X.length ≤ 100 ∧ Y.length ≤ 100 ∧ threeD Dist A B C i = Dist X Y := by
  refine ⟨hi, ?_⟩
  match i, hi with
  | 0, _ => cases hD; exact ⟨_, _, _, _, _, _, _, rfl, hs _ h1, hs _ ma, hs _ mb, ia, ib, la, lb, rfl⟩
  | 1, _ => cases hD; exact ⟨_, _, _, _, _, _, _, rfl, hs _ h2, hs _ mb, hs _ mc, ib, ic, lb, lc, rfl⟩
  | 2, _ => cases hD; exact ⟨_, _, _, _, _, _, _, rfl, hs _ h3, hs _ mc, hs _ ma, ic, ia, lc, la, rfl⟩
theorem far_three {vs : List Value} {Dist : List Int → List Int → Int} {A B C : List Int} (h : IntsAre vs ((List.range 3).map (threeD Dist A B C))) : ∃ t1 t2 t3, vs = [.int (Dist A B) t1, .int (Dist B C) t2, .int (Dist C A) t3] := by
  have e : (List.range 3).map (threeD Dist A B C) = [Dist A B, Dist B C, Dist C A] := rfl
  rw [e] at h
  cases h with | cons _ t1 h => cases h with | cons _ t2 h => cases h with | cons _ t3 h => cases h; exact ⟨_, _, _, rfl⟩
theorem apartAs {c d : Addr} {o o' p p' : Obj} {R : List (Addr × Obj)} (h : Apart [(c, o), (d, o')] R) : Apart [(c, p), (d, p')] R := fun x hx q hq => by
  rcases List.mem_cons.mp hx with rfl | hx
  · exact Ne.symm ((apart2 h).1 q hq)
  · rw [List.mem_singleton.mp hx]; exact Ne.symm ((apart2 h).2 q hq)
theorem no_way {x : Int} (h : ((x == 0) != decide (x = 0)) = true) : False := by
  by_cases e : x = 0 <;> simp [e] at h
theorem permLoop {h₀ h : Heap} {L : Addr} {t d3 d2 d1 far x dx ab c b a l3 l2 l1 D R tab : Addr × Obj} (N : News h₀ L h [t, d3, d2, d1, far, x, dx, ab, c, b, a, l3, l2, l1, D, R, tab]) :
    News h₀ L h ([far, tab] ++ [t, d3, d2, d1, x, dx, c, b, a]) := fun p hp => N p (by
  simp only [List.cons_append, List.nil_append, List.mem_cons, List.not_mem_nil, or_false] at hp ⊢
  rcases hp with h | h | h | h | h | h | h | h | h | h | h <;> simp [h])
end

section
open PySem.Calls
theorem fm_congr {α β : Type} {f g : α → Option β} : ∀ {l : List α}, (∀ x ∈ l, f x = g x) → l.filterMap f = l.filterMap g
  | [], _ => rfl
  | x :: r, h => by
    rw [List.filterMap_cons, List.filterMap_cons, h x (List.mem_cons_self ..), fm_congr fun y hy => h y (List.mem_cons_of_mem _ hy)]
section
variable {prog : Program} {w : World} {A : Around} {E : Value → Shared → Prop} {s : Shared} {h₀ : Heap} {L a b : Addr} {m : Str → Option Value} {news : List (Addr × Obj)} {xs ys : List Value} {ns ms : List Int} {na nb : Nat}
/-- two tuples of ints put together -/
theorem add_tupN {Q : Value → Shared → Prop} (F : Fr h₀ L s.heap m) (N : News h₀ L s.heap news) (ha : (a, tupOf xs na) ∈ news) (hb : (b, tupOf ys nb) ∈ news) (hi : IntsAre xs ns) (hj : IntsAre ys ms) (la : ns.length ≤ 1000) (lb : ms.length ≤ 1000)
    (h : ∀ D vs n h', Fr h₀ L h' m → News h₀ L h' ((D, tupOf vs n) :: news) → IntsAre vs (ns ++ ms) → Q (.ref D) { s with heap := h' }) : wpAny (model prog w) A (binaryOp .Add (.ref a) (.ref b)) Q E s := by
  have e1 := hi.length; have e2 := hj.length
  have dup : ∀ {d : Addr} {o : Obj}, (d, o) ∈ news → News h₀ L s.heap ((d, o) :: news) := fun hd p hp => by
    rcases List.mem_cons.mp hp with rfl | hp
    · exact N _ hd
    · exact N p hp
  refine add_tuples F N (News.isTup N ha) (News.isTup N hb) (fun e => ?_) (fun _ e => ?_) (fun _ _ h' F' N' => ?_) (by rw [sizeLine_eq]; omega)
  · subst e; cases hi; exact h b ys nb s.heap F (dup hb) hj
  · subst e; cases hj; exact h a xs na s.heap F (dup ha) (by rw [List.append_nil]; exact hi)
  · exact h _ (xs ++ ys) 0 h' F' N' (hi.append hj)
theorem rev_places (n : Nat) : Builtin.Slice.slicePlaces ((n : Int) - 1) (-1) (-1) = n := by
  unfold Builtin.Slice.slicePlaces
  rw [if_neg (by decide)]
  split
  · rw [show (- -1 : Int) = 1 by decide, Int.ediv_one]; omega
  · omega
theorem rev_pick (xs : Array Value) : ((List.range xs.size).filterMap fun (k : Nat) => xs[(((xs.size : Int) - 1) + (k : Int) * (-1)).toNat]?).toArray = xs.toList.reverse.toArray := by
  have e : (List.range xs.size).filterMap (fun (k : Nat) => xs[(((xs.size : Int) - 1) + (k : Int) * (-1)).toNat]?) = ((List.range xs.size).map fun k => xs.size - 1 - k).filterMap (xs[·]?) := by
    rw [List.filterMap_map]
    apply fm_congr
    intro k hk
    have := List.mem_range.mp hk
    show _ = xs[xs.size - 1 - k]?
    congr 1
    omega
  rw [e, krv_range, List.filterMap_reverse, krv_all]
theorem getItem_rev {t sl : Addr} {items : Array Value} {u : Tok} {Q : Value → Shared → Prop} (ht : IsTup s.heap t items) (hs : s.heap.IsSliceOf sl .none .none (.int (-1) u))
    (h : Q (.ref s.heap.objs.size) { s with heap := s.heap.push { cls := .type "tuple", data := .seq items.toList.reverse.toArray } })
    (hsz : items.size ≤ sizeLine) : wpAny (model prog w) A (getItem (.ref t) (.ref sl)) Q E s := by
  have hdrop : sizeOk (.seq items.toList.reverse.toArray) := by
    show items.toList.reverse.toArray.size ≤ sizeLine
    rw [List.size_toArray, List.length_reverse, Array.length_toList]
    exact hsz
  obtain ⟨os, hos, hcs, hds⟩ := id hs
  have hTs : s.TypeIs (.ref sl) "slice" := ⟨os, hos, hcs⟩
  unfold getItem
  try with_reducible refine wpAny_holding ?_
  first | refine wpAny_bind (wpAny_pure ?_) | skip
  refine wpAny_bind (wpAny_sequenceKey ht.typeIs (by decide) ?_)
  refine wpAny_bind (wpAny_callSpecial?_slot (name := Str.ofString "__getitem__") ht.typeIs slot_tuple_getitem
    (wpAny_call_entry slot_tuple_getitem ht.typeIs entry_tuple_getitem ?_ (args_tuple_getitem _ _)))
  show wpAny _ _ (Builtin.Tuple.tupleItemsOf (.ref t) >>= _) _ _ s
  refine wpAny_bind (tupleItemsOf_ ht ?_)
  refine wpAny_bind (wpAny_typeOf hTs ?_)
  rw [if_pos (by decide)]
  have ap : ∀ {Q : Int × Int × Nat → Shared → Prop}, Q ((items.size : Int) - 1, -1, items.size) s → wpAny (model prog w) A.in1 (Builtin.Slice.sliceApplied (.ref sl) (pure (items.size : Int))) Q E s := fun {Q} h => by
    unfold Builtin.Slice.sliceApplied Builtin.Slice.sliceFields
    refine wpAny_bind (wpAny_bind (wpAny_field hos hds (x := .none) rfl (wpAny_bind (wpAny_field hos hds (x := .none) rfl (wpAny_bind (wpAny_field hos hds (x := .int (-1) u) rfl (wpAny_pure ?_)))))))
    refine wpAny_bind (slicePart_int ?_)
    show wpAny _ _ (if ((-1 : Int) == 0) = true then _ else _) _ _ s
    rw [if_neg (by decide)]
    refine wpAny_bind (slicePart_none (wpAny_bind (slicePart_none (wpAny_bind (wpAny_pure ?_)))))
    show wpAny _ _ (pure ((items.size : Int) - 1, (-1 : Int), Builtin.Slice.slicePlaces ((items.size : Int) - 1) (-1) (-1))) _ _ s
    rw [rev_places]
    exact wpAny_pure h
  refine wpAny_bind (wpAny_mono (ap (Q := fun r s' => r = ((items.size : Int) - 1, -1, items.size) ∧ s' = s) ⟨rfl, rfl⟩) (fun r s' hr => ?_) fun _ _ e => e)
  obtain ⟨rfl, rfl⟩ := hr
  have hno : ¬ ((((items.size : Int) - 1) == 0 && (-1 : Int) == 1 && items.size == items.size) = true) := by simp
  show wpAny _ _ (if (((items.size : Int) - 1) == 0 && (-1 : Int) == 1 && items.size == items.size) = true then _ else _) _ _ _
  rw [if_neg hno, rev_pick items]
  first
    | exact wpAny_bind (m := Builtin.Tuple.tupleExact _) (wpAny_newObj_type (wpAny_pure ⟨_, rfl, wpAny_pure h⟩) hdrop)
    | exact wpAny_bind (m := Builtin.Tuple.tupleExact _) (wpAny_newObj_type (wpAny_bind (wpAny_pure (wpAny_pure ⟨_, rfl, wpAny_pure h⟩))) hdrop)
    | exact wpAny_bind (wpAny_bind (m := Builtin.Tuple.tupleExact _) (wpAny_newObj_type (wpAny_pure (wpAny_pure ⟨_, rfl, wpAny_pure h⟩)) hdrop))
    | exact wpAny_bind (wpAny_bind (m := Builtin.Tuple.tupleExact _) (wpAny_newObj_type (wpAny_pure ⟨_, rfl, wpAny_pure h⟩) hdrop))
/-- a tuple of ints read backwards -/
theorem rev_tupN {value slice : PySem.Expr} {u : Tok} {ops : List Value} {Q : Value → Shared → Prop} {hp : Heap} {gs : Array GenState} {dr : Drawn} {tk : Tok} {os : OsState} (F : Fr h₀ L hp m) (N : News h₀ L hp news) (ha : (a, tupOf xs na) ∈ news) (hi : IntsAre xs ns) (la : ns.length ≤ 1000)
    (h : ∀ D vs h', Fr h₀ L h' m → News h₀ L h' ((D, tupOf vs 0) :: news) → IntsAre vs ns.reverse → Q (.ref D) ⟨h', gs, dr, tk, os⟩)
    (hs : subscripted slice false (.ref a) (.ref hp.objs.size) = operate ops (getItem (.ref a) (.ref hp.objs.size)))
    (hg : ∀ r, letTemporaryGo value (.ref a) r = pure ()) :
    wpAny (model prog w) A (subscriptTail value slice (.ref a) (.ref hp.objs.size)) Q E ⟨hp.push { cls := .type "slice", data := .fields #[.none, .none, .int (-1) u] }, gs, dr, tk, os⟩ := by
  have ht : IsTup hp a xs.toArray := News.isTup N ha
  have ht' : IsTup (hp.push { cls := .type "slice", data := .fields #[.none, .none, .int (-1) u] }) a xs.toArray := ht.keeps fun _ _ e => Heap.get?_push_of_some _ e
  have e1 := hi.length
  refine subscriptTail_ops (s := ⟨hp.push { cls := .type "slice", data := .fields #[.none, .none, .int (-1) u] }, gs, dr, tk, os⟩) ht'.typeIs slot_tuple_getitem.lookup
    (getItem_rev (u := u) ht' (Heap.IsSliceOf.new ..) ?_ (by rw [List.size_toArray, sizeLine_eq]; omega)) hs hg
  have N1 := News.push (F.push { cls := .type "slice", data := .fields #[.none, .none, .int (-1) u] }) (N.grown fun _ _ e => Heap.get?_push_of_some _ e) { cls := .type "tuple", data := .seq xs.toArray.toList.reverse.toArray }
  exact h _ xs.reverse _ ((F.push _).push _) N1 hi.reverse
end
end

section
open PySem.Calls
theorem compEnd4 {h₀ : Heap} {L I C D : Addr} {m : Str → Option Value} {s₁ : Shared} {oI oC oD : Obj} {S : List (Addr × Obj) → Prop} {rest : Value → List (Addr × Obj) → Prop} {y : Value} {h' : Heap} {tk : Nat} {old : List (Addr × Obj)} {e f1 f2 f3 : Addr × Obj}
    (F : Fr h₀ L h' m) (N : News h₀ L h' (e :: f1 :: f2 :: f3 :: (I, oI) :: (C, oC) :: (D, oD) :: old)) (off : LCg.Off3 I C D old) (he : (@Ne Nat e.1 I) ∧ (@Ne Nat e.1 C) ∧ (@Ne Nat e.1 D)) (hS : S (e :: old)) (r : rest y (e :: old)) :
    LCg.CompEnd h₀ L m s₁ I oI C oC D oD S rest y { s₁ with heap := h', toks := tk } :=
  LCg.CompEnd.intro F N (e :: old) (fun p hp => by
    simp only [List.mem_cons] at hp ⊢
    rcases hp with h | h | h | h | h <;> simp [h]) ⟨he, off⟩ hS r
theorem strip {P : Prop} (h : P) : P := h
section
variable {prog : Program} {w : World} {A : Around} {E : Value → Shared → Prop} {s : Shared} {h₀ : Heap} {L a b : Addr} {m : Str → Option Value} {news : List (Addr × Obj)} {vs ws : List Value} {n c d : Nat} {x : Int} {u : Tok}
theorem list_of_tup {Q : Value → Shared → Prop} (F : Fr h₀ L s.heap m) (N : News h₀ L s.heap news) (hb : (b, tupOf vs n) ∈ news) (hz : vs.length ≤ 1000)
    (h : ∀ D c h', Fr h₀ L h' m → News h₀ L h' ((D, listOf vs.toArray c) :: news) → (∀ q ∈ news, q.1 < D) → Q (.ref D) { s with heap := h' }) : wpAny (model prog w) A (call (.type "list") [.ref b]) Q E s :=
  kup_listOfT (zs := vs) F N hb rfl h (by show vs.length ≤ _; rw [sizeLine_eq]; omega)
theorem none_mul {Q : Value → Shared → Prop} (F : Fr h₀ L s.heap m) (N : News h₀ L s.heap news) (hb : (b, listOf #[Value.none] c) ∈ news) (h0 : 0 ≤ x) (h1 : x ≤ 100)
    (h : ∀ D h', Fr h₀ L h' m → News h₀ L h' ((D, listOf (List.replicate x.toNat Value.none).toArray 0) :: news) → (∀ p ∈ news, p.1 < D) → Q (.ref D) { s with heap := h' }) : wpAny (model prog w) A (binaryOp .Mult (.ref b) (.int x u)) Q E s :=
  KMa.mul (vs := [Value.none]) F N (News.isList N hb) (by omega) (by omega) (by simp; omega) (by
    generalize x.toNat = k
    induction k with
    | zero => rfl
    | succ k ih => rw [List.replicate_succ, List.replicate_succ, List.flatten_cons, ih]; rfl) h
theorem add_pad {Q : Value → Shared → Prop} (F : Fr h₀ L s.heap m) (N : News h₀ L s.heap news) (ha : (a, listOf vs.toArray c) ∈ news) (hb : (b, listOf ws.toArray d) ∈ news) (hz : vs.length + ws.length ≤ 1000)
    (h : ∀ D h', Fr h₀ L h' m → News h₀ L h' ((D, listOf (vs ++ ws).toArray 0) :: news) → (∀ p ∈ news, p.1 < D) → Q (.ref D) { s with heap := h' }) : wpAny (model prog w) A (binaryOp .Add (.ref a) (.ref b)) Q E s :=
  add_lists F N (News.isList N ha) (News.isList N hb) (fun h' F' N' => h _ h' F' N' fun p hp => Heap.lt_size (N p hp).1) (by rw [sizeLine_eq]; omega)
end
end

section
section
open PySem.Calls PySem.Spec
section
variable {prog : Program} {w : World} {A : Around} {s : Shared} {K : Frag} {mg mb : Str → Option Value} {p : Program} {loose : List Str} {mean : ExcName → Option Value}
/-- entering a def of *rest alone, whatever stands around -/
theorem enter_star_any {R : Result → Shared → Prop} {name qual rest : Str} {params : Arguments} {body : List Stmt} {scope : Scope} {dV kV doc pm cdv ct oc : Value} {an od : Option Addr} {osl : Array (Option Value)} {f : Addr} {vs : List Value}
    (X : K.In s.heap) (T : Top p loose mean mg mb s.heap)
    (ho : K.lookup f = some ⟨oc, od, .func (fnOf name qual params body scope dV kV doc pm an cdv ct), osl⟩) (hcd : codeIn K cdv qual = true) (hroom : A.depth < recursionLimit)
    (hb : bindArgs (fnOf name qual params body scope dV kV doc pm an cdv ct) ⟨vs, []⟩ = (do let t ← newTuple vs; pure [(rest, t)])) (hl : scope.names.lookup rest = some .local) (hz : vs.length ≤ 100)
    (h : ∀ L' h₁, Fr s.heap L' h₁ (fun y => [(rest, Value.ref s.heap.objs.size)].reverse.lookup y) → News s.heap L' h₁ [(s.heap.objs.size, ({ cls := .type "tuple", data := .seq vs.toArray } : Obj))] → (∀ q ∈ [(s.heap.objs.size, ({ cls := .type "tuple", data := .seq vs.toArray } : Obj))], q.1 < L') →
      wpAny (model prog w) (A.deeper (envOf qual scope L' f cdv)) (execs body (envOf qual scope L' f cdv))
        (fun fl s' => R (.ok (.ret (match fl with | .ret v => v | _ => .none))) s')
        (fun e s' => wpAny (model prog w) (A.deeper (envOf qual scope L' f cdv)) (leaving (envOf qual scope L' f cdv) e) (fun _ s'' => R (.error e) s'') (fun e' s'' => R (.error e') s'') s')
        { s with heap := h₁, toks := s.toks + 1 })
    (hco : scope.isCoroutine = false) (hgen : scope.isGenerator = false) (hk : scope.kind = .function) (hcell : ∀ x ∈ scope.names, x.2 ≠ .cell) : codeAny (model prog w) A (.call (.ref f) ⟨vs, []⟩) R s := by
  refine codeAny_call_function (fd := fnOf name qual params body scope dV kV doc pm an cdv ct) (body := body) hroom (X _ _ ho) rfl hco hgen rfl (codeRec_of X hcd) ?_
  rw [hb]
  refine wpAny_bind (wpAny_newTuple (hsz := by rw [sizeLine_eq]; omega) (wpAny_pure ?_))
  refine wpAny_newFunctionEnv hcell (fun y hy => by rw [List.mem_singleton.mp hy]; exact hl) (fun h₁ hns hsb => ⟨(T.nolimit.keeps fun b o e => Heap.get?_push_of_some _ e).fresh _ hsb, ?_⟩) hk
  show codeAny _ _ (.func body _) _ _
  have up : ∀ b o, (s.heap.push ({ cls := .type "tuple", data := .seq vs.toArray } : Obj)).get? b = some o → h₁.get? b = some o := fun b o e => hsb.extBut b o (Nat.ne_of_lt (Heap.lt_size e)) (Heap.get?_push_of_some _ e)
  have hlt : s.heap.objs.size < (s.heap.push ({ cls := .type "tuple", data := .seq vs.toArray } : Obj)).objs.size := by rw [Heap.size_push]; omega
  refine codeAny_func (h _ h₁ ⟨hns, fun b o e => up b o (Heap.get?_push_of_some _ e), Nat.le_of_lt hlt⟩ (fun q hq => ?_) fun q hq => ?_)
  · rw [List.mem_singleton.mp hq]
    exact ⟨up _ _ (Heap.get?_push_size _ rfl), Nat.ne_of_lt hlt, Heap.get?_none_of_le (Nat.le_refl _)⟩
  · rw [List.mem_singleton.mp hq]; exact hlt
end
end
local macro_rules | `(tactic| walk_at "call type:set cons nil") => `(tactic| (k_here; (with_reducible show wpAny _ _ (call (Value.type _) [Value.ref _]) _ _ _); k_dflt (refine' set_flat_N ?F ?N ?hh ?hm ?hx ?hy ?_; (case F => k_asm); (case N => k_asm); (case hh => assumption); (case hm => k_mem); (case hx => assumption); (case hy => assumption); k_whole); intro S' o' h' tk' F' N' l1 hz'; (try k_lt l1)))
section
open PySem.Calls PySem.Spec
theorem ident_any (prog : Program) (w : World) (i j : Option Int) (x y : Value) (hx : isOpt i x = true) (hy : isOpt j y = true) {p : Program} {loose : List Str} {mean : ExcName → Option Value} {mg mb : Str → Option Value} {A : Around} {s : Shared} {E : Value → Shared → Prop}
    (X : (hd.heap_39 w.params).In s.heap) (T : Top p loose mean mg mb s.heap) (hh : A.handled = none) (hd : A.depth + 2 < recursionLimit) (hu : A.units + 40 < cLine) :
    wpAny (model prog w) A (call (.ref 100) [x, y]) (fun v s' => v = .bool (decide (i = j)) ∧ Keeps s s') E s := by
  refine wpAny_call ?_
  k_dflt (refine' enter_star_any (rest := "elements") X T ?k6 ?k7 ?k8 ?kb ?kl ?kz ?_ ?c2 ?c3 ?c4 ?c5)
  case k6 => k_is
  case k7 => k_is
  case k8 => omega
  case kb => exact rfl
  case kl => exact rfl
  case kz => exact Nat.le_of_ble_eq_true rfl
  case c2 => exact rfl
  case c3 => exact rfl
  case c4 => exact rfl
  case c5 => decide
  intro L' h₁ F' N' l'
  dsimp only
  (try k_fold)
  k_steps
  · by_cases e : i = j <;> simp [e]
  · (rename Fr _ _ _ _ => lF')
    exact ⟨_, _, rfl, lF'.keep⟩
end
end

section
open PySem.Calls PySem.Spec
section
variable {prog : Program} {w : World} {A : Around} {E : Value → Shared → Prop} {s : Shared}
theorem star_pair {T : Addr} {x y : Value} {Q : List Value → Shared → Prop} (hT : IsPair s.heap T x y) (h : ∀ h', (∀ b o, s.heap.get? b = some o → h'.get? b = some o) → Q [x, y] { s with heap := h' }) : StarOf (model prog w) A E (.ref T) Q s := by
  have hT' : s.TypeIs (.ref T) "tuple" := ⟨_, hT, rfl⟩
  have z : wpAny (model prog w) A (collect (.ref T)) Q E s := wpAny_collect_seq T (.inr rfl) hT rfl rfl (fun h' hk => h h' hk) (by show 2 ≤ sizeLine; rw [sizeLine_eq]; decide)
  unfold StarOf notIterableAtAll
  exact wpAny_bind (wpAny_specialOf hT' PySem.F.slot_tuple_iter.lookup (wpAny_pure ⟨rfl, z⟩))
end
/-- the element of Hamming's generator expression -/
theorem elt_ham (prog : Program) (w : World) (i j : Option Int) (x y : Value) (hx : isOpt i x = true) (hy : isOpt j y = true) {p : Program} {loose : List Str} {mean : ExcName → Option Value} {mg mb m : Str → Option Value} {A : Around} {s : Shared} {E : Value → Shared → Prop}
    {scope : Scope} {cl : List (Str × Addr)} {C T cs xx dx bi : Addr} {code : Value} {env : Env} {t1 t2 t3 t4 : Tok} {n : Nat} {p1 p2 p3 p4 p5 p6 : Pos}
    (X : (hd.heap_39 w.params).In s.heap) (Tp : Top p loose mean mg mb s.heap) (hh : A.handled = none) (hd : A.depth + 2 < recursionLimit) (hu : A.units + 40 < cLine)
    (hk : scope.kind = .function) (hself : scope.names.lookup ("self" : Str) = some NameKind.free) (hes : scope.names.lookup ("es" : Str) = some NameKind.local) (hcl : cl.lookup ("self" : Str) = some cs)
    (hC : s.heap.Ns C m) (hm : m ("es" : Str) = some (.ref T)) (hT : IsPair s.heap T x y) (hcell : s.heap.IsCell cs (some (.ref xx))) (hi : s.heap.get? xx = some (instObj 173 dx)) (hdx : s.heap.get? dx = some (dictOf (hamD w.params t1 t2 t3 t4) n)) :
    wpAny (model prog w) A (eval (.UnaryOp .Not (.Call (.Attribute (.Name "self" p1) "test_func" p2) [.Starred (.Name "es" p3) p4] [] p5) p6) (genEnv scope cl C code bi env)) (fun v s' => v = .bool (!decide (i = j)) ∧ Keeps s s') E s := by
  refine UnaryOp_ ?_
  refine methodCall_star ?_
  refine wpAny_Name (wpAny_loadName_free (c := cs) (v := .ref xx) hk hself hcl hcell ?_) (by decide)
  have I : InstAt s.heap xx (instObj 173 dx) 173 (some (dictOf (hamD w.params t1 t2 t3 t4) n)) := ⟨hi, rfl, rfl, hdx⟩
  refine get_value (v := .ref 100) X I ?ga ?fo ?hd ?_
  case ga => exact (plainGet_of (K := Mine.hd.heap_39 w.params) (C := 173) (name := ("test_func" : Str)) (by k_is)).1
  case fo => exact findObj_own (attr := none) (by k_is) (by k_is) (by k_is) (by rw [lookIn_dict]; k_get)
  case hd => exact rfl
  refine callWith_S X (by k_is) ?_
  refine wpAny_Name (wpAny_loadName_local hk hes hC hm ?_) (by decide)
  refine star_pair hT fun h' hkp => ?_
  refine ⟨X.keeps hkp, ?_⟩
  refine wpAny_mono (ident_any prog w i j x y hx hy (s := { s with heap := h', toks := s.toks + 1 }) (X.keeps hkp) (Tp.keeps hkp) hh hd hu) (fun v s' hv => ?_) fun _ _ e => e
  obtain ⟨rfl, h2, tk2, rfl, hk2⟩ := hv
  refine not_of (wpAny_truthy_bool ⟨rfl, h2, tk2, rfl, fun b o e => hk2 b o (hkp b o e)⟩)
end

section
open PySem.Calls PySem.Spec
section
variable {prog : Program} {w : World} {A : Around} {E : Value → Shared → Prop} {s : Shared} {h₀ : Heap} {L : Addr} {m mg mb : Str → Option Value} {all : List (Addr × Obj)} {p : Program} {loose : List Str} {mean : ExcName → Option Value}
/-- zip of two lists of the ledger -/
theorem zip_N {l1 l2 : Addr} {xs ys : List Value} {c1 c2 : Nat} {Q : Value → Shared → Prop} (F : Fr h₀ L s.heap m) (N : News h₀ L s.heap all) (m1 : (l1, listOf xs.toArray c1) ∈ all) (m2 : (l2, listOf ys.toArray c2) ∈ all)
    (h : ∀ z TI TO i1 i2 h', ZipApart z TI TO i1 i2 l1 l2 → ZS z TI TO i1 i2 l1 l2 xs.toArray ys.toArray 0 h' → Fr h₀ L h' m → News h₀ L h' all → (∀ b ∈ [z, TO, i1, i2], s.heap.objs.size ≤ b) → (∀ b o, s.heap.get? b = some o → h'.get? b = some o) → s.heap.objs.size ≤ h'.objs.size → Q (.ref z) { s with heap := h' }) :
    wpAny (model prog w) A (call (.type "zip") [.ref l1, .ref l2]) Q E s := by
  have g1 := (N _ m1).1; have g2 := (N _ m2).1
  have hl1 : s.heap.IsList l1 xs.toArray := ⟨_, g1, rfl, c1, rfl⟩
  have hl2 : s.heap.IsList l2 ys.toArray := ⟨_, g2, rfl, c2, rfl⟩
  refine call_zip_2 hl1 hl2 fun h' a1 a2 a3 a4 a5 a6 hk => ?_
  refine h _ _ _ _ _ h' (ktu_apart _ _ _ (Heap.lt_size g1) (Heap.lt_size g2)) ⟨.none, .bool false, _, _, a1, .inl rfl, a2, a3, a4, a5, hl1.at fun o e => hk _ o e, hl2.at fun o e => hk _ o e⟩ (F.keeps hk) (fun q hq => ⟨hk _ _ (N q hq).1, (N q hq).2⟩) (fun b hb => ?_) hk (by rw [a6]; exact Nat.le_add_right _ _)
  simp only [List.mem_cons, List.not_mem_nil, or_false] at hb
  rcases hb with rfl | rfl | rfl | rfl <;> first | exact Nat.le_refl _ | exact Nat.le_add_right _ _
/-- the code of a generator expression, out of a table on the ledger -/
theorem gen_code {env : Env} {scope : Scope} {pos : Pos} {q : Str} {c P : Addr} {ps : Array Value} {keepL : List (Addr × Obj)} {Q : Value → Addr → Shared → Prop}
    (F : Fr h₀ L s.heap m) (N : News h₀ L s.heap all) (T : Top p loose mean mg mb h₀) (C : CodeHd h₀ c P) (hcode : env.code = .ref c) (hge : env.globals = mainGlobals) (hmem : (P, tabObj ps) ∈ all) (ht : TriplesOk ps.toList)
    (hsub : ∀ q ∈ keepL, q ∈ all) (hap : ∀ q ∈ keepL, q.1 ≠ P)
    (h : ∀ code h' tk ps', Heap.ExtBut P s.heap h' → s.heap.objs.size ≤ h'.objs.size → Fr h₀ L h' m → News h₀ L h' ((P, tabObj ps') :: keepL) → TriplesOk (Array.toList ps') → Q code builtinsNs { s with heap := h', toks := tk }) :
    wpAny (model prog w) A (genexprCode env pos q scope) (fun code s₃ => wpAny (model prog w) A (builtinsFor env.globals env.builtins) (fun bi s₄ => Q code bi s₄) E s₃) E s := by
  have hm := N (P, tabObj ps) hmem
  have hgs := T.g.keeps F.keep
  obtain ⟨bm, ob, b1, b2, b3, b4, b5, b6⟩ := T.bmain
  have hgP : mainGlobals ≠ P := fun q => by
    obtain ⟨o, es, ep, e, hd, _⟩ := hgs
    rw [q, hm.1] at e; cases e; cases hd
  have hbP : bm ≠ P := fun q => by
    have e := F.keep _ _ b3
    rw [q, hm.1] at e; cases e; cases b4
  have CH := C.keeps F.keep
  have fin : ∀ code h' tk ps', Heap.ExtBut P s.heap h' → s.heap.objs.size ≤ h'.objs.size → h'.get? P = some (tabObj ps') → TriplesOk (Array.toList ps') →
      wpAny (model prog w) A (builtinsFor env.globals env.builtins) (fun bi s₄ => Q code bi s₄) E { s with heap := h', toks := tk } := fun code h' tk ps' hx hsz hP ht' => by
    rw [hge]
    refine wpAny_builtinsFor (hgs.extBut hx hgP) b1 b2 (hx _ _ hbP (F.keep _ _ b3)) b4 b5 b6 ?_
    refine h code h' tk ps' hx hsz ⟨F.ns.extBut hx hm.2.1.symm, fun b o e => hx b o (fun q => by rw [q, hm.2.2] at e; cases e) (F.keep b o e), F.above⟩ (fun q hq => ?_) ht'
    rcases List.mem_cons.mp hq with rfl | hq
    · exact ⟨hP, hm.2⟩
    · have n := N q (hsub q hq)
      exact ⟨hx _ _ (hap q hq) n.1, n.2⟩
  cases hnf : codeAmong pos ps.toList with
  | none =>
    refine wpAny_genexprCodeX hcode (CH.code hm.1 ht) (CH.tab hm.1) hnf fun c' h' tk hx hge' hlt hcode' _ htab _ => ?_
    obtain ⟨_, _, _, _, _, _, _, _, _, _, _, _, _, _, _, _, _, _, _, ht', _⟩ := hcode'
    exact fin _ h' tk _ hx (Nat.le_of_lt (Nat.lt_of_le_of_lt hge' hlt)) htab.2 ht'
  | some cv =>
    exact wpAny_genexprCode_hit hcode (CH.code hm.1 ht) hnf (fin cv s.heap s.toks ps (Heap.ExtBut.refl _ _) (Nat.le_refl _) hm.1 ht)
/-- a row filled up with None -/
theorem pad_opt {vs : List Value} {xs : List Int} (h : IntsAre vs xs) (k : Nat) {i : Nat} {x : Value} (hx : (vs ++ List.replicate k Value.none)[i]? = some x) : isOpt xs[i]? x = true := by
  by_cases hi : i < vs.length
  · rw [List.getElem?_append_left hi] at hx
    have hi' : i < xs.length := by rw [← h.length]; exact hi
    obtain ⟨t, ht⟩ := h.get i (xs[i]) (List.getElem?_eq_getElem hi')
    rw [ht] at hx
    cases hx
    rw [List.getElem?_eq_getElem hi']
    exact isOpt_int _ _
  · rw [List.getElem?_append_right (by omega)] at hx
    have e : xs[i]? = none := List.getElem?_eq_none (by rw [← h.length]; omega)
    rw [e]
    have := List.mem_of_getElem? hx
    rw [List.eq_of_mem_replicate this]
    exact isOpt_no
end
end

section
open PySem.Calls PySem.Spec
section
variable {M : Model} {A : Around} {E : Value → Shared → Prop} {s : Shared} {env : Env}
/-- a call of a builtin type with one starred argument -/
theorem callWith_ST {pos p : Pos} {T : String} {Q : Value → Shared → Prop} {e : Expr}
    (h : wpAny M A (eval e env) (fun v s₁ => StarOf M A E v (fun vs s₂ => wpAny M A (call (.type T) vs) Q E s₂) s₁) E s)
    (he : starEach [.Starred e p] env = [(true, eval e env)] := by rfl) :
    wpAny M A (callWith pos (.type T) [] (backTo pos (starEach [.Starred e p] env)) []) Q E s := by
  rw [he]
  exact ks_call (P := fun _ => True) rfl (fun h _ => ⟨.machine, .inr (.inl rfl), Looks.of_pure rfl⟩) (ks_lone (wpAny_mono h (fun v s₁ h₁ => wpAny_mono h₁ (fun b s₂ h₂ => ⟨h₂.1, wpAny_mono h₂.2 (fun vs s₃ h₃ => ⟨trivial, h₃⟩) fun _ _ z => z⟩) fun _ _ z => z) fun _ _ z => z))
end
end

section
open PySem.Calls PySem.Spec
theorem passing_all (n : Nat) : passing (fun _ => true) n 0 = List.range n := by
  unfold passing
  rw [List.drop_zero]
  exact List.filter_eq_self.mpr fun _ _ => rfl
theorem preSum_ham (xs ys : List Int) : ∀ n, preSum (fun j => if xs[j]? = ys[j]? then 0 else 1) n = hamN xs ys n
  | 0 => rfl
  | n + 1 => by unfold preSum hamN; rw [preSum_ham xs ys n]
theorem sum_ham {prog : Program} {w : World} {A : Around} {E : Value → Shared → Prop} {s : Shared} {xs ys : List Int} {n : Nat} {a : Addr} {fp wr : List Addr} {G : Array GenState → Array GenState → Prop} {St : Nat → Shared → Prop} {Q : Value → Shared → Prop}
    (W : WalksS prog w A.in4 a fp wr G (passing (fun _ => true) n 0).length (fun j y => ∃ i, (passing (fun _ => true) n 0)[j]? = some i ∧ y = .bool (!decide (xs[i]? = ys[i]?))) St) (hst : St 0 s) (hfp : ∀ b ∈ fp, b < s.heap.objs.size)
    (hQ : ∀ s' t', Moved wr G s s' → Q (.int (hamN xs ys n) t') s') : wpAny (model prog w) A (call (.builtin "sum") [.ref a]) Q E s := by
  have W := W.in4_1
  refine call_sum_walkAnyB (W.self 0 _ _ _ hst ⟨a, _, _, _, _, _, _, fun j => if xs[j]? = ys[j]? then 0 else 1, rfl, W, hst, hfp, fun j v hv => ?_, fun s' t' hm => ?_⟩)
  · obtain ⟨i, hi, rfl⟩ := hv
    rw [passing_all] at hi
    have e : i = j := by
      rw [List.getElem?_eq_some_iff] at hi
      obtain ⟨h, hi⟩ := hi
      rw [List.getElem_range] at hi
      exact hi.symm
    subst e
    refine .inr ⟨_, rfl, ?_⟩
    by_cases e : xs[i]? = ys[i]? <;> simp [e]
  · have e : (passing (fun _ => true) n 0).length = n := by rw [passing_all, List.length_range]
    rw [e, preSum_ham]
    exact hQ s' t' hm
end

section
theorem sub_keep {α : Type} {a : α} {k l : List α} (h : ∀ q ∈ k, q ∈ l) : ∀ q ∈ a :: k, q ∈ a :: l := fun q hq => by
  rcases List.mem_cons.mp hq with rfl | hq
  · exact List.Mem.head _
  · exact List.Mem.tail _ (h q hq)
theorem sub_drop {P : Addr} {o : Obj} {l : List (Addr × Obj)} : ∀ q ∈ l, q ∈ (P, o) :: l := fun _ hq => List.Mem.tail _ hq
end
theorem qd1H {g : Int} {xs ys : List Int} {vs us : List Value} (hx : IntsAre vs xs) (hy : IntsAre us ys) (e : ¬ xs = ys) (f : (!vs.isEmpty && !us.isEmpty) = false) (t : Tok) : ∃ t', Value.int ((max vs.length us.length : Nat) : Int) t = Value.int (qd g xs ys) t' := by
  rw [isEmpty_ints hx, isEmpty_ints hy] at f
  rw [qd1 e (by by_cases a : xs = [] <;> by_cases b : ys = [] <;> simp_all), hx.length, hy.length]
  exact ⟨t, rfl⟩
/-- a contract of a tree that may grow the table at 167 -/
def CtrH (prog : Program) (w : World) (K : Frag) (d u : Nat) (t : Sem Value) (Pre : List (Addr × Obj) → Prop) (Res : Value → Prop) : Prop :=
  ∀ (p : Program) (loose : List Str) (mean : ExcName → Option Value) (mg mb : Str → Option Value)
    (dp un : Nat) (gd : Option (List Code)) (cn : Str) (cs : Scope) (a : Addr) (ccd : Value) (cl : List (Str × Addr)) (outer : List Env) (A₀ : Around) (base h₀ : Heap) (L : Addr) (m : Str → Option Value) (news : List (Addr × Obj)) (ps : Array Value) (s : Shared) (Q E : Value → Shared → Prop),
    Below A₀ base outer h₀ → Fr h₀ L s.heap m → K.In h₀ → News h₀ L s.heap ((167, tabObj ps) :: news) → Top p loose mean mg mb h₀ → cs.kind = .function →
    dp + d < recursionLimit → un + u < cLine → AllBare s.gens → TriplesOk ps.toList → (∀ q ∈ news, q.1 ≠ 167) → Pre news →
    (∀ v h' tk' gs' ps', Fr h₀ L h' m → News h₀ L h' ((167, tabObj ps') :: news) → AllBare gs' → TriplesOk (Array.toList ps') → Res v → Q v { s with heap := h', toks := tk', gens := gs' }) →
    wpAny (model prog w) (ktrTop dp un gd cn cs L a ccd cl outer) t Q E s

section
local macro_rules | `(tactic| k_all) => `(tactic| (intro p9 hp9; exact Nat.ne_of_lt (Nat.lt_succ_of_lt (Nat.lt_succ_of_lt (allLt_mem (by walk_at "mine lt") p9 hp9)))))
local macro_rules | `(tactic| walk_at "call type:list") => `(tactic| (k_here; (with_reducible show wpAny _ _ (call (Value.type _) [Value.ref _]) _ _ _); k_dflt (refine' list_of_tup ?F ?N ?b ?z ?_; (case F => k_asm); (case N => k_asm); (case b => k_mem); (case z => walk_at "mine small")); intro D' c' h' F' N' l1; (try k_lt l1); (try k_sweep); (try (show LCg.CompEnd _ _ _ _ _ _ _ _ _ _ _ _ _ _))))
local macro_rules | `(tactic| walk_at "binaryOp Mult ref int") => `(tactic| (k_here; (with_reducible show wpAny _ _ (binaryOp Operator.Mult (Value.ref _) (Value.int _ _)) _ _ _); k_dflt (refine' none_mul ?F ?N ?b ?lo ?hi ?_; (case F => k_asm); (case N => k_asm); (case b => k_mem); (case lo => omega); (case hi => omega)); intro D' h' F' N' l1; (try k_lt l1); (try k_sweep); (try (show LCg.CompEnd _ _ _ _ _ _ _ _ _ _ _ _ _ _))))
local macro_rules | `(tactic| walk_at "binaryOp Add ref ref") => `(tactic| (k_here; (with_reducible show wpAny _ _ (binaryOp _ (Value.ref _) (Value.ref _)) _ _ _); k_dflt (refine' add_pad ?F ?N ?a ?b ?z ?_; (case F => k_asm); (case N => k_asm); (case a => k_mem); (case b => k_mem); (case z => (simp only [List.length_replicate]; omega))); intro D' h' F' N' l1; (try k_lt l1); (try k_sweep); (try (show LCg.CompEnd _ _ _ _ _ _ _ _ _ _ _ _ _ _))))
local macro_rules | `(tactic| walk_at "CompEnd") => `(tactic| ((rename Fr _ _ _ _ => lF'); (rename News _ _ _ _ => lN'); refine compEnd4 lF' lN' ?off ?he ?hS ?r; (case off => (simp only [LCg.Off3, and_true]; assumption)); (case he => exact ⟨by k_ne, by k_ne, by k_ne⟩); (case hS => exact Or.inr ⟨_, by k_mem, rfl, _, rfl⟩); (try dsimp only)))
local macro_rules | `(tactic| walk_at "call type:zip") => `(tactic| (k_here; k_dflt (refine' zip_N ?F ?N ?a ?b ?_; (case F => k_asm); (case N => k_asm); (case a => k_mem); (case b => k_mem)); refine halt_in ?_))
local macro_rules | `(tactic| walk_at "callWith type:zip nil") => `(tactic| (k_here; refine callWith_ST ?_))
local macro_rules | `(tactic| walk_at "callWith type:zip") => `(tactic| (k_here; refine callWith_ST ?_))
theorem dist_H (prog : Program) (w : World) (xs ys : List Int) (vs us : List Value) (nx ny : Nat) (ax ay : Addr) (hx : IntsAre vs xs) (hy : IntsAre us ys) (zx : xs.length ≤ 100) (zy : ys.length ≤ 100) (t1 t2 t3 t4 : Tok) (x dx : Addr) (n : Nat) :
    CtrH prog w (hd.heap_39 w.params) 7 140 (call (.ref 65) [.ref x, .ref ax, .ref ay]) (fun news => (x, instObj 173 dx) ∈ news ∧ (dx, dictOf (hamD w.params t1 t2 t3 t4) n) ∈ news ∧ (ax, tupOf vs nx) ∈ news ∧ (ay, tupOf us ny) ∈ news)
      (fun v => ∃ t, v = .int (qd (dHraw xs ys) xs ys) t) := by
  unfold CtrH
  intro p loose mean mg mb dp un gd cn cs a ccd cl outer A₀ base h₀ L m news ps s Q E B F X N T hk hd hu hg hps hlo hpre hret
  obtain ⟨hp1, hp2, hp3, hp4⟩ := hpre
  have lvs := hx.length; have lus := hy.length
  refine wpAny_call ?_
  k_dflt ktr_enter
  k_steps
  rotate_left
  walk_at "CompEnd"
  k_steps
  · k_dflt (refine' genexp_zip ?hh ?hco ?hclos ?hcell ?h0 ?hx ?hkind ?hroom ?_ ?hs)
    case hh => exact rfl
    case hco => exact rfl
    case hclos => with_unfolding_all rfl
    case hcell => decide
    case h0 => with_unfolding_all rfl
    case hx => with_unfolding_all rfl
    case hkind => exact rfl
    case hroom => walk_at "mine room"
    case hs => intro _; with_unfolding_all rfl
    k_steps
    · rename Top _ _ _ _ _ _ => T0
      rename Frag.In _ _ => X0
      rename Below _ _ _ _ => B0
      rename Fr _ _ _ _ => F0
      rename News _ _ _ _ => N0
      rename TriplesOk _ => ht0
      rename AllBare _ => G0
      refine halt_out ?_
      intro z TI TO i1 i2 h' D ZS0 F N hnew hkeep hsz
      obtain ⟨f0, f1, _, _, hz, _⟩ := id ZS0
      refine zip_iter hz ?_
      refine ⟨T0.nolimit.keeps F.keep, ?_⟩
      refine gen_code (C := codeHd_of_K (c := 169) (P := 167) X0 (by kernel_rfl)) (hcode := rfl) F N T0 (hge := rfl) (by k_mem) (by assumption) (sub_keep (sub_keep (sub_keep (sub_keep (sub_keep (sub_keep (sub_keep (sub_keep (sub_keep (sub_keep (sub_keep (sub_keep (sub_keep (sub_drop (P := 167))))))))))))))) ?hap ?_
      case hap => repeat (first | assumption | (refine List.forall_mem_cons.mpr ⟨?_, ?_⟩; k_ne))
      intro code h2 tk2 ps2 hx2 hsz2 F2 N2 ht2
      have hB0 := fun b o e (hb : b ∈ [z, TO, i1, i2]) => (absurd (Heap.lt_size (F0.keep b o e)) (Nat.not_lt.mpr (hnew b hb)) : False)
      have hN0 := fun (q : Addr × Obj) hq (hb : q.1 ∈ [z, TO, i1, i2]) => (absurd (Heap.lt_size (N0 q hq).1) (Nat.not_lt.mpr (hnew q.1 hb)) : False)
      have hP : ∀ b ∈ [z, TO, i1, i2], b ≠ 167 := fun b hb q => by
        have i9 := hnew b hb
        have j9 := Heap.lt_size (N0 (167, _) (by k_mem)).1
        rw [q] at i9
        exact absurd j9 (Nat.not_lt.mpr i9)
      have hTI : TI ≠ 167 := fun q => by
        obtain ⟨_, _, _, _, _, _, hTI, _⟩ := ZS0
        subst q
        have e2 := Option.some.inj (hTI.symm.trans (N (167, _) (by k_mem)).1)
        have e3 := congrArg Obj.cls e2
        dsimp only [tabObj] at e3
        cases e3
      have hL0 := fun b (hb : b ∈ [z, TO, i1, i2]) => Nat.lt_of_lt_of_le F0.ns.lt (hnew b hb)
      have hN3 := fun (q : Addr × Obj) (hq : q ∈ (167, tabObj ps2) :: _) (hb : q.1 ∈ [z, TO, i1, i2]) => ((List.mem_cons.mp hq).elim (fun e => hP q.1 hb (congrArg Prod.fst e)) (fun h => hN0 q ((sub_keep (sub_keep (sub_keep (sub_keep (sub_keep (sub_keep (sub_keep (sub_keep (sub_keep (sub_keep (sub_keep (sub_keep (sub_keep (sub_drop (P := 167))))))))))))))) q h) hb) : False)
      have hz2 := ZS0.frame (h' := h2) fun b hb o e => hx2 b o (by
        simp only [List.mem_cons, List.not_mem_nil, or_false] at hb
        rcases hb with rfl | rfl | rfl | rfl | rfl | rfl | rfl
        · exact hP _ (by simp)
        · exact hTI
        · exact hP _ (by simp)
        · exact hP _ (by simp)
        · exact hP _ (by simp)
        · k_ne
        · k_ne) e
      have X2 := T0.keeps F2.keep
      refine ⟨z, TI, TO, i1, i2, _, _, _, _, max vs.length us.length, fun i v => v = .bool (!decide (xs[i]? = ys[i]?)), rfl, D, ?n1, ?n2, hz2, X2.nolimit, ?n3, ?n4, ?n5⟩
      case n1 => (have := hx.length); simp only [List.size_toArray, List.length_append, List.length_replicate]; omega
      case n2 => (have := hy.length); simp only [List.size_toArray, List.length_append, List.length_replicate]; omega
      case n3 =>
        intro hb
        have := hnew _ hb
        obtain ⟨_, hn, _⟩ := (T0.keeps F0.keep).nolimit
        exact absurd hn.lt (Nat.not_lt.mpr this)
      case n4 =>
        refine halt_in ?_
        rename Frag.In _ _ => X0
        rename Top _ _ _ _ _ _ => T9
        clear T9
        rename Top _ _ _ _ _ _ => T0
        rename Fr _ _ _ _ => F2
        rename News _ _ _ _ => N2
        rename (∀ (q : Addr × Obj), q ∈ _ → _ → False) => hN0
        rename (∀ b o, _ → b ∈ _ → False) => hB0
        have go : ∀ P : Prop, P → P := fun _ p => p
        rename ∀ b ∈ _, _ ≠ _ => hP
        refine halt_out ?_
        intro href hk A' E' i T vx vy s₂ m₂ hh hdp hu hvx hvy hC hm hT hkp
        have kall := fun b o hb e => hkp b (List.mem_range.mpr (Heap.lt_size e)) hb o (hk b o e)
        have kled := fun (q : Addr × Obj) h1 h2 => kall q.1 q.2 (hN0 q h1) (N2 q h2).1
        have hvx' : (vs ++ List.replicate (max vs.length us.length - xs.length) Value.none)[i]? = some vx := by simpa using hvx
        have hvy' : (us ++ List.replicate (max vs.length us.length - ys.length) Value.none)[i]? = some vy := by simpa using hvy
        refine elt_ham prog w xs[i]? ys[i]? vx vy (pad_opt hx _ hvx') (pad_opt hy _ hvy') (X := X0.keeps fun b o e => kall b o (hB0 b o e) (F2.keep b o e)) (Tp := T0.keeps fun b o e => kall b o (hB0 b o e) (F2.keep b o e)) (hh := hh) (hd := ?hd) (hu := ?hu) (hk := rfl) (hself := by rfl) (hes := by rfl) (hcl := by rfl) (hC := hC) (hm := hm) (hT := hT) (hcell := ?hcell) (hi := kled (x, _) (by k_mem) (by k_mem)) (hdx := kled (dx, _) (by k_mem) (by k_mem))
        case hd => refine Nat.lt_of_le_of_lt (Nat.add_le_add_right hdp 2) ?_; walk_at "mine room"
        case hu => refine Nat.lt_of_le_of_lt (Nat.add_le_add_right hu 40) ?_; walk_at "mine units"
        case hcell =>
          refine ⟨_, kled (_, _) (by k_mem) (by k_mem), ?_⟩
          (refine Eq.trans (by assumption) ?_; rfl)
      case n5 =>
        refine halt_in ?_
        rename AllBare _ => G2
        rename Fr _ _ _ _ => F2
        rename News _ _ _ _ => N2
        rename (∀ (q : Addr × Obj), q ∈ _ → _ → False) => hN3
        rename (∀ b, b ∈ _ → _ < b) => hL0
        rename (∀ b o, _ → b ∈ _ → False) => hB0
        refine halt_out ?_
        intro a h5 tk gs hbare hlt5 hsz5 hk5 W G
        have F5 := F2.keeps hk5
        have N5 : News _ _ h5 _ := fun q hq => ⟨hk5 _ _ (N2 q hq).1, (N2 q hq).2⟩
        k_steps
        refine sum_ham W G ?hfp ?_
        case hfp =>
          intro b hb
          refine Nat.lt_of_lt_of_eq ?_ hsz5.symm
          rcases List.mem_cons.mp hb with rfl | hb
          · exact Nat.lt_succ_self _
          · rcases List.mem_cons.mp hb with rfl | hb
            · exact Nat.lt_succ_of_lt hlt5
            · exact Nat.lt_succ_of_lt (Nat.lt_trans (List.mem_range.mp hb) hlt5)
        intro s6 t6 hm
        obtain ⟨hp6, gs6, dr6, tk6, os6⟩ := s6
        obtain rfl : _ = dr6 := hm.drawn.symm
        obtain rfl : _ = os6 := hm.os.symm
        have F6 := F5.moved (s := Shared.mk h5 _ _ _ _) hm (fun b hb => by
          rcases List.mem_cons.mp hb with rfl | hb
          · exact F2.ns.lt
          · exact hL0 b hb)
        have N6 : News _ _ hp6 _ := fun q hq => ⟨hm.heap q.1 q.2 (fun hb => by
          rcases List.mem_cons.mp hb with e | hb
          · exact absurd (Heap.lt_size (N2 q hq).1) (by rw [e]; exact Nat.lt_irrefl _)
          · exact hN3 q hq hb) (hk5 _ _ (N2 q hq).1), (N2 q hq).2⟩
        have G6 := (AllBare.push G2 hbare).movedS (s := Shared.mk h5 _ _ _ _) hm
        dsimp only at F6 G6
        clear hm W G F5 N5
        k_steps
        rename ∀ (v : Value) (h' : Heap) (tk' : Nat) (gs' : Array GenState) (ps' : Array Value), _ => hret
        rename News _ _ _ _ => kN
        refine' hret _ _ _ _ _ ?f ?n ?g ?t ⟨t6, ?v⟩
        case f => assumption
        case n => exact cb_drop kN (by walk_at "mine sub1")
        case g => assumption
        case t => assumption
        case v =>
          rw [hx.length, hy.length]
          exact congrArg (fun i => Value.int i t6) (qd_of metH xs ys).symm
  all_goals (rename News _ _ _ _ => kN)
  all_goals (refine' hret _ _ _ _ _ ?_ ?_ ?_ ?_ ?_)
  all_goals first
    | exact cb_drop kN (by walk_at "mine sub1")
    | assumption
    | exact ⟨_, by rw [qd0 (by assumption)]⟩
    | exact qd1H hx hy (by assumption) (by assumption) _
end
section
theorem dH_eq (xs ys : List Int) : qd (dHraw xs ys) xs ys = dHraw xs ys := qd_of metH xs ys
section
variable {h₀ h : Heap} {L : Addr} {x y z u v t : Addr × Obj} {l : List (Addr × Obj)}
theorem front1 (N : News h₀ L h (x :: t :: l)) : News h₀ L h (t :: x :: l) := fun p hp => N p (by
  simp only [List.mem_cons] at hp ⊢
  rcases hp with h | h | h <;> simp [h])
theorem front2 (N : News h₀ L h (x :: y :: t :: l)) : News h₀ L h (t :: x :: y :: l) := fun p hp => N p (by
  simp only [List.mem_cons] at hp ⊢
  rcases hp with h | h | h | h <;> simp [h])
theorem front3 (N : News h₀ L h (x :: y :: z :: t :: l)) : News h₀ L h (t :: x :: y :: z :: l) := fun p hp => N p (by
  simp only [List.mem_cons] at hp ⊢
  rcases hp with h | h | h | h | h <;> simp [h])
theorem front4 (N : News h₀ L h (x :: y :: z :: u :: t :: l)) : News h₀ L h (t :: x :: y :: z :: u :: l) := fun p hp => N p (by
  simp only [List.mem_cons] at hp ⊢
  rcases hp with h | h | h | h | h | h <;> simp [h])
end
theorem ctrH_use {prog : Program} {w : World} {K : Frag} {d un0 : Nat} {tr : Sem Value} {Pre : List (Addr × Obj) → Prop} {Res : Value → Prop}
    {p : Program} {loose : List Str} {mean : ExcName → Option Value} {mg mb : Str → Option Value}
    {dp un : Nat} {gd : Option (List Code)} {cn : Str} {cs : Scope} {a : Addr} {ccd : Value} {cl : List (Str × Addr)} {outer : List Env} {A₀ : Around} {base h₀ : Heap} {L : Addr} {m : Str → Option Value} {news : List (Addr × Obj)} {ps : Array Value} {s : Shared} {Q E : Value → Shared → Prop}
    (C : CtrH prog w K d un0 tr Pre Res) (B : Below A₀ base outer h₀) (F : Fr h₀ L s.heap m) (X : K.In h₀) (N : News h₀ L s.heap ((167, tabObj ps) :: news)) (T : Top p loose mean mg mb h₀) (hk : cs.kind = .function)
    (hd : dp + d < recursionLimit) (hu : un + un0 < cLine) (hg : AllBare s.gens) (ht : TriplesOk ps.toList) (hlo : ∀ q ∈ news, q.1 ≠ 167) (hp : Pre news)
    (hret : ∀ v h' tk' gs' ps', Fr h₀ L h' m → News h₀ L h' ((167, tabObj ps') :: news) → AllBare gs' → TriplesOk (Array.toList ps') → Res v → Q v { s with heap := h', toks := tk', gens := gs' }) :
    wpAny (model prog w) (ktrTop dp un gd cn cs L a ccd cl outer) tr Q E s := C _ _ _ _ _ _ _ _ _ _ _ _ _ _ _ _ _ _ _ _ _ _ _ _ B F X N T hk hd hu hg ht hlo hp hret
end

theorem dL_eq (xs ys : List Int) : qd (lv (eqAt xs ys) xs.length ys.length) xs ys = dLraw xs ys := qd_of metL.toMetric xs ys
theorem dD_eq (xs ys : List Int) : qd (dm (damM xs ys) xs ys xs.length ys.length) xs ys = dDraw xs ys := qd_of metD.toMetric xs ys
local macro_rules | `(tactic| walk_at "call ref") => `(tactic| (k_here; (with_reducible show wpAny _ _ (call (Value.ref 65) _) _ _ _); k_dflt (refine' ctr_use (dist_L _ _ _ _ _ _ _ _ _ _ ?hx ?hy ?zx ?zy _ _ _ _ _ _) ?k1 ?k2 ?k3 ?k4 ?k5 ?kK ?kd ?ku ?kg ?kp ?_; (case k4 => k_asm); (case kp => exact ⟨by k_mem, by k_mem, by k_mem, by k_mem⟩); (case k1 => k_asm); (case k2 => k_asm); (case k3 => k_asm); (case k5 => k_asm); (case kK => first | exact rfl | assumption); (case kd => first | walk_at "mine room" | ktr_room); (case ku => first | walk_at "mine units" | ktr_units); (case kg => assumption); (case hx => k_asm); (case hy => k_asm); (case zx => walk_at "mine len"); (case zy => walk_at "mine len"); k_whole; intro v9 tl9 h9 tk9 gs9 F9 N9 o9 G9 r9; obtain ⟨e9, f9⟩ := r9; obtain ⟨t9, e9⟩ := e9; rw [dL_eq] at e9; subst e9; subst f9; (try simp only [List.nil_append] at N9); clear o9; (try dsimp only); (try k_fold))))
local macro_rules | `(tactic| walk_at "call ref") => `(tactic| (k_here; (with_reducible show wpAny _ _ (call (Value.ref 65) _) _ _ _); k_dflt (refine' ctr_use (dist_D _ _ _ _ _ _ _ _ _ _ ?hx ?hy ?zx ?zy _ _ _ _ _ _ _) ?k1 ?k2 ?k3 ?k4 ?k5 ?kK ?kd ?ku ?kg ?kp ?_; (case k4 => k_asm); (case kp => exact ⟨by k_mem, by k_mem, by k_mem, by k_mem⟩); (case k1 => k_asm); (case k2 => k_asm); (case k3 => k_asm); (case k5 => k_asm); (case kK => first | exact rfl | assumption); (case kd => first | walk_at "mine room" | ktr_room); (case ku => first | walk_at "mine units" | ktr_units); (case kg => assumption); (case hx => k_asm); (case hy => k_asm); (case zx => walk_at "mine len"); (case zy => walk_at "mine len"); k_whole; intro v9 tl9 h9 tk9 gs9 F9 N9 o9 G9 r9; obtain ⟨e9, f9⟩ := r9; obtain ⟨t9, e9⟩ := e9; rw [dD_eq] at e9; subst e9; subst f9; (try simp only [List.nil_append] at N9); clear o9; (try dsimp only); (try k_fold))))

local macro_rules | `(tactic| walk_at "subscriptTail Name BinOp ref int") => `(tactic| (k_here; (with_reducible show wpAny _ _ (subscriptTail _ _ (Value.ref _) (Value.int (Int.fmod _ 3) _)) _ _ _); k_dflt (refine' row3 ?k1 ?k2 ?_ ?k7; (case k1 => k_asm); (case k2 => k_mem); (case k7 => with_unfolding_all rfl); k_whole); intro i9 l9 e9 h9; (rcases h9 with ⟨c9, d9⟩ | ⟨c9, d9⟩ | ⟨c9, d9⟩) <;> (subst d9; subst e9)))
local macro_rules | `(tactic| walk_at "call builtin:list.append") => `(tactic| (k_here; k_dflt (refine' push_N ?k1 ?k2 ?k3 ?k4 ?k5 ?_; (case k1 => k_asm); (case k2 => k_asm); (case k5 => k_upd); (case k3 => assumption); (case k4 => walk_at "mine row"); k_whole); intro h' F' N' hi'))
local macro_rules | `(tactic| k_all) => `(tactic| exact apart3a (by assumption))
local macro_rules | `(tactic| k_all) => `(tactic| exact apart3b (by assumption))
local macro_rules | `(tactic| k_all) => `(tactic| exact apart3c (by assumption))
def letter (n : Int) : Int := if n.fdiv 3 < 0 then n.fdiv 3 else (n.fdiv 3).fmod 4
def lrow (ns : List Int) (r : Int) (i : Nat) : List Int := ((ns.take i).filter fun n => decide (n.fmod 3 = r)).map letter
def lawJ (pick : Int) (l1 l2 l3 R : Addr) (ns : List Int) (i : Nat) (kvs : List (Str × Value)) (C : List (Addr × Obj)) : Prop :=
  ∃ va vb vc ca cb cc tp, kvs = [kk "pick" (.int pick tp), kk "rows" (.ref R)] ∧ C = [(l3, listOf (List.toArray vc) cc), (l2, listOf (List.toArray vb) cb), (l1, listOf (List.toArray va) ca)] ∧
    IntsAre va (lrow ns 0 i) ∧ IntsAre vb (lrow ns 1 i) ∧ IntsAre vc (lrow ns 2 i)
theorem lrow_len {ns : List Int} {r : Int} {i : Nat} (h : ns.length ≤ 9) : (lrow ns r i).length ≤ 1000 := by
  unfold lrow
  rw [List.length_map]
  have h1 := List.length_filter_le (fun n : Int => decide (n.fmod 3 = r)) (ns.take i)
  have h2 := List.length_take_le i ns
  have h3 := List.length_take_le' i ns
  omega
local macro_rules | `(tactic| walk_at "call type:tuple") => `(tactic| (k_here; (with_reducible show wpAny _ _ (call (Value.type _) [Value.ref _]) _ _ _); k_dflt (refine' tuple_of_row ?k1 ?k2 ?k3 ?k4 ?k5 ?_; (case k1 => k_asm); (case k2 => k_asm); (case k3 => k_mem); (case k4 => assumption); (case k5 => exact lrow_len (by assumption)); k_whole); intro D' h' F' N' l1; (try k_lt l1)))
local macro_rules | `(tactic| walk_at "mine row") => `(tactic| exact lrow_len (by assumption))
theorem lrow_100 {ns : List Int} {r : Int} {i : Nat} (h : ns.length ≤ 9) : (lrow ns r i).length ≤ 100 := by
  unfold lrow
  rw [List.length_map]
  have h1 := List.length_filter_le (fun n : Int => decide (n.fmod 3 = r)) (ns.take i)
  have h3 := List.length_take_le' i ns
  omega
theorem lrow_9 {ns : List Int} {r : Int} {i : Nat} (h : ns.length ≤ 9) : (lrow ns r i).length ≤ 9 := by
  unfold lrow
  rw [List.length_map]
  have h1 := List.length_filter_le (fun n : Int => decide (n.fmod 3 = r)) (ns.take i)
  have h3 := List.length_take_le' i ns
  omega
theorem lrow_succ {ns : List Int} {i : Nat} (r : Int) (hi : i < ns.length) : lrow ns r (i + 1) = lrow ns r i ++ (if (ns.getD i 0).fmod 3 = r then [letter (ns.getD i 0)] else []) := by
  unfold lrow
  rw [List.take_add_one, List.getElem?_eq_getElem hi, List.filter_append, List.map_append, List.getD_eq_getElem?_getD, List.getElem?_eq_getElem hi]
  by_cases e : ns[i].fmod 3 = r <;> simp [e]
theorem lrow_miss {ns : List Int} {i : Nat} {r : Int} (hi : i < ns.length) (h : ¬ (ns.getD i 0).fmod 3 = r) : lrow ns r (i + 1) = lrow ns r i := by rw [lrow_succ r hi, if_neg h, List.append_nil]
theorem lrow_neg {ns : List Int} {i : Nat} {r : Int} (hi : i < ns.length) (h : (ns.getD i 0).fmod 3 = r) (hn : (ns.getD i 0).fdiv 3 < 0) : lrow ns r (i + 1) = lrow ns r i ++ [(ns.getD i 0).fdiv 3] := by
  rw [lrow_succ r hi, if_pos h]; unfold letter; rw [if_pos hn]
theorem lrow_pos {ns : List Int} {i : Nat} {r : Int} (hi : i < ns.length) (h : (ns.getD i 0).fmod 3 = r) (hn : ¬ (ns.getD i 0).fdiv 3 < 0) : lrow ns r (i + 1) = lrow ns r i ++ [((ns.getD i 0).fdiv 3).fmod 4] := by
  rw [lrow_succ r hi, if_pos h]; unfold letter; rw [if_neg hn]
local macro_rules | `(tactic| walk_at "mine len") => `(tactic| exact lrow_100 (by assumption))
theorem permR {h₀ h : Heap} {L : Addr} {d r a b c : Addr × Obj} (N : News h₀ L h [d, r, a, b, c]) : News h₀ L h ([a, b, c] ++ [d, r]) := fun p hp => N p (by
  simp only [List.cons_append, List.nil_append, List.mem_cons, List.not_mem_nil, or_false] at hp ⊢
  rcases hp with h | h | h | h | h <;> simp [h])
local macro_rules | `(tactic| walk_at "exec For Tuple Tuple cons nil") => `(tactic| ((with_reducible rename HM => hm9); (with_reducible show wpAny _ _ (exec (Stmt.For _ _ _ _ _) _) _ _ _); refine halt_in ?_))
local macro_rules | `(tactic| walk_at "compareOp Eq ref ref") => `(tactic| (k_here; (with_reducible show wpAny _ _ (compareOp CmpOp.Eq (Value.ref _) (Value.ref _)) _ _ _); k_dflt (refine' eq_tupN ?N ?ha ?hb ?hi ?hj ?hu ?_; (case N => k_asm); (case ha => k_mem); (case hb => k_mem); (case hi => assumption); (case hj => assumption); (case hu => first | walk_at "mine units" | ktr_units); k_whole); walk_at "mine eq"))
local macro_rules | `(tactic| walk_at "mine row") => `(tactic| exact far_len (by assumption))
local macro_rules | `(tactic| walk_at "mine len") => `(tactic| assumption)
local macro_rules | `(tactic| walk_at "mine small") => `(tactic| (rw [IntsAre.length (by assumption)]; omega))
local macro_rules | `(tactic| k_all) => `(tactic| exact (apart2 (by assumption)).1)
local macro_rules | `(tactic| k_all) => `(tactic| exact (apart2 (by assumption)).2)
local macro_rules | `(tactic| walk_at "call builtin:max") => `(tactic| (k_here; (with_reducible show wpAny _ _ (call (Value.builtin _) [Value.ref _]) _ _ _); k_dflt (refine' kso_max ?k1 ?k2 ?k3 ?k4 ?k5 ?k6 ?_; (case k1 => k_asm); (case k2 => k_asm); (case k3 => exact kso_isList (by k_asm) (by k_mem) rfl); (case k4 => exact .cons _ _ (.cons _ _ (.cons _ _ .nil))); (case k5 => exact Nat.zero_lt_succ _); (case k6 => exact rfl); k_whole); intro h' M' t' k' F' N' a' b'; (simp only [List.mem_cons, List.not_mem_nil, or_false, forall_eq_or_imp, forall_eq] at a' b')))
local macro_rules | `(tactic| walk_at "call builtin:sum") => `(tactic| (k_here; (with_reducible show wpAny _ _ (call (Value.builtin "sum") [Value.ref _]) _ _ _); k_dflt (refine' sumK ?k0 ?k1 ?k2 ?k3 ?k4 ?_; (case k0 => exact rfl); (case k1 => k_asm); (case k2 => k_asm); (case k3 => exact kso_isList (by k_asm) (by k_mem) rfl); (case k4 => exact .cons _ _ (.cons _ _ (.cons _ _ .nil))); k_whole); intro h' tk' t' F' N'; (simp only [List.sum_cons, List.sum_nil])))
local macro_rules | `(tactic| walk_at "binaryOp Add ref ref") => `(tactic| (k_here; (with_reducible show wpAny _ _ (binaryOp _ (Value.ref _) (Value.ref _)) _ _ _); k_dflt (refine' add_tupN ?F ?N ?a ?b ?i ?j ?la ?lb ?_; (case F => k_asm); (case N => k_asm); (case a => k_mem); (case b => k_mem); (case i => assumption); (case j => assumption); (case la => walk_at "mine row"); (case lb => walk_at "mine row"); k_whole); intro D' vs' n' h' F' N' i'))
local macro_rules | `(tactic| walk_at "subscriptTail Name Slice ref ref") => `(tactic| (k_here; (with_reducible show wpAny _ _ (subscriptTail _ (PySem.Expr.Slice none none (some _) _) (Value.ref _) (Value.ref _)) _ _ _); k_dflt (refine' rev_tupN ?F ?N ?a ?i ?l ?_ ?s ?t; (case F => k_asm); (case N => k_asm); (case a => k_mem); (case i => assumption); (case l => walk_at "mine row"); (case s => with_unfolding_all rfl); (case t => intro _; with_unfolding_all rfl)); intro D' ws' h' F' N' hI'))
local macro_rules | `(tactic| walk_at "mine row") => `(tactic| exact lrow_len (by assumption))
local macro_rules | `(tactic| walk_at "mine len") => `(tactic| (simp only [List.length_append, List.length_reverse]; omega))
local macro_rules | `(tactic| walk_at "call ref") => `(tactic| (k_here; (with_reducible show wpAny _ _ (call (Value.ref 65) _) _ _ _); k_dflt (refine' ctrH_use (dist_H _ _ _ _ _ _ _ _ _ _ ?hx ?hy ?zx ?zy _ _ _ _ _ _ _) ?k1 ?k2 ?k3 ?k4 ?k5 ?kK ?kd ?ku ?kg ?kt ?kl ?kp ?_; (case k4 => first | k_asm | exact front1 (by k_asm) | exact front2 (by k_asm) | exact front3 (by k_asm) | exact front4 (by k_asm)); (case kp => exact ⟨by k_mem, by k_mem, by k_mem, by k_mem⟩); (case k1 => k_asm); (case k2 => k_asm); (case k3 => k_asm); (case k5 => k_asm); (case kK => first | exact rfl | assumption); (case kd => first | walk_at "mine room" | ktr_room); (case ku => first | walk_at "mine units" | ktr_units); (case kg => assumption); (case kt => assumption); (case kl => repeat (first | exact (apart2 (by assumption)).2 | (refine List.forall_mem_cons.mpr ⟨?_, ?_⟩; k_ne))); (case hx => k_asm); (case hy => k_asm); (case zx => walk_at "mine len"); (case zy => walk_at "mine len"); k_whole; intro v9 h9 tk9 gs9 ps9 F9 N9 G9 T9 r9; obtain ⟨t9, e9⟩ := r9; rw [dH_eq] at e9; subst e9; (try dsimp only); (try k_fold))))
local macro_rules | `(tactic| walk_at "mine eq") => `(tactic| ((rename Metric _ => hM9); rw [eq_bools hM9]))
theorem law_walk : PySem.Challenge.rw_br0040_01.Holds := hd (by
  k_fill
  intro w s₀ s₁ mg mb G Y fa o pm cd doc dV kV ho hd hcd hD hmg hg args vals as hpre hlay hrd hwl hlo
  have KX := km_in_of Y
  have hT8 := km_tabs_of Y
  have X := (Ground.X G).1
  have V := (Ground.X G).2
  refine Ground.open G ?_
  intro T B D TE TW
  try (refine guard_noD D (by decide +kernel) ?_; clear D)
  have hT9 : TabsAt [(169, 167)] s₁.heap := List.forall_mem_cons.mpr ⟨⟨codeHd_of_K (c := 169) (P := 167) KX (by kernel_rfl), hT8 167 (List.Mem.head _)⟩, fun _ h => nomatch h⟩
  clear hmg
  wrow_args hpre hlay hrd hwl hlo
  all_goals (
    first | refine callC_kw (enter_call ?_) | refine enter_call ?_
    w_top on
    w_call any ho hd hcd hD T F
    clear hd
    rename News _ _ _ _ => N
    have l0 := ghost_lt hT9 F
    have X' := ghost_K hT9 KX (by kernel_rfl)
    have T' := ghost_top hT9 T
    have K' := ghost_below hT9
    have N' := ghost_news hT9 F N
    have F' := ghost_fr hT9 F
    kn_lists hT9
    simp only [tabNews, List.map_cons, List.map_nil, List.nil_append, List.cons_append] at N'
    simp only [tabNews, List.map_cons, List.map_nil] at l0
    k_lt l0
    clear N F KX
    k_drop)
  have hAB := AllBare.of_eq hg
  refine wpAny_mono (Q := LawQ (ghostOf s₁.heap [(169, 167)]) s₁.heap.objs.size s₁) (E := fun _ _ => False) ?_ (fun fl s2 h2 => ?_) (fun _ _ h => h.elim)
  rotate_left
  · obtain ⟨m2, rfl, F2, g2, b2, o2⟩ := h2
    exact law_end hT9 F2 g2 b2 o2 (fun _ => rfl) (by first | rfl | exact postW_of (by wrow_shape) (by wtm_val) (by str_meet; first | done | w_fin))
  generalize hGH : ghostOf s₁.heap [(169, 167)] = g₀ at *
  clear hT8 hT9 hGH TW
  (all_goals try k_fold)
  walk1
  walk1
  walk1
  (rename Fr _ _ _ _ => lF'); (rename News _ _ _ _ => lN')
  refine cut_intN (fun p => 0 ≤ p ∧ p < 3) lF' lN' ?_ ?_
  · k_steps
    all_goals k_asm
  clear lF' lN'
  intro pick tp h1 tk1 hpick F1 N1
  (try dsimp only); (try k_fold)
  k_steps
  all_goals (refine halt_out ?_)
  (rename Fr _ _ _ _ => lF')
  k_dflt (refine' For_halt lF' ?k1 ?k2 ?_)
  (case k1 => exact rfl); (case k2 => exact rfl)
  (rename News _ _ _ _ => lN')
  refine cut_list (fun ns => ns.length ≤ 9) lF' lN' ?_ ?_
  · k_steps
    · (rename Fr _ _ _ _ => gF'); (rename News _ _ _ _ => gN')
      rename IntsAre _ (List.take _ _) => gI'
      refine MetL.intro gF' gN' gI' (by show List.length _ ≤ 9; omega) ?_
      intro p hp
      simp only [List.mem_cons, List.not_mem_nil, or_false] at hp
      rcases hp with rfl | rfl | rfl | rfl | rfl <;> (refine ltN ?_; dsimp only; omega)
    · (rename Fr _ _ _ _ => gF'); (rename News _ _ _ _ => gN')
      refine MetL.intro gF' (take2' gN') (.cons _ _ (.cons _ _ (.cons _ _ (.cons _ _ (.cons _ _ (.cons _ _ (.cons _ _ .nil))))))) (by show List.length _ ≤ 9; decide) ?_
      intro p hp
      simp only [List.mem_cons, List.not_mem_nil, or_false] at hp
      rcases hp with rfl | rfl | rfl | rfl | rfl <;> (refine ltN ?_; dsimp only; omega)
  intro D vs ns c h2 tk2 hns hlen F2 N2 hD
  clear lF' lN'
  (try dsimp only); (try k_fold)
  refine halt_out ?_
  have N3 := permR6 N2
  k_dflt (refine list_inv (lawJ pick _ _ _ _ ns) rfl F2 N3 (List.Mem.head _) hns ?ap ⟨[kk "pick" _, kk "rows" _], by with_unfolding_all exact ⟨rfl, rfl, trivial⟩, ⟨_, _, _, _, _, _, _, rfl, rfl, .nil, .nil, .nil⟩⟩ ?turn ?done)
  (case ap =>
    have hD' : @LT.lt Nat _ _ D ∧ @LT.lt Nat _ _ D ∧ @LT.lt Nat _ _ D ∧ @LT.lt Nat _ _ D := ⟨hD _ (List.Mem.head _), hD _ (List.Mem.tail _ (List.Mem.head _)), hD _ (List.Mem.tail _ (List.Mem.tail _ (List.Mem.head _))), hD _ (List.Mem.tail _ (List.Mem.tail _ (List.Mem.tail _ (List.Mem.head _))))⟩
    dsimp only at hD'
    intro c hc q hq
    simp only [List.mem_cons, List.not_mem_nil, or_false] at hc hq
    rcases hc with rfl | rfl | rfl <;> rcases hq with rfl | rfl | rfl <;> (refine neN ?_; dsimp only; omega))
  (case turn =>
    intro i ti m₁ kvs C h3 tk3 rest hi hJ hsub hApt F₃ N₃
    obtain ⟨va, vb, vc, ca, cb, cc, tp, rfl, rfl, ha, hb, hc⟩ := hJ
    have r1 := hsub _ (List.Mem.head _); have r2 := hsub _ (List.Mem.tail _ (List.Mem.head _))
    simp only [List.cons_append, List.nil_append] at N₃
    clear N2 N3 hD
    k_steps
    all_goals (rename Fr _ _ _ _ => lF')
    all_goals (rename News _ _ _ _ => lN')
    all_goals (refine TurnC.done [(_, _), (_, _), (_, _)] [kk "pick" _, kk "rows" _] lF' lN' (fun _ h => h) (apart3 (apart3a hApt) (apart3b hApt) (apart3c hApt)) (by with_unfolding_all exact ⟨rfl, rfl, trivial⟩) ⟨_, _, _, _, _, _, _, rfl, rfl, ?_, ?_, ?_⟩)
    all_goals first
      | (rw [lrow_miss hi (by omega)]; assumption)
      | (rw [lrow_neg hi (by assumption) (by assumption)]; assumption)
      | (rw [lrow_pos hi (by assumption) (by omega)]; assumption))
  (case done =>
    intro m₁ kvs C h3 tk3 hJ hApt F₃ N₃
    obtain ⟨va, vb, vc, ca, cb, cc, tp, rfl, rfl, ha, hb, hc⟩ := hJ
    simp only [List.cons_append, List.nil_append] at N₃
    clear N2 N3 hD
    have hm := HM.mk
    k_steps
    all_goals (refine halt_out ?_)
    all_goals (with_reducible rename HM => hm9; clear hm9)
    all_goals (refine For_pairs ?_ (fun _ => rfl))
    all_goals k_steps
    all_goals (refine halt_out ?_)
    · have hM := metL.toMetric
      (rename IntsAre _ (lrow _ 0 _) => ha); (rename IntsAre _ (lrow _ 1 _) => hb); (rename IntsAre _ (lrow _ 2 _) => hc)
      rename @List.length Int _ ≤ 9 => hlen
      (rename Fr _ _ _ _ => lF'); (rename News _ _ _ _ => lN')
      have N4 := permLoop lN'
      rename List Int => ns
      have hL : ∀ r, (lrow ns r ns.length).length ≤ 100 := fun r => lrow_100 hlen
      k_dflt (refine pairs_loop (farJ _ _ _ _ _ _ _ (threeD dLraw (lrow ns 0 ns.length) (lrow ns 1 ns.length) (lrow ns 2 ns.length))) rfl lF' N4 (List.Mem.head _) ?ap ⟨[kk "pick" _, kk "a" _, kk "b" _, kk "c" _, kk "measure" _, kk "far" _], by with_unfolding_all exact ⟨rfl, rfl, rfl, rfl, rfl, rfl, trivial⟩, ⟨[], _, #[], by assumption, trivial, rfl, rfl, .nil⟩⟩ ?turn ?done)
      (case ap =>
        clear lF' N4 lN'
        intro c hc q hq
        simp only [List.mem_cons, List.not_mem_nil, or_false] at hc hq
        rcases hc with rfl | rfl <;> rcases hq with rfl | rfl | rfl | rfl | rfl | rfl | rfl | rfl | rfl <;> (refine neN ?_; dsimp only; omega))
      (case turn =>
        intro i Dv m₁ kvs C h3 tk3 gs rest hi hD hJ hsub hApt F₃ N₃
        obtain ⟨vs, cc, ps, hgs, hps, rfl, rfl, hvs⟩ := hJ
        obtain ⟨hi3, Dp, P, R, vx, vy, X, Y, rfl, q1, q2, q3, hX, hY, lX, lY, hdi⟩ := pair_at (Dist := dLraw) hsub (by k_mem) (by k_mem) (by k_mem) (by k_mem) (by k_mem) (by k_mem) ha hb hc (hL 0) (hL 1) (hL 2) hi hD
        have q4 := hsub _ (List.Mem.tail _ (List.Mem.tail _ (List.Mem.tail _ (List.Mem.tail _ (List.Mem.head _)))))
        have q5 := hsub _ (List.Mem.tail _ (List.Mem.tail _ (List.Mem.tail _ (List.Mem.tail _ (List.Mem.tail _ (List.Mem.head _))))))
        simp only [List.cons_append, List.nil_append] at N₃
        have pXY := pair_facts metL.toMetric X Y
        clear lF' N4 lN' hsub hD ha hb hc
        k_steps
        all_goals (first | (exfalso; omega) | exact (no_way (by assumption)).elim | skip)
        (rename Fr _ _ _ _ => lF'); (rename News _ _ _ _ => lN'); (rename IntsAre _ (_ ++ _) => hI')
        refine TurnG.done [(_, _), (167, _)] [kk "pick" _, kk "a" _, kk "b" _, kk "c" _, kk "measure" _, kk "far" _] lF' lN' (fun _ h => h) (apartAs hApt) (by with_unfolding_all exact ⟨rfl, rfl, rfl, rfl, rfl, rfl, trivial⟩) ⟨_, _, ps, by assumption, hps, rfl, rfl, far_snoc hI' hdi⟩)
      (case done =>
        intro m₁ kvs C h3 tk3 gs hJ hApt F₃ N₃
        obtain ⟨vs, cc, ps, hgs, hps, rfl, rfl, hvs⟩ := hJ
        obtain ⟨t1, t2, t3, rfl⟩ := far_three hvs
        simp only [List.cons_append, List.nil_append] at N₃
        clear lF' N4 lN'
        have pAB := pair_facts metL.toMetric (lrow ns 0 ns.length) (lrow ns 1 ns.length)
        have pBC := pair_facts metL.toMetric (lrow ns 1 ns.length) (lrow ns 2 ns.length)
        have pCA := pair_facts metL.toMetric (lrow ns 2 ns.length) (lrow ns 0 ns.length)
        have l0 : (lrow ns 0 ns.length).length ≤ 9 := lrow_9 hlen
        have l1 : (lrow ns 1 ns.length).length ≤ 9 := lrow_9 hlen
        have l2 : (lrow ns 2 ns.length).length ≤ 9 := lrow_9 hlen
        have tABC := tri_facts metL.toMetric (lrow ns 0 ns.length) (lrow ns 1 ns.length) (lrow ns 2 ns.length)
        have fS := metL.suf (lrow ns 0 ns.length) (lrow ns 1 ns.length) (lrow ns 2 ns.length)
        have fR := metL.rev (lrow ns 0 ns.length) (lrow ns 1 ns.length)
        have fC := metL.cat (lrow ns 0 ns.length) (lrow ns 1 ns.length) (lrow ns 1 ns.length) (lrow ns 2 ns.length)
        · k_steps
          all_goals (try dsimp only)
          all_goals (first | (exfalso; omega) | skip)
          (rename Fr _ _ _ _ => lF'); (rename News _ _ _ _ => lN')
          exact LawQ.intro (decide_eq_true (by omega)) lF' lN' (by k_mem) (by assumption) rfl)
    · have hM := metD.toMetric
      (rename IntsAre _ (lrow _ 0 _) => ha); (rename IntsAre _ (lrow _ 1 _) => hb); (rename IntsAre _ (lrow _ 2 _) => hc)
      rename @List.length Int _ ≤ 9 => hlen
      (rename Fr _ _ _ _ => lF'); (rename News _ _ _ _ => lN')
      have N4 := permLoop lN'
      rename List Int => ns
      have hL : ∀ r, (lrow ns r ns.length).length ≤ 100 := fun r => lrow_100 hlen
      k_dflt (refine pairs_loop (farJ _ _ _ _ _ _ _ (threeD dDraw (lrow ns 0 ns.length) (lrow ns 1 ns.length) (lrow ns 2 ns.length))) rfl lF' N4 (List.Mem.head _) ?ap ⟨[kk "pick" _, kk "a" _, kk "b" _, kk "c" _, kk "measure" _, kk "far" _], by with_unfolding_all exact ⟨rfl, rfl, rfl, rfl, rfl, rfl, trivial⟩, ⟨[], _, #[], by assumption, trivial, rfl, rfl, .nil⟩⟩ ?turn ?done)
      (case ap =>
        clear lF' N4 lN'
        intro c hc q hq
        simp only [List.mem_cons, List.not_mem_nil, or_false] at hc hq
        rcases hc with rfl | rfl <;> rcases hq with rfl | rfl | rfl | rfl | rfl | rfl | rfl | rfl | rfl <;> (refine neN ?_; dsimp only; omega))
      (case turn =>
        intro i Dv m₁ kvs C h3 tk3 gs rest hi hD hJ hsub hApt F₃ N₃
        obtain ⟨vs, cc, ps, hgs, hps, rfl, rfl, hvs⟩ := hJ
        obtain ⟨hi3, Dp, P, R, vx, vy, X, Y, rfl, q1, q2, q3, hX, hY, lX, lY, hdi⟩ := pair_at (Dist := dDraw) hsub (by k_mem) (by k_mem) (by k_mem) (by k_mem) (by k_mem) (by k_mem) ha hb hc (hL 0) (hL 1) (hL 2) hi hD
        have q4 := hsub _ (List.Mem.tail _ (List.Mem.tail _ (List.Mem.tail _ (List.Mem.tail _ (List.Mem.head _)))))
        have q5 := hsub _ (List.Mem.tail _ (List.Mem.tail _ (List.Mem.tail _ (List.Mem.tail _ (List.Mem.tail _ (List.Mem.head _))))))
        simp only [List.cons_append, List.nil_append] at N₃
        have pXY := pair_facts metD.toMetric X Y
        clear lF' N4 lN' hsub hD ha hb hc
        k_steps
        all_goals (first | (exfalso; omega) | exact (no_way (by assumption)).elim | skip)
        (rename Fr _ _ _ _ => lF'); (rename News _ _ _ _ => lN'); (rename IntsAre _ (_ ++ _) => hI')
        refine TurnG.done [(_, _), (167, _)] [kk "pick" _, kk "a" _, kk "b" _, kk "c" _, kk "measure" _, kk "far" _] lF' lN' (fun _ h => h) (apartAs hApt) (by with_unfolding_all exact ⟨rfl, rfl, rfl, rfl, rfl, rfl, trivial⟩) ⟨_, _, ps, by assumption, hps, rfl, rfl, far_snoc hI' hdi⟩)
      (case done =>
        intro m₁ kvs C h3 tk3 gs hJ hApt F₃ N₃
        obtain ⟨vs, cc, ps, hgs, hps, rfl, rfl, hvs⟩ := hJ
        obtain ⟨t1, t2, t3, rfl⟩ := far_three hvs
        simp only [List.cons_append, List.nil_append] at N₃
        clear lF' N4 lN'
        have pAB := pair_facts metD.toMetric (lrow ns 0 ns.length) (lrow ns 1 ns.length)
        have pBC := pair_facts metD.toMetric (lrow ns 1 ns.length) (lrow ns 2 ns.length)
        have pCA := pair_facts metD.toMetric (lrow ns 2 ns.length) (lrow ns 0 ns.length)
        have l0 : (lrow ns 0 ns.length).length ≤ 9 := lrow_9 hlen
        have l1 : (lrow ns 1 ns.length).length ≤ 9 := lrow_9 hlen
        have l2 : (lrow ns 2 ns.length).length ≤ 9 := lrow_9 hlen
        have tABC := tri_facts metD.toMetric (lrow ns 0 ns.length) (lrow ns 1 ns.length) (lrow ns 2 ns.length)
        have fS := metD.suf (lrow ns 0 ns.length) (lrow ns 1 ns.length) (lrow ns 2 ns.length)
        have fR := metD.rev (lrow ns 0 ns.length) (lrow ns 1 ns.length)
        have fC := metD.cat (lrow ns 0 ns.length) (lrow ns 1 ns.length) (lrow ns 1 ns.length) (lrow ns 2 ns.length)
        · k_steps
          all_goals (try dsimp only)
          all_goals (first | (exfalso; omega) | skip)
          (rename Fr _ _ _ _ => lF'); (rename News _ _ _ _ => lN')
          exact LawQ.intro (decide_eq_true (by omega)) lF' lN' (by k_mem) (by assumption) rfl)
    · have hM := metH
      (rename IntsAre _ (lrow _ 0 _) => ha); (rename IntsAre _ (lrow _ 1 _) => hb); (rename IntsAre _ (lrow _ 2 _) => hc)
      rename @List.length Int _ ≤ 9 => hlen
      (rename Fr _ _ _ _ => lF'); (rename News _ _ _ _ => lN')
      have N4 := permLoop lN'
      rename List Int => ns
      have hL : ∀ r, (lrow ns r ns.length).length ≤ 100 := fun r => lrow_100 hlen
      k_dflt (refine pairs_loop (farJ _ _ _ _ _ _ _ (threeD dHraw (lrow ns 0 ns.length) (lrow ns 1 ns.length) (lrow ns 2 ns.length))) rfl lF' N4 (List.Mem.head _) ?ap ⟨[kk "pick" _, kk "a" _, kk "b" _, kk "c" _, kk "measure" _, kk "far" _], by with_unfolding_all exact ⟨rfl, rfl, rfl, rfl, rfl, rfl, trivial⟩, ⟨[], _, #[], by assumption, trivial, rfl, rfl, .nil⟩⟩ ?turn ?done)
      (case ap =>
        clear lF' N4 lN'
        intro c hc q hq
        simp only [List.mem_cons, List.not_mem_nil, or_false] at hc hq
        rcases hc with rfl | rfl <;> rcases hq with rfl | rfl | rfl | rfl | rfl | rfl | rfl | rfl | rfl <;> (refine neN ?_; dsimp only; omega))
      (case turn =>
        intro i Dv m₁ kvs C h3 tk3 gs rest hi hD hJ hsub hApt F₃ N₃
        obtain ⟨vs, cc, ps, hgs, hps, rfl, rfl, hvs⟩ := hJ
        obtain ⟨hi3, Dp, P, R, vx, vy, X, Y, rfl, q1, q2, q3, hX, hY, lX, lY, hdi⟩ := pair_at (Dist := dHraw) hsub (by k_mem) (by k_mem) (by k_mem) (by k_mem) (by k_mem) (by k_mem) ha hb hc (hL 0) (hL 1) (hL 2) hi hD
        have q4 := hsub _ (List.Mem.tail _ (List.Mem.tail _ (List.Mem.tail _ (List.Mem.tail _ (List.Mem.head _)))))
        have q5 := hsub _ (List.Mem.tail _ (List.Mem.tail _ (List.Mem.tail _ (List.Mem.tail _ (List.Mem.tail _ (List.Mem.head _))))))
        simp only [List.cons_append, List.nil_append] at N₃
        have pXY := pair_facts metH X Y
        clear lF' N4 lN' hsub hD ha hb hc
        k_steps
        all_goals (first | (exfalso; omega) | exact (no_way (by assumption)).elim | skip)
        (rename Fr _ _ _ _ => lF'); (rename News _ _ _ _ => lN'); (rename IntsAre _ (_ ++ _) => hI'); (rename TriplesOk _ => hps')
        refine TurnG.done [(_, _), (167, _)] [kk "pick" _, kk "a" _, kk "b" _, kk "c" _, kk "measure" _, kk "far" _] lF' (front1 lN') (fun _ h => h) (apartAs hApt) (by with_unfolding_all exact ⟨rfl, rfl, rfl, rfl, rfl, rfl, trivial⟩) ⟨_, _, _, by assumption, hps', rfl, rfl, far_snoc hI' hdi⟩)
      (case done =>
        intro m₁ kvs C h3 tk3 gs hJ hApt F₃ N₃
        obtain ⟨vs, cc, ps, hgs, hps, rfl, rfl, hvs⟩ := hJ
        obtain ⟨t1, t2, t3, rfl⟩ := far_three hvs
        simp only [List.cons_append, List.nil_append] at N₃
        clear lF' N4 lN'
        have pAB := pair_facts metH (lrow ns 0 ns.length) (lrow ns 1 ns.length)
        have pBC := pair_facts metH (lrow ns 1 ns.length) (lrow ns 2 ns.length)
        have pCA := pair_facts metH (lrow ns 2 ns.length) (lrow ns 0 ns.length)
        have l0 : (lrow ns 0 ns.length).length ≤ 9 := lrow_9 hlen
        have l1 : (lrow ns 1 ns.length).length ≤ 9 := lrow_9 hlen
        have l2 : (lrow ns 2 ns.length).length ≤ 9 := lrow_9 hlen
        have tABC := tri_facts metH (lrow ns 0 ns.length) (lrow ns 1 ns.length) (lrow ns 2 ns.length)
        · k_steps
          all_goals (try dsimp only)
          all_goals (first | (exfalso; omega) | skip)
          (rename Fr _ _ _ _ => lF'); (rename News _ _ _ _ => lN')
          exact LawQ.intro rfl lF' lN' (by k_mem) (by assumption) rfl)))
end Mine
theorem PySem.Challenge.cw_br0040_01_holds : PySem.Challenge.rw_br0040_01.Holds := by
  exact Mine.law_walk
