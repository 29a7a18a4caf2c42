import PyProof.Rows.All
import Wide.All
import OpenK.AllK
import Wide.FinOn
import PySem.Challenge.RW_pe0181_01
section
open PySem PySem.W PyProof.Rows
set_option Elab.async false
set_option maxRecDepth 100000
set_option maxHeartbeats 8000000
namespace Mine
section
set_option hygiene false in
local macro_rules | `(tactic| o_head $_) => `(tactic| refine (fun (_ : True) h => h) ?hw ?hc)
local macro_rules | `(tactic| w_witness2) => `(tactic| exact trivial)
open_top hd for PySem.Challenge.rw_pe0181_01.row
end
end Mine
end
section
open PySem PySem.W PyProof.Rows
set_option Elab.async false
set_option maxRecDepth 100000
set_option maxHeartbeats 8000000
namespace Mine
def vw : Program := view PySem.Challenge.pw_pe0181_01 [14]
def lo : List Str := [Str.ofString "_wall", Str.ofString "NL", Str.ofString "EMPTYSTRING", Str.ofString "_ValueFormatter", Str.ofString "_Accumulator", Str.ofString "Error", Str.ofString "error_reply", Str.ofString "parse257", Str.ofString "_law_pieces", Str.ofString "_law_rows", Str.ofString "_law_read"]
def tabO : Obj := { cls := .none, data := .fields #[] }
noncomputable def K2 (P : Params) : Frag := Mine.hd.heap_1 P ++ [(140, tabO), (147, tabO)]
noncomputable def HK : Hook := kHook K2 ([2, 3, 15, 17, 18, 20, 21, 29, 31, 32, 34, 35, 36, 38, 39, 41, 42, 43, 45, 46, 48, 49, 50, 52, 53, 55, 56, 57, 59, 60, 62, 63, 64, 66, 67, 69, 70, 71, 73, 74, 76, 77, 78, 80, 81, 83, 84, 85, 87, 88, 90, 91, 92, 93, 94, 95, 96, 99, 102, 107, 108, 109, 111, 112, 114, 115, 116, 118, 119, 121, 122, 123, 124, 126, 127, 129, 130, 131, 132, 134, 135, 137, 138, 139, 141, 142, 144, 145, 146, 148, 149, 151, 152, 153, 154, 156, 157, 159, 160, 161, 163, 164, 166, 167, 168, 169, 171, 172, 174, 175, 176, 177, 178, 179, 180, 183, 190, 191, 192, 193, 196, 203, 204, 205, 208, 210, 211, 213, 214, 215, 217, 218, 220, 221, 222, 225, 226, 227, 229, 230, 232, 233, 234, 237, 238, 140, 147] : List Nat) (fun _ => by kernel_rfl)
abbrev pw := PySem.Challenge.pw_pe0181_01
theorem fence_id (s : Shared) : fenceModules? pw s = some s := by kernel_rfl
theorem opening_is : opening pw = plainProg pw.main.scope.names := by kernel_rfl
theorem open_ : ∀ w : World, (fencedOpening treeTable pw w 3390).map (fun s => (s.heap, s.gens, s.drawn, s.toks)) = some (boot_heap w.params, Array.mk [], boot_drawn, boot_toks) :=
  boot_open opening_is (by decide) fence_id
/-- the top's run over a tree of objects -/
def topT (ok : Thread → Bool) (st : SharedT → Thread → Option (SharedT × Thread)) : Nat → SharedT → Thread → Option SharedT
  | 0, _, _ => none
  | n + 1, s, t => match through t with
    | true => some s
    | false => match ok t with
      | false => none
      | true => match st s t with
        | some (s', t') => topT ok st n s' t'
        | none => none
theorem topT_of {tb : String → Option Builtin} {p : Program} {w : World} {n₀ : Nat} {ann : Option Value} : ∀ {n : Nat} {s s' : SharedT} {t : Thread}, topT (stepOk n₀ ann) (stepT (denote tb) p w) n s t = some s' → topRun tb p w n₀ ann n s.abs t = some s'.abs
  | 0, _, _, _, h => by cases h
  | n + 1, s, s', t, h => by
    unfold topT at h
    unfold topRun
    cases ht : through t with
    | true => rw [ht] at h; cases h; rfl
    | false =>
      rw [ht] at h
      cases hk : stepOk n₀ ann t with
      | false => rw [hk] at h; cases h
      | true =>
        rw [hk] at h
        cases hs : stepT (denote tb) p w s t with
        | none => rw [hs] at h; cases h
        | some r => obtain ⟨s₂, t₂⟩ := r; rw [hs] at h; rw [stepT_spec hs]; exact topT_of h
def plant : List Obj → Nat → BT → BT
  | [], _, t => t
  | o :: r, i, t => plant r (i + 1) (t.ins i o)
noncomputable def S0T (w : World) (os : OsState) : SharedT := ⟨plant (boot_heap w.params).objs.toList 0 .nil, 11, (boot_heap w.params).life, Array.mk [], boot_drawn, boot_toks, os⟩
theorem S0T_abs (w : World) (os : OsState) : (S0T w os).abs = ⟨boot_heap w.params, Array.mk [], boot_drawn, boot_toks, os⟩ := by kernel_rfl
/-- the library's quick twins of stepOk, stepT, denote, the table -/
noncomputable abbrev okQ : type_of% @stepOk := by first | exact @PySem.W.Fast.tw6613529449190102663 | exact @stepOk
noncomputable abbrev stQ : type_of% @stepT := by first | exact @PySem.W.Fast.tw10156331382660048174 | exact @stepT
noncomputable abbrev denQ : type_of% @denote := by first | exact @PySem.W.Fast.tw11892475500146522536 | exact @denote
noncomputable abbrev tabQ : type_of% @treeTable := by first | exact @PySem.W.Fast.tw14364793385576792824 | exact @treeTable
theorem okQ_eq : @stepOk = @okQ := by first | exact PySem.W.Fast.te6613529449190102663 | rfl
theorem stQ_eq : @stepT = @stQ := by first | exact PySem.W.Fast.te10156331382660048174 | rfl
theorem denQ_eq : @denote = @denQ := by first | exact PySem.W.Fast.te11892475500146522536 | rfl
theorem tabQ_eq : @treeTable = @tabQ := by first | exact PySem.W.Fast.te14364793385576792824 | rfl
noncomputable abbrev seenQ : type_of% @openSeen := by first | exact @PySem.W.Fast.tw4187177175401517315 | exact @openSeen
theorem seenQ_eq : @openSeen = @seenQ := by first | exact PySem.W.Fast.te4187177175401517315 | rfl
theorem left_T {p q : Program} {loose : List Str} {Xt : Shared → Bool} {α : Type} {Yf : Shared → α} {Ya : World → α} {N : Nat} {g0 : Bool} {H₀ : Params → Heap} {gs₀ : Array GenState} {d₀ : Drawn} {k₀ : Nat} {m₀ : Nat} {ann : Option Value} {S0 : World → OsState → SharedT}
    (op : ∀ w : World, (fencedOpening treeTable p w N).map (fun s => (s.heap, s.gens, s.drawn, s.toks)) = some (H₀ w.params, gs₀, d₀, k₀))
    (ab : ∀ (w : World) (os : OsState), (S0 w os).abs = ⟨H₀ w.params, gs₀, d₀, k₀, os⟩)
    (size : ∀ w : World, ((H₀ w.params).isNs mainGlobals && gs₀.size == 0, (H₀ w.params).objs.size, (H₀ w.params).nsMap mainGlobals "__annotations__") = (true, m₀, ann))
    (run : ∀ (w : World) (os : OsState), (topT (okQ m₀ ann) (stQ (denQ tabQ) p w) N (S0 w os) (topStub p)).map (fun S => (staticsOk (importedModules p.main.body) (H₀ w.params) S.abs.heap && namesBound p S.abs.heap && gensDone S.abs && laidKept (H₀ w.params) S.abs.heap,
        seenQ q loose (importedModules p.main.body) Xt g0 S.abs, Yf S.abs)) = some (true, openGood q loose, Ya w)) : LeftO p q loose Xt Yf Ya N g0 := fun w => by
  obtain ⟨⟨h, gs, d, k, os⟩, e, e'⟩ := Option.map_eq_some_iff.mp (op w)
  obtain ⟨rfl, rfl, rfl, rfl⟩ : h = H₀ w.params ∧ gs = gs₀ ∧ d = d₀ ∧ k = k₀ := by simpa using e'
  obtain ⟨z1, z2, z3⟩ : _ ∧ _ ∧ _ := by simpa only [Prod.mk.injEq] using size w
  have run := run w os
  rw [← okQ_eq, ← stQ_eq, ← denQ_eq, ← tabQ_eq, ← seenQ_eq] at run
  obtain ⟨S, eS, eL⟩ := Option.map_eq_some_iff.mp run
  obtain ⟨l1, l2, l3⟩ : _ ∧ _ ∧ _ := by simpa only [Prod.mk.injEq] using eL
  have r := topT_of eS
  rw [ab] at r
  have t : topFrom treeTable p w N ⟨H₀ w.params, gs, d, k, os⟩ = some S.abs := by
    unfold topFrom
    dsimp only
    rw [z1, z2, z3, r]
    show (match staticsOk (importedModules p.main.body) (H₀ w.params) S.abs.heap && namesBound p S.abs.heap && gensDone S.abs && laidKept (H₀ w.params) S.abs.heap with | true => _ | false => _) = _
    rw [l1]
  unfold openEnds
  rw [e]
  show (topFrom treeTable p w N _).map _ = _
  rw [t]
  exact congrArg some (Prod.ext l2 l3)
theorem size0 : ∀ w : World, ((boot_heap w.params).isNs mainGlobals && (Array.mk [] : Array GenState).size == 0, (boot_heap w.params).objs.size, (boot_heap w.params).nsMap mainGlobals "__annotations__") = (true, 11, some (.ref 6)) := fun w => by kernel_rfl
end Mine
end
section
open PySem PySem.W PyProof.Rows
set_option Elab.async false
set_option maxRecDepth 100000
set_option maxHeartbeats 400000
namespace Mine
theorem said : OpenLaw.wellSaid PySem.Challenge.rw_pe0181_01 = true := by
  delta OpenLaw.wellSaid OpenRow.wellSaid OpenRow.partSaid looksOpen
  repeat' with_reducible refine look_both ?_ ?_
  all_goals first
    | (rw [PySem.W.Fast.te8326940854005059898]; decide +kernel)
    | (rw [PySem.W.Fast.te17119622794617984870]; decide +kernel)
    | (rw [PySem.W.Fast.te8377067652309620493]; decide +kernel)
    | decide +kernel
end Mine
end
section
open PySem PySem.W PyProof.Rows
set_option Elab.async false
set_option maxRecDepth 100000
set_option maxHeartbeats 8000000
namespace Mine
theorem left : LeftO pw vw lo (fun s => xlAt Mine.vw [] s && recOk [] s) (Hook.obs HK) (Hook.val HK) 3390 :=
  left_T open_ S0T_abs size0 fun w os => by kernel_rfl
end Mine
end
section
open PySem PySem.W PyProof.Rows PySem.Calls PySem.Spec
set_option Elab.async false
set_option maxRecDepth 100000
set_option maxHeartbeats 4000000
namespace Mine
section
variable {M : Model} {A : Around} {E : Value → Shared → Prop} {s : Shared} {env : Env}
theorem p_eval {e : Expr} {Q : Value → Shared → Prop} (h : wpAny M A (eval e env) Q E s) : wpAny M A (eval e env) Q E s := h
theorem p_execs {l : List Stmt} {Q : Flow → Shared → Prop} (h : wpAny M A (execs l env) Q E s) : wpAny M A (execs l env) Q E s := h
theorem p_exec {c : Stmt} {Q : Flow → Shared → Prop} (h : wpAny M A (exec c env) Q E s) : wpAny M A (exec c env) Q E s := h
theorem p_isTrue {e : Expr} {x : Sem Value} {Q : Bool → Shared → Prop} (h : wpAny M A (isTrue e env x) Q E s) : wpAny M A (isTrue e env x) Q E s := h
theorem p_meth {o : Value} {name : Str} {p : Sem Bool} {Q : Value × List Value → Shared → Prop} (h : wpAny M A (getMethod o name p) Q E s) : wpAny M A (getMethod o name p) Q E s := h
theorem p_attr {o : Value} {name : Str} {x : Bool} {Q : Value → Shared → Prop} (h : wpAny M A (getAttr o name x) Q E s) : wpAny M A (getAttr o name x) Q E s := h
theorem p_cmp {op : CmpOp} {x y : Value} {Q : Value → Shared → Prop} (h : wpAny M A (compareOp op x y) Q E s) : wpAny M A (compareOp op x y) Q E s := h
theorem p_bin {op : Operator} {x y : Value} {Q : Value → Shared → Prop} (h : wpAny M A (binaryOp op x y) Q E s) : wpAny M A (binaryOp op x y) Q E s := h
theorem p_assign {t : Expr} {v : Value} {Q : Unit → Shared → Prop} (h : wpAny M A (assign t env v) Q E s) : wpAny M A (assign t env v) Q E s := h
end

/-! what is known between two steps -/
structure Rm (A : Around) (k : Nat) : Prop where
  hd : A.handled = none
  dp : A.depth + k < recursionLimit
  un : A.units + 20 * k < cLine
theorem Rm.le {A : Around} {k j : Nat} (R : Rm A k) (h : j ≤ k) : Rm A j := ⟨R.hd, by have := R.dp; omega, by have := R.un; omega⟩
theorem Rm.deeper {A : Around} {k : Nat} {env : Env} (R : Rm A (k + 1)) : Rm (A.deeper env) k :=
  ⟨R.hd, by show A.depth + 1 + k < _; have := R.dp; omega, by show A.units + 3 + 20 * k < _; have := R.un; omega⟩
theorem Rm.in1 {A : Around} {k : Nat} (R : Rm A (k + 1)) : Rm A.in1 k :=
  ⟨R.hd, by show A.depth + k < _; have := R.dp; omega, by show A.units + 1 + 20 * k < _; have := R.un; omega⟩
theorem Rm.room {A : Around} {k : Nat} (R : Rm A k) : A.depth < recursionLimit := by have := R.dp; omega
theorem Rm.units {A : Around} {k : Nat} (R : Rm A k) : A.units < cLine := by have := R.un; omega

structure At (b : Heap) (ω : OsState) (L : Addr) (m : Str → Option Value) (ns : List (Addr × Obj)) (s : Shared) : Prop where
  F : Fr b L s.heap m
  N : News b L s.heap ns
  D : (ns.map (·.1)).Nodup
  os : s.os = ω
  gens : AllBare s.gens
  tk : 0 < s.toks

/-- the entry at a turned from o to o' -/
inductive Put (a : Addr) (o o' : Obj) : List (Addr × Obj) → List (Addr × Obj) → Prop
  | head {r} : Put a o o' ((a, o) :: r) ((a, o') :: r)
  | tail {p r r'} : Put a o o' r r' → Put a o o' (p :: r) (p :: r')
theorem Put.keys {a : Addr} {o o' : Obj} {l l' : List (Addr × Obj)} (h : Put a o o' l l') : l'.map (·.1) = l.map (·.1) := by
  induction h with
  | head => rfl
  | tail _ ih => simp only [List.map_cons, ih]
theorem Put.mem {a : Addr} {o o' : Obj} {l l' : List (Addr × Obj)} (h : Put a o o' l l') : (a, o) ∈ l := by
  induction h with
  | head => exact .head _
  | tail _ ih => exact .tail _ ih
theorem Put.mem' {a : Addr} {o o' : Obj} {l l' : List (Addr × Obj)} (h : Put a o o' l l') : (a, o') ∈ l' := by
  induction h with
  | head => exact .head _
  | tail _ ih => exact .tail _ ih
theorem Put.back {a : Addr} {o o' : Obj} {l l' : List (Addr × Obj)} (h : Put a o o' l l') (hd : (l.map (·.1)).Nodup) : ∀ p ∈ l', p = (a, o') ∨ (p ∈ l ∧ p.1 ≠ a) := by
  induction h with
  | head =>
    intro p hp
    rcases List.mem_cons.mp hp with rfl | hp
    · exact .inl rfl
    · refine .inr ⟨.tail _ hp, fun e => ?_⟩
      rw [List.map_cons, List.nodup_cons] at hd
      have q := List.mem_map_of_mem (f := fun q : Addr × Obj => q.1) hp; rw [e] at q; exact hd.1 q
  | @tail q r r' h ih =>
    intro p hp
    rw [List.map_cons, List.nodup_cons] at hd
    rcases List.mem_cons.mp hp with rfl | hp
    · refine .inr ⟨.head _, fun e => hd.1 ?_⟩
      rw [e]; exact List.mem_map_of_mem h.mem
    · rcases ih hd.2 p hp with e | ⟨e, f⟩
      · exact .inl e
      · exact .inr ⟨.tail _ e, f⟩

/-- the same with the new object left open -/
inductive PutF (a : Addr) (o : Obj) : List (Addr × Obj) → (Obj → List (Addr × Obj)) → Prop
  | head {r} : PutF a o ((a, o) :: r) (fun o' => (a, o') :: r)
  | tail {p r g} : PutF a o r g → PutF a o (p :: r) (fun o' => p :: g o')
theorem PutF.put {a : Addr} {o : Obj} {l : List (Addr × Obj)} {g : Obj → List (Addr × Obj)} (h : PutF a o l g) (o' : Obj) : Put a o o' l (g o') := by
  induction h with
  | head => exact .head
  | tail _ ih => exact .tail ih
theorem PutF.mem {a : Addr} {o : Obj} {l : List (Addr × Obj)} {g : Obj → List (Addr × Obj)} (h : PutF a o l g) : (a, o) ∈ l := (h.put o).mem
/-- a later change at the same place -/
theorem PutF.again {a : Addr} {o o' : Obj} {l : List (Addr × Obj)} {g : Obj → List (Addr × Obj)} (h : PutF a o l g) : PutF a o' (g o') g := by
  induction h with
  | head => exact .head
  | tail _ ih => exact .tail ih

inductive Drop (L : Addr) (oL : Obj) : List (Addr × Obj) → List (Addr × Obj) → Prop
  | here {r r'} : r'.Sublist r → Drop L oL ((L, oL) :: r) r'
  | keep {p r r'} : Drop L oL r r' → Drop L oL (p :: r) (p :: r')
  | skip {p r r'} : Drop L oL r r' → Drop L oL (p :: r) r'
theorem Drop.sub {oL : Obj} {L : Addr} {l l' : List (Addr × Obj)} (h : Drop L oL l l') : l'.Sublist l := by
  induction h with
  | here hs => exact .cons _ hs
  | keep _ ih => exact .cons_cons _ ih
  | skip _ ih => exact .cons _ ih
theorem Drop.mem {oL : Obj} {L : Addr} {l l' : List (Addr × Obj)} (h : Drop L oL l l') : (L, oL) ∈ l := by
  induction h with
  | here => exact .head _
  | keep _ ih => exact .tail _ ih
  | skip _ ih => exact .tail _ ih
theorem Drop.ne {oL : Obj} {L : Addr} {l l' : List (Addr × Obj)} (h : Drop L oL l l') (hd : (l.map (·.1)).Nodup) : ∀ p ∈ l', p.1 ≠ L := by
  induction h with
  | here hs =>
    intro p hp e
    rw [List.map_cons, List.nodup_cons] at hd
    have q := List.mem_map_of_mem (f := fun q : Addr × Obj => q.1) (hs.subset hp); rw [e] at q; exact hd.1 q
  | @keep q r r' h ih =>
    rw [List.map_cons, List.nodup_cons] at hd
    intro p hp
    rcases List.mem_cons.mp hp with rfl | hp
    · exact fun e => hd.1 (e ▸ List.mem_map_of_mem (f := (·.1)) h.mem)
    · exact ih hd.2 p hp
  | skip h ih =>
    rw [List.map_cons, List.nodup_cons] at hd
    exact ih hd.2

section
variable {b h h' : Heap} {ω : OsState} {L a : Addr} {m : Str → Option Value} {ns ns' : List (Addr × Obj)} {s : Shared} {o o' : Obj}

theorem At.get (H : At b ω L m ns s) (hm : (a, o) ∈ ns) : s.heap.get? a = some o := (H.N _ hm).1
theorem At.old (H : At b ω L m ns s) (e : b.get? a = some o) : s.heap.get? a = some o := H.F.keep _ _ e
theorem At.state {s' : Shared} (H : At b ω L m ns s) (e : s'.heap = s.heap) (eo : s'.os = s.os) (eg : s'.gens = s.gens) (et : s.toks ≤ s'.toks) : At b ω L m ns s' :=
  ⟨e ▸ H.F, e ▸ H.N, H.D, eo.trans H.os, eg ▸ H.gens, Nat.lt_of_lt_of_le H.tk et⟩
theorem At.toks (H : At b ω L m ns s) {t : Nat} (ht : s.toks ≤ t) : At b ω L m ns { s with toks := t } := H.state rfl rfl rfl ht
theorem At.push (H : At b ω L m ns s) (o : Obj) {t : Nat} (ht : s.toks ≤ t) (hf : o.isFreed = false := by rfl) : At b ω L m ((s.heap.objs.size, o) :: ns) { s with heap := s.heap.push o, toks := t } :=
  ⟨H.F.push o, News.push H.F H.N o hf, by
    rw [List.map_cons, List.nodup_cons]
    refine ⟨fun q => ?_, H.D⟩
    obtain ⟨p, hp, e⟩ := List.mem_map.mp q
    exact Nat.lt_irrefl _ (e ▸ Heap.lt_size (H.N p hp).1), H.os, H.gens, Nat.lt_of_lt_of_le H.tk ht⟩
theorem At.grow (H : At b ω L m ns s) (e : h'.get? s.heap.objs.size = some o) (k : ∀ c oc, s.heap.get? c = some oc → h'.get? c = some oc) {t : Nat} (ht : s.toks ≤ t) : At b ω L m ((s.heap.objs.size, o) :: ns) { s with heap := h', toks := t } := by
  obtain ⟨oL, es, ep, hL, r⟩ := H.F.ns
  refine ⟨⟨⟨oL, es, ep, k _ _ hL, r⟩, fun c oc ec => k _ _ (H.F.keep c oc ec), H.F.above⟩, fun p hp => ?_, ?_, H.os, H.gens, Nat.lt_of_lt_of_le H.tk ht⟩
  · rcases List.mem_cons.mp hp with rfl | hp
    · refine ⟨e, fun q => absurd (Heap.lt_size hL) (by rw [← q]; exact Nat.lt_irrefl _), ?_⟩
      cases z : b.get? s.heap.objs.size with
      | none => rfl
      | some o => exact absurd (Heap.lt_size (H.F.keep _ _ z)) (Nat.lt_irrefl _)
    · exact ⟨k _ _ (H.N p hp).1, (H.N p hp).2⟩
  · rw [List.map_cons, List.nodup_cons]
    refine ⟨fun q => ?_, H.D⟩
    obtain ⟨p, hp, e⟩ := List.mem_map.mp q
    exact Nat.lt_irrefl _ (e ▸ Heap.lt_size (H.N p hp).1)
/-- everything but the entry at a stays -/
theorem At.ext (H : At b ω L m ns s) (dr : Drop a o ns ns') (k : Heap.ExtBut a s.heap h') {t : Nat} (ht : s.toks ≤ t) : At b ω L m ns' { s with heap := h', toks := t } := by
  have ha := H.N _ dr.mem
  obtain ⟨oL, es, ep, hL, r⟩ := H.F.ns
  refine ⟨⟨⟨oL, es, ep, k _ _ (Ne.symm ha.2.1) hL, r⟩, fun c oc ec => k _ _ (fun q => ?_) (H.F.keep c oc ec), H.F.above⟩, fun p hp => ?_, H.D.sublist (dr.sub.map _), H.os, H.gens, Nat.lt_of_lt_of_le H.tk ht⟩
  · rw [q, ha.2.2] at ec; cases ec
  · have := H.N p (dr.sub.subset hp)
    exact ⟨k _ _ (dr.ne H.D p hp) this.1, this.2⟩
theorem At.same (H : At b ω L m ns s) (U : Put a o o' ns ns') (hs : Heap.SameBut a s.heap h') (e : h'.get? a = some o') {t : Nat} (ht : s.toks ≤ t) : At b ω L m ns' { s with heap := h', toks := t } := by
  have ha := H.N _ U.mem
  refine ⟨⟨H.F.ns.sameBut hs (Ne.symm ha.2.1), fun c oc ec => (hs.2 c fun q => ?_).trans (H.F.keep c oc ec), H.F.above⟩, fun p hp => ?_, U.keys ▸ H.D, H.os, H.gens, Nat.lt_of_lt_of_le H.tk ht⟩
  · rw [q, ha.2.2] at ec; cases ec
  · rcases U.back H.D p hp with rfl | ⟨hp, hne⟩
    · exact ⟨e, ha.2.1, ha.2.2⟩
    · have := H.N p hp
      exact ⟨(hs.2 _ hne).trans this.1, this.2⟩
theorem At.upd (H : At b ω L m ns s) {f : Obj → Obj} (U : Put a o o' ns ns') (e : f o = o') {t : Nat} (ht : s.toks ≤ t) (hf : o'.isFreed = false := by rfl) : At b ω L m ns' { s with heap := s.heap.update a f, toks := t } :=
  H.same U (Heap.SameBut.update _ _ _) (by subst e; exact Heap.get?_update_self f (H.get U.mem) hf) ht
theorem At.sub (H : At b ω L m ns s) (hs : ns'.Sublist ns) : At b ω L m ns' s :=
  ⟨H.F, fun p hp => H.N p (hs.subset hp), H.D.sublist (hs.map _), H.os, H.gens, H.tk⟩
theorem At.lt (H : At b ω L m ns s) (hm : (a, o) ∈ ns) : a < s.heap.objs.size := Heap.lt_size (H.get hm)

/-- the frame's own names -/
def up (x : Str) (v : Value) (m : Str → Option Value) : Str → Option Value := fun y => if y = x then some v else m y
theorem up_self {x : Str} {v : Value} : up x v m x = some v := if_pos rfl
theorem up_ne {x y : Str} {v : Value} (h : y ≠ x) : up x v m y = m y := if_neg h

/-- a frame's dict as an object -/
def NsO (o : Obj) (m : Str → Option Value) : Prop := ∃ es ep, o.data = .dict es ep ∧ StrKeys es ∧ ∀ name, nsFind es name = m name

theorem At.leave {L' : Addr} {m' : Str → Option Value} {oL : Obj} (H : At b ω L' m' ns s) (hL : b.objs.size ≤ L) (ho : NsO oL m) (dr : Drop L oL ns ns') : At b ω L m ns' s := by
  obtain ⟨es, ep, e1, e2, e3⟩ := ho
  refine ⟨⟨⟨oL, es, ep, H.get dr.mem, e1, e2, e3⟩, H.F.keep, hL⟩, fun p hp => ?_, H.D.sublist (dr.sub.map _), H.os, H.gens, H.tk⟩
  have := H.N p (dr.sub.subset hp)
  exact ⟨this.1, dr.ne H.D p hp, this.2.2⟩
end
end Mine
end
section
open PySem PySem.W PyProof.Rows PySem.Calls PySem.Spec
set_option Elab.async false
set_option maxRecDepth 100000
set_option maxHeartbeats 4000000
namespace Mine

/-! the base: what the top has left, less the two tables -/
structure Gd (w : World) (mg mb : Str → Option Value) (b : Heap) : Prop where
  X : (Mine.hd.heap_1 w.params).In b
  g : b.Ns mainGlobals mg
  bn : b.Ns builtinsNs mb
  nolimit : b.NoLimit
  builtins : ∀ x : Str, x ≠ "__name__" → mb x = bootBuiltins x
  M : ∃ bm ob, BMod b mainGlobals mg bm ob

section
variable {prog : Program} {w : World} {A : Around} {E : Value → Shared → Prop} {s : Shared} {b : Heap} {ω : OsState} {env : Env} {L : Addr} {m mg mb : Str → Option Value} {ns ns' : List (Addr × Obj)} {x : Str} {pos : Pos} {v : Value}

/-! names -/
theorem nm_local {Q : Value → Shared → Prop} (H : At b ω env.locals m ns s) (hv : m x = some v) (hk : env.scope.kind = .function) (hx : env.kindOf x = some .local) (hd : (x == ("__debug__" : Str)) = false) (h : Q v s) :
    wpAny (model prog w) A (eval (.Name x pos) env) Q E s := wpAny_Name (wpAny_loadName_local hk hx H.F.ns hv h) hd
theorem nm_cell {Q : Value → Shared → Prop} {c : Addr} {o : Obj} (H : At b ω L m ns s) (hc : env.cells.lookup x = some c) (hm : (c, o) ∈ ns) (hd : o.data = .cell (some v)) (hk : env.scope.kind = .function) (hx : env.kindOf x = some .cell) (hb : (x == ("__debug__" : Str)) = false) (h : Q v s) :
    wpAny (model prog w) A (eval (.Name x pos) env) Q E s := wpAny_Name (wpAny_loadName_cell hk hx hc ⟨o, H.get hm, hd⟩ h) hb
theorem nm_free {Q : Value → Shared → Prop} {c : Addr} {o : Obj} (H : At b ω L m ns s) (hc : env.cells.lookup x = some c) (hm : (c, o) ∈ ns) (hd : o.data = .cell (some v)) (hk : env.scope.kind = .function) (hx : env.kindOf x = some .free) (hb : (x == ("__debug__" : Str)) = false) (hn : (x == ("__classdict__" : Str)) = false) (h : Q v s) :
    wpAny (model prog w) A (eval (.Name x pos) env) Q E s := wpAny_Name (wpAny_loadName_free hk hx hc ⟨o, H.get hm, hd⟩ h hn) hb
theorem nm_glob {Q : Value → Shared → Prop} (G : Gd w mg mb b) (H : At b ω L m ns s) (e : nsIn (Mine.hd.heap_1 w.params) mainGlobals x = some (some v)) (hg : env.globals = mainGlobals) (hk : env.scope.kind = .function) (hx : env.kindOf x = some .globalImplicit) (hd : (x == ("__debug__" : Str)) = false) (h : Q v s) :
    wpAny (model prog w) A (eval (.Name x pos) env) Q E s := Name_function_global hk hx (loadGlobal_global (env := env) (by rw [hg]; exact G.g.keeps H.F.keep) (mg_of G.X G.g e) h) hd
theorem nm_built {Q : Value → Shared → Prop} (G : Gd w mg mb b) (H : At b ω L m ns s) (e : nsIn (Mine.hd.heap_1 w.params) mainGlobals x = some none) (hv : bootBuiltins x = some v) (hn : x ≠ "__name__") (hg : env.globals = mainGlobals) (hb : env.builtins = builtinsNs) (hk : env.scope.kind = .function) (hx : env.kindOf x = some .globalImplicit) (hd : (x == ("__debug__" : Str)) = false) (h : Q v s) :
    wpAny (model prog w) A (eval (.Name x pos) env) Q E s :=
  Name_function_global hk hx (loadGlobal_builtin (env := env) (by rw [hg]; exact G.g.keeps H.F.keep) (mg_none_of G.X G.g e) (by rw [hb]; exact G.bn.keeps H.F.keep) ((G.builtins x hn).trans hv) h) hd
theorem st_local {Q : Unit → Shared → Prop} (H : At b ω env.locals m ns s) (hk : env.scope.kind = .function) (hx : env.kindOf x = some .local) (h : ∀ s', At b ω env.locals (up x v m) ns s' → Q () s') :
    wpAny (model prog w) A (storeName env x v) Q E s :=
  wpAny_storeName_local hx H.F.ns (fun h' hn hs => h _ ⟨H.F.set hn hs, H.N.set hs, H.D, H.os, H.gens, Nat.succ_pos _⟩) (by rw [hk]; rfl)
abbrev cellO (v : Option Value) : Obj := ⟨.type "cell", none, .cell v, #[]⟩
theorem st_cell {Q : Unit → Shared → Prop} {c : Addr} {v₀ : Option Value} {g : Obj → List (Addr × Obj)} (H : At b ω L m ns s) (hc : env.cells.lookup x = some c) (U : PutF c (cellO v₀) ns g) (hk : env.scope.kind = .function) (hx : env.kindOf x = some .cell)
    (h : ∀ s', At b ω L m (g (cellO (some v))) s' → Q () s') : wpAny (model prog w) A (storeName env x v) Q E s := by
  unfold storeName
  simp only [hx, hk]
  refine wpAny_bind (wpAny_cellOf hc ?_)
  unfold cellSet
  exact wpAny_bind (wpAny_load (H.get U.mem) (wpAny_update (H.get U.mem) (h _ (At.upd (f := fun o => { o with data := .cell (some v) }) H (U.put _) rfl (Nat.le_refl _)))))

/-! constants -/
theorem c_int {Q : Value → Shared → Prop} {i : Int} {k : Nat} (H : At b ω L m ns s) (h : ∀ t s', At b ω L m ns s' → Q (.int i t) s') : wpAny (model prog w) A (eval (.Constant (.int i) k pos) env) Q E s :=
  wpAny_Constant_int (h _ _ (H.toks (Nat.le_succ _)))
theorem c_str {Q : Value → Shared → Prop} {i : Str} {k : Nat} (H : At b ω L m ns s) (h : ∀ t s', At b ω L m ns s' → Q (.str i t) s') : wpAny (model prog w) A (eval (.Constant (.str i) k pos) env) Q E s :=
  Calls.Constant_str (h _ _ (H.toks (Nat.le_succ _)))

/-! ints -/
variable {a c : Int} {t u : Tok} {Q : Value → Shared → Prop}
theorem i_add (H : At b ω L m ns s) (h : ∀ t s', At b ω L m ns s' → Q (.int (a + c) t) s') : wpAny (model prog w) A (binaryOp .Add (.int a t) (.int c u)) Q E s := add_int (h _ _ (H.toks (Nat.le_succ _)))
theorem i_sub (H : At b ω L m ns s) (h : ∀ t s', At b ω L m ns s' → Q (.int (a - c) t) s') : wpAny (model prog w) A (binaryOp .Sub (.int a t) (.int c u)) Q E s := sub_int (h _ _ (H.toks (Nat.le_succ _)))
theorem i_mul (H : At b ω L m ns s) (hm : IntMulOk a c) (h : ∀ t s', At b ω L m ns s' → Q (.int (a * c) t) s') : wpAny (model prog w) A (binaryOp .Mult (.int a t) (.int c u)) Q E s := mul_int (h _ _ (H.toks (Nat.le_succ _))) hm
theorem i_div (H : At b ω L m ns s) (hc : c ≠ 0) (hp : Builtin.divisionGoesByPylong a c = false) (h : ∀ t s', At b ω L m ns s' → Q (.int (a.fdiv c) t) s') : wpAny (model prog w) A (binaryOp .FloorDiv (.int a t) (.int c u)) Q E s :=
  floordiv_int hc (h _ _ (H.toks (Nat.le_succ _))) (.inl hp)
theorem i_mod (H : At b ω L m ns s) (hc : c ≠ 0) (h : ∀ t s', At b ω L m ns s' → Q (.int (a.fmod c) t) s') : wpAny (model prog w) A (binaryOp .Mod (.int a t) (.int c u)) Q E s :=
  mod_int hc (h _ _ (H.toks (Nat.le_succ _)))
end
end Mine
end
section
open PySem PySem.W PyProof.Rows PySem.Calls PySem.Spec
set_option Elab.async false
set_option maxRecDepth 100000
set_option maxHeartbeats 4000000
namespace Mine
example (P : Params) : PySem.Challenge.rw_pe0181_01 = PySem.Challenge.rw_pe0181_01 ∧ Mine.hd.heap_1 P = Mine.hd.heap_1 P := by
  k_fill
  exact ⟨rfl, rfl⟩

/-- the list of parts: an object of a subclass of list -/
abbrev accO (dc : Addr) (items : List Value) (ep : Nat) : Obj := ⟨.ref 178, some dc, .seq items.toArray ep, #[]⟩
/-- its dict: one name -/
structure Own1 (name : Str) (v : Value) (es : List DictEntry) : Prop where
  has : getL name es = some (some v)
  no : ∀ x, x ≠ name → getL x es = some none
  few : es.length ≤ 1

section
variable {prog : Program} {w : World} {A : Around} {E : Value → Shared → Prop} {s : Shared} {ac dc : Addr} {items : List Value} {ep n : Nat} {es : List DictEntry} {name : Str} {v : Value} {od : Obj}

theorem acc_at {h : Heap} (h1 : h.get? ac = some (accO dc items ep)) (h2 : h.get? dc = some od) : W.InstAt h ac (accO dc items ep) 178 (some od) := ⟨h1, rfl, rfl, h2⟩

theorem acc_ga : findIn (Mine.hd.heap_1 w.params) (.ref 178) "__getattribute__" = some (some (.builtin "list.__getattribute__")) := by k_is
theorem acc_no_hook : findIn (Mine.hd.heap_1 w.params) (.ref 178) "__getattr__" = some none := by k_is
theorem acc_sub : subIn (Mine.hd.heap_1 w.params) (.ref 178) (.type "list") = some true := by k_is
theorem acc_dict : hasDictIn (Mine.hd.heap_1 w.params) 178 = true := by k_is

theorem acc_get {expr : Bool} {Q : Value → Shared → Prop} (X : (Mine.hd.heap_1 w.params).In s.heap) (I : W.InstAt s.heap ac (accO dc items ep) 178 (some od))
    (e : findObj (Mine.hd.heap_1 w.params) 178 (some od) name = some (.value v)) (hh : handedIn v = true) (h : Q v { s with toks := s.toks + 1 }) :
    wpAny (model prog w) A (getAttr (.ref ac) name expr) Q E s := by
  have T := I.type (M := model prog w)
  obtain ⟨hp, g, d, tk, os⟩ := s
  dsimp only at X I T
  unfold getAttr getAttrBy
  refine wpAny_bind (wpAny_mkText (wpAny_holding (wpAny_bind (T _ _ _ _ (fun _ _ e => e) (wpAny_bind (looks_findIn X acc_ga _ _ _ _ (fun _ _ e => e) ?_))))))
  dsimp only
  rw [show (onTheHeap (Value.ref 178) && Value.builtin "list.__getattribute__" == Value.builtin "object.__getattribute__") = false from by decide +kernel, if_neg (by decide)]
  unfold getAttrByItsOwn
  refine wpAny_bind ((looks_hook (mc := .ref 178) (r := none) X (by rw [show onTheHeap (Value.ref 178) = true from rfl, if_pos rfl]; exact acc_no_hook)) _ _ _ _ (fun _ _ e => e) (wpAny_bind (wpAny_attempt (wpAny_holding ?_))))
  unfold callGetattribute
  rw [show (expr && onTheHeap (Value.builtin "list.__getattribute__")) = false from Bool.and_false _, if_neg (by decide)]
  unfold boundAndCalled
  rw [F.slot_list_getattribute.bind]
  refine wpAny_bind (wpAny_pure ?_)
  show wpAny _ _ (call (.builtin "list.__getattribute__") [.ref ac, .str name tk]) _ _ _
  refine wpAny_call (codeAny_call_builtin F.slot_list_getattribute.plain am_entry_list_getattribute ?_)
  refine @check_slot (model prog w) _ _ ⟨hp, g, d, tk + 1, os⟩ "list.__getattribute__" "list" "__getattribute__" (.ref ac) [.str name tk] [] _ (by decide +kernel) (by decide +kernel) (T.andThen (looks_subIn X acc_sub)) (F.args_list_getattribute_2 _ _) ?_
  have L1 := looks_find (M := model prog w) X I e
  unfold Builtin.«object.__getattribute__»
  refine wpAny_bind (wpAny_pure (wpAny_bind (wpAny_pure (wpAny_bind (T _ _ _ _ (fun _ _ e => e) (wpAny_bind (L1 _ _ _ _ (fun _ _ e => e) (wpAny_pure ?_))))))))
  show wpAny _ _ (handedOut v) _ _ _
  rw [handedOut_of hh]; exact wpAny_pure h

theorem acc_mro : (clsIn (Mine.hd.heap_1 w.params) 178).map (·.mro) = some [.ref 178, .type "list", .type "object"] := by kernel_rfl
theorem acc_refuse (self : Value) : refuseLoop self "__setattr__" [.ref 178, .type "list", .type "object"] = pure () := by
  rw [refuseLoop_ref]; kernel_rfl
theorem acc_obj : subIn (Mine.hd.heap_1 w.params) (.ref 178) (.type "object") = some true := by k_is
theorem acc_sa : findIn (Mine.hd.heap_1 w.params) (.ref 178) "__setattr__" = some (some (.builtin "object.__setattr__")) := by k_is

theorem acc_set {b : Heap} {ω : OsState} {L : Addr} {m : Str → Option Value} {ns : List (Addr × Obj)} {g : Obj → List (Addr × Obj)} {Q : Unit → Shared → Prop} (X : (Mine.hd.heap_1 w.params).In b) (H : At b ω L m ns s) (h1 : (ac, accO dc items ep) ∈ ns) (U : PutF dc (dictOf es n) ns g)
    (ha : findIn (Mine.hd.heap_1 w.params) (.ref 178) name = some none) (hl : (getL name es).isSome = true) (hz : (putL name (PyData.keyHash w.params name) (.str name (s.toks + 1)) v es).length ≤ 1000)
    (h : ∀ s', At b ω L m (g (dictOf (putL name (PyData.keyHash w.params name) (.str name (s.toks + 1)) v es) (putN name es n))) s' → Q () s') :
    wpAny (model prog w) A (setAttr (.ref ac) name v) Q E s := by
  have I : W.InstAt s.heap ac (accO dc items ep) 178 (some (dictOf es n)) := acc_at (H.get h1) (H.get U.mem)
  have X' : (Mine.hd.heap_1 w.params).In s.heap := X.keeps H.F.keep
  refine set_plain X' I acc_sa ?_
  have H' : At b ω L m ns { s with toks := s.toks + 1 } := H.toks (Nat.le_succ _)
  generalize hs : ({ s with toks := s.toks + 1 } : Shared) = s₁ at H'
  have I' : W.InstAt s₁.heap ac (accO dc items ep) 178 (some (dictOf es n)) := by rw [← hs]; exact I
  have X₁ : (Mine.hd.heap_1 w.params).In s₁.heap := by rw [← hs]; exact X'
  have ht : s₁.toks = s.toks + 1 := by rw [← hs]
  have SF := PySem.F.store_object
  have sub : Looks (model prog w) s₁.heap (isInstance (.ref ac) (.type "object")) true := I'.type.andThen (looks_subIn X₁ acc_obj)
  refine codeAny_call_builtin SF.slot.plain SF.entry (@check_slot (model prog w) _ _ s₁ "object.__setattr__" "object" "__setattr__" (.ref ac) [.str name s.toks, v] [] _ SF.kind SF.split sub (SF.args (.ref ac) (.str name s.toks) v) ?_)
  obtain ⟨cd, hc, hm⟩ := Option.map_eq_some_iff.mp (acc_mro (w := w))
  have hm' : Looks (model prog w) s₁.heap (mroOf (.ref 178)) cd.mro := (looks_clsIn X₁ hc).andThen .now
  rw [osa_eq, refuse_eq]
  refine wpAny_bind (wpAny_bind (I'.type.here (wpAny_bind (hm'.here ?_))))
  rw [hm, acc_refuse]
  refine wpAny_pure (wpAny_bind (I'.type.here (wpAny_bind ((looks_findIn X₁ ha).here (wpAny_bind (wpAny_pure ?_))))))
  obtain ⟨cd', hc', hd'⟩ := any_some (acc_dict (w := w))
  have D := I'.dict
  dsimp only at D
  refine wpAny_bind (wpAny_pure (wpAny_bind (wpAny_bind (wpAny_loadPart I'.at_ (wpAny_bind ((looks_clsIn X₁ hc').here ?_))))))
  rw [hd']
  refine wpAny_pure (a := some dc) (wpAny_bind (wpAny_pure (wpAny_bind ?_)))
  unfold nsSet
  refine wpAny_bind (wpAny_bind (wpAny_askSetting (wpAny_pure (wpAny_bind (wpAny_mkText (wpAny_bind (wpAny_loadPart D ?_)))))))
  have c : (!es.toArray.any (·.key.isStr name) && es.toArray.any (·.refKey)) = false := by
    rw [← Array.any_toList, ← Array.any_toList]
    unfold getL at hl
    split at hl
    · rename_i en he
      rw [List.any_eq_true.mpr ⟨en, List.mem_of_find?_eq_some he, List.find?_some he⟩]; rfl
    · split at hl
      · cases hl
      · rename_i z; rw [Bool.not_eq_true] at z; rw [z, Bool.and_false]
  dsimp only
  rw [aRefKeyMayBeTheName_at, c]
  refine wpAny_updatePart D ?_
  have pn := putName_dict name (PyData.keyHash w.params name) (.str name s₁.toks) v es n
  rw [ht] at pn
  have H₂ := At.upd (f := Obj.putName name (PyData.keyHash w.params name) (.str name s₁.toks) v) H' (U.put (dictOf (putL name (PyData.keyHash w.params name) (.str name (s.toks + 1)) v es) (putN name es n))) (by rw [ht]; exact pn) (Nat.le_succ s₁.toks)
  refine wpAny_bind (wpAny_lookBehind (H₂.get (U.put (dictOf (putL name (PyData.keyHash w.params name) (.str name (s.toks + 1)) v es) (putN name es n))).mem') (pastItsLine_dict (by rw [List.size_toArray, sizeLine_eq]; omega)) ?_)
  exact wpAny_pure (h _ H₂)

theorem acc_canon : (Manifest.canonical "list.__getattribute__" != "object.__getattribute__") = false := by decide +kernel

theorem acc_method {f tf : Value} {pl : Sem Bool} {Q : Value × List Value → Shared → Prop} (X : (Mine.hd.heap_1 w.params).In s.heap) (I : W.InstAt s.heap ac (accO dc items ep) 178 (some (dictOf es n)))
    (hf : findIn (Mine.hd.heap_1 w.params) (.ref 178) name = some (some f)) (ht : typeIn (Mine.hd.heap_1 w.params) f = some tf) (htf : (tf != .type "function" && tf != .type "method_descriptor" && tf != .type "wrapper_descriptor") = false)
    (hs : getL name es = some none) (h : Q (f, [.ref ac]) s) : wpAny (model prog w) A (getMethod (.ref ac) name pl) Q E s := by
  unfold getMethod specialOf
  refine wpAny_bind (wpAny_bind (I.type.here ((looks_findIn X acc_ga).here ?_)))
  dsimp only
  rw [acc_canon, if_neg (by decide)]
  refine wpAny_bind (wpAny_bind (I.type.here ((looks_findIn X acc_no_hook).here ?_)))
  refine wpAny_bind (wpAny_bind (I.type.here ((looks_findIn X hf).here (wpAny_bind ((looks_typeIn X ht).here ?_)))))
  rw [htf, if_neg (by decide)]
  refine wpAny_bind (wpAny_loadPart I.at_ ?_)
  have hd := I.dict
  dsimp only at hd
  refine wpAny_bind (wpAny_bind (wpAny_loadPart hd ?_))
  rw [nsLook_of (show lookIn name (dictOf es n) = some none from hs)]
  exact wpAny_pure (wpAny_bind (wpAny_rule (wpAny_pure h)))

theorem check_any {M : Model} {i owner n : String} {self : Value} {rest : List Value} {kw : List (Str × Value)} {Q : Unit → Shared → Prop}
    (hk : builtinKind i = some .slot ∨ builtinKind i = some .method) (hs : splitId i = some (owner, n)) (hi : Looks M s.heap (isInstance self (.type owner)) true) (ha : argsOk i ⟨self :: rest, kw⟩) (q : Q () s) :
    wpAny M A (checkBuiltinCall i ⟨self :: rest, kw⟩) Q E s := by
  rcases hk with hk | hk <;>
  · simp only [checkBuiltinCall, hk, hs]
    refine wpAny_bind (hi.here ?_)
    simp only [Bool.not_true, Bool.false_eq_true, if_false]
    cases hsig : Manifest.signature? i with
    | none => exact wpAny_pure q
    | some sig =>
      simp only [argsOk, hsig] at ha
      have h2 : Bind.checkArgs i sig ⟨self :: rest, kw⟩ = pure () := ha
      show wpAny M A (Bind.checkArgs i sig ⟨self :: rest, kw⟩) Q E s
      rw [h2]; exact wpAny_pure q
theorem acc_call {id nm : String} {B : Builtin} {rest : List Value} {Q : Value → Shared → Prop} (hk : builtinKind id = some .slot ∨ builtinKind id = some .method) (hs : splitId id = some ("list", nm)) (pl : plainId id = true) (en : entryFor table id = some B) (ar : argsOk id ⟨.ref ac :: rest, []⟩)
    (X : (Mine.hd.heap_1 w.params).In s.heap) (hx : s.heap.get? ac = some (accO dc items ep))
    (h : wpAny (model prog w) A.in1 (B ⟨.ref ac :: rest, []⟩) (fun fin s' => match fin with | .done f => (match (Except.ok f : Result) with | .ok (.ret v) => Q v s' | .ok _ => False | .error e => E e s') | .again c' => c'.quiet = true ∧ codeAny (model prog w) A c' (fun r s' => match r with | .ok (.ret v) => Q v s' | .ok _ => False | .error e => E e s') s')
      (fun e s' => match (Except.error e : Result) with | .ok (.ret v) => Q v s' | .ok _ => False | .error e => E e s') s) :
    wpAny (model prog w) A (call (.builtin id) (.ref ac :: rest)) Q E s := by
  have T : Looks (model prog w) s.heap (typeOf (.ref ac)) (.ref 178) := (Looks.ld hx).andThen .now
  exact wpAny_call (codeAny_call_builtin pl en (check_any hk hs (T.andThen (looks_subIn X acc_sub)) ar h))

variable {b : Heap} {ω : OsState} {L : Addr} {m : Str → Option Value} {ns : List (Addr × Obj)} {g : Obj → List (Addr × Obj)}
theorem acc_append {Q : Value → Shared → Prop} (X : (Mine.hd.heap_1 w.params).In b) (H : At b ω L m ns s) (U : PutF ac (accO dc items ep) ns g)
    (hz : items.length ≤ 1000) (h : ∀ s', At b ω L m (g (accO dc (items ++ [v]) (ep + 1))) s' → Q .none s') :
    wpAny (model prog w) A (call (.builtin "list.append") [.ref ac, v]) Q E s := by
  have hx := H.get U.mem
  refine acc_call (nm := "append") (.inr (by decide +kernel)) (by decide +kernel) slot_list_append.plain entry_list_append (args_list_append _ _) (X.keeps H.F.keep) hx ?_
  have z := h _ (At.upd (f := Obj.mapSeq fun x => x.push v) H (U.put (accO dc (items ++ [v]) (ep + 1))) (by simp [Obj.mapSeq]) (Nat.le_refl _))
  have hz1 : items.toArray.size ≤ sizeLine := by rw [List.size_toArray, sizeLine_eq]; omega
  have hz2 : (items.toArray.push v).size ≤ sizeLine + 1 := by rw [Array.size_push, List.size_toArray, sizeLine_eq]; omega
  obtain ⟨hp, gs, d, tk, os⟩ := s
  wp_walk using (wpAny_updateSeq hx rfl (hz := hz1) (_hz' := hz2))
  exact z
end
end Mine
end
section
open PySem PySem.W PyProof.Rows PySem.Calls PySem.Spec
set_option Elab.async false
set_option maxRecDepth 100000
set_option maxHeartbeats 4000000
namespace Mine
theorem mapSeq_is {c : Value} {d : Option Addr} {xs ys : Array Value} {n : Nat} {sl : Array (Option Value)} {f : Array Value → Array Value} (e : f xs = ys) :
    Obj.mapSeq f ⟨c, d, .seq xs n, sl⟩ = ⟨c, d, .seq ys (if ys.size == xs.size then n else n + 1), sl⟩ := by subst e; rfl
example (P : Params) : PySem.Challenge.rw_pe0181_01 = PySem.Challenge.rw_pe0181_01 ∧ Mine.hd.heap_1 P = Mine.hd.heap_1 P := by
  k_fill
  exact ⟨rfl, rfl⟩
section
variable {prog : Program} {w : World} {A : Around} {E : Value → Shared → Prop} {s : Shared} {ac dc : Addr} {items : List Value} {ep n : Nat} {name : Str} {v : Value}
  {b : Heap} {ω : OsState} {L : Addr} {m : Str → Option Value} {ns : List (Addr × Obj)} {g : Obj → List (Addr × Obj)}

theorem acc_type (hx : s.heap.get? ac = some (accO dc items ep)) : Looks (model prog w) s.heap (typeOf (.ref ac)) (.ref 178) := (Looks.ld hx).andThen .now
theorem acc_special {T id : String} {args : List Value} {Q : Option Value → Shared → Prop} (X : (Mine.hd.heap_1 w.params).In s.heap) (hx : s.heap.get? ac = some (accO dc items ep)) (S : Slot T name id)
    (hf : findIn (Mine.hd.heap_1 w.params) (.ref 178) name = some (some (.builtin id))) (h : wpAny (model prog w) A (call (.builtin id) (.ref ac :: args)) (fun v => Q (some v)) E s) :
    wpAny (model prog w) A (callSpecial? (.ref ac) name args) Q E s := by
  unfold callSpecial? specialOf
  refine wpAny_bind (wpAny_bind ((acc_type hx).here ((looks_findIn X hf).here (wpAny_holding ?_))))
  rw [S.bind]
  exact wpAny_bind (wpAny_pure (wpAny_bind (wpAny_mono h (fun _ _ z => wpAny_pure z) fun _ _ z => z)))
theorem acc_key {k : Value} {nm : Str} {Q : Value → Shared → Prop} (X : (Mine.hd.heap_1 w.params).In s.heap) (hx : s.heap.get? ac = some (accO dc items ep)) (h : Q k s) : wpAny (model prog w) A (sequenceKey (.ref ac) k nm) Q E s := by
  have hq : subIn (Mine.hd.heap_1 w.params) (.ref 178) (.type "collections.deque") = some false := by k_is
  unfold sequenceKey
  refine wpAny_bind ((acc_type hx).here ?_)
  show wpAny _ _ (List.anyM (fun n => isSubtype (.ref 178) (.type n)) ["collections.deque"] >>= _) _ _ _
  refine wpAny_bind ?_
  show wpAny _ _ (isSubtype (.ref 178) (.type "collections.deque") >>= _) _ _ _
  exact wpAny_bind ((looks_subIn X hq).here (wpAny_pure (wpAny_pure h)))

/-! ac[k] -/
theorem acc_getItem {k : Int} {t : Tok} {Q : Value → Shared → Prop} (X : (Mine.hd.heap_1 w.params).In s.heap) (hx : s.heap.get? ac = some (accO dc items ep))
    (h0 : 0 ≤ k) (hfit : k < 2 ^ 63) (hv : items[k.toNat]? = some v) (h : Q v s) : wpAny (model prog w) A (getItem (.ref ac) (.int k t)) Q E s := by
  unfold getItem
  refine wpAny_holding (wpAny_bind (acc_key X hx ?_))
  refine wpAny_bind (acc_special X hx slot_list_getitem (by k_is) (acc_call (nm := "__getitem__") (.inr (by decide +kernel)) (by decide +kernel) slot_list_getitem.plain entry_list_getitem (args_list_getitem _ _) X hx ?_))
  show wpAny _ _ (Builtin.List.listSubscript? (.int k t) >>= _) _ _ s
  refine wpAny_bind (wpAny_listSubscript_int (fitsIndex_of h0 hfit) ?_)
  clear hfit
  obtain ⟨j, rfl⟩ := Int.eq_ofNat_of_zero_le h0
  have hx' : items.toArray[j]? = some v := by simpa using hv
  show wpAny _ _ ((seqItemAt ac j >>= fun r => pure (r.map (j, ·))) >>= _) _ _ s
  refine wpAny_bind (wpAny_bind (wpAny_seqItemAt hx rfl (wpAny_pure ?_)))
  rw [hx']
  first
    | exact wpAny_bind (wpAny_pure (wpAny_pure (wpAny_pure h)))
    | exact wpAny_pure (wpAny_pure h)
theorem acc_tail {value slice : Expr} {i : Value} {ops : List Value} {Q : Value → Shared → Prop} (X : (Mine.hd.heap_1 w.params).In s.heap) (hx : s.heap.get? ac = some (accO dc items ep))
    (hg : wpAny (model prog w) A (getItem (.ref ac) i) Q E s) (hs : subscripted slice false (.ref ac) i = operate ops (getItem (.ref ac) i)) : wpAny (model prog w) A (subscriptTail value slice (.ref ac) i) Q E s := by
  have hl : findIn (Mine.hd.heap_1 w.params) (.ref 178) "__getitem__" = some (some (.builtin "list.__getitem__")) := by k_is
  unfold subscriptTail
  refine wpAny_bind ?_
  rw [getitemInPython_of_ne (by nofun)]
  refine wpAny_bind (wpAny_bind ((acc_type hx).here ((looks_findIn X hl).here ?_)))
  have fin : wpAny (model prog w) A (subscripted slice false (.ref ac) i) (fun r s₃ => wpAny (model prog w) A (letTemporaryGo value (.ref ac) r >>= fun _ => pure r) Q E s₃) E s := by
    rw [hs]
    exact wpAny_operating (wpAny_mono hg (fun r s₃ h₃ => wpAny_bind (wpAny_letTemporaryGo (wpAny_pure h₃))) fun _ _ x => x)
  first
    | exact wpAny_pure (wpAny_bind fin)
    | exact wpAny_bind (wpAny_pure (wpAny_bind fin))
    | exact wpAny_bind fin

/-! ac[lo:hi] -/
theorem acc_getSlice {sl : Addr} {vl vu : Value} {lo hi : Option Int} {Q : Value → Shared → Prop} (X : (Mine.hd.heap_1 w.params).In s.heap) (hx : s.heap.get? ac = some (accO dc items ep))
    (hs : s.heap.IsSliceOf sl vl vu .none) (pl : IsPart vl lo) (pu : IsPart vu hi) (hz : items.length ≤ 1000)
    (h : Q (.ref s.heap.objs.size) { s with heap := s.heap.push { cls := .type "list", data := .seq (slicePick items.toArray lo hi none) } }) :
    wpAny (model prog w) A (getItem (.ref ac) (.ref sl)) Q E s := by
  obtain ⟨os, hos, hcs, hds⟩ := id hs
  have hTs : s.TypeIs (.ref sl) "slice" := ⟨os, hos, hcs⟩
  unfold getItem
  refine wpAny_holding (wpAny_bind (acc_key X hx ?_))
  refine wpAny_bind (acc_special X hx slot_list_getitem (by k_is) (acc_call (nm := "__getitem__") (.inr (by decide +kernel)) (by decide +kernel) slot_list_getitem.plain entry_list_getitem (args_list_getitem _ _) X hx ?_))
  show wpAny _ _ (Builtin.List.listSubscript? (.ref sl) >>= _) _ _ s
  refine wpAny_bind ?_
  unfold Builtin.List.listSubscript?
  refine wpAny_bind (wpAny_specialOf hTs slice_no_index ?_)
  simp only [Option.isNone_none, if_true]
  refine wpAny_pure ?_
  show wpAny _ _ (typeOf (.ref sl) >>= _) _ _ s
  refine wpAny_bind (wpAny_typeOf hTs ?_)
  rw [if_neg (by decide)]
  rw [listSliceParts_eq]
  refine wpAny_bind (wpAny_bind (wpAny_field hos hds (x := .none) rfl (wpAny_bind (wpAny_listPart (.none) ?_))))
  rw [if_neg (by decide)]
  refine wpAny_bind (wpAny_field hos hds (x := vl) rfl (wpAny_bind (wpAny_listPart pl ?_)))
  refine wpAny_bind (wpAny_field hos hds (x := vu) rfl (wpAny_bind (wpAny_listPart pu (wpAny_pure ?_))))
  refine wpAny_bind (m := Builtin.List.listItems (.ref ac)) ?_
  unfold Builtin.List.listItems
  refine wpAny_bind (wpAny_seqItems hx rfl (wpAny_pure ?_))
  refine wpAny_bind (wpAny_of_eq (sliceIndices_raw lo hi none items.toArray.size (by nofun)) ?_)
  exact wpAny_bind (wpAny_newObj_type (wpAny_pure (wpAny_pure h)) (Nat.le_trans (slicePick_size_le items.toArray lo hi none) (by rw [List.size_toArray, sizeLine_eq]; omega)))

/-! ac[lo:] = a list -/
theorem acc_setSlice {sl lv : Addr} {vl : Value} {lo : Option Int} {new : List Value} {ep2 : Nat} {k : Nat} {Q : Unit → Shared → Prop} (X : (Mine.hd.heap_1 w.params).In b) (H : At b ω L m ns s) (U : PutF ac (accO dc items ep) ns g)
    (hs : s.heap.IsSliceOf sl vl .none .none) (pl : IsPart vl lo) (hlv : s.heap.get? lv = some { cls := .type "list", data := .seq new.toArray ep2 }) (hne : lv ≠ ac) (hk : sliceBounds lo none none items.length = ((k : Int), (items.length : Int), 1)) (hkl : k ≤ items.length) (hz : items.length + new.length ≤ 1000)
    (h : ∀ ep' s', At b ω L m (g (accO dc (items.take k ++ new) ep')) s' → Q () s') :
    wpAny (model prog w) A (setItem (.ref ac) (.ref sl) (.ref lv)) Q E s := by
  have hx := H.get U.mem
  have X' : (Mine.hd.heap_1 w.params).In s.heap := X.keeps H.F.keep
  obtain ⟨os, hos, hcs, hds⟩ := id hs
  have hTs : s.TypeIs (.ref sl) "slice" := ⟨os, hos, hcs⟩
  unfold setItem
  refine wpAny_holding (wpAny_bind (acc_key X' hx ?_))
  refine wpAny_bind (acc_special X' hx slot_list_setitem (by k_is) (acc_call (nm := "__setitem__") (.inl (by decide +kernel)) (by decide +kernel) slot_list_setitem.plain entry_list_setitem (args_list_setitem _ _ _) X' hx ?_))
  show wpAny _ _ (Builtin.List.listSubscript? (.ref sl) >>= _) _ _ s
  refine wpAny_bind ?_
  unfold Builtin.List.listSubscript?
  refine wpAny_bind (wpAny_specialOf hTs slice_no_index ?_)
  simp only [Option.isNone_none, if_true]
  refine wpAny_pure ?_
  show wpAny _ _ (typeOf (.ref sl) >>= _) _ _ s
  refine wpAny_bind (wpAny_typeOf hTs ?_)
  rw [if_neg (by decide)]
  rw [listSliceParts_eq]
  refine wpAny_bind (wpAny_bind (wpAny_field hos hds (x := .none) rfl (wpAny_bind (wpAny_listPart (.none) ?_))))
  rw [if_neg (by decide)]
  refine wpAny_bind (wpAny_field hos hds (x := vl) rfl (wpAny_bind (wpAny_listPart pl ?_)))
  refine wpAny_bind (wpAny_field hos hds (x := .none) rfl (wpAny_bind (wpAny_listPart .none (wpAny_pure ?_))))
  have hsame : Builtin.List.listSameRef (.ref ac) (.ref lv) = false := by
    simp [Builtin.List.listSameRef, Ne.symm hne]
  dsimp only
  rw [hsame, if_neg (by decide)]
  have hTl : s.TypeIs (.ref lv) "list" := ⟨_, hlv, rfl⟩
  refine wpAny_bind ?_
  unfold Builtin.List.listAllItems
  refine wpAny_bind (wpAny_typeOf hTl ?_)
  rw [if_pos (by decide)]
  unfold Builtin.List.listItems
  refine wpAny_bind (m := seqItems? (.ref lv)) (wpAny_seqItems hlv rfl (wpAny_pure ?_))
  refine wpAny_bind (wpAny_bind (m := seqItems? (.ref ac)) (wpAny_seqItems hx rfl (wpAny_pure ?_)))
  have e := sliceIndices_raw lo none none items.toArray.size (by nofun)
  rw [List.size_toArray, hk] at e
  refine wpAny_bind (wpAny_of_eq (by rw [List.size_toArray]; exact e) ?_)
  rw [if_pos (by rfl)]
  refine wpAny_bind (wpAny_rule ?_)
  rw [if_neg (by simp only [Builtin.List.listTooLong, List.size_toArray, sizeLine_eq, decide_eq_true_eq]; omega)]
  have fe : ∀ xs : Array Value, xs = items.toArray → xs.extract 0 ((k : Int)).toNat ++ new.toArray ++ xs.extract (max (k : Int) (items.length : Int)).toNat xs.size = (items.take k ++ new).toArray := by
    rintro _ rfl
    rw [show (max (k : Int) (items.length : Int)).toNat = items.length from by omega, Int.toNat_natCast]
    simp
  have hz1 : items.toArray.size ≤ sizeLine := by rw [List.size_toArray, sizeLine_eq]; omega
  have hz2 : (items.toArray.extract 0 ((k : Int)).toNat ++ new.toArray ++ items.toArray.extract (max (k : Int) (items.length : Int)).toNat items.toArray.size).size ≤ sizeLine + 1 := by
    rw [fe _ rfl, List.size_toArray, sizeLine_eq, List.length_append, List.length_take]; omega
  have H₂ := At.upd (f := Obj.mapSeq fun xs => xs.extract 0 ((k : Int)).toNat ++ new.toArray ++ xs.extract (max (k : Int) (items.length : Int)).toNat xs.size) H (U.put (accO dc (items.take k ++ new) (if (items.take k ++ new).toArray.size == items.toArray.size then ep else ep + 1)))
    (mapSeq_is (fe _ rfl)) (Nat.le_refl _)
  have z := h _ _ H₂
  refine wpAny_bind (m := Builtin.List.listUpdate (.ref ac) _) ?_
  unfold Builtin.List.listUpdate
  exact wpAny_updateSeq hx rfl (wpAny_bind (wpAny_letGo (wpAny_pure (wpAny_pure z)))) hz1 hz2
end
end Mine
end
section
open PySem PySem.W PyProof.Rows PySem.Calls PySem.Spec
set_option Elab.async false
set_option maxRecDepth 100000
set_option maxHeartbeats 4000000
namespace Mine
example (P : Params) : PySem.Challenge.rw_pe0181_01 = PySem.Challenge.rw_pe0181_01 ∧ Mine.hd.heap_1 P = Mine.hd.heap_1 P := by
  k_fill
  exact ⟨rfl, rfl⟩
section
variable {w : World} {A : Around} {E : Value → Shared → Prop} {s : Shared} {ac dc : Addr} {items : List Value} {ep n : Nat} {name : Str} {v : Value}
  {b : Heap} {ω : OsState} {L f cda : Addr} {m mg mb : Str → Option Value} {ns : List (Addr × Obj)} {g : Obj → List (Addr × Obj)}

/-! super() in a method of the list of parts -/
theorem sup_base {body : List Stmt} {q : Str} {scope : Scope} {p0 p1 : Pos} {attr : Str} {whole : Sem Value} {fd : FuncData} {ar : Arg} {vs : Array Value} {tf : Tok} {oc ccl : Value} {od cdd : Option Addr} {osl ccs : Array (Option Value)} {Q : Value → Shared → Prop}
    (G : Gd w mg mb b) (H : At b ω L m ns s) (hx : (ac, accO dc items ep) ∈ ns)
    (hf : (Mine.hd.heap_1 w.params).lookup f = some ⟨oc, od, .func fd, osl⟩) (hp : (fd.params.posonlyargs ++ fd.params.args).head? = some ar) (hv : m ar.arg = some (.ref ac))
    (hcode : (Mine.hd.heap_1 w.params).lookup cda = some ⟨ccl, cdd, .fields vs, ccs⟩) (hvs : vs[2]? = some (.str "/claim/cut.py" tf))
    (hat : (attr == ("__class__" : Str)) = false) (hks : scope.names.lookup ("super" : Str) = some .globalImplicit) (hkc : scope.names.lookup ("__class__" : Str) = some .free) (hka : scope.names.lookup ar.arg = some .local) (hk : scope.kind = .function)
    (h : ∀ so s', At b ω L m ((so, ks_superObj 178 ac 178) :: ns) s' → Q (.ref so) s') :
    _root_.PySem.wpAt (model PySem.Challenge.pw_pe0181_01 w) A (.func body (ksEnv q scope L f (.ref cda) 102)) (attributeBase (.Call (.Name "super" p0) [] [] p1) attr (ksEnv q scope L f (.ref cda) 102) whole) Q E s := by
  have X : (Mine.hd.heap_1 w.params).In s.heap := G.X.keeps H.F.keep
  have hsuper : nsIn (Mine.hd.heap_1 w.params) mainGlobals "super" = some none := by k_is
  have hD : ∃ oD cdD, s.heap.get? 178 = some oD ∧ oD.data = .cls cdD := by
    have e : ∃ oD, (Mine.hd.heap_1 w.params).lookup 178 = some oD ∧ ∃ cdD, oD.data = .cls cdD := ⟨_, by k_is, _, rfl⟩
    obtain ⟨oD, e1, cdD, e2⟩ := e
    exact ⟨oD, cdD, X _ _ e1, e2⟩
  have hC : ∃ oc : Obj, s.heap.get? 102 = some oc ∧ oc.data = .cell (some (.ref 178)) := by
    have e : ∃ oc : Obj, (Mine.hd.heap_1 w.params).lookup 102 = some oc ∧ oc.data = .cell (some (.ref 178)) := ⟨_, by k_is, rfl⟩
    obtain ⟨oc, e1, e2⟩ := e
    exact ⟨oc, X _ _ e1, e2⟩
  obtain ⟨oD, cdD, hD1, hD2⟩ := hD
  obtain ⟨oC, hC1, hC2⟩ := hC
  have hsub : mroIn (Mine.hd.heap_1 w.params) 178 (.ref 178) = some true := by k_is
  refine ks_wpAt_super_base (prog := PySem.Challenge.pw_pe0181_01) (env := ksEnv q scope L f (.ref cda) 102) hks hkc hat rfl (X _ _ hf) rfl hp rfl (X _ _ hcode) rfl hvs (by decide +kernel) (by decide +kernel) ?_
  refine ks_loadName_global hk hks (loadGlobal_builtin (env := ksEnv q scope L f (.ref cda) 102) (G.g.keeps H.F.keep) (mg_none_of G.X G.g hsuper) (G.bn.keeps H.F.keep) ((G.builtins _ (by decide +kernel)).trans (by boot_by_name)) ⟨rfl, ?_⟩)
  refine wpAny_loadName_free hk hkc rfl ⟨_, hC1, hC2⟩ ?_
  refine wpAny_loadName_local hk hka H.F.ns hv ?_
  have hacc := H.get hx
  have hsz : 0 < s.heap.objs.size := Nat.lt_of_le_of_lt (Nat.zero_le _) (H.lt hx)
  obtain ⟨hh, gs, d, t, os⟩ := s
  refine ks_wpAny_isType_cls hD1 hD2 ⟨rfl, ?_⟩
  refine ks_wpAny_call_super hD1 hD2 hacc rfl (fun c e => by cases e) (looks_mroIn X hsub) (fun h' e k => ?_)
  exact h _ _ (H.grow e k (Nat.le_refl _))

namespace FD
theorem slot_md_get : Slot "method_descriptor" "__get__" "method_descriptor.__get__" := .of (owner := "method_descriptor") (n := "__get__") (by rw [typeLookup_type, builtinLookup_eq_fast]; kernel_rfl) (by decide +kernel) (by decide +kernel) (by decide +kernel)
  (by first | exact .inl (by decide +kernel) | exact .inr (by decide +kernel)) (by rw [isSubtype_type]; kernel_rfl)
theorem slot_wd_get : Slot "wrapper_descriptor" "__get__" "wrapper_descriptor.__get__" := .of (owner := "wrapper_descriptor") (n := "__get__") (by rw [typeLookup_type, builtinLookup_eq_fast]; kernel_rfl) (by decide +kernel) (by decide +kernel) (by decide +kernel)
  (by first | exact .inl (by decide +kernel) | exact .inr (by decide +kernel)) (by rw [isSubtype_type]; kernel_rfl)
theorem entry_md_get : entryFor table "method_descriptor.__get__" = some Builtin.«method_descriptor.__get__» := entryFor_of_tree (by kernel_rfl)
theorem entry_wd_get : entryFor table "wrapper_descriptor.__get__" = some Builtin.«wrapper_descriptor.__get__» := entryFor_of_tree (by kernel_rfl)
theorem args_md_get (a b c : Value) : argsOk "method_descriptor.__get__" ⟨[a, b, c], []⟩ := by unfold argsOk; kernel_rfl
theorem args_wd_get (a b c : Value) : argsOk "wrapper_descriptor.__get__" ⟨[a, b, c], []⟩ := by unfold argsOk; kernel_rfl
theorem type_pop : typeOf (.builtin "list.pop") = pure (.type "method_descriptor") := by show builtinType _ = _; rw [builtinType_eq_fast]; kernel_rfl
theorem type_len : typeOf (.builtin "list.__len__") = pure (.type "wrapper_descriptor") := by show builtinType _ = _; rw [builtinType_eq_fast]; kernel_rfl
theorem type_init : typeOf (.builtin "list.__init__") = pure (.type "wrapper_descriptor") := by show builtinType _ = _; rw [builtinType_eq_fast]; kernel_rfl
end FD

/-- a built-in bound to the list of parts -/
abbrev boundO (bt id : String) (ac : Addr) : Obj := { cls := .type bt, dict := none, data := .fields #[.builtin id, .ref ac], slots := #[] }

theorem md_get {hp : Heap} {gs : Array GenState} {d : Drawn} {t : Nat} {os : OsState} {Q : Value → Shared → Prop} (X : (Mine.hd.heap_1 w.params).In hp) (hx : hp.get? ac = some (accO dc items ep))
    (h : Q (.ref hp.objs.size) ⟨hp.push (boundO "builtin_function_or_method" "list.pop" ac), gs, d, t, os⟩) :
    wpAny (model PySem.Challenge.pw_pe0181_01 w) A (call (.builtin "method_descriptor.__get__") [.builtin "list.pop", .ref ac, .ref 178]) Q E ⟨hp, gs, d, t, os⟩ := by
  have hT : (⟨hp, gs, d, t, os⟩ : Shared).TypeIs (.builtin "list.pop") "method_descriptor" := FD.type_pop
  have hI : Looks (model PySem.Challenge.pw_pe0181_01 w) hp (isInstance (.ref ac) (.type "list")) true := (acc_type (s := ⟨hp, gs, d, t, os⟩) hx).andThen (looks_subIn X acc_sub)
  refine wpAny_call_entry FD.slot_md_get hT FD.entry_md_get ?_ (FD.args_md_get _ _ _)
  unfold Builtin.«method_descriptor.__get__»
  refine wpAny_bind (wpAny_of_eq (a := (.builtin "list.pop", some (.ref ac), some (.ref 178))) rfl ?_)
  dsimp only
  rw [if_neg (by decide +kernel)]
  show wpAny _ _ (do
      (do let r ← isInstance (.ref ac) (.type (".".intercalate ("list.pop".cutAt '.').dropLast)); if (!r) = true then _ else pure ())
      ret (← newFields "builtin_function_or_method" [.builtin "list.pop", .ref ac])) _ _ _
  rw [show (".".intercalate ("list.pop".cutAt '.').dropLast) = "list" from by decide +kernel]
  refine wpAny_bind (wpAny_bind (hI.here ?_))
  refine wpAny_pure (wpAny_bind ?_)
  exact wpAny_newObj_type (wpAny_pure ⟨_, rfl, h⟩) (by size_fits)
theorem wd_get {id : String} {hp : Heap} {gs : Array GenState} {d : Drawn} {t : Nat} {os : OsState} {Q : Value → Shared → Prop} (X : (Mine.hd.heap_1 w.params).In hp) (hx : hp.get? ac = some (accO dc items ep))
    (hT' : typeOf (.builtin id) = pure (.type "wrapper_descriptor")) (hid : ".".intercalate (id.cutAt '.').dropLast = "list") (h : Q (.ref hp.objs.size) ⟨hp.push (boundO "method-wrapper" id ac), gs, d, t, os⟩) :
    wpAny (model PySem.Challenge.pw_pe0181_01 w) A (call (.builtin "wrapper_descriptor.__get__") [.builtin id, .ref ac, .ref 178]) Q E ⟨hp, gs, d, t, os⟩ := by
  have hT : (⟨hp, gs, d, t, os⟩ : Shared).TypeIs (.builtin id) "wrapper_descriptor" := hT'
  have hI : Looks (model PySem.Challenge.pw_pe0181_01 w) hp (isInstance (.ref ac) (.type "list")) true := (acc_type (s := ⟨hp, gs, d, t, os⟩) hx).andThen (looks_subIn X acc_sub)
  refine wpAny_call_entry FD.slot_wd_get hT FD.entry_wd_get ?_ (FD.args_wd_get _ _ _)
  show wpAny _ _ (do
      (do let r ← isInstance (.ref ac) (.type (".".intercalate (id.cutAt '.').dropLast)); if (!r) = true then _ else pure ())
      ret (← newFields "method-wrapper" [.builtin id, .ref ac])) _ _ _
  rw [hid]
  refine wpAny_bind (wpAny_bind (hI.here ?_))
  refine wpAny_pure (wpAny_bind ?_)
  exact wpAny_newObj_type (wpAny_pure ⟨_, rfl, h⟩) (by size_fits)

theorem acc_ne {h : Heap} (X : (Mine.hd.heap_1 w.params).In h) (hx : h.get? ac = some (accO dc items ep)) : ac ≠ 178 := by
  rintro rfl
  have e : ∃ oD, (Mine.hd.heap_1 w.params).lookup 178 = some oD ∧ ∃ cdD, oD.data = .cls cdD := ⟨_, by k_is, _, rfl⟩
  obtain ⟨oD, e1, cdD, e2⟩ := e
  have := X _ _ e1
  rw [hx] at this
  cases this
  cases e2

theorem sup_ga {id T gid bt : String} {so : Addr} {tk : Tok} {hp : Heap} {gs : Array GenState} {d : Drawn} {t : Nat} {os : OsState} {Q : Fin → Shared → Prop} (X : (Mine.hd.heap_1 w.params).In hp) (hx : hp.get? ac = some (accO dc items ep)) (hso : hp.get? so = some (ks_superObj 178 ac 178))
    (hf : alongIn (Mine.hd.heap_1 w.params) name [.type "list", .type "object"] = some (some (.builtin id))) (hT : typeOf (.builtin id) = pure (.type T)) (hlk : typeLookup (.type T) "__get__" = pure (some (.builtin gid))) (hn : (name == ("__class__" : Str)) = false)
    (hget : ∀ {Q : Value → Shared → Prop}, Q (.ref hp.objs.size) ⟨hp.push (boundO bt id ac), gs, d, t, os⟩ → wpAny (model PySem.Challenge.pw_pe0181_01 w) A (call (.builtin gid) [.builtin id, .ref ac, .ref 178]) Q E ⟨hp, gs, d, t, os⟩)
    (hq : Q (.done (.ret (.ref hp.objs.size))) ⟨hp.push (boundO bt id ac), gs, d, t, os⟩) :
    wpAny (model PySem.Challenge.pw_pe0181_01 w) A (Builtin.«super.__getattribute__» ⟨[.ref so, .str name tk], []⟩) Q E ⟨hp, gs, d, t, os⟩ := by
  have hne : (Value.ref ac == Value.ref 178) = false := by simp [acc_ne X hx]
  have hno : Looks (model PySem.Challenge.pw_pe0181_01 w) hp (opaqueClassAbove (.ref 178)) none := looks_opaque X (by k_is)
  obtain ⟨cd, hc, hm⟩ := Option.map_eq_some_iff.mp (acc_mro (w := w))
  have hC : Looks (model PySem.Challenge.pw_pe0181_01 w) hp (mroOf (.ref 178)) [.ref 178, .type "list", .type "object"] := hm ▸ (looks_clsIn X hc).andThen .now
  have hl : (([.ref 178, .type "list", .type "object"] : List Value).dropWhile (· != .ref 178)).drop 1 = [.type "list", .type "object"] := by decide +kernel
  have hdt : (ks_superObj 178 ac 178 : Obj).data = .fields #[.ref 178, .ref ac, .ref 178] := rfl
  have f0 : (#[.ref 178, .ref ac, .ref 178] : Array Value)[0]? = some (.ref 178) := rfl
  have f1 : (#[.ref 178, .ref ac, .ref 178] : Array Value)[1]? = some (.ref ac) := rfl
  have f2 : (#[.ref 178, .ref ac, .ref 178] : Array Value)[2]? = some (.ref 178) := rfl
  unfold Builtin.«super.__getattribute__»
  repeat (first
    | (with_reducible refine wpAny_field hso hdt f0 ?_) | (with_reducible refine wpAny_field hso hdt f1 ?_) | (with_reducible refine wpAny_field hso hdt f2 ?_)
    | (with_reducible refine ks_wpAny_notOpaque hno ?_)
    | (with_reducible refine Looks.at hC ?_; rw [hl])
    | (refine ks_forIn_along X (fun _ _ => rfl) rfl ?_ hf)
    | (with_reducible refine wpAny_of_eq hT ?_)
    | (with_reducible refine wpAny_of_eq hlk ?_)
    | (with_reducible refine hget ?_)
    | (simp only [hn, hne, Bool.or_false, Bool.false_eq_true, if_false])
    | wp_step
    | dsimp only)
  all_goals exact hq

theorem sup_method {id T gid bt : String} {so : Addr} {pl : Sem Bool} {Q : Value × List Value → Shared → Prop} (G : Gd w mg mb b) (H : At b ω L m ns s) (hx : (ac, accO dc items ep) ∈ ns) (hso : (so, ks_superObj 178 ac 178) ∈ ns)
    (hf : alongIn (Mine.hd.heap_1 w.params) name [.type "list", .type "object"] = some (some (.builtin id))) (hT : typeOf (.builtin id) = pure (.type T)) (hlk : typeLookup (.type T) "__get__" = pure (some (.builtin gid))) (hn : (name == ("__class__" : Str)) = false)
    (hget : ∀ {A : Around} {hp gs d t os} {Q : Value → Shared → Prop}, (Mine.hd.heap_1 w.params).In hp → hp.get? ac = some (accO dc items ep) → Q (.ref hp.objs.size) ⟨hp.push (boundO bt id ac), gs, d, t, os⟩ → wpAny (model PySem.Challenge.pw_pe0181_01 w) A (call (.builtin gid) [.builtin id, .ref ac, .ref 178]) Q (fun _ _ => False) ⟨hp, gs, d, t, os⟩)
    (h : ∀ q s', At b ω L m ((q, boundO bt id ac) :: ns) s' → Q (.ref q, []) s') :
    wpAny (model PySem.Challenge.pw_pe0181_01 w) A (getMethod (.ref so) name pl) Q E s := by
  have X : (Mine.hd.heap_1 w.params).In s.heap := G.X.keeps H.F.keep
  have hso' := H.get hso
  have hx' := H.get hx
  have z := h _ _ (H.push (boundO bt id ac) (Nat.le_succ _))
  obtain ⟨hp, gs, d, t, os⟩ := s
  have hlk' := F.ks_slot_super_ga.lookup
  have hT' : ∀ t', (⟨hp, gs, d, t', os⟩ : Shared).TypeIs (.ref so) "super" := fun _ => ⟨_, hso', rfl⟩
  unfold getMethod
  refine wpAny_bind (wpAny_specialOf (hT' _) hlk' ?_)
  show wpAny _ _ (if (Manifest.canonical "super.__getattribute__" != "object.__getattribute__") = true then _ else _) _ _ _
  rw [if_pos F.ks_canon_super_ga]
  unfold getAttr getAttrBy
  refine wpAny_bind (wpAny_bind (wpAny_mkText (wpAny_holding (wpAny_bind (wpAny_typeOf (hT' _) (wpAny_bind (wpAny_of_eq hlk' ?_)))))))
  show wpAny _ _ (getAttrByItsOwn (.ref so) (.str name t) (.type "super") (.builtin "super.__getattribute__") true false) _ _ _
  unfold getAttrByItsOwn hookBefore callGetattribute boundAndCalled
  refine wpAny_bind (wpAny_of_eq (show (if onTheHeap (.type "super") then typeLookup (.type "super") "__getattr__" else pure none) = pure none from rfl) ?_)
  refine wpAny_bind (wpAny_attempt (wpAny_holding ?_))
  show wpAny _ _ (bindSpecial (.builtin "super.__getattribute__") (.ref so) >>= _) _ _ _
  refine wpAny_bind (wpAny_of_eq (F.ks_slot_super_ga.bind _) ?_)
  refine wpAny_mono (Q := fun v s' => v = .ref hp.objs.size ∧ s' = ⟨hp.push (boundO bt id ac), gs, d, t + 1, os⟩) (E := fun _ _ => False)
    (wpAny_call_entry F.ks_slot_super_ga (hT' _) F.ks_entry_super_ga (sup_ga X hx' hso' hf hT hlk hn (fun q => hget X hx' q) ⟨_, rfl, rfl, rfl⟩) (F.ks_gaArgs_super _ _)) (fun v s' hv => ?_) fun _ _ z => z.elim
  obtain ⟨rfl, rfl⟩ := hv
  exact wpAny_pure (wpAny_pure z)
end
end Mine
end
section
open PySem PySem.W PyProof.Rows PySem.Calls PySem.Spec
set_option Elab.async false
set_option maxRecDepth 100000
set_option maxHeartbeats 4000000
namespace Mine
example (P : Params) : PySem.Challenge.rw_pe0181_01 = PySem.Challenge.rw_pe0181_01 ∧ Mine.hd.heap_1 P = Mine.hd.heap_1 P := by
  k_fill
  exact ⟨rfl, rfl⟩
section
variable {w : World} {A : Around} {E : Value → Shared → Prop} {s : Shared} {ac dc : Addr} {items : List Value} {ep n : Nat} {name : Str} {v : Value}
  {b : Heap} {ω : OsState} {L f cda : Addr} {m mg mb : Str → Option Value} {ns : List (Addr × Obj)} {g : Obj → List (Addr × Obj)}
theorem bound_keeper {bt id : String} {q : Addr} {M : Model} (hbt : bt = "builtin_function_or_method" ∨ bt = "method-wrapper") (h : Heap) (e : h.get? q = some (boundO bt id ac)) :
    ∃ k, (k = Keeper.frame ∨ k = Keeper.machine ∨ k = Keeper.boundFrame) ∧ Looks M h (keeperOf (.ref q)) k := by
  refine ⟨.machine, .inr (.inl rfl), (Looks.ld (part := none) e).andThen ?_⟩
  rcases hbt with rfl | rfl <;> exact Looks.of_pure rfl

theorem bound_callWith {bt id : String} {q : Addr} {pos : Pos} {env : Env} {Q : Value → Shared → Prop} (H : At b ω L m ns s) (hq : (q, boundO bt id ac) ∈ ns) (hbt : bt = "builtin_function_or_method" ∨ bt = "method-wrapper")
    (h : wpAny (model PySem.Challenge.pw_pe0181_01 w) A (call (.ref q) []) Q E s) : wpAny (model PySem.Challenge.pw_pe0181_01 w) A (callWith pos (.ref q) [] (backTo pos (starEach [] env)) []) Q E s :=
  callWith_of (P := fun h => h.get? q = some (boundO bt id ac)) rfl (bound_keeper hbt) (evalArgs_nil3 ⟨H.get hq, h⟩)

theorem bound_pop {q : Addr} {Q : Value → Shared → Prop} (G : Gd w mg mb b) (H : At b ω L m ns s) (hq : (q, boundO "builtin_function_or_method" "list.pop" ac) ∈ ns) (U : PutF ac (accO dc (items ++ [v]) ep) ns g) (hz : items.length ≤ 1000)
    (h : ∀ s', At b ω L m (g (accO dc items (ep + 1))) s' → Q v s') : wpAny (model PySem.Challenge.pw_pe0181_01 w) A (call (.ref q) []) Q E s := by
  have X : (Mine.hd.heap_1 w.params).In s.heap := G.X.keeps H.F.keep
  have hq' := H.get hq
  have hx := H.get U.mem
  have T : Looks (model PySem.Challenge.pw_pe0181_01 w) s.heap (typeOf (.ref ac)) (.ref 178) := acc_type hx
  refine wpAny_call (codeAny_of_tree ?_)
  show wpAny _ _ (callAny (.ref q) ⟨[], []⟩) _ _ _
  unfold callAny
  refine wpAny_bind (wpAny_load hq' ?_)
  show wpAny _ _ (checkBoundCall "list.pop" ⟨[.ref ac], []⟩ >>= fun _ => again (.builtin "list.pop" ⟨[.ref ac], []⟩)) _ _ _
  refine wpAny_bind ?_
  unfold checkBoundCall
  have hmod : subIn (Mine.hd.heap_1 w.params) (.ref 178) (.type "module") = some false := by k_is
  obtain ⟨cd, hc, hqn⟩ : ∃ cd, clsIn (Mine.hd.heap_1 w.params) 178 = some cd ∧ cd.qualname = "_Accumulator" := Option.map_eq_some_iff.mp (show (clsIn (Mine.hd.heap_1 w.params) 178).map (·.qualname) = some "_Accumulator" from by kernel_rfl)
  obtain ⟨sig, hsig⟩ : ∃ sig, Manifest.signature? "list.pop" = some sig := Option.isSome_iff_exists.mp (by decide +kernel)
  have hargs : Bind.checkArgs "list.pop" { sig with full := toString cd.qualname.toString ++ toString "." ++ toString (Bind.lastOf "list.pop") } ⟨[.ref ac], []⟩ = pure () := by
    have e : sig = (Manifest.signature? "list.pop").getD sig := by rw [hsig]; rfl
    rw [hqn, e]
    kernel_rfl
  rw [hsig]
  dsimp only
  rw [show builtinKind "list.pop" = some .method from by decide +kernel]
  dsimp only
  rw [if_neg (by decide)]
  refine wpAny_bind (m := isInstance (.ref ac) (.type "module")) (Looks.here (t := isInstance (.ref ac) (.type "module")) (T.andThen (looks_subIn X hmod)) ?_)
  rw [if_neg (by decide +kernel)]
  refine wpAny_bind (m := isType (.ref ac)) ?_
  have z := h _ (At.upd (f := Obj.mapSeq fun xs => xs.eraseIdxIfInBounds ((items ++ [v]).toArray.size - 1)) H (U.put (accO dc items (ep + 1))) (by simp [Obj.mapSeq, List.eraseIdx_append_of_length_le]) (Nat.le_refl _))
  have hz1 : (items ++ [v]).toArray.size ≤ sizeLine := by rw [List.size_toArray, sizeLine_eq, List.length_append]; simp only [List.length_singleton]; omega
  obtain ⟨hp, gs, d, t, os⟩ := s
  refine ks_wpAny_isType_inst hx (fun c e => by cases e) ?_
  rw [if_neg (by decide)]
  refine wpAny_bind (m := typeOf (.ref ac)) (T.here ?_)
  dsimp only
  refine wpAny_bind (m := classData 178) ((looks_clsIn X hc).here ?_)
  refine wpAny_bind (m := typeOf (.ref 178)) ((looks_typeIn X (by k_is)).here ?_)
  rw [if_pos (by decide)]
  rw [hargs]
  refine wpAny_pure (wpAny_pure ⟨rfl, codeAny_builtin F.entry_list_pop ?_⟩)
  rw [Around.under_plainId F.slot_list_pop.plain _]
  unfold Builtin.«list.pop»
  refine wpAny_bind (wpAny_of_eq (a := (.ref ac, [])) rfl ?_)
  refine wpAny_bind (wpAny_pure ?_)
  dsimp only
  rw [if_neg (by decide)]
  unfold Builtin.List.listItems
  refine wpAny_bind (wpAny_bind (m := seqItems? (.ref ac)) (wpAny_seqItems hx rfl (wpAny_pure ?_)))
  rw [if_neg (by simp)]
  have e1 : seqIndex? (-1) (items ++ [v]).toArray.size = some ((items ++ [v]).toArray.size - 1) := by
    rw [seqIndex_neg (by decide) (by simp only [List.size_toArray, List.length_append, List.length_singleton]; omega)]
    congr 1
    simp only [List.size_toArray, List.length_append, List.length_singleton]
    omega
  have e3 : (items ++ [v]).eraseIdx items.length = items := by simp [List.eraseIdx_append_of_length_le]
  have e2 : (items ++ [v]).toArray[(items ++ [v]).toArray.size - 1]? = some v := by simp
  rw [e1, Option.bind_some, e2]
  refine wpAny_bind (m := Builtin.List.listUpdate (.ref ac) _) ?_
  unfold Builtin.List.listUpdate
  exact wpAny_updateSeq hx rfl (wpAny_pure z) hz1 (by simp [sizeLine_eq, e3]; omega)
end
end Mine
end
section
open PySem PySem.W PyProof.Rows Mine
local macro_rules | `(tactic| walk_at "drops") => `(tactic| first | exact Drop.here (List.Sublist.refl _) | (refine Drop.keep ?_; walk_at "drops") | (refine Drop.skip ?_; walk_at "drops"))
local macro_rules | `(tactic| walk_at "puts") => `(tactic| first | assumption | exact PutF.head | (refine' PutF.tail ?hh; (case hh => walk_at "puts")))
local macro_rules | `(tactic| walk_at "subs") => `(tactic| (intro p hp; repeat (first | exact hp | refine List.Mem.tail _ ?_)))
local macro_rules | `(tactic| walk_at "mems") => `(tactic| first | assumption | exact PutF.mem (by assumption) | exact List.Mem.head _ | (refine List.Mem.tail _ ?_; walk_at "mems"))
local macro_rules | `(tactic| walk_at "upl") => `(tactic| first | exact up_self | assumption | (refine (up_ne (by decide +kernel)).trans ?_; walk_at "upl") | exact rfl)
local macro_rules | `(tactic| walk_at "upn") => `(tactic| first | exact up_self | assumption | (refine (up_ne (by decide +kernel)).trans ?_; walk_at "upn"))
set_option hygiene false in
local macro_rules | `(tactic| walk_at "name") => `(tactic| first
  | (refine' nm_cellI H ?k1 ?k2 ?k3 rfl ?k4 ?k5 ?_; (case k1 => exact rfl); (case k4 => exact rfl); (case k2 => walk_at "mems"); (case k3 => assumption); (case k5 => decide +kernel))
  | (refine' nm_local H ?k1 rfl ?k2 ?k3 ?_; (case k2 => exact rfl); (case k1 => first | exact rfl | walk_at "upn"); (case k3 => decide +kernel))
  | (refine' nm_glob G H ?k1 rfl rfl ?k2 ?k3 ?_; (case k2 => exact rfl); (case k1 => k_is); (case k3 => decide +kernel))
  | (refine' nm_built G H ?k1 ?k2 ?k5 rfl rfl rfl ?k3 ?k4 ?_; (case k3 => exact rfl); (case k1 => k_is); (case k2 => boot_by_name); (case k4 => decide +kernel); (case k5 => decide +kernel)))
set_option hygiene false in
local macro_rules | `(tactic| walk_at "w1") => `(tactic| first
  | ((with_reducible refine p_eval ?_); first
    | (with_reducible refine wpAny_BinOp ?_)
    | ((with_reducible refine wpAny_Compare1 ?_ ?k1); (case k1 => with_unfolding_all exact rfl))
    | ((with_reducible refine' MethodCall_ ?_ ?k1); (case k1 => exact rfl))
    | ((with_reducible refine PyProof.Rows.Call_ ?_ ?k1); (case k1 => exact rfl))
    | ((with_reducible refine Attribute_any_ ?_ ?k1); (case k1 => with_unfolding_all exact rfl))
    | (with_reducible refine Subscript_ ?_)
    | (with_reducible refine BoolOp_and ?_)
    | (with_reducible refine BoolOp_or ?_)
    | (with_reducible refine BoolOp_one ?_)
    | (with_reducible refine UnaryOp_ ?_)
    | (with_reducible refine e_slice ?_)
    | (with_reducible refine e_tup ?_)
    | (with_reducible refine e_lst ?_)
    | ((with_reducible refine c_int H ?_); intro t s H)
    | ((with_reducible refine c_str H ?_); intro t s H)
    | (with_reducible refine wpAny_Constant_none ?_)
    | (with_reducible refine wpAny_Constant_bool ?_)
    | ((with_reducible refine wpAny_Name_probe ?_); walk_at "name"))
  | ((with_reducible refine p_execs ?_); first
    | with_reducible refine wpAny_execs_cons ?_
    | with_reducible refine wpAny_execs_nil ?_)
  | ((with_reducible refine p_exec ?_); first
    | ((with_reducible refine wpAny_Expr_any ?_ ?k1 ?k2); (case k1 => exact rfl); (case k2 => exact rfl))
    | ((with_reducible refine wpAny_Assign_Name ?_ ?k1); (case k1 => exact rfl))
    | (with_reducible refine wpAny_If ?_)
    | (with_reducible refine wpAny_Break ?_)
    | (with_reducible refine wpAny_Continue ?_)
    | ((with_reducible refine Assign_Tuple ?_ ?k1 ?k2); (case k1 => exact rfl); (case k2 => exact rfl))
    | (with_reducible refine wpAny_Return_some ?_)
    | (with_reducible refine wpAny_Return_none ?_)
    | ((with_reducible refine wpAny_Assign_Subscript ?_ ?k1); (case k1 => exact rfl))
    | ((with_reducible refine plainObj_wpAny_Assign_Attribute ?_ ?k1); (case k1 => exact rfl)))
  | ((with_reducible refine p_isTrue ?_); first
    | ((with_reducible refine wpAny_isTrue_Compare1 ?_ ?k1); (case k1 => with_unfolding_all exact rfl))
    | (with_reducible refine isTrue_not ?_)
    | (with_reducible refine isTrue_and ?_)
    | (with_reducible refine isTrue_or ?_)
    | (with_reducible refine isTrue_and_nil ?_)
    | (with_reducible refine isTrue_or_nil ?_)
    | ((with_reducible refine isTrue_plain ?_ ?k1); (case k1 => exact rfl)))
  | ((with_reducible refine p_meth ?_); first
    | ((with_reducible refine gm_probe ?_); (refine' acc_method (G.X.keeps H.F.keep) (acc_at (H.get ?k1) (H.get ?k2)) ?k3 ?k4 ?k5 ?k6 ?_; (case k1 => walk_at "mems"); (case k2 => walk_at "mems"); (case k3 => k_is); (case k4 => k_is); (case k5 => decide +kernel); (case k6 => first | exact hg _ (by decide +kernel) | exact rfl)))
    | ((with_reducible refine gm_probe ?_); (refine' lst_meth H ?k1 PySem.F.slot_list_append PySem.F.type_list_append ?_; (case k1 => walk_at "mems")))
    | ((with_reducible refine gm_probe ?_); (refine' mk_meth G H ?k1 ?k2 ?k3 ?k4 ?_; (case k1 => exact MkIn.mono K (by walk_at "subs")); (case k2 => k_is); (case k3 => k_is); (case k4 => decide +kernel)))
    | (with_reducible refine GM.isspace ?_)
    | (with_reducible refine GM.join ?_)
    | (with_reducible refine GM.count ?_)
    | (with_reducible refine GM.replace ?_)
    | (with_reducible refine GM.split ?_))
  | ((with_reducible refine p_attr ?_); first
    | ((with_reducible refine' mk_cur G H ?k1 ?_); (case k1 => exact MkIn.mono K (by walk_at "subs")); intro s H)
    | ((with_reducible refine' mk_lines G H ?k1 ?_); (case k1 => exact MkIn.mono K (by walk_at "subs")); intro s H)
    | ((with_reducible refine' mk_maxlen G H ?k1 ?_); (case k1 => exact MkIn.mono K (by walk_at "subs")); intro t s H)
    | ((with_reducible refine' mk_split G H ?k1 ?_); (case k1 => exact MkIn.mono K (by walk_at "subs")); intro t s H)
    | ((with_reducible refine' acc_size G H ?k1 ?k2 ?_); (case k1 => walk_at "mems"); (case k2 => walk_at "mems"); intro s H))
  | ((with_reducible refine p_cmp ?_); first
    | (with_reducible refine eq_int ?_)
    | (with_reducible refine ne_int ?_)
    | (with_reducible refine lt_int ?_)
    | (with_reducible refine le_int ?_)
    | (with_reducible refine gt_int ?_)
    | (with_reducible refine ge_int ?_)
    | (with_reducible refine eq_str ?_)
    | (with_reducible refine ne_str ?_)
    | (with_reducible refine is_none ?_))
  | ((with_reducible refine p_bin ?_); first
    | ((with_reducible refine i_add H ?_); intro t s H)
    | ((with_reducible refine i_sub H ?_); intro t s H))
  | ((with_reducible refine p_assign ?_); first
    | (with_reducible refine wpAny_assign_Name ?_)
    | ((with_reducible refine' asg_pair R.hd H ?k1 ?k2 ?k3 ?k4 ?_); (case k1 => walk_at "mems"); (case k2 => exact rfl); (case k3 => exact rfl); (case k4 => exact rfl); intro s H))
  | (with_reducible refine ifT ?_)
  | (with_reducible refine ifF ?_)
  | (with_reducible refine ifTT ?_)
  | (with_reducible refine ifFF ?_)
  | ((with_reducible refine args_cons ?_ ?k1); (case k1 => exact rfl))
  | (with_reducible refine args_nil ?_)
  | ((with_reducible refine fn_callWith G H ?k1 ?_ ?k2); (case k1 => k_is); (case k2 => exact rfl))
  | (with_reducible refine callWith_method0 ?_)
  | ((with_reducible refine callWith_method1 ?_ ?k1 ?k2); (case k1 => exact rfl); (case k2 => exact rfl))
  | ((with_reducible refine PyProof.Rows.callWith_type1 ?_ ?k1 ?k2); (case k1 => exact rfl); (case k2 => exact rfl))
  | (with_reducible refine ea_nil ?_)
  | ((with_reducible refine ea_cons ?_ ?k1); (case k1 => exact rfl))
  | (with_reducible refine And.intro (Exists.intro _ (Exists.intro _ (Exists.intro _ H))) ?_)
  | (with_reducible refine not_of ?_)
  | (with_reducible refine ep_some ?_)
  | (with_reducible refine ep_none ?_)
  | ((with_reducible refine mk_sli H ?_); intro sa s H)
  | ((with_reducible refine mk_tup H ?k1 ?_); (case k1 => exact rfl); intro ta s H)
  | ((with_reducible refine mk_lst H ?k1 ?_); (case k1 => exact rfl); intro la s H)
  | (with_reducible refine wpAny_truthy_bool ?_)
  | ((with_reducible refine wpAny_store_probe ?_); first
    | ((refine st_local H rfl ?k1 ?_; (case k1 => exact rfl)); intro s H)
    | ((refine' st_cellI H ?k1 ?k2 ?k3 rfl ?k4 ?_; (case k1 => exact rfl); (case k4 => exact rfl); (case k2 => walk_at "puts"); (case k3 => assumption)); intro _ s _ H)))
local macro_rules | `(tactic| walk_at "w") => `(tactic| repeat (first | walk_at "w1" | dsimp only | simp only [List.cons_append, List.nil_append]))
section
open PySem PySem.W PyProof.Rows PySem.Calls PySem.Spec
set_option Elab.async false
set_option maxRecDepth 100000
set_option maxHeartbeats 4000000
namespace Mine
example (P : Params) : PySem.Challenge.rw_pe0181_01 = PySem.Challenge.rw_pe0181_01 ∧ Mine.hd.heap_1 P = Mine.hd.heap_1 P := by
  k_fill
  exact ⟨rfl, rfl⟩
section
variable {prog : Program} {w : World} {A : Around} {E : Value → Shared → Prop} {s : Shared} {ac dc : Addr} {items : List Value} {es : List DictEntry} {ep n k : Nat} {v : Value}
  {b : Heap} {ω : OsState} {L f cda : Addr} {m mg mb : Str → Option Value} {ns : List (Addr × Obj)} {g : Obj → List (Addr × Obj)} {Q : Value → Shared → Prop}
  {name qual : Str} {params : Arguments} {body : List Stmt} {scope : Scope} {cl : List (Str × Addr)} {dV kV doc pm cdv ct oc : Value} {an od : Option Addr} {osl : Array (Option Value)} {args : List Value} {binds : List (Str × Value)}

theorem wpAny_Name_probe {M : Model} {x : Str} {pos : Pos} {env : Env} (h : wpAny M A (eval (.Name x pos) env) Q E s) : wpAny M A (eval (.Name x pos) env) Q E s := h
theorem wpAny_store_probe {M : Model} {x : Str} {env : Env} {Q : Unit → Shared → Prop} (h : wpAny M A (storeName env x v) Q E s) : wpAny M A (storeName env x v) Q E s := h

/-- a new frame: the caller's goes into the ledger -/
theorem At.enter {h₀ : Heap} {t : Nat} {m' : Str → Option Value} (H : At b ω L m ns s) (hns : h₀.Ns s.heap.objs.size m') (hk : ∀ c o, s.heap.get? c = some o → h₀.get? c = some o) (ht : s.toks ≤ t) :
    ∃ oL, NsO oL m ∧ At b ω s.heap.objs.size m' ((L, oL) :: ns) { s with heap := h₀, toks := t } := by
  obtain ⟨oL, es, ep, hL, r⟩ := H.F.ns
  refine ⟨oL, ⟨es, ep, r⟩, ⟨hns, fun c o e => hk c o (H.F.keep c o e), Nat.le_trans H.F.above (Nat.le_of_lt (Heap.lt_size hL))⟩, fun p hp => ?_, ?_, H.os, H.gens, Nat.lt_of_lt_of_le H.tk ht⟩
  · rcases List.mem_cons.mp hp with rfl | hp
    · refine ⟨hk _ _ hL, Nat.ne_of_lt (Heap.lt_size hL), ?_⟩
      cases z : b.get? L with
      | none => rfl
      | some o => exact absurd H.F.above (Nat.not_le.mpr (Heap.lt_size z))
    · exact ⟨hk _ _ (H.get hp), Nat.ne_of_lt (H.lt hp), (H.N p hp).2.2⟩
  · rw [List.map_cons, List.nodup_cons]
    refine ⟨fun q => ?_, H.D⟩
    obtain ⟨p, hp, e⟩ := List.mem_map.mp q
    exact (H.N p hp).2.1 e

theorem fn_call {Q : Value → Shared → Prop} (binds : List (Str × Value)) (G : Gd w mg mb b) (H : At b ω L m ns s) (R : Rm A (k + 1))
    (ho : (Mine.hd.heap_1 w.params).lookup f = some ⟨oc, od, .func (fnX name qual params body scope cl dV kV doc pm an cdv ct), osl⟩) (hcd : codeIn (Mine.hd.heap_1 w.params) cdv qual = true)
    (hbind : BindsTo s (fnX name qual params body scope cl dV kV doc pm an cdv ct) ⟨args, []⟩ binds) (hloc : ∀ y ∈ binds, scope.names.lookup y.1 = some .local) (hcell : ∀ x ∈ scope.names, x.2 ≠ .cell)
    (h : ∀ L' oL s', NsO oL m → At b ω L' (fun x => binds.reverse.lookup x) ((L, oL) :: ns) s' → Rm (A.deeper (envX qual scope L' f cdv cl)) k →
      _root_.PySem.wpAt (model prog w) (A.deeper (envX qual scope L' f cdv cl)) (.func body (envX qual scope L' f cdv cl)) (execs body (envX qual scope L' f cdv cl)) (fun fl s' => Q (match fl with | .ret v => v | _ => .none) s') (fun _ _ => False) s')
    (hco : scope.isCoroutine = false := by rfl) (hgen : scope.isGenerator = false := by rfl) (hk : scope.kind = .function := by rfl) :
    wpAny (model prog w) A (call (.ref f) args) Q E s := by
  have X : (Mine.hd.heap_1 w.params).In s.heap := G.X.keeps H.F.keep
  refine wpAny_call (ks_codeAny_call_defAt R.room (X _ _ ho) rfl (G.nolimit.keeps H.F.keep) (codeRec_of X hcd) rfl hbind hcell hloc (fun h₀ hns hk₀ => ?_) hco hgen hk)
  obtain ⟨oL, h1, h2⟩ := H.enter hns hk₀ (Nat.le_add_right _ _)
  exact ks_wpAt_mono (h _ oL _ h1 h2 R.deeper) (fun _ _ z => z) fun _ _ z => z.elim

theorem fn_callWith {pos : Pos} {env : Env} {first : List Value} {es : List Expr} (G : Gd w mg mb b) (_ : At b ω L m ns s) (hk : keepIn (Mine.hd.heap_1 w.params) (.ref f) = true)
    (h : wpAny (model prog w) A (evalArgs (.ref f) true (backTo pos (starEach es env)) []) (fun a s₁ => (∃ L m ns, At b ω L m ns s₁) ∧ wpAny (model prog w) A (call (.ref f) (first ++ a.pos) a.kw) Q E s₁) E s)
    (hp : ((backTo pos (starEach es env)).any (·.1) || ([] : List (Option Str × Sem Value)).any (·.1.isNone)) = false := by rfl) :
    wpAny (model prog w) A (callWith pos (.ref f) first (backTo pos (starEach es env)) []) Q E s :=
  callWith_of (P := fun h => (Mine.hd.heap_1 w.params).In h) hp (fun h X => keeps_K hk h X)
    (wpAny_mono h (fun _ _ z => ⟨by obtain ⟨⟨L, m, ns, H⟩, _⟩ := z; exact G.X.keeps H.F.keep, z.2⟩) fun _ _ z => z)

theorem ea_nil {M : Model} {f : Value} {pos : Pos} {env : Env} {Q : Args → Shared → Prop} (h : Q ⟨[], []⟩ s) : wpAny M A (evalArgs f true (backTo pos (starEach [] env)) []) Q E s := evalArgs_nil3 h
theorem ea_cons {M : Model} {f : Value} {pos : Pos} {env : Env} {e : Expr} {rest : List Expr} {Q : Args → Shared → Prop} (h : wpAny M A (spliced (backTo pos (starEach (e :: rest) env))) (fun vs s' => Q ⟨vs, []⟩ s') E s)
    (he : starEach (e :: rest) env = (false, eval e env) :: starEach rest env := by rfl) : wpAny M A (evalArgs f true (backTo pos (starEach (e :: rest) env)) []) Q E s := by
  rw [he] at h ⊢; exact evalArgs_plain h
theorem gm_probe {M : Model} {x : Addr} {nm : Str} {pl : Sem Bool} {Q : Value × List Value → Shared → Prop} (h : wpAny M A (getMethod (.ref x) nm pl) Q E s) : wpAny M A (getMethod (.ref x) nm pl) Q E s := h
abbrev tupO (xs : List Value) : Obj := { cls := .type "tuple", data := .seq xs.toArray }

abbrev lstO (xs : List Value) (n : Nat) : Obj := { cls := .type "list", data := .seq xs.toArray n }
def TupEnd (Q : Value → Shared → Prop) (xs : List Value) (s : Shared) : Prop := xs.length ≤ sizeLine ∧ Q (.ref s.heap.objs.size) { s with heap := s.heap.push { cls := .type "tuple", data := .seq xs.toArray } }
def LstEnd (Q : Value → Shared → Prop) (xs : List Value) (s : Shared) : Prop := xs.length ≤ sizeLine ∧ Q (.ref s.heap.objs.size) { s with heap := s.heap.push { cls := .type "list", data := .seq xs.toArray } }
theorem e_tup {M : Model} {env : Env} {elts : List Expr} {pos : Pos} (h : wpAny M A (spliced (backTo pos (starEach elts env))) (TupEnd Q) E s) : wpAny M A (eval (.Tuple elts k pos) env) Q E s := wpAny_Tuple h
theorem e_lst {M : Model} {env : Env} {elts : List Expr} {pos : Pos} (h : wpAny M A (spliced (backTo pos (starEach elts env))) (LstEnd Q) E s) : wpAny M A (eval (.List elts pos) env) Q E s := wpAny_List h
theorem mk_tup {xs : List Value} (H : At b ω L m ns s) (hz : Nat.ble xs.length 1000 = true) (h : ∀ ta s', At b ω L m ((ta, tupO xs) :: ns) s' → Q (.ref ta) s') : TupEnd Q xs s :=
  ⟨by have := Nat.le_of_ble_eq_true hz; rw [sizeLine_eq]; omega, h _ _ (H.push (tupO xs) (Nat.le_refl _))⟩
theorem mk_lst {xs : List Value} (H : At b ω L m ns s) (hz : Nat.ble xs.length 1000 = true) (h : ∀ ta s', At b ω L m ((ta, lstO xs 0) :: ns) s' → Q (.ref ta) s') : LstEnd Q xs s :=
  ⟨by have := Nat.le_of_ble_eq_true hz; rw [sizeLine_eq]; omega, h _ _ (H.push (lstO xs 0) (Nat.le_refl _))⟩

/-! push -/
theorem acc_push {fw st : Value} (G : Gd w mg mb b) (H : At b ω L m ns s) (R : Rm A 3) (U : PutF ac (accO dc items ep) ns g) (D : (dc, dictOf es n) ∈ ns) (hg : ∀ x, x ≠ ("_initial_size" : Str) → getL x es = some none) (hz : items.length ≤ 1000)
    (h : ∀ ta s', At b ω L m ((ta, tupO [fw, st]) :: g (accO dc (items ++ [.ref ta]) (ep + 1))) s' → Q .none s') :
    wpAny (model prog w) A (call (.ref 122) [.ref ac, fw, st]) Q E s := by
  have hL := H.F.above
  refine fn_call [("self", .ref ac), ("fws", fw), ("string", st)] G H R (by k_is) (by k_is) (BindsTo.of_eq rfl) (locs rfl) (by decide) ?_
  clear H R
  intro L' oL s ho H R
  refine wpAt_of_wpAny ?_
  walk_at "w"
  refine acc_append G.X H (by walk_at "puts") hz ?_
  intro s H
  walk_at "w"
  exact h _ _ (H.leave hL ho (by walk_at "drops"))
end
end Mine
end
section
open PySem PySem.W PyProof.Rows PySem.Calls PySem.Spec
set_option Elab.async false
set_option maxRecDepth 100000
set_option maxHeartbeats 4000000
namespace Mine
example (P : Params) : PySem.Challenge.rw_pe0181_01 = PySem.Challenge.rw_pe0181_01 ∧ Mine.hd.heap_1 P = Mine.hd.heap_1 P := by
  k_fill
  exact ⟨rfl, rfl⟩
section
variable {prog : Program} {w : World} {A : Around} {E : Value → Shared → Prop} {s : Shared} {ac dc : Addr} {items : List Value} {es : List DictEntry} {ep n k : Nat} {v : Value}
  {b : Heap} {ω : OsState} {L f cda : Addr} {m mg mb : Str → Option Value} {ns : List (Addr × Obj)} {g : Obj → List (Addr × Obj)} {Q : Value → Shared → Prop}

theorem bound_slot {id : String} {q : Addr} {B : Builtin} (H : At b ω L m ns s) (hq : (q, boundO "method-wrapper" id ac) ∈ ns)
    (hk : builtinKind id = some .slot) (pl : plainId id = true) (en : entryFor table id = some B) (ar : argsOk id ⟨[.ref ac], []⟩) (qu : (Code.builtin id ⟨[.ref ac], []⟩).quiet = true)
    (h : wpAny (model prog w) A.in1 (B ⟨[.ref ac], []⟩) (fun fin s' => match fin with | .done f => (match (Except.ok f : Result) with | .ok (.ret v) => Q v s' | .ok _ => False | .error e => E e s') | .again c' => c'.quiet = true ∧ codeAny (model prog w) A c' (fun r s' => match r with | .ok (.ret v) => Q v s' | .ok _ => False | .error e => E e s') s')
      (fun e s' => match (Except.error e : Result) with | .ok (.ret v) => Q v s' | .ok _ => False | .error e => E e s') s) :
    wpAny (model prog w) A (call (.ref q) []) Q E s := by
  have hq' := H.get hq
  refine wpAny_call (codeAny_of_tree ?_)
  show wpAny _ _ (callAny (.ref q) ⟨[], []⟩) _ _ _
  unfold callAny
  refine wpAny_bind (wpAny_load hq' ?_)
  show wpAny _ _ (checkBoundCall id ⟨[.ref ac], []⟩ >>= fun _ => again (.builtin id ⟨[.ref ac], []⟩)) _ _ _
  refine wpAny_bind ?_
  unfold checkBoundCall
  have fin : codeAny (model prog w) A (.builtin id ⟨[.ref ac], []⟩) (fun r s' => match r with | .ok (.ret v) => Q v s' | .ok _ => False | .error e => E e s') s := by
    refine codeAny_builtin en ?_
    rw [Around.under_plainId pl _]
    exact h
  unfold argsOk at ar
  cases hsig : Manifest.signature? id with
  | none => exact wpAny_pure (wpAny_pure ⟨qu, fin⟩)
  | some sig =>
    rw [hsig] at ar
    dsimp only at ar ⊢
    rw [hk]
    dsimp only
    rw [if_pos (by decide)]
    have ar' : Bind.checkArgs id sig ⟨[.ref ac], []⟩ = pure () := ar
    rw [ar']
    exact wpAny_pure (wpAny_pure ⟨qu, fin⟩)

theorem bound_len {q : Addr} (H : At b ω L m ns s) (hq : (q, boundO "method-wrapper" "list.__len__" ac) ∈ ns) (hx : (ac, accO dc items ep) ∈ ns)
    (h : ∀ t s', At b ω L m ns s' → Q (.int items.length t) s') : wpAny (model prog w) A (call (.ref q) []) Q E s := by
  have z := h s.toks _ (H.toks (Nat.le_succ s.toks))
  refine bound_slot H hq (by decide +kernel) F.slot_list_len.plain entry_list_len (args_list_len _) (by kernel_rfl) ?_
  have hx' := H.get hx
  unfold Builtin.«list.__len__»
  refine wpAny_bind (wpAny_of_eq (a := (.ref ac, [])) rfl ?_)
  obtain ⟨hp, gs, d, t, os⟩ := s
  wp_walk using (wpAny_seqItems hx' rfl)
  exact z

theorem PutF.self {a : Addr} {o : Obj} {l : List (Addr × Obj)} {g : Obj → List (Addr × Obj)} (h : PutF a o l g) : g o = l := by
  induction h with
  | head => rfl
  | tail _ ih => simp only [ih]
theorem PutF.of_mem {a : Addr} {o : Obj} : ∀ {l : List (Addr × Obj)}, (a, o) ∈ l → ∃ g, PutF a o l g
  | p :: r, h => by
    rcases List.mem_cons.mp h with rfl | h
    · exact ⟨_, .head⟩
    · obtain ⟨g, hg⟩ := PutF.of_mem h
      exact ⟨_, .tail hg⟩
theorem bound_init {q : Addr} (H : At b ω L m ns s) (hq : (q, boundO "method-wrapper" "list.__init__" ac) ∈ ns) (hx : (ac, accO dc [] ep) ∈ ns)
    (h : ∀ s', At b ω L m ns s' → Q .none s') : wpAny (model prog w) A (call (.ref q) []) Q E s := by
  obtain ⟨g, U⟩ := PutF.of_mem hx
  rw [← U.self] at h
  have z := h _ (At.upd (f := Obj.mapSeq fun _ => #[]) H (U.put (accO dc [] ep)) (by rfl) (Nat.le_refl _))
  refine bound_slot H hq (by decide +kernel) F.slot_list_init.plain F.entry_list_init (F.args_list_init_1 _) (by kernel_rfl) ?_
  have hx' := H.get U.mem
  unfold Builtin.«list.__init__»
  obtain ⟨hp, gs, d, t, os⟩ := s
  dsimp only
  wp_walk using (wpAny_seqItems hx' rfl), (wpAny_updateSeq hx' rfl)
  exact z

/-! part_count -/
theorem acc_count (G : Gd w mg mb b) (H : At b ω L m ns s) (R : Rm A 3) (hx : (ac, accO dc items ep) ∈ ns)
    (h : ∀ t s', At b ω L m ns s' → Q (.int items.length t) s') :
    wpAny (model PySem.Challenge.pw_pe0181_01 w) A (call (.ref 175) [.ref ac]) Q E s := by
  have hL := H.F.above
  refine fn_call [("self", .ref ac)] G H R (by k_is) (by k_is) (BindsTo.of_eq rfl) (locs rfl) (by decide) ?_
  clear H R
  intro L' oL s ho H R
  refine ks_wpAt_execs_cons (ks_wpAt_Return_some (ks_wpAt_MethodCall ?_ rfl))
  refine sup_base G H (by walk_at "mems") (by k_is) rfl rfl (by k_is) rfl (by decide +kernel) rfl rfl rfl rfl ?_
  intro so s H
  refine sup_method (bt := "method-wrapper") G H (by walk_at "mems") (by walk_at "mems") (id := "list.__len__") (by kernel_rfl) FD.type_len FD.slot_wd_get.lookup (by decide +kernel) (fun X hx q => wd_get X hx FD.type_len (by decide +kernel) q) ?_
  intro q s H
  refine bound_callWith H (by walk_at "mems") (.inr rfl) ?_
  refine bound_len H (by walk_at "mems") (by walk_at "mems") ?_
  intro t s H
  exact h _ _ (H.leave hL ho (by walk_at "drops"))

/-! pop -/
theorem acc_pop (G : Gd w mg mb b) (H : At b ω L m ns s) (R : Rm A 4) (U : PutF ac (accO dc (items ++ [v]) ep) ns g) (D : (dc, dictOf es n) ∈ ns) (hg : ∀ x, x ≠ ("_initial_size" : Str) → getL x es = some none) (hz : items.length ≤ 1000)
    (h : ∀ s', At b ω L m (g (accO dc items (ep + 1))) s' → Q v s') :
    wpAny (model PySem.Challenge.pw_pe0181_01 w) A (call (.ref 138) [.ref ac]) Q E s := by
  have hL := H.F.above
  refine fn_call [("self", .ref ac)] G H R (by k_is) (by k_is) (BindsTo.of_eq rfl) (locs rfl) (by decide) ?_
  clear H R
  intro L' oL s ho H R
  refine ks_wpAt_execs_cons (ks_wpAt_If (_root_.PySem.wpAt_of_wpAny ?_))
  walk_at "w"
  refine acc_count G H (R.le (by decide)) (by walk_at "mems") ?_
  intro t s H
  walk_at "w"
  rw [if_neg (by simp; omega)]
  refine _root_.PySem.wpAt_of_wpAny (wpAny_execs_nil ?_)
  dsimp only
  refine ks_wpAt_execs_cons (ks_wpAt_Return_some (ks_wpAt_MethodCall ?_ rfl))
  refine sup_base G H (by walk_at "mems") (by k_is) rfl rfl (by k_is) rfl (by decide +kernel) rfl rfl rfl rfl ?_
  intro so s H
  refine sup_method (bt := "builtin_function_or_method") (id := "list.pop") G H (by walk_at "mems") (by walk_at "mems") (by kernel_rfl) FD.type_pop FD.slot_md_get.lookup (by decide +kernel) (fun X hx q => md_get X hx q) ?_
  intro q s H
  refine bound_callWith H (by walk_at "mems") (.inl rfl) ?_
  refine bound_pop G H (by walk_at "mems") (by walk_at "puts") hz ?_
  intro s H
  exact h _ (H.leave hL ho (by walk_at "drops"))
theorem acc_pop_nil (G : Gd w mg mb b) (H : At b ω L m ns s) (R : Rm A 4) (hx : (ac, accO dc [] ep) ∈ ns) (D : (dc, dictOf es n) ∈ ns) (hg : ∀ x, x ≠ ("_initial_size" : Str) → getL x es = some none)
    (h : ∀ ta t u s', At b ω L m ((ta, tupO [.str "" t, .str "" u]) :: ns) s' → Q (.ref ta) s') :
    wpAny (model PySem.Challenge.pw_pe0181_01 w) A (call (.ref 138) [.ref ac]) Q E s := by
  have hL := H.F.above
  refine fn_call [("self", .ref ac)] G H R (by k_is) (by k_is) (BindsTo.of_eq rfl) (locs rfl) (by decide) ?_
  clear H R
  intro L' oL s ho H R
  refine ks_wpAt_execs_cons (ks_wpAt_If (_root_.PySem.wpAt_of_wpAny ?_))
  walk_at "w"
  refine acc_count G H (R.le (by decide)) (by walk_at "mems") ?_
  intro t s H
  walk_at "w"
  rw [if_pos (by rfl)]
  refine _root_.PySem.wpAt_of_wpAny ?_
  walk_at "w"
  exact h _ _ _ _ (H.leave hL ho (by walk_at "drops"))
end
end Mine
end
section
open PySem PySem.W PyProof.Rows PySem.Calls PySem.Spec
set_option Elab.async false
set_option maxRecDepth 100000
set_option maxHeartbeats 4000000
namespace Mine
example (P : Params) : PySem.Challenge.rw_pe0181_01 = PySem.Challenge.rw_pe0181_01 ∧ Mine.hd.heap_1 P = Mine.hd.heap_1 P := by
  k_fill
  exact ⟨rfl, rfl⟩
section
variable {prog : Program} {w : World} {A : Around} {E : Value → Shared → Prop} {s : Shared} {ac dc sa : Addr} {items : List Value} {es : List DictEntry} {ep n k : Nat} {v : Value}
  {b : Heap} {ω : OsState} {L f cda : Addr} {m mg mb : Str → Option Value} {ns : List (Addr × Obj)} {g : Obj → List (Addr × Obj)} {Q : Value → Shared → Prop}

/-! slices -/
abbrev sliO (l u st : Value) : Obj := { cls := .type "slice", data := .fields #[l, u, st] }
def SliEnd (Q : Value → Shared → Prop) (l u st : Value) (s : Shared) : Prop := Q (.ref s.heap.objs.size) { s with heap := s.heap.push { cls := .type "slice", data := .fields #[l, u, st] } }
theorem e_slice {M : Model} {env : Env} {lower upper step : Option Expr} {p : Pos}
    (h : wpAny M A (evalPart lower env) (fun l s₁ => wpAny M A (evalPart upper env) (fun u s₂ => wpAny M A (evalPart step env) (fun st s₃ => SliEnd Q l u st s₃) E s₂) E s₁) E s) :
    wpAny M A (eval (.Slice lower upper step p) env) Q E s := wpAny_Slice h
theorem mk_sli {l u st : Value} (H : At b ω L m ns s) (h : ∀ sa s', At b ω L m ((sa, sliO l u st) :: ns) s' → Q (.ref sa) s') : SliEnd Q l u st s := h _ _ (H.push (sliO l u st) (Nat.le_refl _))
theorem ep_some {M : Model} {env : Env} {e : Expr} (h : wpAny M A (eval e env) Q E s) : wpAny M A (evalPart (some e) env) Q E s := h
theorem ep_none {M : Model} {env : Env} (h : Q .none s) : wpAny M A (evalPart none env) Q E s := wpAny_pure h

theorem acc_from {value : Expr} {lo up : Option Expr} {p : Pos} {i : Int} {t : Tok} (G : Gd w mg mb b) (H : At b ω L m ns s) (hx : (ac, accO dc items ep) ∈ ns) (hs : (sa, sliO (.int i t) .none .none) ∈ ns) (h0 : 0 ≤ i) (hz : items.length ≤ 1000)
    (h : ∀ la s', At b ω L m ((la, lstO (items.drop i.toNat) 0) :: ns) s' → Q (.ref la) s') :
    wpAny (model prog w) A (subscriptTail value (.Slice lo up none p) (.ref ac) (.ref sa)) Q E s := by
  have X : (Mine.hd.heap_1 w.params).In s.heap := G.X.keeps H.F.keep
  refine acc_tail (ops := [.ref sa, .ref ac]) X (H.get hx) ?_ rfl
  refine acc_getSlice X (H.get hx) ⟨_, H.get hs, rfl, rfl⟩ (.int i t) .none hz ?_
  obtain ⟨j, rfl⟩ := Int.eq_ofNat_of_zero_le h0
  rw [slicePick_from']
  exact h _ _ (H.push (lstO (items.drop j) 0) (Nat.le_refl _))
theorem acc_cut {i : Nat} {t : Tok} {lv : Addr} {new : List Value} {ep2 : Nat} {Q : Unit → Shared → Prop} (G : Gd w mg mb b) (H : At b ω L m ns s) (U : PutF ac (accO dc items ep) ns g) (hs : (sa, sliO (.int i t) .none .none) ∈ ns) (hi : i ≤ items.length) (hv : (lv, lstO new ep2) ∈ ns) (hne : lv ≠ ac) (hz : items.length + new.length ≤ 1000)
    (h : ∀ ep' s', At b ω L m (g (accO dc (items.take i ++ new) ep')) s' → Q () s') :
    wpAny (model prog w) A (setItem (.ref ac) (.ref sa) (.ref lv)) Q E s := by
  refine acc_setSlice G.X H U ⟨_, H.get hs, rfl, rfl⟩ (.int i t) (H.get hv) hne (k := i) ?_ hi hz h
  simp only [sliceBounds, Option.getD_none]
  refine Prod.ext ?_ (Prod.ext ?_ rfl)
  · simp; omega
  · simp
theorem acc_all {lv : Addr} {new : List Value} {ep2 : Nat} {Q : Unit → Shared → Prop} (G : Gd w mg mb b) (H : At b ω L m ns s) (U : PutF ac (accO dc items ep) ns g) (hs : (sa, sliO .none .none .none) ∈ ns) (hv : (lv, lstO new ep2) ∈ ns) (hne : lv ≠ ac) (hz : items.length + new.length ≤ 1000)
    (h : ∀ ep' s', At b ω L m (g (accO dc new ep')) s' → Q () s') :
    wpAny (model prog w) A (setItem (.ref ac) (.ref sa) (.ref lv)) Q E s := by
  refine acc_setSlice G.X H U ⟨_, H.get hs, rfl, rfl⟩ .none (H.get hv) hne (k := 0) ?_ (Nat.zero_le _) hz (by simpa using h)
  simp [sliceBounds]

/-- two entries with different objects lie at different places -/
theorem At.ne {a c : Addr} {o o' : Obj} (H : At b ω L m ns s) (h1 : (a, o) ∈ ns) (h2 : (c, o') ∈ ns) (h : o.cls ≠ o'.cls) : a ≠ c := by
  rintro rfl
  have := H.get h1
  rw [H.get h2] at this
  cases this
  exact h rfl
end

section
variable {prog : Program} {w : World} {A : Around} {E : Value → Shared → Prop} {s : Shared} {ac dc sa : Addr} {items : List Value} {es : List DictEntry} {ep n k : Nat} {v v₀ : Value} {hsh : Int} {tk : Tok}
  {b : Heap} {ω : OsState} {L f cda : Addr} {m mg mb : Str → Option Value} {ns : List (Addr × Obj)} {g : Obj → List (Addr × Obj)} {Q : Unit → Shared → Prop}
/-- the dict of the list of parts -/
abbrev ownD (hsh : Int) (tk : Tok) (v : Value) (n : Nat) : Obj := dictOf [⟨hsh, .str "_initial_size" tk, v⟩] n
theorem acc_store (G : Gd w mg mb b) (H : At b ω L m ns s) (h1 : (ac, accO dc items ep) ∈ ns) (U : PutF dc (ownD hsh tk v₀ n) ns g) (h : ∀ s', At b ω L m (g (ownD hsh tk v n)) s' → Q () s') :
    wpAny (model prog w) A (setAttr (.ref ac) "_initial_size" v) Q E s :=
  acc_set G.X H h1 U (by k_is) rfl (Nat.le_of_ble_eq_true rfl) h
theorem acc_store0 (G : Gd w mg mb b) (H : At b ω L m ns s) (h1 : (ac, accO dc items ep) ∈ ns) (U : PutF dc (dictOf [] n) ns g) (h : ∀ hsh tk s', At b ω L m (g (ownD hsh tk v (n + 1))) s' → Q () s') :
    wpAny (model prog w) A (setAttr (.ref ac) "_initial_size" v) Q E s :=
  acc_set G.X H h1 U (by k_is) rfl (Nat.le_of_ble_eq_true rfl) (h _ _)
theorem acc_size_raw {Q : Value → Shared → Prop} {expr : Bool} {i : Int} {t : Tok} (G : Gd w mg mb b) (H : At b ω L m ns s) (h1 : (ac, accO dc items ep) ∈ ns) (h2 : (dc, ownD hsh tk (.int i t) n) ∈ ns) (h : Q (.int i t) { s with toks := s.toks + 1 }) :
    wpAny (model prog w) A (getAttr (.ref ac) "_initial_size" expr) Q E s := by
  refine acc_get (G.X.keeps H.F.keep) (acc_at (H.get h1) (H.get h2)) ?_ rfl h
  have e : findIn (Mine.hd.heap_1 w.params) (.ref 178) "_initial_size" = some none := by k_is
  unfold findObj
  rw [e]
  rfl
theorem acc_size {Q : Value → Shared → Prop} {expr : Bool} {i : Int} {t : Tok} (G : Gd w mg mb b) (H : At b ω L m ns s) (h1 : (ac, accO dc items ep) ∈ ns) (h2 : (dc, ownD hsh tk (.int i t) n) ∈ ns) (h : ∀ s', At b ω L m ns s' → Q (.int i t) s') :
    wpAny (model prog w) A (getAttr (.ref ac) "_initial_size" expr) Q E s := by
  exact acc_size_raw G H h1 h2 (h _ (H.toks (Nat.le_succ _)))
end
section
variable {prog : Program} {w : World} {A : Around} {E : Value → Shared → Prop} {s : Shared} {ac dc sa : Addr} {items : List Value} {es : List DictEntry} {ep n k : Nat} {v : Value}
  {b : Heap} {ω : OsState} {L f cda : Addr} {m mg mb : Str → Option Value} {ns : List (Addr × Obj)} {g : Obj → List (Addr × Obj)} {Q : Value → Shared → Prop}
/-! pop_from -/
theorem acc_pop_from {i : Nat} {t : Tok} (G : Gd w mg mb b) (H : At b ω L m ns s) (R : Rm A 4) (U : PutF ac (accO dc items ep) ns g) (hi : i ≤ items.length) (hz : items.length ≤ 1000)
    (h : ∀ ep' la s', At b ω L m ((la, lstO (items.drop i) 0) :: g (accO dc (items.take i) ep')) s' → Q (.ref la) s') :
    wpAny (model prog w) A (call (.ref 130) [.ref ac, .int i t]) Q E s := by
  have hL := H.F.above
  refine fn_call [("self", .ref ac), ("i", .int i t)] G H R (by k_is) (by k_is) (by first | exact BindsTo.of_eq rfl | exact binds_K (G.X.keeps H.F.keep) rfl (by k_is) rfl rfl rfl) (locs rfl) (by decide) ?_
  clear H R
  intro L' oL s ho H R
  refine _root_.PySem.wpAt_of_wpAny ?_
  walk_at "w"
  refine acc_from G H (by walk_at "mems") (by walk_at "mems") (by omega) hz ?_
  intro la s H
  walk_at "w"
  refine acc_cut G H (by walk_at "puts") (by walk_at "mems") hi (by walk_at "mems") (H.ne (by walk_at "mems") (by walk_at "mems") (fun e => by cases e)) (by simpa using hz) ?_
  rw [List.append_nil]
  intro ep' s H
  walk_at "w"
  exact h _ _ _ (H.leave hL ho (by walk_at "drops"))

/-! reset -/
theorem acc_reset1 {lv : Addr} {new : List Value} {ep2 : Nat} {hsh : Int} {tk : Tok} {v₀ : Value} {g2 : Obj → Obj → List (Addr × Obj)} (G : Gd w mg mb b) (H : At b ω L m ns s) (R : Rm A 4) (U : PutF ac (accO dc items ep) ns g) (U2 : ∀ o, PutF dc (ownD hsh tk v₀ n) (g o) (g2 o)) (hv : (lv, lstO new ep2) ∈ ns) (hz : items.length + new.length ≤ 1000)
    (h : ∀ ep' t s', At b ω L m (g2 (accO dc new ep') (ownD hsh tk (.int 0 t) n)) s' → Q .none s') :
    wpAny (model prog w) A (call (.ref 160) [.ref ac, .ref lv]) Q E s := by
  have hL := H.F.above
  refine fn_call [("self", .ref ac), ("startval", .ref lv)] G H R (by k_is) (by k_is) (by first | exact BindsTo.of_eq rfl | exact binds_K (G.X.keeps H.F.keep) rfl (by k_is) rfl rfl rfl) (locs rfl) (by decide) ?_
  clear H R
  intro L' oL s ho H R
  refine _root_.PySem.wpAt_of_wpAny ?_
  walk_at "w"
  rw [if_neg (by show ¬ (false = true); decide)]
  walk_at "w"
  refine acc_all G H (by walk_at "puts") (by walk_at "mems") (by walk_at "mems") (H.ne (by walk_at "mems") (by walk_at "mems") (fun e => by cases e)) hz ?_
  intro ep' s H
  walk_at "w"
  refine acc_store G H (List.Mem.tail _ (List.Mem.tail _ (U.put _).mem')) (PutF.tail (PutF.tail (U2 _))) ?_
  intro s H
  walk_at "w"
  exact h _ _ _ (H.leave hL ho (by walk_at "drops"))
theorem acc_reset0 {hsh : Int} {tk : Tok} {v₀ : Value} {g2 : Obj → Obj → List (Addr × Obj)} (G : Gd w mg mb b) (H : At b ω L m ns s) (R : Rm A 4) (U : PutF ac (accO dc items ep) ns g) (U2 : ∀ o, PutF dc (ownD hsh tk v₀ n) (g o) (g2 o)) (hz : items.length ≤ 1000)
    (h : ∀ ep' t s', At b ω L m (g2 (accO dc [] ep') (ownD hsh tk (.int 0 t) n)) s' → Q .none s') :
    wpAny (model prog w) A (call (.ref 160) [.ref ac]) Q E s := by
  have hL := H.F.above
  refine fn_call [("self", .ref ac), ("startval", .none)] G H R (by k_is) (by k_is) (by first | exact BindsTo.of_eq rfl | exact binds_K (G.X.keeps H.F.keep) rfl (by k_is) rfl rfl rfl) (locs rfl) (by decide) ?_
  clear H R
  intro L' oL s ho H R
  refine _root_.PySem.wpAt_of_wpAny ?_
  walk_at "w"
  rw [if_pos (by decide)]
  walk_at "w"
  refine acc_all G H (by walk_at "puts") (by walk_at "mems") (by walk_at "mems") (H.ne (by walk_at "mems") (by walk_at "mems") (fun e => by cases e)) (by simpa using hz) ?_
  intro ep' s H
  walk_at "w"
  refine acc_store G H (List.Mem.tail _ (List.Mem.tail _ (List.Mem.tail _ (U.put _).mem'))) (PutF.tail (PutF.tail (PutF.tail (U2 _)))) ?_
  intro s H
  walk_at "w"
  exact h _ _ _ (H.leave hL ho (by walk_at "drops"))
/-! __init__ -/
theorem acc_init {i : Value} (G : Gd w mg mb b) (H : At b ω L m ns s) (R : Rm A 4) (hx : (ac, accO dc [] ep) ∈ ns) (U : PutF dc (dictOf [] n) ns g)
    (hx' : ∀ o, (ac, accO dc [] ep) ∈ g o) (h : ∀ hsh tk s', At b ω L m (g (ownD hsh tk i (n + 1))) s' → Q .none s') :
    wpAny (model PySem.Challenge.pw_pe0181_01 w) A (call (.ref 115) [.ref ac, i]) Q E s := by
  have hL := H.F.above
  refine fn_call [("self", .ref ac), ("initial_size", i)] G H R (by k_is) (by k_is) (by first | exact BindsTo.of_eq rfl | exact binds_K (G.X.keeps H.F.keep) rfl (by k_is) rfl rfl rfl) (locs rfl) (by decide) ?_
  clear H R
  intro L' oL s ho H R
  refine ks_wpAt_execs_cons (_root_.PySem.wpAt_of_wpAny ?_)
  walk_at "w"
  refine acc_store0 G H (by walk_at "mems") (by walk_at "puts") ?_
  intro hsh tk s H
  refine ks_wpAt_execs_cons (ks_wpAt_Expr_any (ks_wpAt_MethodCall ?_ rfl) rfl rfl)
  refine sup_base G H (List.Mem.tail _ (hx' _)) (by k_is) rfl rfl (by k_is) rfl (by decide +kernel) rfl rfl rfl rfl ?_
  intro so s H
  refine sup_method (bt := "method-wrapper") (id := "list.__init__") G H (List.Mem.tail _ (List.Mem.tail _ (hx' _))) (by walk_at "mems") (by kernel_rfl) FD.type_init FD.slot_wd_get.lookup (by decide +kernel) (fun X hx q => wd_get X hx FD.type_init (by decide +kernel) q) ?_
  intro q s H
  refine bound_callWith H (by walk_at "mems") (.inr rfl) ?_
  refine bound_init H (by walk_at "mems") (List.Mem.tail _ (List.Mem.tail _ (List.Mem.tail _ (hx' _)))) ?_
  intro s H
  refine _root_.PySem.wpAt_of_wpAny (wpAny_execs_nil ?_)
  exact h _ _ _ (H.leave hL ho (by walk_at "drops"))
end
end Mine
end
section
open PySem PySem.W PyProof.Rows PySem.Calls PySem.Spec
set_option Elab.async false
set_option maxRecDepth 100000
set_option maxHeartbeats 4000000
namespace Mine
example (P : Params) : PySem.Challenge.rw_pe0181_01 = PySem.Challenge.rw_pe0181_01 ∧ Mine.hd.heap_1 P = Mine.hd.heap_1 P := by
  k_fill
  exact ⟨rfl, rfl⟩
section
variable {prog : Program} {w : World} {A : Around} {E : Value → Shared → Prop} {s : Shared} {ac dc it : Addr} {items : List Value} {es : List DictEntry} {ep n k i : Nat} {v x : Value} {o : Obj} {xs : Array Value}
  {b : Heap} {ω : OsState} {L f cda : Addr} {m mg mb : Str → Option Value} {ns : List (Addr × Obj)} {g : Obj → List (Addr × Obj)}

/-! an iterator over any list, of a subclass too -/
theorem seq_next {Q : Option Value → Shared → Prop} (hit : s.heap.IsListIter it ac i) (hol : s.heap.get? ac = some o) (hdl : o.data = .seq xs n) (hx : xs[i]? = some x)
    (hQ : ∀ h', h'.IsListIter it ac (i + 1) → Heap.SameBut it s.heap h' → Q (some x) { s with heap := h' }) : wpAny (model prog w) A (pyNext (.ref it)) Q E s := by
  obtain ⟨oi, hoi, hc, hd⟩ := id hit
  unfold pyNext
  refine wpAny_bind (wpAny_attempt (wpAny_callSpecial?_slot (name := Str.ofString "__next__") hit.typeIs slot_listiter_next (wpAny_call_entry slot_listiter_next hit.typeIs entry_listiter_next ?_ (args_listiter_next _))))
  unfold Builtin.«list_iterator.__next__»
  obtain ⟨hp, gs, d, t, os⟩ := s
  wp_walk using (wpAny_field hoi hd (x := .ref ac) rfl), (wpAny_field hoi hd (x := .int i 0) rfl), (wpAny_seqItems hol hdl)
  rw [Int.toNat_natCast, hx]
  dsimp only
  refine wpAny_bind (wpAny_setField hoi hd (by simp) (wpAny_pure ⟨x, rfl, wpAny_pure (hQ _ ⟨_, Heap.get?_update_self _ hoi (Obj.isFreed_of_fields (Obj.data_mapFields hd _)), (Obj.cls_mapFields ..).trans hc, ?_⟩ (Heap.SameBut.update ..))⟩))
  rw [Obj.data_mapFields hd]; simp [rawInt]
theorem seq_end {Q : Option Value → Shared → Prop} (hh : A.handled = none) (hit : s.heap.IsListIter it ac i) (hol : s.heap.get? ac = some o) (hdl : o.data = .seq xs n) (hx : xs[i]? = none)
    (hQ : ∀ h', Heap.ExtBut it s.heap h' → Q none { s with heap := h' }) : wpAny (model prog w) A (pyNext (.ref it)) Q E s := by
  obtain ⟨oi, hoi, hc, hd⟩ := id hit
  unfold pyNext
  refine wpAny_bind (wpAny_attempt (wpAny_callSpecial?_slot (name := Str.ofString "__next__") hit.typeIs slot_listiter_next (wpAny_call_entry slot_listiter_next hit.typeIs entry_listiter_next ?_ (args_listiter_next _))))
  unfold Builtin.«list_iterator.__next__»
  obtain ⟨hp, gs, d, t, os⟩ := s
  wp_walk using (wpAny_field hoi hd (x := .ref ac) rfl), (wpAny_field hoi hd (x := .int i 0) rfl), (wpAny_seqItems hol hdl)
  rw [Int.toNat_natCast, hx]
  dsimp only
  refine wpAny_bind (wpAny_rule (wpAny_bind (wpAny_setField hoi hd (by simp) ?_)))
  unfold Builtin.SmallTypes.stopIteration
  wp_walk
  unfold raiseNew
  refine wpAny_bind (wpAny_handled ?_)
  rw [show A.in1.handled = none from hh]
  refine wpAny_bind (wpAny_pure (wpAny_throw ?_))
  refine wpAny_bind (wpAny_isInstance (T := "StopIteration") (b := true) ⟨_, Heap.get?_push_size _ rfl, rfl⟩ isSubtype_stop ?_)
  exact wpAny_pure (hQ _ (((Heap.SameBut.update ..).extBut.push _).push _))
theorem acc_iter {Q : Value → Shared → Prop} (G : Gd w mg mb b) (H : At b ω L m ns s) (hx : (ac, accO dc items ep) ∈ ns)
    (h : ∀ it s', it = s.heap.objs.size → At b ω L m ((it, { cls := .type "list_iterator", data := .fields #[.ref ac, .int 0 0] }) :: ns) s' → Q (.ref it) s') :
    wpAny (model prog w) A (pyIter (.ref ac)) Q E s := by
  have X : (Mine.hd.heap_1 w.params).In s.heap := G.X.keeps H.F.keep
  have hx' := H.get hx
  have hf : findIn (Mine.hd.heap_1 w.params) (.ref 178) "__iter__" = some (some (.builtin "list.__iter__")) := by k_is
  unfold pyIter specialOf
  refine wpAny_bind (wpAny_bind ((acc_type hx').here ((looks_findIn X hf).here ?_)))
  dsimp only
  refine wpAny_bind (m := callSpecialIfBoundUnlessNone? (.ref ac) _ _) ?_
  have fin : ∀ {Q : Option Value → Shared → Prop}, (∀ s', At b ω L m ((s.heap.objs.size, { cls := .type "list_iterator", data := .fields #[.ref ac, .int 0 0] }) :: ns) s' → Q (some (.ref s.heap.objs.size)) s') →
      wpAny (model prog w) A (call (.builtin "list.__iter__") [.ref ac]) (fun v => Q (some v)) E s := by
    intro Q hq
    refine acc_call (nm := "__iter__") (.inl (by decide +kernel)) (by decide +kernel) slot_list_iter.plain entry_list_iter (args_list_iter _) X hx' ?_
    have z := hq _ (H.push { cls := .type "list_iterator", data := .fields #[.ref ac, .int 0 0] } (Nat.le_refl _))
    show wpAny _ _ (do ret (← newFields "list_iterator" [.ref ac, rawInt 0])) _ _ s
    exact wpAny_bind (wpAny_newObj_type (wpAny_pure z))
  simp only [callSpecialIfBoundUnlessNone?, bindSpecialIfBound?, specialOf]
  refine wpAny_holding (wpAny_bind (wpAny_bind (wpAny_bind ((acc_type hx').here ((looks_findIn X hf).here ?_)))))
  simp only [slot_list_iter.bind]
  refine wpAny_bind (wpAny_askSetting (wpAny_ite ?_))
  have fin2 : wpAny (model prog w) A (call (.builtin "list.__iter__") [.ref ac] >>= fun v => pure (some v)) (fun a s₁ => wpAny (model prog w) A (match a with
        | some it => (do
          match ← (do let __do_lift ← typeOf it; typeLookup __do_lift (Str.ofString "__next__")) with
            | none => do
              rule "iter.non-iterator"
              let __do_lift ← PySem.typeNameOf it
              raiseErrorMade "TypeError"
                  (toString "iter() returned non-iterator of type '" ++ toString __do_lift ++ toString "'")
            | some val => pure it)
        | none => do
          let __do_lift ← bindSpecialIfBound? (Value.ref ac) (Str.ofString "__getitem__")
          match __do_lift with
            | none => do
              rule "iter.not-iterable"
              let __do_lift ← PySem.typeNameOf (Value.ref ac)
              raiseErrorMade "TypeError" (toString "'" ++ toString __do_lift ++ toString "' object is not iterable")
            | some val => do
              rule "iter.getitem-fallback"
              let __do_lift ← mkInt 0
              newFields "iterator" [Value.ref ac, __do_lift]) Q E s₁) E s := by
    refine wpAny_bind (wpAny_mono (fin (Q := fun v s' => v = some (.ref s.heap.objs.size) ∧ At b ω L m ((s.heap.objs.size, { cls := .type "list_iterator", data := .fields #[.ref ac, .int 0 0] }) :: ns) s') fun s' H' => ⟨rfl, H'⟩) (fun v s' hv => wpAny_pure ?_) fun _ _ e => e)
    obtain ⟨hv, H'⟩ := hv
    rw [hv]
    have T' : s'.TypeIs (.ref s.heap.objs.size) "list_iterator" := ⟨_, H'.get (.head _), rfl⟩
    exact wpAny_bind (wpAny_bind (wpAny_typeOf T' (wpAny_of_eq slot_listiter_next.lookup (wpAny_pure (h _ _ rfl H')))))
  split
  · exact wpAny_bind (wpAny_pure (wpAny_pure fin2))
  · exact wpAny_tryCatch (wpAny_bind (wpAny_pure (wpAny_pure fin2)))
/-! pairs out of it -/
theorem accWalks {prog : Program} {w : World} {A : Around} (hh : A.handled = none) (I ac dc : Addr) (ep : Nat) (hne : ac ≠ I) (items : List Value) (Ts : Nat → Addr) (vals : Nat → Array Value)
    (hit : ∀ j, j < items.length → items[j]? = some (.ref (Ts j))) (hTI : ∀ j, j < items.length → Ts j ≠ I) :
    WalksU prog w A I (I :: ac :: (List.range items.length).map Ts) [I] items.length (fun j v => j < items.length ∧ v = vals j)
      (fun j h => h.IsListIter I ac j ∧ h.get? ac = some (accO dc items ep) ∧ ∀ k, k < items.length → h.IsTuple (Ts k) (vals k))
      (fun j T h => (j < items.length ∧ T = Ts j) ∧ h.IsListIter I ac (j + 1) ∧ h.get? ac = some (accO dc items ep) ∧ ∀ k, k < items.length → h.IsTuple (Ts k) (vals k)) where
  sub := by intro b hb; rw [List.mem_singleton] at hb; subst hb; exact .head _
  frame := by
    rintro i h h' ⟨s1, s2, s3⟩ hk
    refine ⟨s1.at fun o e => hk I (.head _) o e, hk ac (.tail _ (.head _)) _ s2, fun k hk' => (s3 k hk').at fun o e => hk (Ts k) (.tail _ (.tail _ (List.mem_map.mpr ⟨k, List.mem_range.mpr hk', rfl⟩))) o e⟩
  item := by
    rintro i s Q E hi ⟨s1, s2, s3⟩ hQ
    refine seq_next s1 s2 rfl (x := .ref (Ts i)) (by simpa using hit i hi) fun h' hit' hs' => ?_
    have tup : ∀ k, k < items.length → h'.IsTuple (Ts k) (vals k) := fun k hk' => (s3 k hk').extBut hs'.extBut (hTI k hk')
    exact hQ (Ts i) (vals i) h' s.toks ⟨hi, rfl⟩ (tup i hi) ⟨⟨hi, rfl⟩, hit', (hs'.2 _ hne).trans s2, tup⟩ fun b o hb e => hs'.extBut b o (fun h => hb (by rw [h]; exact .head _)) e
  go := fun _ _ _ _ _ s Q _ hm hQ => wpAny_letOwnedTupleGo_listiter hm.2.1 (hQ s.heap hm.2 fun _ _ _ e => e)
  apart := fun j T _ hm hmem => hTI j hm.1.1 (by rw [← hm.1.2]; exact List.mem_singleton.mp hmem)
  done := by
    rintro s Q E ⟨s1, s2, s3⟩ hQ
    exact seq_end hh s1 s2 rfl (by simp) fun h' he' => hQ h' s.toks fun b o hb e => he' b o (fun h => hb (by rw [h]; exact .head _)) e
  self := fun _ _ _ _ st hQ => wpAny_pyIter_listiter st.1 hQ
end
end Mine
end
section
open PySem PySem.W PyProof.Rows PySem.Calls PySem.Spec
set_option Elab.async false
set_option maxRecDepth 100000
set_option maxHeartbeats 4000000
namespace Mine
example (P : Params) : PySem.Challenge.rw_pe0181_01 = PySem.Challenge.rw_pe0181_01 ∧ Mine.hd.heap_1 P = Mine.hd.heap_1 P := by
  k_fill
  exact ⟨rfl, rfl⟩
section
variable {prog : Program} {w : World} {A : Around} {E : Value → Shared → Prop} {s : Shared} {Q : Value → Shared → Prop}
  {I : Addr} {fp wr : List Addr} {G : Array GenState → Array GenState → Prop} {n : Nat} {P : Nat → Value → Prop} {St : Nat → Shared → Prop}

/-! sum with a start: one item more, ahead -/
theorem walks_shift (W : WalksS prog w A I fp wr G n P St) : WalksS prog w A I fp wr G (n + 1) (fun i v => match i with | 0 => False | j + 1 => P j v) (fun i s => match i with | 0 => False | j + 1 => St j s) where
  sub := W.sub
  grefl := W.grefl
  gtrans := W.gtrans
  frame := fun i s h' tk st ht hk => match i, st with | _ + 1, st => W.frame _ s h' tk st ht hk
  item := fun i s Q E hi st hQ => match i, hi, st, hQ with | _ + 1, hi, st, hQ => W.item _ s Q E (Nat.lt_of_succ_lt_succ hi) st hQ
  done := fun s Q E st hQ => W.done s Q E st hQ
  self := fun i s Q E st hQ => match i, st with | _ + 1, st => W.self _ s Q E st hQ
theorem preSum_shift (val : Nat → Int) (h : Int) : ∀ n, preSum (fun i => match i with | 0 => h | j + 1 => val j) (n + 1) = h + preSum val n
  | 0 => by simp [preSum]
  | n + 1 => by rw [preSum, preSum_shift val h n, preSum]; simp only; omega
theorem sum_start {h : Int} {t : Tok} (val : Nat → Int) (W : WalksS prog w A.in1 I fp wr G n P St) (hst : St 0 s) (hfp : ∀ b ∈ fp, b < s.heap.objs.size) (hval : ∀ i v, P i v → ∃ t, v = .int (val i) t) (hl : (decide (-(2 ^ 63) ≤ h) && decide (h < 2 ^ 63)) = true)
    (hQ : ∀ s' t', Moved wr G s s' → Q (.int (h + preSum val n) t') s') : wpAny (model prog w) A (call (.builtin "sum") [.ref I, .int h t]) Q E s := by
  refine call_function_tree F.kind_sum F.plain_sum F.entry_sum (show argsOk "sum" ⟨[.ref I, .int h t], []⟩ from by unfold argsOk; kernel_rfl) ?_
  unfold Builtin.«sum»
  simp only [List.length_cons, List.length_nil]
  rw [if_neg (by decide)]
  refine wpAny_bind (wpAny_of_eq (show Builtin.Builtins.bindParams "sum" ["start"] 0 ⟨[.int h t], []⟩ = pure [some (.int h t)] from rfl) ?_)
  refine wpAny_bind (W.self 0 s _ _ hst ?_)
  dsimp only
  split
  case isFalse hc => exact absurd hl hc
  refine wpAny_bind (wpAny_rule (wpAny_bind (wpAny_mkInt (wpAny_bind (wpAny_pure ?_)))))
  simp only [List.forIn_cons, List.forIn_nil]
  refine wpAny_bind (wpAny_bind (wpAny_bind (wpAny_isInstance (T := "int") (b := false) (typeIs_int _ _ _) PySem.sub_int_str ?_)))
  simp only [Bool.false_eq_true, if_false]
  refine wpAny_pure (wpAny_bind (wpAny_bind (wpAny_isInstance (T := "int") (b := false) (typeIs_int _ _ _) PySem.sub_int_bytes ?_)))
  simp only [Bool.false_eq_true, if_false]
  refine wpAny_pure (wpAny_bind (wpAny_bind (wpAny_isInstance (T := "int") (b := false) (typeIs_int _ _ _) PySem.sub_int_bytearray ?_)))
  simp only [Bool.false_eq_true, if_false]
  refine wpAny_pure (wpAny_pure ?_)
  refine wpAny_bind (wpAny_newObj_type ?_)
  have hSf : s.heap.objs.size ∉ fp := fun hm => Nat.lt_irrefl _ (hfp _ hm)
  have W' := walks_shift W
  refine wpAny_pure ⟨plainId_quiet F.plain_sum_loop _, codeAny_sum_loopAnyS W' (fun i => match i with | 0 => h | j + 1 => val j) ?_ s.heap.objs.size hSf n 1 _ s.toks 0 0 (.inl rfl) rfl (Nat.succ_le_succ (Nat.zero_le _))
    (W.frame 0 s _ _ hst (Nat.le_succ _) fun b _ o e => Heap.get?_push_of_some _ e) ?_ fun s' t' hm => ?_⟩
  · intro i v hv
    match i, hv with | _ + 1, hv => exact hval _ _ hv
  · have e : preSum (fun i => match i with | 0 => h | j + 1 => val j) 1 = h := by simp [preSum]
    rw [e]
    exact Heap.get?_push_size _ rfl
  · show Q (.int (preSum _ (n + 1)) t') s'
    rw [preSum_shift]
    exact hQ s' t' (hm.drop_new (Nat.le_succ _))
end
end Mine
end
section
open PySem PySem.W PyProof.Rows PySem.Calls PySem.Spec
set_option Elab.async false
set_option maxRecDepth 100000
set_option maxHeartbeats 4000000
namespace Mine
section
variable {prog : Program} {w : World} {A : Around} {E : Value → Shared → Prop} {s : Shared} {ac dc a : Addr} {items : List Value} {es : List DictEntry} {ep n k i : Nat} {v x : Value} {o o' : Obj} {xs : Array Value}
  {b h' : Heap} {ω : OsState} {L f c P : Addr} {m mg mb : Str → Option Value} {ns ns' : List (Addr × Obj)} {g : Obj → List (Addr × Obj)} {Q : Value → Shared → Prop}

theorem At.extPut (H : At b ω L m ns s) (U : Put a o o' ns ns') (k : Heap.ExtBut a s.heap h') (e : h'.get? a = some o') {t : Nat} (ht : s.toks ≤ t) : At b ω L m ns' { s with heap := h', toks := t } := by
  have ha := H.N _ U.mem
  obtain ⟨oL, es, ep, hL, r⟩ := H.F.ns
  refine ⟨⟨⟨oL, es, ep, k _ _ (Ne.symm ha.2.1) hL, r⟩, fun c oc ec => k _ _ (fun q => ?_) (H.F.keep c oc ec), H.F.above⟩, fun p hp => ?_, U.keys ▸ H.D, H.os, H.gens, Nat.lt_of_lt_of_le H.tk ht⟩
  · rw [q, ha.2.2] at ec; cases ec
  · rcases U.back H.D p hp with rfl | ⟨hp, hne⟩
    · exact ⟨e, ha.2.1, ha.2.2⟩
    · have := H.N p hp
      exact ⟨k _ _ hne this.1, this.2⟩
/-- all that is known stays, some of the machine's own apart -/
theorem At.moved {wr : List Addr} {Gq : Array GenState → Array GenState → Prop} {s' : Shared} (H : At b ω L m ns s) (M : Moved wr Gq s s') (hg : AllBare s'.gens) (hL : L ∉ wr) (hb : ∀ c ∈ wr, b.get? c = none) (hn : ∀ p ∈ ns, p.1 ∉ wr) : At b ω L m ns s' := by
  obtain ⟨oL, es, ep, hL', r⟩ := H.F.ns
  refine ⟨⟨⟨oL, es, ep, M.heap _ _ hL hL', r⟩, fun c oc ec => M.heap _ _ (fun q => ?_) (H.F.keep c oc ec), H.F.above⟩, fun p hp => ⟨M.heap _ _ (hn p hp) (H.get hp), (H.N p hp).2⟩, H.D, M.os.trans H.os, hg, Nat.lt_of_lt_of_le H.tk M.toks⟩
  rw [hb c q] at ec; cases ec

/-! tables of codes -/
def TabOk (o : Obj) : Prop := ∃ ps, o.data = .fields ps ∧ TriplesOk ps.toList ∧ o = { cls := .none, data := .fields ps }
/-- the parts that the items stand for -/
structure Parts (ns : List (Addr × Obj)) (items : List Value) (ps : List (Str × Str)) : Prop where
  len : items.length = ps.length
  at_ : ∀ (j : Nat) (p : Str × Str), ps[j]? = some p → ∃ (a : Addr) (t u : Tok), items[j]? = some (.ref a) ∧ (a, tupO [.str p.1 t, .str p.2 u]) ∈ ns

structure GenOut (prog : Program) (w : World) (A : Around) (b : Heap) (ω : OsState) (L : Addr) (m : Str → Option Value) (ns : List (Addr × Obj)) (n : Nat) (F : Nat → Value → Prop) (a : Addr) (s : Shared) (fp wr : List Addr) (Gq : Array GenState → Array GenState → Prop) (St : Nat → Shared → Prop) : Prop where
  W : WalksS prog w A.in4 a fp wr Gq n F St
  st : St 0 s
  lt : ∀ c ∈ fp, c < s.heap.objs.size
  mem : a ∈ fp
  ty : ∀ i s, St i s → s.TypeIs (.ref a) "generator"
  on : ∀ s₁ s₂, At b ω L m ns s₁ → Moved wr Gq s₁ s₂ → At b ω L m ns s₂

theorem At.grown {gs : Array GenState} {t : Nat} (H : At b ω L m ns s) (k : ∀ c o, s.heap.get? c = some o → h'.get? c = some o) (hg : AllBare gs) (ht : s.toks ≤ t) : At b ω L m ns { s with gens := gs, toks := t, heap := h' } := by
  obtain ⟨oL, es, ep, hL, r⟩ := H.F.ns
  exact ⟨⟨⟨oL, es, ep, k _ _ hL, r⟩, fun c oc ec => k _ _ (H.F.keep c oc ec), H.F.above⟩, fun p hp => ⟨k _ _ (H.get hp), (H.N p hp).2⟩, H.D, H.os, hg, Nat.lt_of_lt_of_le H.tk ht⟩
theorem PutF.keep {p : Addr × Obj} {l : List (Addr × Obj)} {g : Obj → List (Addr × Obj)} (h : PutF a o l g) (hp : p ∈ l) (hne : p.1 ≠ a) : p ∈ g o' := by
  induction h with
  | head => exact List.mem_cons.mpr (.inr ((List.mem_cons.mp hp).resolve_left fun e => hne (by rw [e])))
  | tail _ ih =>
    rcases List.mem_cons.mp hp with rfl | hp
    · exact .head _
    · exact .tail _ (ih hp)
theorem passing_all (n : Nat) : passing (fun _ => true) n 0 = List.range n := by
  unfold passing; simp
theorem WalksS.congr {I : Addr} {fp wr : List Addr} {Gq : Array GenState → Array GenState → Prop} {n : Nat} {P P' : Nat → Value → Prop} {St : Nat → Shared → Prop} (W : WalksS prog w A I fp wr Gq n P St) (h : ∀ i v, i < n → P i v → P' i v) : WalksS prog w A I fp wr Gq n P' St :=
  { W with item := fun i s Q E hi st hQ => W.item i s Q E hi st fun v s' hp => hQ v s' (h i v hi hp) }

theorem genexpr_code {M : Model} {E : Value → Shared → Prop} {env : Env} {c P : Addr} {tps : Array Value} {pos : Pos} {qualname : Str} {scope : Scope} (hc : env.code = .ref c) (hok : s.heap.IsCode c P tps) (htab : s.heap.TableAt c P tps)
    (hQ : ∀ code h' tk ps', Heap.ExtBut P s.heap h' → h'.IsCode c P ps' → h'.TableAt c P ps' → Q code { s with heap := h', toks := tk }) :
    wpAny M A (genexprCode env pos qualname scope) Q E s := by
  cases hnf : codeAmong pos tps.toList with
  | some cv => exact wpAny_genexprCode_hit hc hok hnf (hQ cv s.heap s.toks tps (Heap.ExtBut.refl _ _) hok htab)
  | none => exact wpAny_genexprCodeX hc hok htab hnf fun c' h' tk x _ _ i _ t _ => hQ _ h' tk _ x i t
theorem acc_gen {env : Env} {elt iter : Expr} {xa xb : Str} {pa pb pt pos : Pos} {kt : Nat} {scope : Scope} {ps : List (Str × Str)} {tO oc : Obj} {vs : Array Value} (F : Nat → Value → Prop)
    (G : Gd w mg mb b) (H : At b ω env.locals m ns s) (R : Rm A (k + 1)) (hx : (ac, accO dc items ep) ∈ ns) (hp : Parts ns items ps)
    (U : PutF P tO ns g) (hT : TabOk tO) (hec : env.code = .ref c) (hoc : (Mine.hd.heap_1 w.params).lookup c = some oc) (hod : oc.data = .fields vs) (hcls : oc.cls = .type "code")
    (hvs : vs.getD 11 .none = .ref P ∧ (∃ file tf, vs.getD 18 .none = .str file tf) ∧ (∃ fl tg, vs.getD 7 .none = .int fl tg) ∧ (∃ i, vs.getD 9 .none = .bool i) ∧ ∃ t u, vs.getD 10 .none = .int t u)
    (hgl : env.globals = mainGlobals)
    (hco : scope.isCoroutine = false) (hclos : closureFor scope env = pure []) (hcell : ∀ y ∈ scope.names, y.2 ≠ .cell) (h0 : scope.names.lookup (".0" : Str) = some NameKind.local)
    (hxa : scope.names.lookup xa = some .local) (hxb : scope.names.lookup xb = some .local) (hab : xa ≠ xb) (hkind : scope.kind = .function) (hs : ∀ x, genFold iter env x = pure x)
    (hiter : ∀ {Q : Value → Shared → Prop} {E : Value → Shared → Prop}, Q (.ref ac) s → wpAny (model prog w) A (eval iter env) Q E s)
    (helt : ∀ (A' : Around) (E' : Value → Shared → Prop) (i : Nat) (p : Str × Str) (t u : Tok) (s₂ : Shared) (m₂ : Str → Option Value) (C : Addr) (code : Value), A'.handled = none → A'.depth ≤ A.depth + 1 → A'.units ≤ A.units + 8 → ps[i]? = some p → s₂.heap.Ns C m₂ → m₂ xa = some (.str p.1 t) → m₂ xb = some (.str p.2 u) →
      (∀ c o, b.get? c = some o → s₂.heap.get? c = some o) → wpAny (model prog w) A' (eval elt (genEnv scope [] C code builtinsNs env)) (fun y s₃ => F i y ∧ Keeps s₂ s₃) E' s₂)
    (h : ∀ (a : Addr) (tO' : Obj) (s' : Shared) fp wr Gq St, TabOk tO' → At b ω env.locals m (g tO') s' → GenOut prog w A b ω env.locals m (g tO') ps.length F a s' fp wr Gq St → Q (.ref a) s') :
    wpAny (model prog w) A (eval (.GeneratorExp elt [⟨.Tuple [.Name xa pa, .Name xb pb] kt pt, iter, [], 0⟩] scope pos) env) Q E s := by
  refine wpAny_with_toks (n := s.toks) (Nat.le_refl _) ?_
  refine wpAny_GeneratorExp_walksQTD R.hd hco hclos hcell h0 hxa hxb hab hkind R.room ?_ hs
  refine hiter ?_
  refine acc_iter G H hx ?_
  intro I s₂ hI H₂
  refine ⟨G.nolimit.keeps H₂.F.keep, ?_⟩
  obtain ⟨tps, htd, htr, hto⟩ := hT
  obtain ⟨e11, ⟨file, tf, e18⟩, ⟨fl, tg, e7⟩, ⟨inF, e9⟩, ⟨tx, tt, e10⟩⟩ := hvs
  have U₂ := PutF.tail (p := (I, { cls := .type "list_iterator", data := .fields #[.ref ac, .int 0 0] })) U
  have hcP : c ≠ P := by
    rintro rfl
    have e1 := G.X _ _ hoc
    have := (H.N _ U.mem).2.2
    rw [e1] at this; cases this
  have hok : s₂.heap.IsCode c P tps := ⟨oc, vs, file, tf, fl, tg, inF, tx, tt, tO, H₂.old (G.X _ _ hoc), hod, e11, e18, e7, e9, e10, H₂.get U₂.mem, htd, htr, hcP⟩
  have e11' : vs[11]? = some (.ref P) := by
    cases h : vs[11]? with
    | none => rw [Array.getD_eq_getD_getElem?, h] at e11; cases e11
    | some v => rw [Array.getD_eq_getD_getElem?, h] at e11; exact congrArg some e11
  have htab : s₂.heap.TableAt c P tps := ⟨⟨oc, vs, H₂.old (G.X _ _ hoc), hcls, hod, e11'⟩, by rw [← hto]; exact H₂.get U₂.mem⟩
  refine wpAny_with_toks (n := s₂.toks) (Nat.le_refl _) (genexpr_code hec hok htab ?_)
  intro code h₃ tk ps' hext hcode htab' ht
  obtain ⟨oc', vs', file', tf', fl', tg', inF', tx', tt', tO', q1, q2, q3, q4, q5, q6, q7, q8, q9, q10, q11⟩ := id hcode
  have hto' : tO' = { cls := .none, data := .fields ps' } := by
    have := htab'.2
    rw [q8] at this
    exact Option.some.inj this
  have H₃ := H₂.extPut (U₂.put tO') hext q8 ht
  generalize ({ s₂ with heap := h₃, toks := tk } : Shared) = s₃ at H₃ ⊢
  clear ht hext hcode hok
  obtain ⟨bm, ob, M⟩ := G.M
  have X₃ := G.X.keeps H₃.F.keep
  refine wpAny_builtinsFor (by rw [hgl]; exact M.ns.keeps H₃.F.keep) M.name M.ne (H₃.old M.obj) M.cls M.dict M.data ?_
  have hI : I ∉ (ns.map (·.1)) := fun q => by
    have := H₂.D
    rw [List.map_cons, List.nodup_cons] at this
    exact this.1 q
  have hItem : ∀ j : Nat, ∃ q : Addr × Tok × Tok × Str × Str, j < items.length → ps[j]? = some (q.2.2.2.1, q.2.2.2.2) ∧ items[j]? = some (.ref q.1) ∧ (q.1, tupO [.str q.2.2.2.1 q.2.1, .str q.2.2.2.2 q.2.2.1]) ∈ ns := fun j => by
    by_cases hj : j < items.length
    · have hj' : j < ps.length := hp.len ▸ hj
      obtain ⟨a, t, u, e1, e2⟩ := hp.at_ j ps[j] (List.getElem?_eq_getElem hj')
      exact ⟨(a, t, u, (ps[j]).1, (ps[j]).2), fun _ => ⟨List.getElem?_eq_getElem hj', e1, e2⟩⟩
    · exact ⟨(0, 0, 0, "", ""), fun q => absurd q hj⟩
  obtain ⟨f, hf⟩ := Classical.skolem.mp hItem
  have hdata : ∀ {c o}, (c, o) ∈ ns → (∀ z, o.data ≠ .fields z) → c ≠ P := by
    rintro c o hc hz rfl
    have e1 := H.get hc
    rw [H.get U.mem] at e1
    cases e1
    exact hz _ htd
  have hIb : b.get? I = none := (H₂.N _ (.head _)).2.2
  have hI3 : ∀ {c o}, (c, o) ∈ ns → c ≠ I := fun hc e => hI (e ▸ List.mem_map_of_mem (f := (·.1)) hc)
  have mem3 : ∀ {c o}, (c, o) ∈ ns → (∀ z, o.data ≠ .fields z) → s₃.heap.get? c = some o := fun hc hz => H₃.get (.tail _ (U.keep hc (hdata hc hz)))
  refine ⟨I, I :: ac :: (List.range items.length).map (fun j => (f j).1), [I], items.length, fun j v => j < items.length ∧ v = #[.str (f j).2.2.2.1 (f j).2.1, .str (f j).2.2.2.2 (f j).2.2.1], _, _, fun _ => true, F, rfl,
    fun A' hA => accWalks hA I ac dc ep (hI3 hx) items (fun j => (f j).1) (fun j => #[.str (f j).2.2.2.1 (f j).2.1, .str (f j).2.2.2.2 (f j).2.2.1]) (fun j hj => (hf j hj).2.1) (fun j hj => hI3 (hf j hj).2.2), ?_, ?_, ?_, G.nolimit.keeps H₃.F.keep, ?_, ?_, ?_⟩
  · rintro i vals ⟨_, rfl⟩
    exact ⟨_, _, rfl⟩
  · exact ⟨⟨_, H₃.get (.head _), rfl, rfl⟩, mem3 hx (fun z e => by cases e), fun k hk => ⟨_, mem3 (hf k hk).2.2 (fun z e => by cases e), rfl, _, rfl⟩⟩
  · intro c hc
    rcases List.mem_cons.mp hc with rfl | hc
    · exact H₃.lt (.head _)
    · rcases List.mem_cons.mp hc with rfl | hc
      · exact Heap.lt_size (mem3 hx (fun z e => by cases e))
      · obtain ⟨j, hj, rfl⟩ := List.mem_map.mp hc
        exact Heap.lt_size (mem3 (hf j (List.mem_range.mp hj)).2.2 (fun z e => by cases e))
  · intro hc
    obtain ⟨_, ⟨o1, _, _, e1, _⟩, _⟩ := G.nolimit
    rw [List.mem_singleton] at hc
    rw [hc, hIb] at e1
    cases e1
  · intro href hkeep
    refine ⟨fun A' E' i va vb s₂ m₂ _ _ _ _ _ _ _ _ => wpAny_pure ⟨rfl, ⟨_, _, rfl, fun _ _ e => e⟩⟩, ?_⟩
    rintro A' E' i va vb s₂ m₂ q1 q2 q3 ⟨hi, e⟩ _ q4 q5 q6 q7
    cases e
    refine helt A' E' i _ _ _ s₂ m₂ _ _ q1 q2 q3 (hf i hi).1 q4 q5 q6 fun c o e => q7 c (List.mem_range.mpr (Heap.lt_size (H₃.old e))) (fun hc => ?_) o (hkeep c o (H₃.old e))
    rw [List.mem_singleton.mp hc, hIb] at e
    cases e
  · intro a h₅ tk gs hbare hlt hsz hk5 hW hG ht5
    have H5 : At b ω env.locals m (g tO') { s₃ with gens := s₃.gens.push gs, toks := tk, heap := h₅ } := by
      have := (H₃.sub (List.sublist_cons_self _ _)).grown hk5 (gs := s₃.gens.push gs) (t := s₃.toks) ?_ (Nat.le_refl _)
      · exact ⟨this.F, this.N, this.D, this.os, this.gens, Nat.lt_of_lt_of_le H.tk ht5⟩
      · intro y hy
        rcases Array.mem_push.mp hy with hy | rfl
        · exact H₃.gens y hy
        · exact hbare
    have hW' := hW
    simp only [passing_all, List.length_range] at hW'
    rw [hp.len] at hW' hG
    refine h a tO' _ _ _ _ _ ⟨_, q9, q10, hto'⟩ H5 ⟨WalksS.congr hW' ?_, hG, ?_, .head _, ?_, ?_⟩
    · rintro i v hi ⟨j, hj, hF⟩
      rw [List.getElem?_range hi] at hj
      cases hj
      exact hF
    · intro c hc
      show c < h₅.objs.size
      rw [hsz]
      rcases List.mem_cons.mp hc with rfl | hc
      · exact Nat.lt_succ_self _
      · rcases List.mem_cons.mp hc with rfl | hc
        · exact Nat.lt_succ_of_lt hlt
        · exact Nat.lt_succ_of_lt (Nat.lt_trans (List.mem_range.mp hc) hlt)
    · rintro i s ⟨⟨o, n1, n2, e1, e2, e3⟩, _⟩
      exact ⟨o, e1, e2⟩
    · intro s₁ s₂ H₁ M
      refine H₁.moved M (GenOnlyQ.bare M.gens H₁.gens) ?_ ?_ ?_
      · intro hc
        rcases List.mem_cons.mp hc with e | hc
        · obtain ⟨oL, _, _, hL, _⟩ := H₃.F.ns
          exact Nat.lt_irrefl _ (Nat.lt_of_lt_of_eq (Heap.lt_size hL) e.symm)
        · rw [List.mem_singleton] at hc
          exact (H₃.N _ (.head _)).2.1 hc.symm
      · intro c hc
        rcases List.mem_cons.mp hc with rfl | hc
        · cases z : b.get? s₃.heap.objs.size with
          | none => rfl
          | some o => exact absurd (Heap.lt_size (H₃.old z)) (Nat.lt_irrefl _)
        · rw [List.mem_singleton] at hc
          rw [hc]; exact hIb
      · intro p hp' hc
        rcases List.mem_cons.mp hc with e | hc
        · have := H₃.lt (a := p.1) (o := p.2) (.tail _ hp')
          rw [e] at this; exact Nat.lt_irrefl _ this
        · rw [List.mem_singleton] at hc
          have := H₃.D
          rw [List.map_cons, List.nodup_cons] at this
          exact this.1 (hc ▸ List.mem_map_of_mem (f := (·.1)) hp')
end
end Mine
end
section
open PySem PySem.W PyProof.Rows PySem.Calls PySem.Spec
set_option Elab.async false
set_option maxRecDepth 100000
set_option maxHeartbeats 4000000
namespace Mine
example (P : Params) : PySem.Challenge.rw_pe0181_01 = PySem.Challenge.rw_pe0181_01 ∧ Mine.hd.heap_1 P = Mine.hd.heap_1 P := by
  k_fill
  exact ⟨rfl, rfl⟩
/-- the width of the parts -/
def wt (ps : List (Str × Str)) : Int := (ps.map fun p => ((p.1.length : Int) + (p.2.length : Int))).sum
def wtAt (ps : List (Str × Str)) (j : Nat) : Int := ((ps[j]?).map fun p => ((p.1.length : Int) + (p.2.length : Int))).getD 0
theorem preSum_wt (ps : List (Str × Str)) : preSum (wtAt ps) ps.length = wt ps := by
  have h : ∀ n, preSum (wtAt ps) n = wt (ps.take n) := by
    intro n
    induction n with
    | zero => rfl
    | succ n ih =>
      rw [preSum, ih, List.take_add_one]
      unfold wt wtAt
      cases ps[n]? <;> simp
  rw [h, List.take_length]
section
variable {prog : Program} {w : World} {A : Around} {E : Value → Shared → Prop} {s : Shared} {ac dc a : Addr} {items : List Value} {es : List DictEntry} {ep n k i : Nat} {v x : Value} {o o' : Obj} {xs : Array Value}
  {b h' : Heap} {ω : OsState} {L f c P : Addr} {m mg mb : Str → Option Value} {ns ns' : List (Addr × Obj)} {g : Obj → List (Addr × Obj)} {Q : Value → Shared → Prop}

theorem acc_len {ps : List (Str × Str)} {hsh : Int} {tk t0 : Tok} {h0 : Int} {tO : Obj} (G : Gd w mg mb b) (H : At b ω L m ns s) (R : Rm A 4) (hx : (ac, accO dc items ep) ∈ ns) (h2 : (dc, ownD hsh tk (.int h0 t0) n) ∈ ns) (hp : Parts ns items ps)
    (U : PutF 140 tO ns g) (hT : TabOk tO) (hl : (decide (-(2 ^ 63) ≤ h0) && decide (h0 < 2 ^ 63)) = true) (hz : ∀ p ∈ ps, p.1.length ≤ 1000 ∧ p.2.length ≤ 1000)
    (h : ∀ tO' t s', TabOk tO' → At b ω L m (g tO') s' → Q (.int (h0 + wt ps) t) s') :
    wpAny (model prog w) A (call (.ref 145) [.ref ac]) Q E s := by
  have hL := H.F.above
  have hP : ∀ {c o}, (c, o) ∈ ns → (∀ z, o.data ≠ .fields z) → c ≠ 140 := by
    obtain ⟨tps, htd, _⟩ := hT
    rintro c o hc hz rfl
    have e1 := H.get hc
    rw [H.get U.mem] at e1
    cases e1
    exact hz _ htd
  refine fn_call [("self", .ref ac)] G H R (by k_is) (by k_is) (BindsTo.of_eq rfl) (locs rfl) (by decide) ?_
  clear H R
  intro L' oL s ho H R
  refine _root_.PySem.wpAt_of_wpAny ?_
  walk_at "w"
  refine acc_gen (fun j y => ∃ t, y = .int (wtAt ps j) t) (ps := ps) G H R (List.Mem.tail _ hx) ⟨hp.len, fun j p e => ?_⟩ (PutF.tail U) hT rfl (by k_is) rfl rfl ⟨rfl, ⟨_, _, rfl⟩, ⟨_, _, rfl⟩, ⟨_, rfl⟩, ⟨_, _, rfl⟩⟩ rfl rfl rfl (by decide) rfl rfl rfl (by decide +kernel) rfl (fun _ => rfl) ?_ ?_ ?_
  · obtain ⟨a, t, u, e1, e2⟩ := hp.at_ j p e
    exact ⟨a, t, u, e1, .tail _ e2⟩
  · intro Q E hq
    exact nm_local H rfl rfl rfl (by decide +kernel) hq
  · intro A' E' i p t u s₂ m₂ C code q1 q2 q3 q4 q5 q6 q7 q8
    have hl : nsIn (Mine.hd.heap_1 w.params) mainGlobals "len" = some none := by k_is
    have hz' := hz p (List.mem_of_getElem? q4)
    have nm : ∀ {s₃ : Shared} {pos : Pos} {Q : Value → Shared → Prop} {E : Value → Shared → Prop} {env : Env}, s₃.heap = s₂.heap → env.globals = mainGlobals → env.builtins = builtinsNs → env.scope.kind = .function → env.kindOf "len" = some .globalImplicit → Q (.builtin "len") s₃ → wpAny (model prog w) A' (eval (.Name "len" pos) env) Q E s₃ := by
      intro s₃ pos Q E env e1 e2 e3 e4 e5 hq
      exact Name_function_global e4 e5 (loadGlobal_builtin (env := env) (by rw [e1, e2]; exact G.g.keeps q8) (mg_none_of G.X G.g hl) (by rw [e1, e3]; exact G.bn.keeps q8) ((G.builtins _ (by decide +kernel)).trans (by boot_by_name)) hq) (by decide +kernel)
    refine wpAny_BinOp (PyProof.Rows.Call_ (nm rfl rfl rfl rfl rfl (callWith_method1 (args_cons (wpAny_Name (wpAny_loadName_local rfl rfl q5 q6 (args_nil ?_)) (by decide +kernel)) rfl) rfl rfl)) rfl)
    refine len_str (by omega) ?_
    refine PyProof.Rows.Call_ (nm rfl rfl rfl rfl rfl (callWith_method1 (args_cons (wpAny_Name (wpAny_loadName_local rfl rfl q5 q7 (args_nil ?_)) (by decide +kernel)) rfl) rfl rfl)) rfl
    refine len_str (by omega) ?_
    refine add_int ⟨?_, ⟨_, _, rfl, fun _ _ e => e⟩⟩
    unfold wtAt
    rw [q4]; exact ⟨_, rfl⟩
  · intro a tO' s' fp wr Gq St hT' H GO
    have hdc : dc ≠ 140 := hP h2 (fun z e => by cases e)
    have hac : ac ≠ 140 := hP hx (fun z e => by cases e)
    refine args_cons (Attribute_any_ (nm_local H rfl rfl rfl (by decide +kernel) ?_) rfl) rfl
    refine acc_size_raw G H (.tail _ (U.keep hx hac)) (.tail _ (U.keep h2 hdc)) ?_
    refine args_nil ?_
    refine sum_start (wtAt ps) GO.W.of_in1.of_in1.of_in1 (GO.W.frame 0 _ _ _ GO.st (Nat.le_succ _) fun _ _ _ e => e) GO.lt (fun i v hv => hv) hl ?_
    intro s'' t' M
    have H'' := GO.on _ _ (H.toks (Nat.le_succ _)) M
    rw [preSum_wt]
    exact h _ _ _ hT' (H''.leave hL ho (by walk_at "drops"))
end
end Mine
end
section
open PySem PySem.W PyProof.Rows PySem.Calls PySem.Spec
set_option Elab.async false
set_option maxRecDepth 100000
set_option maxHeartbeats 4000000
namespace Mine
example (P : Params) : PySem.Challenge.rw_pe0181_01 = PySem.Challenge.rw_pe0181_01 ∧ Mine.hd.heap_1 P = Mine.hd.heap_1 P := by
  k_fill
  exact ⟨rfl, rfl⟩
/-- the text of the parts -/
def one (p : Str × Str) : Str := Txt.join "" [p.1, p.2]
def txt (ps : List (Str × Str)) : Str := Txt.join "" (ps.map one)
theorem one_len (p : Str × Str) : (one p).length ≤ p.1.length + p.2.length := by
  have h := StrLaws.join_length_le "" [p.1, p.2]
  have e0 : ((Str.ofString "") : Str).length = 0 := rfl
  simp only [List.map_cons, List.map_nil, List.sum_cons, List.sum_nil, e0, Nat.mul_zero, Nat.add_zero] at h
  exact h
theorem small_weight {ps : List (Str × Str)} (hn : ps.length ≤ 100) (hz : ∀ p ∈ ps, p.1.length ≤ 100 ∧ p.2.length ≤ 100) : ((ps.map one).map (·.length)).sum + (ps.map one).length ≤ 1048576 := by
  have : ((ps.map one).map (·.length)).sum ≤ ps.length * 200 := by
    clear hn
    induction ps with
    | nil => exact Nat.zero_le _
    | cons p r ih =>
      have h1 := ih fun q hq => hz q (.tail _ hq)
      have h2 := hz p (.head _)
      have h3 := one_len p
      simp only [List.map_cons, List.sum_cons, List.length_cons]
      omega
  rw [List.length_map]
  omega
section
variable {prog : Program} {w : World} {A : Around} {E : Value → Shared → Prop} {s : Shared} {ac dc a : Addr} {items : List Value} {es : List DictEntry} {ep n k i : Nat} {v x : Value} {o o' : Obj} {xs : Array Value}
  {b h' : Heap} {ω : OsState} {L f c P : Addr} {m mg mb : Str → Option Value} {ns ns' : List (Addr × Obj)} {g : Obj → List (Addr × Obj)} {Q : Value → Shared → Prop}

theorem items_of_strs {ps : List (Str × Str)} {l : List (Str × Tok)} (h : ItemsOf (fun j y => ∃ p t, ps[j]? = some p ∧ y = Value.str (one p) t) (strValues l).toArray ps.length) : l.map (·.1) = ps.map one := by
  have hl : l.length = ps.length := by have := h.1; simpa [strValues] using this
  refine List.ext_getElem? fun j => ?_
  rw [List.getElem?_map, List.getElem?_map]
  cases e : l[j]? with
  | none =>
    rw [List.getElem?_eq_none_iff] at e
    rw [List.getElem?_eq_none (by omega)]; rfl
  | some q =>
    obtain ⟨p, t, e1, e2⟩ := h.2 j (.str q.1 q.2) (by simp [strValues, e])
    rw [e1]
    exact congrArg some (by injection e2)

theorem acc_str {ps : List (Str × Str)} {tO : Obj} (G : Gd w mg mb b) (H : At b ω L m ns s) (R : Rm A 4) (hx : (ac, accO dc items ep) ∈ ns) (hp : Parts ns items ps)
    (U : PutF 147 tO ns g) (hT : TabOk tO) (hn : ps.length ≤ 100) (hz : ∀ p ∈ ps, p.1.length ≤ 100 ∧ p.2.length ≤ 100)
    (h : ∀ tO' t s', TabOk tO' → At b ω L m (g tO') s' → Q (.str (txt ps) t) s') :
    wpAny (model prog w) A (call (.ref 152) [.ref ac]) Q E s := by
  have hL := H.F.above
  refine fn_call [("self", .ref ac)] G H R (by k_is) (by k_is) (BindsTo.of_eq rfl) (locs rfl) (by decide) ?_
  clear H R
  intro L' oL s ho H R
  refine _root_.PySem.wpAt_of_wpAny ?_
  walk_at "w"
  refine acc_gen (fun j y => ∃ p t, ps[j]? = some p ∧ y = .str (one p) t) (ps := ps) G H R (List.Mem.tail _ hx) ⟨hp.len, fun j p e => ?_⟩ (PutF.tail U) hT rfl (by k_is) rfl rfl ⟨rfl, ⟨_, _, rfl⟩, ⟨_, _, rfl⟩, ⟨_, rfl⟩, ⟨_, _, rfl⟩⟩ rfl rfl rfl (by decide) rfl rfl rfl (by decide +kernel) rfl (fun _ => rfl) ?_ ?_ ?_
  · obtain ⟨a, t, u, e1, e2⟩ := hp.at_ j p e
    exact ⟨a, t, u, e1, .tail _ e2⟩
  · intro Q E hq
    exact nm_local H rfl rfl rfl (by decide +kernel) hq
  · intro A' E' i p t u s₂ m₂ C code q1 q2 q3 q4 q5 q6 q7 q8
    obtain ⟨et, hl⟩ : ∃ et, nsIn (Mine.hd.heap_1 w.params) mainGlobals "EMPTYSTRING" = some (some (.str "" et)) := ⟨_, by k_is⟩
    have hz' := hz p (List.mem_of_getElem? q4)
    refine MethodCall_ (Name_function_global rfl rfl (loadGlobal_global (G.g.keeps q8) (mg_of G.X G.g hl) (GM.join ?_)) (by decide +kernel)) rfl
    refine callWith_method1 (args_cons (wpAny_Tuple (args_cons (wpAny_Name (wpAny_loadName_local rfl rfl q5 q6 (args_cons (wpAny_Name (wpAny_loadName_local rfl rfl q5 q7 (args_nil ⟨by show 2 ≤ sizeLine; rw [sizeLine_eq]; decide, ?_⟩)) (by decide +kernel)) rfl)) (by decide +kernel)) rfl)) rfl) rfl rfl
    refine args_nil ?_
    refine join_tupleW (ys := [p.1, p.2]) ⟨_, Heap.get?_push_size _ rfl, rfl, _, rfl⟩ (.cons _ _ (.cons _ _ .nil)) (by decide) (by simp; omega) ?_
    intro t' k
    exact ⟨⟨p, t', q4, rfl⟩, ⟨_, _, rfl, fun c o e => Heap.get?_push_of_some _ e⟩⟩
  · intro a tO' s' fp wr Gq St hT' H GO
    refine args_nil ?_
    refine wpAny_with_toks (n := s'.toks) (Nat.le_refl _) ?_
    refine SC.joinGen GO.W.of_in1.of_in1 GO.ty GO.st GO.lt GO.mem (fun i v hv => ?_) ?_ (by rw [sizeLine_eq]; omega)
    · obtain ⟨p, t, _, rfl⟩ := hv
      exact ⟨_, _, rfl⟩
    · intro s'' l M hI
      have e := items_of_strs hI
      rw [e]
      refine ⟨joinOk_of_weight (small_weight hn hz) (by decide), fun t' k hk => ?_⟩
      have H'' := GO.on _ _ H M
      have H3 : At b ω L' _ _ { s'' with toks := k } := ⟨H''.F, H''.N, H''.D, H''.os, H''.gens, Nat.lt_of_lt_of_le H.tk hk⟩
      exact h _ _ _ hT' (H3.leave hL ho (by walk_at "drops"))
end
end Mine
end
section
open PySem PySem.W PyProof.Rows PySem.Calls PySem.Spec
set_option Elab.async false
set_option maxRecDepth 100000
set_option maxHeartbeats 4000000
namespace Mine
example (P : Params) : PySem.Challenge.rw_pe0181_01 = PySem.Challenge.rw_pe0181_01 ∧ Mine.hd.heap_1 P = Mine.hd.heap_1 P := by
  k_fill
  exact ⟨rfl, rfl⟩
/-- few parts, all short -/
structure Small (ps : List (Str × Str)) : Prop where
  n : ps.length ≤ 100
  z : ∀ p ∈ ps, p.1.length ≤ 100 ∧ p.2.length ≤ 100
  k : ∀ p ∈ ps, PyData.strOk p.1 = true ∧ PyData.strOk p.2 = true
theorem Small.wt {ps : List (Str × Str)} (h : Small ps) : 0 ≤ wt ps ∧ wt ps ≤ 20000 := by
  have : ∀ ps : List (Str × Str), (∀ p ∈ ps, p.1.length ≤ 100 ∧ p.2.length ≤ 100) → 0 ≤ Mine.wt ps ∧ Mine.wt ps ≤ 200 * ps.length := by
    intro ps
    induction ps with
    | nil => intro _; exact ⟨Int.le_refl _, Int.le_refl _⟩
    | cons p r ih =>
      intro hz
      have h1 := ih fun q hq => hz q (.tail _ hq)
      have h2 := hz p (.head _)
      unfold Mine.wt at h1 ⊢
      simp only [List.map_cons, List.sum_cons, List.length_cons] at h1 ⊢
      omega
  have h1 := this ps h.z
  have h2 := h.n
  omega
theorem Parts.mono {ns ns' : List (Addr × Obj)} {items : List Value} {ps : List (Str × Str)} (h : Parts ns items ps) (hs : ∀ p ∈ ns, p ∈ ns') : Parts ns' items ps :=
  ⟨h.len, fun j p e => let ⟨a, t, u, e1, e2⟩ := h.at_ j p e; ⟨a, t, u, e1, hs _ e2⟩⟩
section
variable {prog : Program} {w : World} {A : Around} {E : Value → Shared → Prop} {s : Shared} {ac dc a : Addr} {items : List Value} {es : List DictEntry} {ep n k i : Nat} {v x : Value} {o o' : Obj} {xs : Array Value}
  {b h' : Heap} {ω : OsState} {L f c P : Addr} {m mg mb : Str → Option Value} {ns ns' : List (Addr × Obj)} {g : Obj → List (Addr × Obj)} {Q : Value → Shared → Prop}
  {ps : List (Str × Str)} {hsh : Int} {tk t0 : Tok} {h0 : Int} {tO tS : Obj}

theorem acc_len_call (G : Gd w mg mb b) (H : At b ω L m ns s) (R : Rm A 5) (hx : (ac, accO dc items ep) ∈ ns) (h2 : (dc, ownD hsh tk (.int h0 t0) n) ∈ ns) (hp : Parts ns items ps)
    (U : PutF 140 tO ns g) (hT : TabOk tO) (hh : 0 ≤ h0 ∧ h0 ≤ 1000) (hz : Small ps)
    (h : ∀ tO' t s', TabOk tO' → At b ω L m (g tO') s' → Q (.int (h0 + wt ps) t) s') :
    wpAny (model prog w) A (call (.builtin "len") [.ref ac]) Q E s := by
  have hw := hz.wt
  refine len_K H.F G.X (acc_at (H.get hx) (H.get h2)) (by k_is) (by k_is) ?_
  refine acc_len G H R.in1 hx h2 hp U hT (by simp; omega) (fun p hp => by have := hz.z p hp; omega) ?_
  intro tO' t s' hT' H'
  exact ⟨⟨by omega, by omega⟩, h _ _ _ hT' (H'.toks (Nat.le_succ _))⟩
theorem acc_str_call (G : Gd w mg mb b) (H : At b ω L m ns s) (R : Rm A 6) (hx : (ac, accO dc items ep) ∈ ns) (h2 : (dc, dictOf es n) ∈ ns) (hp : Parts ns items ps)
    (U : PutF 147 tO ns g) (hT : TabOk tO) (hz : Small ps)
    (h : ∀ tO' t s', TabOk tO' → At b ω L m (g tO') s' → Q (.str (txt ps) t) s') :
    wpAny (model prog w) A (call (.type "str") [.ref ac]) Q E s := by
  refine kso_call (R.le (j := 6) (by decide)).in1.in1.units (G.X.keeps H.F.keep) (acc_at (H.get hx) (H.get h2)) (by k_is) (by k_is) ?_
  refine acc_str G H R.in1.in1 hx hp U hT hz.n hz.z ?_
  intro tO' t s' hT' H'
  exact h _ _ _ hT' H'
theorem acc_truthy {Q : Bool → Shared → Prop} (G : Gd w mg mb b) (H : At b ω L m ns s) (R : Rm A 5) (hx : (ac, accO dc items ep) ∈ ns) (h2 : (dc, ownD hsh tk (.int h0 t0) n) ∈ ns) (hp : Parts ns items ps)
    (U : PutF 140 tO ns g) (hT : TabOk tO) (hh : 0 ≤ h0 ∧ h0 ≤ 1000) (hz : Small ps)
    (h : ∀ tO' s', TabOk tO' → At b ω L m (g tO') s' → Q (h0 + wt ps != 0) s') :
    wpAny (model prog w) A (truthy (.ref ac)) Q E s := by
  have X := G.X.keeps H.F.keep
  have hb : findIn (Mine.hd.heap_1 w.params) (.ref 178) "__bool__" = some none := by k_is
  have hl : findIn (Mine.hd.heap_1 w.params) (.ref 178) "__len__" = some (some (.ref 145)) := by k_is
  unfold truthy
  refine wpAny_bind (m := callSpecial? (.ref ac) (Str.ofString "__bool__")) (wpAny_bind (wpAny_bind ((acc_type (H.get hx)).here ((looks_findIn X hb).here (wpAny_pure ?_)))))
  refine wpAny_bind (wpAny_bind ((acc_type (H.get hx)).here ((looks_findIn X hl).here ?_)))
  have key : wpAny (model prog w) A (runValue (.builtin "len" ⟨[.ref ac], []⟩)) (fun r s' => ∃ tO' t, TabOk tO' ∧ At b ω L m (g tO') s' ∧ r = .int (h0 + wt ps) t) E s := by
    have hw := hz.wt
    refine wpAny_runValue (codeAny_builtin entry_len ?_)
    rw [Around.under_plainId plain_len _]
    unfold Builtin.«len»
    refine wpAny_bind (wpAny_of_eq (a := .ref ac) rfl ?_)
    refine wpAny_bind (m := callSpecial? (.ref ac) (Str.ofString "__len__")) (special_fn X (acc_at (H.get hx) (H.get h2)) hl (by k_is) ?_)
    refine acc_len G H R.in1 hx h2 hp U hT (by simp; omega) (fun p hp => by have := hz.z p hp; omega) ?_
    intro tO' t s' hT' H'
    refine wpAny_bind (wpAny_holding (wpAny_pure ?_))
    refine wpAny_bind (wpAny_letGo ?_)
    dsimp only
    rw [if_neg (by omega), if_neg (by omega)]
    exact wpAny_bind (wpAny_mkInt (wpAny_pure ⟨_, _, hT', H'.toks (Nat.le_succ _), rfl⟩))
  refine wpAny_bind (m := runValue _) (wpAny_mono key (fun r s' hr => ?_) fun _ _ e => e)
  obtain ⟨tO', t, hT', H', rfl⟩ := hr
  exact wpAny_pure (h _ _ hT' H')
/-! is_onlyws -/
def onlyws (h0 : Int) (ps : List (Str × Str)) : Bool := (h0 == 0) && (!(h0 + wt ps != 0) || Txt.isspace (txt ps))
theorem acc_onlyws {g2 : Obj → Obj → List (Addr × Obj)} (G : Gd w mg mb b) (H : At b ω L m ns s) (R : Rm A 7) (hx : (ac, accO dc items ep) ∈ ns) (h2 : (dc, ownD hsh tk (.int h0 t0) n) ∈ ns) (hp : Parts ns items ps)
    (U : PutF 140 tO ns g) (hT : TabOk tO) (U2 : ∀ o, PutF 147 tS (g o) (g2 o)) (hS : TabOk tS) (hx' : ∀ o, (ac, accO dc items ep) ∈ g o) (h2' : ∀ o, (dc, ownD hsh tk (.int h0 t0) n) ∈ g o) (hp' : ∀ o, Parts (g o) items ps) (hh : 0 ≤ h0 ∧ h0 ≤ 1000) (hz : Small ps)
    (h : ∀ tO' tS' s', TabOk tO' → TabOk tS' → At b ω L m (g2 tO' tS') s' → Q (.bool (onlyws h0 ps)) s') :
    wpAny (model prog w) A (call (.ref 167) [.ref ac]) Q E s := by
  have hL := H.F.above
  refine fn_call [("self", .ref ac)] G H R (by k_is) (by k_is) (BindsTo.of_eq rfl) (locs rfl) (by decide) ?_
  clear H R
  intro L' oL s ho H R
  refine _root_.PySem.wpAt_of_wpAny ?_
  walk_at "w"
  have eS : ∀ o, g2 o tS = g o := fun o => (U2 o).self
  by_cases hc : (h0 == 0) = true
  case neg =>
    rw [if_neg hc]
    have e : (h0 == 0) = onlyws h0 ps := by unfold onlyws; rw [Bool.not_eq_true] at hc; rw [hc]; rfl
    rw [e]
    refine h tO tS _ hT hS ?_
    rw [eS, U.self]
    exact H.leave hL ho (by walk_at "drops")
  rw [if_pos hc]
  walk_at "w"
  refine acc_truthy G H (R.le (by decide)) (.tail _ hx) (.tail _ h2) (hp.mono fun _ q => .tail _ q) (PutF.tail U) hT hh hz ?_
  intro tO' s hT' H
  by_cases hd : (!(h0 + wt ps != 0)) = true
  · walk_at "w"
    rw [if_pos hd]
    have e : (!(h0 + wt ps != 0)) = onlyws h0 ps := by unfold onlyws; rw [hc, hd]; rfl
    rw [e]
    refine h tO' tS _ hT' hS ?_
    rw [eS]
    exact H.leave hL ho (by walk_at "drops")
  · walk_at "w"
    rw [if_neg hd]
    walk_at "w"
    refine acc_str_call G H (R.le (by decide)) (.tail _ (hx' _)) (.tail _ (h2' _)) ((hp' _).mono fun _ q => .tail _ q) (PutF.tail (U2 _)) hS hz ?_
    intro tS' t s hS' H
    walk_at "w"
    refine call_gives F.slot_str_isspace (typeIs_str _ _ _) F.entry_str_isspace (F.args_str_isspace_1 _) (gives_str_isspace _ _) ?_
    have e : (decide ((txt ps).length > 0) && (txt ps).cps.all Unicode.isSpace) = onlyws h0 ps := by
      unfold onlyws
      rw [Bool.not_eq_true] at hd
      rw [hc, hd]; rfl
    show Q (.bool _) s
    rw [e]
    exact h tO' tS' _ hT' hS' (H.leave hL ho (by walk_at "drops"))
end
end Mine
end
section
open PySem PySem.W PyProof.Rows PySem.Calls PySem.Spec
set_option Elab.async false
set_option maxRecDepth 100000
set_option maxHeartbeats 4000000
namespace Mine
example (P : Params) : PySem.Challenge.rw_pe0181_01 = PySem.Challenge.rw_pe0181_01 ∧ Mine.hd.heap_1 P = Mine.hd.heap_1 P := by
  k_fill
  exact ⟨rfl, rfl⟩
/-- the formatter: its parts that never change -/
structure MkIn (T : List (Addr × Obj)) (mk : Addr) (width : Int) (marks : Str) (ll ac : Addr) : Prop where
  ex : ∃ md es n, (mk, instObj 94 md) ∈ T ∧ (md, dictOf es n) ∈ T ∧ (∃ t, getL "_maxlen" es = some (some (.int width t))) ∧ (∃ t, getL "_splitchars" es = some (some (.str marks t))) ∧
    getL "_lines" es = some (some (.ref ll)) ∧ getL "_current_line" es = some (some (.ref ac)) ∧ ∀ x : Str, x ∈ (["newline", "_append_chunk", "_str"] : List Str) → getL x es = some none
theorem MkIn.mono {T T' : List (Addr × Obj)} {mk ll ac : Addr} {width : Int} {marks : Str} (K : MkIn T mk width marks ll ac) (h : ∀ p ∈ T, p ∈ T') : MkIn T' mk width marks ll ac := by
  obtain ⟨md, es, n, h1, h2, r⟩ := K.ex
  exact ⟨md, es, n, h _ h1, h _ h2, r⟩
section
variable {prog : Program} {w : World} {A : Around} {E : Value → Shared → Prop} {s : Shared} {mk ll ac dc a : Addr} {width : Int} {marks : Str} {expr : Bool}
  {b h' : Heap} {ω : OsState} {L f c P : Addr} {m mg mb : Str → Option Value} {ns ns' : List (Addr × Obj)} {Q : Value → Shared → Prop}
theorem mk_get {name : Str} {es : List DictEntry} {n : Nat} {md : Addr} {v : Value} (G : Gd w mg mb b) (H : At b ω L m ns s) (h1 : (mk, instObj 94 md) ∈ ns) (h2 : (md, dictOf es n) ∈ ns) (hg : plainGet (Mine.hd.heap_1 w.params) 94 name = true) (hf : findIn (Mine.hd.heap_1 w.params) (.ref 94) name = some none)
    (hl : getL name es = some (some v)) (hv : handedIn v = true) (h : ∀ s', At b ω L m ns s' → Q v s') : wpAny (model prog w) A (getAttr (.ref mk) name expr) Q E s :=
  get_own H.F G.X (⟨H.get h1, rfl, rfl, H.get h2⟩ : W.InstAt s.heap mk (instObj 94 md) 94 (some (dictOf es n))) hg (by k_is) hf rfl hl hv (h _ (H.toks (Nat.le_succ _)))
theorem mk_cur (G : Gd w mg mb b) (H : At b ω L m ns s) (K : MkIn ns mk width marks ll ac) (h : ∀ s', At b ω L m ns s' → Q (.ref ac) s') : wpAny (model prog w) A (getAttr (.ref mk) "_current_line" expr) Q E s := by
  obtain ⟨md, es, n, h1, h2, r1, r2, r3, r4, r5⟩ := K.ex
  exact mk_get G H h1 h2 (by k_is) (by k_is) r4 rfl h
theorem mk_lines (G : Gd w mg mb b) (H : At b ω L m ns s) (K : MkIn ns mk width marks ll ac) (h : ∀ s', At b ω L m ns s' → Q (.ref ll) s') : wpAny (model prog w) A (getAttr (.ref mk) "_lines" expr) Q E s := by
  obtain ⟨md, es, n, h1, h2, r1, r2, r3, r4, r5⟩ := K.ex
  exact mk_get G H h1 h2 (by k_is) (by k_is) r3 rfl h
theorem mk_maxlen (G : Gd w mg mb b) (H : At b ω L m ns s) (K : MkIn ns mk width marks ll ac) (h : ∀ t s', At b ω L m ns s' → Q (.int width t) s') : wpAny (model prog w) A (getAttr (.ref mk) "_maxlen" expr) Q E s := by
  obtain ⟨md, es, n, h1, h2, ⟨t, r1⟩, r2, r3, r4, r5⟩ := K.ex
  exact mk_get G H h1 h2 (by k_is) (by k_is) r1 rfl (h t)
theorem mk_split (G : Gd w mg mb b) (H : At b ω L m ns s) (K : MkIn ns mk width marks ll ac) (h : ∀ t s', At b ω L m ns s' → Q (.str marks t) s') : wpAny (model prog w) A (getAttr (.ref mk) "_splitchars" expr) Q E s := by
  obtain ⟨md, es, n, h1, h2, r1, ⟨t, r2⟩, r3, r4, r5⟩ := K.ex
  exact mk_get G H h1 h2 (by k_is) (by k_is) r2 rfl (h t)
theorem mk_meth {name : Str} {pl : Sem Bool} {Q : Value × List Value → Shared → Prop} (G : Gd w mg mb b) (H : At b ω L m ns s) (K : MkIn ns mk width marks ll ac) (hf : findIn (Mine.hd.heap_1 w.params) (.ref 94) name = some (some (.ref f))) (ht : typeIn (Mine.hd.heap_1 w.params) (.ref f) = some (.type "function"))
    (hn : name ∈ (["newline", "_append_chunk", "_str"] : List Str)) (h : Q (.ref f, [.ref mk]) s) : wpAny (model prog w) A (getMethod (.ref mk) name pl) Q E s := by
  obtain ⟨md, es, n, h1, h2, r1, r2, r3, r4, r5⟩ := K.ex
  refine method_fn (G.X.keeps H.F.keep) (⟨H.get h1, rfl, rfl, H.get h2⟩ : W.InstAt s.heap mk (instObj 94 md) 94 (some (dictOf es n))) (by k_is) (by k_is) hf ht ?_ h
  have e := r5 _ hn
  unfold shadowIn
  show (lookIn name (dictOf es n)).map _ = _
  rw [lookIn_dict, e]
  rfl
end
end Mine
end
section
open PySem PySem.W PyProof.Rows PySem.Calls PySem.Spec
set_option Elab.async false
set_option maxRecDepth 100000
set_option maxHeartbeats 4000000
namespace Mine
example (P : Params) : PySem.Challenge.rw_pe0181_01 = PySem.Challenge.rw_pe0181_01 ∧ Mine.hd.heap_1 P = Mine.hd.heap_1 P := by
  k_fill
  exact ⟨rfl, rfl⟩
section
variable {prog : Program} {w : World} {A : Around} {E : Value → Shared → Prop} {s : Shared} {mk ll ac dc a c : Addr} {width : Int} {marks : Str}
  {b h' : Heap} {ω : OsState} {L f : Addr} {m mg mb : Str → Option Value} {ns ns' T : List (Addr × Obj)} {Q : Value → Shared → Prop}
theorem shaped_pair {x y : Str} (h : PyData.strOk x = true ∧ PyData.strOk y = true) : SeqAt.shaped (.tuple [.str x, .str y]) = true := by
  simp [SeqAt.shaped, PyData.canLay0, PyData.canLayAll0, PyData.depth, PyData.depthAll, h]
theorem tup_ne {p q : Str × Str} {t u t' u' : Tok} (H : At b ω L m ns s) (R : Rm A 5) (h1 : (a, tupO [.str p.1 t, .str p.2 u]) ∈ ns) (h2 : (c, tupO [.str q.1 t', .str q.2 u']) ∈ ns) (k1 : PyData.strOk p.1 = true ∧ PyData.strOk p.2 = true) (k2 : PyData.strOk q.1 = true ∧ PyData.strOk q.2 = true) (h : Q (.bool (!(p.1 == q.1 && (p.2 == q.2 && true)))) s) :
    wpAny (model prog w) A (compareOp .NotEq (.ref a) (.ref c)) Q E s :=
  ne_dataH (.tuple (H.get h1) rfl rfl (.cons (.str _ _) (.cons (.str _ _) .nil))) (.tuple (H.get h2) rfl rfl (.cons (.str _ _) (.cons (.str _ _) .nil))) (shaped_pair k1) (shaped_pair k2) (by have := R.un; omega) h
theorem star_tup {ws : List Value} {Q : List Value → Shared → Prop} (H : At b ω L m ns s) (h1 : (a, tupO ws) ∈ ns) (hz : ws.length ≤ 1000) (h : ∀ s', At b ω L m ns s' → Q ws s') : StarOf (model prog w) A E (.ref a) Q s :=
  star_seq H.F H.N h1 rfl rfl (.inr rfl) rfl (by show ws.toArray.size ≤ _; rw [List.size_toArray, sizeLine_eq]; omega) fun h' F' N' => h _ ⟨F', N', H.D, H.os, H.gens, H.tk⟩

theorem acc_bound {name : Str} {items : List Value} {ep n : Nat} {es : List DictEntry} {expr : Bool} (G : Gd w mg mb b) (H : At b ω L m ns s) (h1 : (ac, accO dc items ep) ∈ ns) (h2 : (dc, dictOf es n) ∈ ns)
    (ha : findIn (Mine.hd.heap_1 w.params) (.ref 178) name = some (some (.ref f))) (hf : typeIn (Mine.hd.heap_1 w.params) (.ref f) = some (.type "function")) (hgf : specialIn (Mine.hd.heap_1 w.params) (.ref f) "__get__" = some (some (.builtin "function.__get__"))) (ht : takesIn (Mine.hd.heap_1 w.params) (.ref f) = some false)
    (hc : copiedNames.contains name = false) (hl : getL name es = some none) (h : ∀ q s', At b ω L m ((q, methodObj (.ref f) (.ref ac)) :: ns) s' → Q (.ref q) s') : wpAny (model prog w) A (getAttr (.ref ac) name expr) Q E s := by
  have X : (Mine.hd.heap_1 w.params).In s.heap := G.X.keeps H.F.keep
  have I := acc_at (H.get h1) (H.get h2)
  have T := I.type (M := model prog w)
  have e : findObj (Mine.hd.heap_1 w.params) 178 (some (dictOf es n)) name = some (.bind (.builtin "function.__get__") (.ref f)) := findObj_fn acc_dict ha hgf ht hc (by show lookIn name (dictOf es n) = _; rw [lookIn_dict, hl])
  have z := h _ _ (H.push (methodObj (.ref f) (.ref ac)) (Nat.le_succ _))
  obtain ⟨hp, g, d, tk, os⟩ := s
  dsimp only at X I T
  unfold getAttr getAttrBy
  refine wpAny_bind (wpAny_mkText (wpAny_holding (wpAny_bind (T _ _ _ _ (fun _ _ e => e) (wpAny_bind (looks_findIn X acc_ga _ _ _ _ (fun _ _ e => e) ?_))))))
  dsimp only
  rw [show (onTheHeap (Value.ref 178) && Value.builtin "list.__getattribute__" == Value.builtin "object.__getattribute__") = false from by decide +kernel, if_neg (by decide)]
  unfold getAttrByItsOwn
  refine wpAny_bind ((looks_hook (mc := .ref 178) (r := none) X (by rw [show onTheHeap (Value.ref 178) = true from rfl, if_pos rfl]; exact acc_no_hook)) _ _ _ _ (fun _ _ e => e) (wpAny_bind (wpAny_attempt (wpAny_holding ?_))))
  unfold callGetattribute
  rw [show (expr && onTheHeap (Value.builtin "list.__getattribute__")) = false from Bool.and_false _, if_neg (by decide)]
  unfold boundAndCalled
  rw [F.slot_list_getattribute.bind]
  refine wpAny_bind (wpAny_pure ?_)
  show wpAny _ _ (call (.builtin "list.__getattribute__") [.ref ac, .str name tk]) _ _ _
  refine wpAny_call (codeAny_call_builtin F.slot_list_getattribute.plain am_entry_list_getattribute ?_)
  refine @check_slot (model prog w) _ _ ⟨hp, g, d, tk + 1, os⟩ "list.__getattribute__" "list" "__getattribute__" (.ref ac) [.str name tk] [] _ (by decide +kernel) (by decide +kernel) (T.andThen (looks_subIn X acc_sub)) (F.args_list_getattribute_2 _ _) ?_
  have L1 := looks_find (M := model prog w) X I e
  unfold Builtin.«object.__getattribute__»
  refine wpAny_bind (wpAny_pure (wpAny_bind (wpAny_pure (wpAny_bind (T _ _ _ _ (fun _ _ e => e) (wpAny_bind (L1 _ _ _ _ (fun _ _ e => e) ?_)))))))
  show wpAny _ _ (holding [Value.ref f] (call (.builtin "function.__get__") [.ref f, .ref ac, .ref 178]) >>= ret) _ _ _
  refine wpAny_bind (wpAny_holding (wpAny_call (fn_get X hf ?_)))
  refine wpAny_pure ?_
  show wpAny _ _ (handedOut (.ref _)) _ _ _
  exact handed_on rfl z

/-- a function of the top as a code -/
theorem fn_code {k : Nat} {name qual : Str} {params : Arguments} {body : List Stmt} {scope : Scope} {cl : List (Str × Addr)} {dV kV doc pm cdv ct oc : Value} {an od : Option Addr} {osl : Array (Option Value)} {args : List Value}
    {R : Result → Shared → Prop} (binds : List (Str × Value)) (G : Gd w mg mb b) (H : At b ω L m ns s) (Rr : Rm A (k + 1))
    (ho : (Mine.hd.heap_1 w.params).lookup f = some ⟨oc, od, .func (fnX name qual params body scope cl dV kV doc pm an cdv ct), osl⟩) (hcd : codeIn (Mine.hd.heap_1 w.params) cdv qual = true)
    (hbind : BindsTo s (fnX name qual params body scope cl dV kV doc pm an cdv ct) ⟨args, []⟩ binds) (hloc : ∀ y ∈ binds, scope.names.lookup y.1 = some .local) (hcell : ∀ x ∈ scope.names, x.2 ≠ .cell)
    (h : ∀ L' oL s', NsO oL m → At b ω L' (fun x => binds.reverse.lookup x) ((L, oL) :: ns) s' → Rm (A.deeper (envX qual scope L' f cdv cl)) k →
      _root_.PySem.wpAt (model prog w) (A.deeper (envX qual scope L' f cdv cl)) (.func body (envX qual scope L' f cdv cl)) (execs body (envX qual scope L' f cdv cl)) (fun fl s' => R (.ok (.ret (match fl with | .ret v => v | _ => .none))) s') (fun _ _ => False) s')
    (hco : scope.isCoroutine = false := by rfl) (hgen : scope.isGenerator = false := by rfl) (hk : scope.kind = .function := by rfl) :
    codeAny (model prog w) A (.call (.ref f) ⟨args, []⟩) R s := by
  have X : (Mine.hd.heap_1 w.params).In s.heap := G.X.keeps H.F.keep
  refine ks_codeAny_call_defAt Rr.room (X _ _ ho) rfl (G.nolimit.keeps H.F.keep) (codeRec_of X hcd) rfl hbind hcell hloc (fun h₀ hns hk₀ => ?_) hco hgen hk
  obtain ⟨oL, h1, h2⟩ := H.enter hns hk₀ (Nat.le_add_right _ _)
  exact ks_wpAt_mono (h _ oL _ h1 h2 Rr.deeper) (fun _ _ z => z) fun _ _ z => z.elim
theorem acc_push_code {fw st : Value} {items : List Value} {ep n : Nat} {es : List DictEntry} {g : Obj → List (Addr × Obj)} {Rs : Result → Shared → Prop} (G : Gd w mg mb b) (H : At b ω L m ns s) (R : Rm A 3) (U : PutF ac (accO dc items ep) ns g) (D : (dc, dictOf es n) ∈ ns) (hg : ∀ x, x ≠ ("_initial_size" : Str) → getL x es = some none) (hz : items.length ≤ 1000)
    (h : ∀ ta s', At b ω L m ((ta, tupO [fw, st]) :: g (accO dc (items ++ [.ref ta]) (ep + 1))) s' → Rs (.ok (.ret .none)) s') :
    codeAny (model prog w) A (.call (.ref 122) ⟨[.ref ac, fw, st], []⟩) Rs s := by
  have hL := H.F.above
  refine fn_code [("self", .ref ac), ("fws", fw), ("string", st)] G H R (by k_is) (by k_is) (BindsTo.of_eq rfl) (locs rfl) (by decide) ?_
  clear H R
  intro L' oL s ho H R
  refine wpAt_of_wpAny ?_
  walk_at "w"
  refine acc_append G.X H (by walk_at "puts") hz ?_
  intro s H
  walk_at "w"
  exact h _ _ (H.leave hL ho (by walk_at "drops"))
/-- x.push( *t ) -/
theorem acc_push_star {fw st : Value} {items : List Value} {ep n : Nat} {es : List DictEntry} {g : Obj → List (Addr × Obj)} {q : Addr} {env : Env} {pos pos' : Pos} {e : Expr} (G : Gd w mg mb b) (H : At b ω L m ns s) (R : Rm A 3) (hq : (q, methodObj (.ref 122) (.ref ac)) ∈ ns)
    (U : PutF ac (accO dc items ep) ns g) (D : (dc, dictOf es n) ∈ ns) (hg : ∀ x, x ≠ ("_initial_size" : Str) → getL x es = some none) (hz : items.length ≤ 1000)
    (he : ∀ {Q : Value → Shared → Prop} {E : Value → Shared → Prop}, Q (.ref a) s → wpAny (model prog w) A (eval e env) Q E s) (ht : (a, tupO [fw, st]) ∈ ns)
    (h : ∀ ta s', At b ω L m ((ta, tupO [fw, st]) :: g (accO dc (items ++ [.ref ta]) (ep + 1))) s' → Q .none s') :
    wpAny (model prog w) A (callWith pos (.ref q) [] (backTo pos (starEach [.Starred e pos'] env)) []) Q E s := by
  refine ks_call (P := MethP (Mine.hd.heap_1 w.params) q 122 (.ref ac)) rfl (keeps_M (by k_is)) ?_
  refine ks_lone (he ?_)
  refine star_tup H ht (Nat.le_of_ble_eq_true rfl) ?_
  intro s H
  refine ⟨⟨H.get hq, G.X.keeps H.F.keep⟩, ?_⟩
  refine wpAny_call (method_call (H.get hq) ?_)
  exact acc_push_code G H R U D hg hz h
end
end Mine
end
section
open PySem PySem.W PyProof.Rows PySem.Calls PySem.Spec
set_option Elab.async false
set_option maxRecDepth 100000
set_option maxHeartbeats 4000000
namespace Mine
example (P : Params) : PySem.Challenge.rw_pe0181_01 = PySem.Challenge.rw_pe0181_01 ∧ Mine.hd.heap_1 P = Mine.hd.heap_1 P := by
  k_fill
  exact ⟨rfl, rfl⟩
section
variable {prog : Program} {w : World} {A : Around} {E : Value → Shared → Prop} {s : Shared} {mk ll ac dc a c : Addr} {width : Int} {marks : Str} {items lines : List Value} {x v : Value} {ep el n : Nat}
  {b h' : Heap} {ω : OsState} {L f : Addr} {m mg mb : Str → Option Value} {ns ns' T : List (Addr × Obj)} {Q : Value → Shared → Prop} {g : Obj → List (Addr × Obj)} {px p1 p2 p3 p4 p5 : Addr × Obj} {ps qs : List (Str × Str)} {p : Str × Str}
theorem StarCall_ {M : Model} {env : Env} {o : Expr} {name : Str} {apos pos : Pos} {args : List Expr}
    (h : wpAny M A (eval o env) (fun ov s₁ => wpAny M A (getAttr ov name true) (fun f s₂ => wpAny M A (callWith pos f [] (backTo pos (starEach args env)) []) Q E s₂) E s₁) E s)
    (he : eval (.Call (.Attribute o name apos) args [] pos) env = (do
      let ov ← eval o env
      standAt apos.atName
      let fx ← holding [ov] (do pure (← getAttr ov name true, ([] : List Value)))
      callWith pos fx.1 fx.2 (backTo pos (starEach args env)) []) := by rfl) :
    wpAny M A (eval (.Call (.Attribute o name apos) args [] pos) env) Q E s := by
  rw [he]
  exact wpAny_bind (wpAny_mono h (fun ov s₁ h₁ => wpAny_bind (wpAny_standAt (wpAny_bind (wpAny_holding (wpAny_bind (wpAny_mono h₁ (fun fx s₂ h₂ => wpAny_pure h₂) fun _ _ x => x)))))) fun _ _ x => x)
theorem lst_meth {name : Str} {id : String} {pl : Sem Bool} {Q : Value × List Value → Shared → Prop} (H : At b ω L m ns s) (hm : (a, lstO items n) ∈ ns) (slot : Slot "list" name id) (hty : typeOf (.builtin id) = pure (.type "method_descriptor"))
    (h : Q (.builtin id, [.ref a]) s) : wpAny (model prog w) A (getMethod (.ref a) name pl) Q E s :=
  getMethod_builtin ⟨_, H.get hm, rfl⟩ PySem.F.plainAttrs_list slot hty (fun a e => by cases e; exact ⟨_, H.get hm, rfl⟩) h
theorem lst_append (H : At b ω L m ns s) (U : PutF a (lstO items n) ns g) (hz : items.length ≤ 1000)
    (h : ∀ s', At b ω L m (g (lstO (items ++ [x]) (n + 1))) s' → Q .none s') : wpAny (model prog w) A (call (.builtin "list.append") [.ref a, x]) Q E s := by
  refine append_at (H.get U.mem) (fun h' hs e => ?_) (by rw [List.size_toArray, sizeLine_eq]; omega)
  refine h _ (H.same (U.put _) hs ?_ (Nat.le_refl _))
  rw [e]; simp
theorem At.perm (H : At b ω L m ns s) (h : ns.Perm ns') : At b ω L m ns' s :=
  ⟨H.F, fun p hp => H.N p (h.mem_iff.mpr hp), (h.map (·.1)).nodup_iff.mp H.D, H.os, H.gens, H.tk⟩
theorem At.sink (H : At b ω L m (px :: p1 :: p2 :: p3 :: p4 :: p5 :: T) s) : At b ω L m (p1 :: p2 :: p3 :: p4 :: p5 :: px :: T) s :=
  H.perm (List.perm_middle (l₁ := [p1, p2, p3, p4, p5]) (l₂ := T) (a := px)).symm
theorem At.sinks (X : List (Addr × Obj)) (H : At b ω L m (X ++ p1 :: p2 :: p3 :: p4 :: p5 :: T) s) : At b ω L m (p1 :: p2 :: p3 :: p4 :: p5 :: (X ++ T)) s :=
  H.perm (by
    have := List.perm_append_comm_assoc X [p1, p2, p3, p4, p5] T
    simpa using this)
theorem Drop.app {oL : Obj} (h : Drop L oL T ns) : ∀ (X : List (Addr × Obj)), Drop L oL (X ++ T) (X ++ ns)
  | [] => h
  | _ :: X => .keep (Drop.app h X)
theorem Drop.mid {oL : Obj} : ∀ (X : List (Addr × Obj)), Drop L oL (X ++ (L, oL) :: T) (X ++ T)
  | [] => .here (List.Sublist.refl _)
  | _ :: X => .keep (Drop.mid X)
theorem Parts.snoc {t u : Tok} (h : Parts ns items qs) (ha : (a, tupO [.str p.1 t, .str p.2 u]) ∈ ns) : Parts ns (items ++ [.ref a]) (qs ++ [p]) := by
  refine ⟨by simp [h.len], fun j q e => ?_⟩
  by_cases hj : j < qs.length
  · rw [List.getElem?_append_left hj] at e
    obtain ⟨c, t, u, e1, e2⟩ := h.at_ j q e
    exact ⟨c, t, u, by rw [List.getElem?_append_left (by rw [h.len]; exact hj)]; exact e1, e2⟩
  · rw [List.getElem?_append_right (by omega)] at e
    have hj' : j = qs.length := by
      rcases Nat.lt_or_ge (j - qs.length) 1 with h1 | h1
      · omega
      · rw [List.getElem?_eq_none (by simpa using h1)] at e; cases e
    subst hj'
    simp at e
    subst e
    exact ⟨a, t, u, by rw [List.getElem?_append_right (by rw [h.len]; exact Nat.le_refl _), h.len, Nat.sub_self]; rfl, ha⟩
theorem Parts.take (h : Parts ns items ps) (k : Nat) : Parts ns (items.take k) (ps.take k) := by
  refine ⟨by simp [h.len], fun j q e => ?_⟩
  rw [List.getElem?_take] at e ⊢
  split at e
  · rename_i hj; rw [if_pos hj]; exact h.at_ j q e
  · cases e
theorem Parts.drop (h : Parts ns items ps) (k : Nat) : Parts ns (items.drop k) (ps.drop k) := by
  refine ⟨by simp [h.len], fun j q e => ?_⟩
  rw [List.getElem?_drop] at e ⊢
  exact h.at_ _ q e
theorem Parts.snoc_inv (h : Parts ns items (qs ++ [p])) : ∃ items' a t u, items = items' ++ [.ref a] ∧ Parts ns items' qs ∧ (a, tupO [.str p.1 t, .str p.2 u]) ∈ ns := by
  obtain ⟨a, t, u, e1, e2⟩ := h.at_ qs.length p (by simp)
  refine ⟨items.take qs.length, a, t, u, ?_, by simpa using h.take qs.length, e2⟩
  have hl := h.len
  refine List.ext_getElem? fun j => ?_
  rw [List.length_append, List.length_singleton] at hl
  by_cases hj : j < qs.length
  · rw [List.getElem?_append_left (by rw [List.length_take]; omega), List.getElem?_take, if_pos hj]
  · rw [List.getElem?_append_right (by rw [List.length_take]; omega), List.length_take]
    by_cases hj' : j = qs.length
    · subst hj'; rw [e1, show qs.length - min qs.length items.length = 0 from by omega]; rfl
    · rw [List.getElem?_eq_none (by omega), List.getElem?_eq_none (by simp; omega)]
theorem Parts.nil_inv (h : Parts ns items []) : items = [] := List.length_eq_zero_iff.mp h.len

/-- the formatter's whole state -/
structure Fm (b : Heap) (ω : OsState) (L : Addr) (m : Str → Option Value) (mk ac dc ll : Addr) (width : Int) (marks : Str) (h0 : Int) (ps : List (Str × Str)) (rows : List Str) (T : List (Addr × Obj)) (s : Shared) : Prop where
  ex : ∃ items ep hsh tk t0 n lines el tO tS, At b ω L m ((ac, accO dc items ep) :: (dc, ownD hsh tk (.int h0 t0) n) :: (ll, lstO lines el) :: (140, tO) :: (147, tS) :: T) s ∧ Parts T items ps ∧ StrsAre lines rows ∧ TabOk tO ∧ TabOk tS
  K : MkIn T mk width marks ll ac
theorem own_none {hsh : Int} {tk : Tok} {v : Value} : ∀ x, x ≠ ("_initial_size" : Str) → getL x [⟨hsh, .str "_initial_size" tk, v⟩] = some none := by
  intro x hx
  have e : (Value.str "_initial_size" tk).isStr x = false := by
    show (Str.ofString "_initial_size" == x) = false
    exact beq_eq_false_iff_ne.mpr (Ne.symm hx)
  unfold getL
  simp only [List.find?_cons, List.find?_nil, e]
  rfl
end
section
variable {prog : Program} {w : World} {A : Around} {E : Value → Shared → Prop} {s : Shared} {mk ll ac dc a c : Addr} {width h0 : Int} {marks : Str} {items lines : List Value} {x v : Value} {ep el n : Nat}
  {b h' : Heap} {ω : OsState} {L f : Addr} {m mg mb : Str → Option Value} {ns ns' T : List (Addr × Obj)} {Q : Value → Shared → Prop} {g : Obj → List (Addr × Obj)} {ps qs : List (Str × Str)} {p : Str × Str} {rows : List Str}
def nl (ps : List (Str × Str)) : List (Str × Str) := if ps = [] then [(Str.ofString "", Str.ofString "")] else ps
theorem nl_snoc : nl (qs ++ [p]) = qs ++ [p] := if_neg (by simp)
theorem Small.nl (h : Small ps) : Small (nl ps) := by
  unfold Mine.nl
  split
  · refine ⟨Nat.le_of_ble_eq_true rfl, fun p hp => ?_, fun p hp => ?_⟩
    · rw [List.mem_singleton.mp hp]; exact ⟨Nat.le_of_ble_eq_true rfl, Nat.le_of_ble_eq_true rfl⟩
    · rw [List.mem_singleton.mp hp]; exact ⟨by decide +kernel, by decide +kernel⟩
  · exact h
theorem nl_split (ps : List (Str × Str)) : ∃ qs p, nl ps = qs ++ [p] ∧ (ps = [] ∧ qs = [] ∧ p = ((Str.ofString "", Str.ofString "") : Str × Str) ∨ ps = qs ++ [p]) := by
  unfold nl
  by_cases h : ps = []
  · subst h; exact ⟨[], (Str.ofString "", Str.ofString ""), rfl, .inl ⟨rfl, rfl, rfl⟩⟩
  · rw [if_neg h]
    exact ⟨ps.dropLast, ps.getLast h, (List.dropLast_concat_getLast h).symm, .inr (List.dropLast_concat_getLast h).symm⟩
theorem mk_newline (G : Gd w mg mb b) (M : Fm b ω L m mk ac dc ll width marks h0 ps rows T s) (R : Rm A 12) (hz : Small ps) (hh : 0 ≤ h0 ∧ h0 ≤ 1000)
    (hne : ∀ p, ps.getLast? = some p → ¬ (p.1 = " " ∧ p.2 = "")) (hpos : 0 < h0 + wt (nl ps)) (hws : onlyws h0 (nl ps) = false) (hrows : rows.length ≤ 100)
    (h : ∀ X s', Fm b ω L m mk ac dc ll width marks 0 [] (rows ++ [txt (nl ps)]) (X ++ T) s' → Q .none s') :
    wpAny (model PySem.Challenge.pw_pe0181_01 w) A (call (.ref 56) [.ref mk]) Q E s := by
  obtain ⟨⟨items, ep, hsh, tk, t0, n, lines, el, tO, tS, H, hp, hr, hT, hS⟩, K⟩ := M
  have K0 := K
  have hL := H.F.above
  refine fn_call [("self", .ref mk)] G H R (by k_is) (by k_is) (BindsTo.of_eq rfl) (locs rfl) (by decide) ?_
  clear H R
  intro L' oL s ho H R
  refine _root_.PySem.wpAt_of_wpAny ?_
  have hg := @own_none hsh tk (.int h0 t0)
  obtain ⟨qs, p, hnl, hlast⟩ := nl_split ps
  replace H := H.sink
  walk_at "w"
  refine wpAny_mono (Q := fun v s₁ => ∃ a' t u items0 ep0 X, v = .ref a' ∧ (a', tupO [.str p.1 t, .str p.2 u]) ∈ X ++ (L, oL) :: T ∧ Parts (X ++ (L, oL) :: T) items0 qs ∧
      At b ω L' (fun x => List.lookup x [(Str.ofString "self", Value.ref mk)].reverse) ((ac, accO dc items0 ep0) :: (dc, ownD hsh tk (.int h0 t0) n) :: (ll, lstO lines el) :: (140, tO) :: (147, tS) :: (X ++ (L, oL) :: T)) s₁) (E := fun _ _ => False) ?_ ?_ (fun _ _ e => e)
  · rcases hlast with ⟨rfl, rfl, rfl⟩ | rfl
    · obtain rfl := hp.nil_inv
      refine acc_pop_nil G H (R.le (by decide)) (by walk_at "mems") (by walk_at "mems") hg ?_
      intro ta t u s H
      replace H := H.sink
      exact ⟨ta, t, u, [], ep, [_], rfl, .head _, hp.mono fun _ q => .tail _ (.tail _ q), H⟩
    · obtain ⟨items', a, t, u, rfl, hp', ha⟩ := hp.snoc_inv
      refine acc_pop G H (R.le (by decide)) (by walk_at "puts") (by walk_at "mems") hg ?_ ?_
      · have := hz.n; rw [hp'.len]; rw [List.length_append] at this; omega
      · intro s H
        exact ⟨a, t, u, items', _, [], rfl, .tail _ ha, hp'.mono fun _ q => .tail _ q, H⟩
  have hpok : PyData.strOk p.1 = true ∧ PyData.strOk p.2 = true := hz.nl.k p (by rw [hnl]; simp)
  have hpne : (!(p.1 == (Str.ofString " ") && (p.2 == (Str.ofString "") && true))) = true := by
    rcases hlast with ⟨_, _, rfl⟩ | e
    · decide
    · have := hne p (by rw [e]; simp)
      rw [Bool.not_eq_true', Bool.and_true]
      exact Bool.eq_false_iff.mpr fun q => this (by simpa using q)
  rintro v s ⟨a', ta1, ua1, items0, ep0, X, rfl, ha', hp0, H⟩
  have K' := K.mono (T' := X ++ (L, oL) :: T) fun q hq => List.mem_append.mpr (.inr (.tail _ hq))
  generalize hY : X ++ (L, oL) :: T = Y at ha' hp0 H K'
  replace K := K'
  walk_at "w"
  refine tup_ne (q := (" ", "")) H (R.le (by decide)) (by walk_at "mems") (by walk_at "mems") hpok ⟨by decide +kernel, by decide +kernel⟩ ?_
  walk_at "w"
  rw [if_pos hpne]
  walk_at "w"
  refine StarCall_ ?_ rfl
  walk_at "w"
  refine acc_bound (f := 122) G H (by walk_at "mems") (by walk_at "mems") (by k_is) (by k_is) (by k_is) (by k_is) (by decide +kernel) (hg _ (by decide +kernel)) ?_
  intro q s H
  refine acc_push_star (a := a') G H (R.le (by decide)) (by walk_at "mems") (by walk_at "puts") (by walk_at "mems") hg ?_ ?_ (by walk_at "mems") ?_
  · have := hz.nl.n; rw [hnl, List.length_append] at this; rw [hp0.len]; omega
  · intro Q E hq
    exact nm_local H rfl rfl rfl (by decide +kernel) hq
  intro ta s H
  obtain ⟨X2, hm2, H⟩ : ∃ X2 : List (Addr × Obj), (ta, tupO [.str p.1 ta1, .str p.2 ua1]) ∈ X2 ++ Y ∧ At b ω L' (up (Str.ofString "end_of_line") (Value.ref a') fun x => List.lookup x [(Str.ofString "self", Value.ref mk)].reverse) ((ac, accO dc (items0 ++ [Value.ref ta]) (ep0 + 1)) :: (dc, ownD hsh tk (.int h0 t0) n) :: (ll, lstO lines el) :: (140, tO) :: (147, tS) :: (X2 ++ Y)) s := ⟨[_, _, _], List.Mem.head _, At.sinks [_, _, _] H⟩
  have hp1 := Parts.snoc (a := ta) (p := p) (hp0.mono fun _ q => List.mem_append.mpr (.inr q)) hm2
  rw [← hnl] at hp1
  replace K := K.mono (T' := X2 ++ Y) fun _ q => List.mem_append.mpr (.inr q)
  generalize hZ : X2 ++ Y = Z at hp1 H K
  clear hm2 K' hp0 ha' hp
  walk_at "w"
  refine acc_len_call G H (R.le (by decide)) (by walk_at "mems") (by walk_at "mems") (hp1.mono (by walk_at "subs")) (by walk_at "puts") hT hh hz.nl ?_
  intro tO2 t2 s hT2 H
  walk_at "w"
  rw [if_pos (by simpa using hpos)]
  walk_at "w"
  refine acc_onlyws G H (R.le (by decide)) (by walk_at "mems") (by walk_at "mems") (hp1.mono (by walk_at "subs")) (by walk_at "puts") hT2 (fun o => by walk_at "puts") hS (fun o => by walk_at "mems") (fun o => by walk_at "mems") (fun o => hp1.mono (by walk_at "subs")) hh hz.nl ?_
  intro tO3 tS3 s hT3 hS3 H
  walk_at "w"
  rw [if_neg (by rw [hws]; decide)]
  rw [if_neg (by decide)]
  walk_at "w"
  refine acc_str_call G H (R.le (by decide)) (by walk_at "mems") (by walk_at "mems") (hp1.mono (by walk_at "subs")) (by walk_at "puts") hS3 hz.nl ?_
  intro tS4 t4 s hS4 H
  walk_at "w"
  refine lst_append H (by walk_at "puts") (by rw [hr.length]; omega) ?_
  intro s H
  walk_at "w"
  refine acc_reset0 G H (R.le (by decide)) (by walk_at "puts") (fun o => by walk_at "puts") (by rw [hp1.len]; have := hz.nl.n; omega) ?_
  intro ep5 t5 s H
  walk_at "w"
  subst hZ hY
  have H' := H.leave hL ho (.keep (.keep (.keep (.keep (.keep (Drop.app (Drop.mid X) X2))))))
  rw [← List.append_assoc] at H'
  exact h (X2 ++ X) s ⟨⟨[], ep5, hsh, tk, t5, n, _, _, tO3, tS4, H', ⟨rfl, fun j p e => by cases e⟩, hr.append' (.cons _ _ .nil), hT3, hS4⟩, K0.mono fun _ q => List.mem_append.mpr (.inr q)⟩
end
end Mine
end
section
open PySem PySem.W PyProof.Rows PySem.Calls PySem.Spec
set_option Elab.async false
set_option maxRecDepth 100000
set_option maxHeartbeats 4000000
namespace Mine
theorem ifT {p q : Prop} [i : Decidable True] (h : p) : if True then p else q := by rw [if_pos trivial]; exact h
theorem ifF {p q : Prop} [i : Decidable False] (h : q) : if False then p else q := by rw [if_neg id]; exact h
theorem ifTT {p q : Prop} [i : Decidable (true = true)] (h : p) : if true = true then p else q := by rw [if_pos rfl]; exact h
theorem ifFF {p q : Prop} [i : Decidable (false = true)] (h : q) : if false = true then p else q := by rw [if_neg Bool.false_ne_true]; exact h
/-! loops: the iterator lies in the ledger -/
abbrev NoE : Value → Shared → Prop := fun _ _ => False
structure Itr (prog : Program) (w : World) (A : Around) (b : Heap) (ω : OsState) (L it : Addr) (N : Nat) (V : Nat → Value → Prop) (It : Nat → Obj → Prop) (need : List (Addr × Obj) → Prop) : Prop where
  next : ∀ i o m ns s (Q : Option Value → Shared → Prop) (E : Value → Shared → Prop), i < N → It i o → need ns → At b ω L m ((it, o) :: ns) s →
    (∀ v o' s', V i v → It (i + 1) o' → At b ω L m ((it, o') :: ns) s' → Q (some v) s') → wpAny (model prog w) A (pyNext (.ref it)) Q E s
  done : ∀ o m ns s (Q : Option Value → Shared → Prop) (E : Value → Shared → Prop), It N o → need ns → At b ω L m ((it, o) :: ns) s →
    (∀ s', At b ω L m ns s' → Q none s') → wpAny (model prog w) A (pyNext (.ref it)) Q E s

section
variable {prog : Program} {w : World} {A : Around} {E : Value → Shared → Prop} {s : Shared} {b : Heap} {ω : OsState} {L it l r a : Addr} {m : Str → Option Value} {ns : List (Addr × Obj)} {o : Obj} {env : Env} {N : Nat} {V : Nat → Value → Prop} {It : Nat → Obj → Prop} {need : List (Addr × Obj) → Prop} {Q : Value → Shared → Prop}

theorem for_it {target : Expr} {body orelse : List Stmt} {Q : Flow → Shared → Prop} (S : Itr prog w A b ω L it N V It need)
    (J : Nat → (Str → Option Value) → List (Addr × Obj) → Prop) (hn : ∀ i m ns, J i m ns → need ns) (h0 : J 0 m ns) (ho : It 0 o) (H : At b ω L m ((it, o) :: ns) s)
    (go : ∀ i o v s (Q : Unit → Shared → Prop), V i v → It (i + 1) o → s.heap.get? it = some o → Q () s → wpAny (model prog w) A (letOwnedTupleGo target (.ref it) v) Q NoE s)
    (step : ∀ i o v m ns s, i < N → V i v → J i m ns → At b ω L m ((it, o) :: ns) s → wpAny (model prog w) A (assign target env v) (fun _ s₂ => wpAny (model prog w) A (execs body env) (fun f s₃ => match f with
        | .next | .cont => ∃ m' ns', J (i + 1) m' ns' ∧ At b ω L m' ((it, o) :: ns') s₃
        | .brk => Q .next s₃
        | .ret v => Q (.ret v) s₃) NoE s₂) NoE s)
    (done : ∀ m ns s, J N m ns → At b ω L m ns s → wpAny (model prog w) A (execs orelse env) Q NoE s) :
    codeAny (model prog w) A (.forLoop target (.ref it) body orelse env) (fun r s' => match r with | .ok f => Q f s' | .error e => cameBackBy (model prog w) A env E e s') s := by
  refine codeAny_forLoop_any (fun k s' => ∃ i o m ns, i ≤ N ∧ k = N - i ∧ It i o ∧ J i m ns ∧ At b ω L m ((it, o) :: ns) s') ?_ N ⟨0, o, m, ns, Nat.zero_le _, rfl, ho, h0, H⟩
  rintro k s ⟨i, o, m, ns, hi, rfl, ho, hJ, H⟩
  rcases Nat.lt_or_ge i N with hlt | hge
  · refine S.next i o m ns s _ _ hlt ho (hn _ _ _ hJ) H fun v o' s' hv ho' H' => ?_
    refine wpAny_mono (go i o' v s' (fun _ s₂ => s₂ = s') hv ho' (H'.get (.head _)) rfl) (fun _ s₂ e => ?_) fun _ _ e => e.elim
    subst e
    refine wpAny_mono (step i o' v m ns s₂ hlt hv hJ H') (fun _ s₃ h₃ => wpAny_mono h₃ (fun f s₄ h₄ => ?_) fun _ _ e => e.elim) fun _ _ e => e.elim
    cases f with
    | ret v => exact h₄
    | brk => exact h₄
    | next => obtain ⟨m', ns', hJ', H''⟩ := h₄; exact ⟨N - (i + 1), by omega, i + 1, o', m', ns', hlt, rfl, ho', hJ', H''⟩
    | cont => obtain ⟨m', ns', hJ', H''⟩ := h₄; exact ⟨N - (i + 1), by omega, i + 1, o', m', ns', hlt, rfl, ho', hJ', H''⟩
  · obtain rfl : i = N := by omega
    refine S.done o m ns s _ _ ho (hn _ _ _ hJ) H fun s' H' => ?_
    exact wpAny_mono (done m ns s' hJ H') (fun _ _ q => q) fun _ _ e => e.elim

/-! the signs of a text -/
theorem itr_str (hh : A.handled = none) (x : Str) (t : Tok) : Itr prog w A b ω L it x.cps.size (fun i v => ∃ c t', x.cps[i]? = some c ∧ v = .str ⟨#[c]⟩ t') (fun i o => o.cls = .type "str_ascii_iterator" ∧ o.data = .fields #[.str x t, .int i 0]) (fun _ => True) where
  next := by
    rintro i o m ns s Q E hi ⟨hc, hd⟩ - H hQ
    have hx : x.cps[i]? = some x.cps[i] := Array.getElem?_eq_getElem hi
    refine wpAny_pyNext_ascii_item ⟨o, H.get (.head _), hc, hd⟩ hx fun h' ⟨o', e1, e2, e3⟩ hs => ?_
    exact hQ _ o' _ ⟨_, _, hx, rfl⟩ ⟨e2, e3⟩ (H.same .head hs e1 (Nat.le_succ _))
  done := by
    rintro o m ns s Q E ⟨hc, hd⟩ - H hQ
    refine wpAny_pyNext_ascii_end hh ⟨o, H.get (.head _), hc, hd⟩ (by simp) fun h' hs => ?_
    exact hQ _ (H.ext (.here (List.Sublist.refl _)) hs (Nat.le_refl _))
theorem it_str {x : Str} {t : Tok} (H : At b ω L m ns s) (ha : x.cps.all (· < 128) = true) (h : ∀ it o s', (o.cls = .type "str_ascii_iterator" ∧ o.data = .fields #[.str x t, .int ((0 : Nat) : Int) 0]) → At b ω L m ((it, o) :: ns) s' → Q (.ref it) s') :
    wpAny (model prog w) A (pyIter (.str x t)) Q E s :=
  wpAny_pyIter_ascii ha (h _ { cls := .type "str_ascii_iterator", data := .fields #[.str x t, .int 0 0] } _ ⟨rfl, rfl⟩ (H.push _ (Nat.le_refl _)))

/-! a range -/
theorem itr_range (hh : A.handled = none) (x c : Int) (N : Nat) : Itr prog w A b ω L it N (fun i v => ∃ t, v = .int (x + i * c) t) (fun i o => o = ⟨.type "range_iterator", none, .fields #[rawInt (x + i * c), rawInt ((N : Int) - i), rawInt c], #[]⟩) (fun _ => True) where
  next := by
    rintro i o m ns s Q E hi rfl - H hQ
    refine wpAny_pyNext_range_item (H.get (.head _)) (by omega) fun h' e hs => ?_
    refine hQ _ _ _ ⟨_, rfl⟩ rfl (H.same .head hs ?_ (Nat.le_succ _))
    rw [e, show x + ((i + 1 : Nat) : Int) * c = x + i * c + c from by rw [Int.natCast_add, Int.add_mul]; omega, show (N : Int) - ((i + 1 : Nat) : Int) = N - i - 1 from by omega]
  done := by
    rintro o m ns s Q E rfl - H hQ
    refine wpAny_pyNext_range_end hh (H.get (.head _)) (by omega) fun h' hs => ?_
    exact hQ _ (H.ext (.here (List.Sublist.refl _)) hs (Nat.le_refl _))
abbrev rngO (x y c : Int) (t u v : Tok) : Obj := { cls := .type "range", data := .fields #[.int x t, .int y u, .int c v] }
theorem it_range {x y c : Int} {t u v : Tok} (H : At b ω L m ns s) (hm : (r, rngO x y c t u v) ∈ ns) (hs : Builtin.Range.small x y c = true) (hN : Builtin.Range.rangeSize x y c = N)
    (h : ∀ it o s', o = (⟨.type "range_iterator", none, .fields #[rawInt (x + ((0 : Nat) : Int) * c), rawInt ((N : Int) - ((0 : Nat) : Int)), rawInt c], #[]⟩ : Obj) → At b ω L m ((it, o) :: ns) s' → Q (.ref it) s') :
    wpAny (model prog w) A (pyIter (.ref r)) Q E s := by
  refine wpAny_pyIter_range (H.get hm) hs ?_
  rw [hN]
  exact h _ { cls := .type "range_iterator", data := .fields #[rawInt x, rawInt N, rawInt c] } _ (by simp) (H.push _ (Nat.le_refl _))
theorem mk_range1 {x : Int} {t : Tok} (H : At b ω L m ns s) (h : ∀ r t u v s', At b ω L m ((r, rngO 0 x 1 t u v) :: ns) s' → Q (.ref r) s') : wpAny (model prog w) A (call (.type "range") [.int x t]) Q E s :=
  call_range_1 (h _ _ _ _ _ (H.push (rngO 0 x 1 _ _ _) (by omega)))
theorem mk_range3 {x y c : Int} {t u v : Tok} (H : At b ω L m ns s) (hc : c ≠ 0) (hp : Builtin.divisionGoesByPylong (y - x) c = false) (h : ∀ r t u v s', At b ω L m ((r, rngO x y c t u v) :: ns) s' → Q (.ref r) s') : wpAny (model prog w) A (call (.type "range") [.int x t, .int y u, .int c v]) Q E s :=
  call_range_3 hc (h _ _ _ _ _ (H.push (rngO x y c _ _ _) (Nat.le_refl _))) (.inl hp)

/-! a list -/
theorem itr_list (hh : A.handled = none) (items : List Value) : Itr prog w A b ω L it items.length (fun i v => items[i]? = some v) (fun i o => o.cls = .type "list_iterator" ∧ o.data = .fields #[.ref l, .int i 0]) (fun ns => ∃ n, (l, lstO items n) ∈ ns) where
  next := by
    rintro i o m ns s Q E hi ⟨hc, hd⟩ ⟨n, hn⟩ H hQ
    have hx : items[i]? = some items[i] := List.getElem?_eq_getElem hi
    refine seq_next (ac := l) ⟨o, H.get (.head _), hc, hd⟩ (H.get (.tail _ hn)) rfl (x := items[i]) (by simpa using hx) fun h' ⟨o', e1, e2, e3⟩ hs => ?_
    exact hQ _ o' _ hx ⟨e2, e3⟩ (H.same .head hs e1 (Nat.le_refl _))
  done := by
    rintro o m ns s Q E ⟨hc, hd⟩ ⟨n, hn⟩ H hQ
    refine seq_end (ac := l) hh ⟨o, H.get (.head _), hc, hd⟩ (H.get (.tail _ hn)) rfl (by simp) fun h' hs => ?_
    exact hQ _ (H.ext (.here (List.Sublist.refl _)) hs (Nat.le_refl _))
theorem it_list {items : List Value} {n : Nat} (H : At b ω L m ns s) (hm : (l, lstO items n) ∈ ns) (h : ∀ it o s', (o.cls = .type "list_iterator" ∧ o.data = .fields #[.ref l, .int ((0 : Nat) : Int) 0]) → At b ω L m ((it, o) :: ns) s' → Q (.ref it) s') :
    wpAny (model prog w) A (pyIter (.ref l)) Q E s :=
  wpAny_pyIter_list ⟨_, H.get hm, rfl, _, rfl⟩ (h _ { cls := .type "list_iterator", data := .fields #[.ref l, .int 0 0] } _ ⟨rfl, rfl⟩ (H.push _ (Nat.le_refl _)))

/-! pieces -/
theorem seqIdx {i : Int} {n : Nat} (h0 : 0 ≤ i) (h1 : i < n) : seqIndex? i n = some i.toNat := by
  unfold seqIndex?
  have e : (if i < 0 then i + (n : Int) else i) = i := if_neg (by omega)
  simp only [e]
  rw [if_pos (by simp; omega)]
theorem tup_item {value slice : Expr} {items : List Value} {i : Int} {u : Tok} {v : Value} (H : At b ω L m ns s) (hm : (a, tupO items) ∈ ns) (h0 : 0 ≤ i) (hfit : i < 2 ^ 63) (hv : items[i.toNat]? = some v) (h : Q v s)
    (hs : subscripted slice false (.ref a) (.int i u) = operate [.ref a, .int i u] (getItem (.ref a) (.int i u)) := by with_unfolding_all rfl) :
    wpAny (model prog w) A (subscriptTail value slice (.ref a) (.int i u)) Q E s := by
  have T : IsTup s.heap a items.toArray := ⟨_, H.get hm, rfl, _, rfl⟩
  have hi : i.toNat < items.length := (List.getElem?_eq_some_iff.mp hv).1
  refine tail_any T.typeIs slot_tuple_getitem.lookup (getItem_tuple (j := i.toNat) T (by omega) hfit ?_ (by simpa using hv) h) hs
  rw [List.size_toArray]
  exact seqIdx h0 (by omega)
theorem str_item {value slice : Expr} {x : Str} {i : Int} {t u : Tok} {c : Nat} (H : At b ω L m ns s) (hr : (decide (i < -(2 ^ 63 : Int)) || decide (i ≥ 2 ^ 63)) = false) (hc : (seqIndex? i x.length).bind (x.cps[·]?) = some c)
    (h : ∀ t s', At b ω L m ns s' → Q (.str ⟨#[c]⟩ t) s')
    (hs : subscripted slice false (.str x t) (.int i u) = operate [.str x t, .int i u] (getItem (.str x t) (.int i u)) := by with_unfolding_all rfl) :
    wpAny (model prog w) A (subscriptTail value slice (.str x t) (.int i u)) Q E s :=
  tail_any (typeIs_str _ _ _) PySem.F.slot_str_getitem.lookup (PySem.P.getItem_str hr hc (h _ _ (H.toks (Nat.le_succ _)))) hs
theorem tru_str {x : Str} {t : Tok} {Q : Bool → Shared → Prop} (H : At b ω L m ns s) (hz : x.length ≤ 1000000) (h : ∀ s', At b ω L m ns s' → Q ((x.length : Int) != 0) s') : wpAny (model prog w) A (truthy (.str x t)) Q E s :=
  PySem.P.truthy_str (by omega) (h _ (H.toks (by omega)))
theorem unpack2 {e1 e2 : Expr} {k : Nat} {pos : Pos} {v1 v2 : Value} {Q : Unit → Shared → Prop} (hh : A.handled = none) (H : At b ω L m ns s) (hm : (a, tupO [v1, v2]) ∈ ns) (hn : (assignEach [e1, e2] env).length = 2 := by rfl) (hstar : (assignEach [e1, e2] env).findIdx? (·.1) = none := by rfl)
    (h : ∀ s', At b ω L m ns s' → wpAny (model prog w) A (assignInOrder ((assignEach [e1, e2] env).map (·.2)) [v1, v2]) Q E s') : wpAny (model prog w) A (assign (.Tuple [e1, e2] k pos) env (.ref a)) Q E s :=
  unpackN_ H.F H.N ⟨_, H.get hm, rfl, _, rfl⟩ hh hn hstar fun h' F' N' => h _ ⟨F', N', H.D, H.os, H.gens, H.tk⟩
theorem asg_pair {x y : Str} {px py : Pos} {k : Nat} {pos : Pos} {v1 v2 : Value} {Q : Unit → Shared → Prop} (hh : A.handled = none) (H : At b ω env.locals m ns s) (hm : (a, tupO [v1, v2]) ∈ ns) (hk : env.scope.kind = .function) (hx : env.kindOf x = some .local) (hy : env.kindOf y = some .local)
    (h : ∀ s', At b ω env.locals (up y v2 (up x v1 m)) ns s' → Q () s') : wpAny (model prog w) A (assign (.Tuple [.Name x px, .Name y py] k pos) env (.ref a)) Q E s :=
  unpack2 hh H hm rfl rfl fun s' H' => assignInOrder_cons (wpAny_assign_Name (st_local H' hk hx fun s H => assignInOrder_cons (wpAny_assign_Name (st_local H hk hy fun s H => assignInOrder_nil (h s H)))))
end
end Mine
end
section
open PySem PySem.W PyProof.Rows PySem.Calls PySem.Spec
set_option Elab.async false
set_option maxRecDepth 100000
set_option maxHeartbeats 4000000
namespace Mine
/-! what the formatter computes -/
def hit (c : Nat) (p q : Str × Str) : Bool := (Unicode.isSpace c && (q.1.cps[0]? == some c)) || (p.2.cps.back? == some c)
def hitAt (c : Nat) (ps : List (Str × Str)) (i : Nat) : Bool := match ps[i - 1]?, ps[i]? with
  | some p, some q => hit c p q
  | _, _ => false
def cutAt (c : Nat) (ps : List (Str × Str)) : Nat → Option Nat
  | 0 => none
  | k + 1 => if hitAt c ps (k + 1) then some (k + 1) else cutAt c ps k
def cutIn : List Nat → List (Str × Str) → Option Nat
  | [], _ => none
  | c :: cs, ps => match cutAt c ps (ps.length - 1) with
    | some i => some i
    | none => cutIn cs ps
theorem cutAt_bound {c : Nat} {ps : List (Str × Str)} {k i : Nat} (h : cutAt c ps k = some i) : 1 ≤ i ∧ i ≤ k := by
  induction k with
  | zero => cases h
  | succ k ih =>
    unfold cutAt at h
    split at h
    · cases h; omega
    · have := ih h; omega
theorem cutIn_bound {cs : List Nat} {ps : List (Str × Str)} {i : Nat} (h : cutIn cs ps = some i) : 1 ≤ i ∧ i ≤ ps.length - 1 := by
  induction cs with
  | nil => cases h
  | cons c cs ih =>
    unfold cutIn at h
    split at h
    · rename_i e; cases h; exact cutAt_bound e
    · exact ih h
theorem drop_cps {x : Str} {i c : Nat} (h : x.cps[i]? = some c) : x.cps.toList.drop i = c :: x.cps.toList.drop (i + 1) := by
  rw [← Array.getElem?_toList] at h
  obtain ⟨hi, e⟩ := List.getElem?_eq_some_iff.mp h
  rw [List.drop_eq_getElem_cons hi, e]
theorem str1_beq (a c : Nat) : ((⟨#[a]⟩ : Str) == ⟨#[c]⟩) = (a == c) := by
  by_cases h : a = c
  · subst h; simp
  · have : (⟨#[a]⟩ : Str) ≠ ⟨#[c]⟩ := fun e => h (by injection e with e; injection e with e; injection e)
    rw [beq_eq_false_iff_ne.mpr this, beq_eq_false_iff_ne.mpr h]
theorem idx_first {x : Str} (h : x.length ≠ 0) : ∃ c, x.cps[0]? = some c ∧ (seqIndex? 0 x.length).bind (x.cps[·]?) = some c := by
  have h' : 0 < x.cps.size := Nat.pos_of_ne_zero h
  refine ⟨x.cps[0], Array.getElem?_eq_getElem h', ?_⟩
  rw [seqIdx (Int.le_refl _) (by show (0 : Int) < (x.cps.size : Nat); omega)]
  exact Array.getElem?_eq_getElem h'
theorem idx_last {x : Str} (h : x.length ≠ 0) : ∃ c, x.cps.back? = some c ∧ (seqIndex? (-1) x.length).bind (x.cps[·]?) = some c := by
  have h' : 0 < x.cps.size := Nat.pos_of_ne_zero h
  refine ⟨x.cps[x.cps.size - 1], by rw [Array.back?, Array.getElem?_eq_getElem], ?_⟩
  have e : seqIndex? (-1) x.length = some (x.cps.size - 1) := by
    rw [seqIndex_neg (by decide) (by show -((x.cps.size : Nat) : Int) ≤ -1; omega)]
    congr 1
    show ((-1 : Int) + (x.cps.size : Nat)).toNat = _
    omega
  rw [e]
  exact Array.getElem?_eq_getElem (by omega)
structure FS where
  h0 : Int
  ps : List (Str × Str)
  rows : List Str
def FS.add (width : Int) (marks : List Nat) (f : FS) (p : Str × Str) : FS :=
  if f.h0 + wt (f.ps ++ [p]) > width then
    match cutIn marks (f.ps ++ [p]) with
    | some i => ⟨0, (f.ps ++ [p]).drop i, f.rows ++ [txt ((f.ps ++ [p]).take i)]⟩
    | none => if f.h0 > 0 then ⟨0, [(if p.1.length = 0 then Str.ofString " " else p.1, p.2)], f.rows ++ [txt (nl f.ps)]⟩ else ⟨f.h0, f.ps ++ [p], f.rows⟩
  else ⟨f.h0, f.ps ++ [p], f.rows⟩
end Mine
end
section
open PySem PySem.W PyProof.Rows PySem.Calls PySem.Spec
set_option Elab.async false
set_option maxRecDepth 100000
set_option maxHeartbeats 4000000
namespace Mine
example (P : Params) : PySem.Challenge.rw_pe0181_01 = PySem.Challenge.rw_pe0181_01 ∧ Mine.hd.heap_1 P = Mine.hd.heap_1 P := by
  k_fill
  exact ⟨rfl, rfl⟩
section
variable {prog : Program} {w : World} {A : Around} {E : Value → Shared → Prop} {s : Shared} {mk ll ac dc a c : Addr} {width h0 : Int} {marks : Str} {items lines : List Value} {x v : Value} {ep el n : Nat}
  {b h' : Heap} {ω : OsState} {L f : Addr} {m mg mb : Str → Option Value} {ns ns' T : List (Addr × Obj)} {Q : Value → Shared → Prop} {g : Obj → List (Addr × Obj)} {ps qs : List (Str × Str)} {p : Str × Str} {rows : List Str}
theorem acc_item {value slice : Expr} {k : Nat} {t : Tok} (G : Gd w mg mb b) (H : At b ω L m ns s) (hm : (ac, accO dc items ep) ∈ ns) (hk : k < 1000) (hv : items[k]? = some v) (h : Q v s)
    (hs : subscripted slice false (.ref ac) (.int k t) = operate [.ref ac, .int k t] (getItem (.ref ac) (.int k t)) := by with_unfolding_all rfl) :
    wpAny (model prog w) A (subscriptTail value slice (.ref ac) (.int k t)) Q E s :=
  acc_tail (G.X.keeps H.F.keep) (H.get hm) (acc_getItem (G.X.keeps H.F.keep) (H.get hm) (by omega) (by omega) hv h) hs
theorem mk_append {tp up1 : Tok} (G : Gd w mg mb b) (M : Fm b ω L m mk ac dc ll width marks h0 ps rows T s) (R : Rm A 14) (hz : Small (ps ++ [p])) (hz' : ps.length ≤ 90) (hh : 0 ≤ h0 ∧ h0 ≤ 1000)
    (hm : marks.cps.all (· < 128) = true) (hne : ∀ p ∈ ps, p.2.length ≠ 0) (hrows : rows.length ≤ 100)
    (h : ∀ X s', Fm b ω L m mk ac dc ll width marks (FS.add width marks.cps.toList ⟨h0, ps, rows⟩ p).h0 (FS.add width marks.cps.toList ⟨h0, ps, rows⟩ p).ps (FS.add width marks.cps.toList ⟨h0, ps, rows⟩ p).rows (X ++ T) s' → Q .none s') :
    wpAny (model PySem.Challenge.pw_pe0181_01 w) A (call (.ref 91) [.ref mk, .str p.1 tp, .str p.2 up1]) Q E s := by
  obtain ⟨⟨items, ep, hsh, tk, t0, n, lines, el, tO, tS, H, hp, hr, hT, hS⟩, K⟩ := M
  have K0 := K
  have hL := H.F.above
  refine fn_call [("self", .ref mk), ("fws", .str p.1 tp), ("string", .str p.2 up1)] G H R (by k_is) (by k_is) (BindsTo.of_eq rfl) (locs rfl) (by decide) ?_
  clear H R
  intro L' oL s ho H R
  refine _root_.PySem.wpAt_of_wpAny ?_
  have hg := @own_none hsh tk (.int h0 t0)
  replace H := H.sink
  walk_at "w"
  refine acc_push G H (R.le (by decide)) (by walk_at "puts") (by walk_at "mems") hg (by rw [hp.len]; omega) ?_
  intro ta s H
  replace H := H.sink
  have hp1 := Parts.snoc (a := ta) (p := p) (hp.mono fun _ q => List.Mem.tail (ta, tupO [.str p.1 tp, .str p.2 up1]) (List.Mem.tail (L, oL) q)) (List.Mem.head _)
  replace K := K.mono (T' := (ta, tupO [.str p.1 tp, .str p.2 up1]) :: (L, oL) :: T) fun _ q => .tail _ (.tail _ q)
  generalize hZ : (ta, tupO [.str p.1 tp, .str p.2 up1]) :: (L, oL) :: T = Z at hp1 H K
  walk_at "w"
  refine acc_len_call G H (R.le (by decide)) (by walk_at "mems") (by walk_at "mems") (hp1.mono (by walk_at "subs")) (by walk_at "puts") hT hh hz ?_
  intro tO2 t2 s hT2 H
  walk_at "w"
  have hpT := Parts.snoc (a := ta) (p := p) (hp.mono fun _ q => List.Mem.tail (ta, tupO [.str p.1 tp, .str p.2 up1]) q) (List.Mem.head _)
  have hn1 : (items ++ [Value.ref ta]).length = (ps ++ [p]).length := hp1.len
  have hn2 : (ps ++ [p]).length = ps.length + 1 := by simp
  generalize hI1 : items ++ [Value.ref ta] = items1 at hp1 H hn1 hpT
  by_cases hw : width < h0 + wt (ps ++ [p])
  case neg =>
    rw [if_neg (by simpa using hw)]
    walk_at "w"
    have eq : FS.add width marks.cps.toList ⟨h0, ps, rows⟩ p = ⟨h0, ps ++ [p], rows⟩ := if_neg hw
    rw [eq] at h
    subst hZ
    refine h [_] s ⟨⟨items1, _, hsh, tk, t0, n, lines, el, tO2, tS, H.leave hL ho (by walk_at "drops"), hpT, hr, hT2, hS⟩, K0.mono fun _ q => .tail _ q⟩
  rw [if_pos (by simpa using hw)]
  refine wpAny_execs_cons ?_
  refine wpAny_mono (Q := fun fl s₁ => (fl = .next ∧ ∃ i t m', cutIn marks.cps.toList (ps ++ [p]) = some i ∧ m' "self" = some (.ref mk) ∧ m' "i" = some (.int (i : Nat) t) ∧
      At b ω L' m' ((ac, accO dc items1 (ep + 1)) :: (dc, ownD hsh tk (.int h0 t0) n) :: (ll, lstO lines el) :: (140, tO2) :: (147, tS) :: Z) s₁) ∨ (fl = .ret .none ∧ Q .none s₁)) (E := NoE) ?_ ?_ (fun _ _ e => e)
  · refine wpAny_For ?_ (fun _ => rfl)
    walk_at "w"
    refine it_str H hm ?_
    intro it oi s hoi H
    refine for_it (itr_str R.hd marks _) (fun i m' ns => ns = ((ac, accO dc items1 (ep + 1)) :: (dc, ownD hsh tk (.int h0 t0) n) :: (ll, lstO lines el) :: (140, tO2) :: (147, tS) :: Z) ∧ m' "self" = some (.ref mk) ∧ cutIn marks.cps.toList (ps ++ [p]) = cutIn (marks.cps.toList.drop i) (ps ++ [p]))
      (fun _ _ _ _ => trivial) ⟨rfl, rfl, rfl⟩ hoi H (fun _ _ _ _ _ _ _ _ hq => wpAny_pure hq) ?_ ?_
    · rintro i o v m' ns s hi ⟨c, t', hc, rfl⟩ ⟨rfl, hself, hcut⟩ H
      walk_at "w"
      refine wpAny_mono (Q := fun fl s₁ => (fl = .next ∧ ∃ i t m', cutAt c (ps ++ [p]) ((ps ++ [p]).length - 1) = some i ∧ m' "self" = some (.ref mk) ∧ m' "i" = some (.int (i : Nat) t) ∧
        At b ω L' m' ((ac, accO dc items1 (ep + 1)) :: (dc, ownD hsh tk (.int h0 t0) n) :: (ll, lstO lines el) :: (140, tO2) :: (147, tS) :: Z) s₁) ∨ (fl = .cont ∧ cutAt c (ps ++ [p]) ((ps ++ [p]).length - 1) = none ∧ ∃ m', m' "self" = some (.ref mk) ∧
        At b ω L' m' ((it, o) :: (ac, accO dc items1 (ep + 1)) :: (dc, ownD hsh tk (.int h0 t0) n) :: (ll, lstO lines el) :: (140, tO2) :: (147, tS) :: Z) s₁)) (E := NoE) ?_ ?_ (fun _ _ e => e)
      · refine wpAny_For ?_ (fun _ => rfl)
        walk_at "w"
        refine acc_count G H (R.le (by decide)) (by walk_at "mems") ?_
        intro t s H
        walk_at "w"
        refine PyProof.Rows.neg_int ?_
        replace H := H.toks (Nat.le_succ _)
        walk_at "w"
        refine mk_range3 H (by decide) ?_ ?_
        · exact PyProof.noPylong_small (by omega)
        intro r t1 t2 t3 s H
        refine it_range H (by walk_at "mems") (small_down (by omega) (by omega) (by omega) (by omega)) (rangeSize_downNat _ _) ?_
        intro it2 o2 s ho2 H
        refine for_it (itr_range R.hd _ _ _) (fun j m' ns => ns = ((r, rngO ((items1.length : Int) - 1) 0 (-1) t1 t2 t3) :: (it, o) :: (ac, accO dc items1 (ep + 1)) :: (dc, ownD hsh tk (.int h0 t0) n) :: (ll, lstO lines el) :: (140, tO2) :: (147, tS) :: Z) ∧ m' "self" = some (.ref mk) ∧ m' "ch" = some (.str ⟨#[c]⟩ t') ∧
          cutAt c (ps ++ [p]) ((ps ++ [p]).length - 1) = cutAt c (ps ++ [p]) ((ps ++ [p]).length - 1 - j))
          (fun _ _ _ _ => trivial) ⟨rfl, by walk_at "upn", by walk_at "upn", rfl⟩ ho2 H (fun _ _ _ _ _ _ _ _ hq => wpAny_pure hq) ?_ ?_
        · rintro j oj v m2 ns s hj ⟨tj, rfl⟩ ⟨rfl, hself2, hch, hcut2⟩ H
          obtain ⟨i0, hi0, hi1, hi2⟩ : ∃ i0 : Nat, ((items1.length : Int) - 1 + j * (-1)) = ((i0 + 1 : Nat) : Int) ∧ (ps ++ [p]).length - 1 - j = i0 + 1 ∧ i0 + 1 < (ps ++ [p]).length := ⟨(ps ++ [p]).length - 1 - j - 1, by omega, by omega, by omega⟩
          rw [hi0]
          rw [hi1] at hcut2
          obtain ⟨q, hq⟩ : ∃ q, (ps ++ [p])[i0 + 1]? = some q := ⟨_, List.getElem?_eq_getElem hi2⟩
          obtain ⟨p', hp'⟩ : ∃ p', (ps ++ [p])[i0]? = some p' := ⟨_, List.getElem?_eq_getElem (by omega)⟩
          obtain ⟨aq, tq, uq, eq1, eq2⟩ := hp1.at_ _ _ hq
          obtain ⟨ap, tp', up', ep1, ep2⟩ := hp1.at_ _ _ hp'
          have hzq := hz.z q (List.mem_of_getElem? hq)
          have hzp := hz.z p' (List.mem_of_getElem? hp')
          have hzn := hz.n
          have hhit : hitAt c (ps ++ [p]) (i0 + 1) = hit c p' q := by unfold hitAt; rw [show i0 + 1 - 1 = i0 from rfl, hp', hq]
          refine wpAny_assign_Name (st_local H rfl rfl ?_)
          intro s H
          refine wpAny_execs_cons ?_
          refine wpAny_mono (Q := fun fl s₁ => ((fl = .brk ∧ (Unicode.isSpace c && (q.1.cps[0]? == some c)) = true) ∨ (fl = .next ∧ (Unicode.isSpace c && (q.1.cps[0]? == some c)) = false)) ∧ ∃ m', m' "self" = some (.ref mk) ∧ m' "ch" = some (.str ⟨#[c]⟩ t') ∧ m' "i" = some (.int ((i0 + 1 : Nat) : Int) tj) ∧
            At b ω L' m' ((it2, oj) :: (r, rngO ((items1.length : Int) - 1) 0 (-1) t1 t2 t3) :: (it, o) :: (ac, accO dc items1 (ep + 1)) :: (dc, ownD hsh tk (.int h0 t0) n) :: (ll, lstO lines el) :: (140, tO2) :: (147, tS) :: Z) s₁) (E := NoE) ?_ ?_ (fun _ _ e => e)
          · walk_at "w"
            refine call_gives PySem.F.slot_str_isspace (typeIs_str _ _ _) PySem.F.entry_str_isspace (PySem.F.args_str_isspace_1 _) (gives_str_isspace _ _) ?_
            refine wpAny_truthy_bool ?_
            by_cases hsp : Unicode.isSpace c = true
            · rw [if_pos (by simpa [Str.length] using hsp)]
              walk_at "w"
              refine acc_item G H (by walk_at "mems") (by omega) eq1 ?_
              walk_at "w"
              refine tup_item H (by walk_at "mems") (by decide) (by decide) rfl ?_
              walk_at "w"
              refine tru_str H (by omega) ?_
              intro s H
              by_cases hq0 : q.1.length = 0
              · rw [if_neg (by simp [hq0]), if_neg (by decide)]
                walk_at "w"
                refine ⟨.inr ⟨by first | rfl | trivial, ?_⟩, _, by walk_at "upn", by walk_at "upn", by walk_at "upn", H⟩
                have e : q.1.cps[0]? = none := Array.getElem?_eq_none (by have : q.1.cps.size = 0 := hq0; omega)
                rw [e]; simp
              · obtain ⟨c0, e0, e1⟩ := idx_first hq0
                rw [if_pos (by simpa using hq0)]
                walk_at "w"
                refine str_item H (by decide) e1 ?_
                intro t5 s H
                walk_at "w"
                rw [str1_beq]
                by_cases hcc : c0 = c
                · rw [if_pos (by simpa using hcc)]
                  walk_at "w"
                  refine ⟨.inl ⟨by first | rfl | trivial, ?_⟩, _, by walk_at "upn", by walk_at "upn", by walk_at "upn", H⟩
                  rw [e0, hsp, hcc]; simp
                · rw [if_neg (by simpa using hcc), if_neg (by decide)]
                  walk_at "w"
                  refine ⟨.inr ⟨by first | rfl | trivial, ?_⟩, _, by walk_at "upn", by walk_at "upn", by walk_at "upn", H⟩
                  rw [e0, hsp]; simpa using hcc
            · rw [if_neg (by simpa [Str.length] using hsp)]
              walk_at "w"
              exact ⟨.inr ⟨by first | rfl | trivial, by simp [hsp]⟩, _, by walk_at "upn", by walk_at "upn", by walk_at "upn", H⟩
          · rintro fl s ⟨hfl, m3, hself3, hch3, hi3, H⟩
            rcases hfl with ⟨rfl, hb⟩ | ⟨rfl, hb⟩
            · dsimp only
              refine .inl ⟨rfl, i0 + 1, tj, m3, ?_, hself3, hi3, H.sub (.cons _ (.cons _ (.cons _ (List.Sublist.refl _))))⟩
              rw [hcut2]; unfold cutAt; rw [hhit]; unfold hit; rw [hb]; rfl
            · dsimp only
              walk_at "w"
              rw [show ((i0 + 1 : Nat) : Int) - 1 = (i0 : Int) from by omega]
              refine acc_item G H (by walk_at "mems") (by omega) ep1 ?_
              walk_at "w"
              refine tup_item H (by walk_at "mems") (by decide) (by decide) rfl ?_
              walk_at "w"
              refine tru_str H (by omega) ?_
              intro s H
              have fin1 : (p'.2.cps.back? == some c) = false → cutAt c (ps ++ [p]) ((ps ++ [p]).length - 1) = cutAt c (ps ++ [p]) ((ps ++ [p]).length - 1 - (j + 1)) := by
                intro e
                rw [hcut2]
                conv => lhs; unfold cutAt
                rw [hhit]; unfold hit; rw [hb, e]
                rw [show (ps ++ [p]).length - 1 - (j + 1) = i0 from by omega]; rfl
              by_cases hq0 : p'.2.length = 0
              · rw [if_neg (by simp [hq0]), if_neg (by decide)]
                walk_at "w"
                have e : p'.2.cps.back? = none := by rw [Array.back?]; exact Array.getElem?_eq_none (by have : p'.2.cps.size = 0 := hq0; omega)
                exact ⟨_, _, ⟨rfl, by walk_at "upn", by walk_at "upn", fin1 (by rw [e]; rfl)⟩, H⟩
              · obtain ⟨c0, e0, e1⟩ := idx_last hq0
                rw [if_pos (by simpa using hq0)]
                walk_at "w"
                refine PyProof.Rows.neg_int ?_
                replace H := H.toks (Nat.le_succ _)
                refine str_item H (by decide) e1 ?_
                intro t5 s H
                walk_at "w"
                rw [str1_beq]
                by_cases hcc : c0 = c
                · rw [if_pos (by simpa using hcc)]
                  walk_at "w"
                  refine .inl ⟨by first | rfl | trivial, i0 + 1, tj, _, ?_, by walk_at "upn", by walk_at "upn", H.sub (.cons _ (.cons _ (.cons _ (List.Sublist.refl _))))⟩
                  rw [hcut2]; unfold cutAt; rw [hhit]; unfold hit; rw [e0, hcc]; simp
                · rw [if_neg (by simpa using hcc)]
                  walk_at "w"
                  exact ⟨_, _, ⟨rfl, by walk_at "upn", by walk_at "upn", fin1 (by rw [e0]; simpa using hcc)⟩, H⟩
        · rintro m2 ns s ⟨rfl, hself2, hch, hcut2⟩ H
          walk_at "w"
          refine .inr ⟨by first | rfl | trivial, ?_, m2, hself2, H.sub (.cons _ (List.Sublist.refl _))⟩
          rw [hcut2, show (ps ++ [p]).length - 1 - ((items1.length : Int) - 1 - 0).toNat = 0 from by omega]; rfl
      · rintro fl s (⟨rfl, i1, t1, m2, hc1, hs1, hi1, H⟩ | ⟨rfl, hc1, m2, hs1, H⟩)
        · dsimp only
          walk_at "w"
          refine .inl ⟨by first | rfl | trivial, i1, t1, m2, ?_, hs1, hi1, H⟩
          rw [hcut, drop_cps hc]; unfold cutIn; rw [hc1]
        · dsimp only
          refine ⟨m2, _, ⟨rfl, hs1, ?_⟩, H⟩
          rw [hcut, drop_cps hc]; conv => lhs; unfold cutIn
          rw [hc1]
    · rintro m2 ns s ⟨rfl, hself2, hcut⟩ H
      have hnone : cutIn marks.cps.toList (ps ++ [p]) = none := by rw [hcut, List.drop_of_length_le (by simp)]; rfl
      have hadd : FS.add width marks.cps.toList ⟨h0, ps, rows⟩ p = (if h0 > 0 then ⟨0, [(if p.1.length = 0 then Str.ofString " " else p.1, p.2)], rows ++ [txt (nl ps)]⟩ else ⟨h0, ps ++ [p], rows⟩) := by
        unfold FS.add; dsimp only; rw [if_pos hw, hnone]
      rw [hadd] at h
      have hta : (ta, tupO [.str p.1 tp, .str p.2 up1]) ∈ Z := by rw [← hZ]; exact .head _
      have hpZ : Parts Z items ps := by rw [← hZ]; exact hp.mono fun _ q => .tail _ (.tail _ q)
      subst hI1
      walk_at "w"
      refine acc_pop G H (R.le (by decide)) (by walk_at "puts") (by walk_at "mems") hg (by rw [hp.len]; omega) ?_
      intro s H
      walk_at "w"
      by_cases hh0 : 0 < h0
      · rw [if_pos (by simpa using hh0)]
        rw [if_pos hh0] at h
        walk_at "w"
        have hzs : Small ps := ⟨by have := hz.n; omega, fun q hq => hz.z q (List.mem_append.mpr (.inl hq)), fun q hq => hz.k q (List.mem_append.mpr (.inl hq))⟩
        have hwt := hzs.nl.wt
        refine mk_newline G ⟨⟨items, _, hsh, tk, t0, n, lines, el, tO2, tS, H, hpZ, hr, hT2, hS⟩, K⟩ (R.le (by decide)) hzs hh (fun q hq e => hne q (List.mem_of_getLast? hq) (by rw [e.2]; rfl)) (by omega)
          (by unfold onlyws; rw [beq_eq_false_iff_ne.mpr (by omega)]; rfl) hrows ?_
        intro X s M
        obtain ⟨⟨items5, ep5, hsh5, tk5, t5, n5, lines5, el5, tO5, tS5, H, hp5, hr5, hT5, hS5⟩, K5⟩ := M
        obtain rfl := hp5.nil_inv
        have hg5 := @own_none hsh5 tk5 (.int 0 t5)
        generalize hXZ : X ++ Z = Y at H K5
        walk_at "w"
        refine tru_str H (by have := hz.z p (by simp); omega) ?_
        intro s H
        have fin : ∀ (fw : Str) (t9 : Tok) (m9 : Str → Option Value) (s9 : Shared), fw = (if p.1.length = 0 then Str.ofString " " else p.1) →
            At b ω L' m9 ((ac, accO dc [] ep5) :: (dc, ownD hsh5 tk5 (.int 0 t5) n5) :: (ll, lstO lines5 el5) :: (140, tO5) :: (147, tS5) :: Y) s9 →
            wpAny (model PySem.Challenge.pw_pe0181_01 w) (A.deeper (envX (Str.ofString "_ValueFormatter._append_chunk") { kind := .function, names := [(Str.ofString "self", .local), (Str.ofString "fws", .local), (Str.ofString "string", .local), (Str.ofString "ch", .local), (Str.ofString "i", .local), (Str.ofString "prevpart", .local), (Str.ofString "part", .local), (Str.ofString "remainder", .local), (Str.ofString "len", .globalImplicit), (Str.ofString "range", .globalImplicit), (Str.ofString "str", .globalImplicit)], isGenerator := false, isCoroutine := false } L' 91 (Value.ref 90) []))
              (call (.ref 122) [.ref ac, .str fw t9, .str p.2 up1]) (fun _ s' => Q .none s') NoE s9 := by
          intro fw t9 m9 s H9 H
          refine acc_push G H (R.le (by decide)) (by walk_at "puts") (by walk_at "mems") hg5 (by simp) ?_
          intro tb s H
          replace H := H.sink
          subst hXZ hZ
          have H' := H.leave hL ho (.keep (.keep (.keep (.keep (.keep (.keep (Drop.app (.keep (.here (List.Sublist.refl _))) X)))))))
          rw [show X ++ (ta, tupO [Value.str p.1 tp, Value.str p.2 up1]) :: T = X ++ [(ta, tupO [Value.str p.1 tp, Value.str p.2 up1])] ++ T from by simp] at H'
          rw [H9] at H'
          refine h (_ :: (X ++ [_])) s ⟨⟨_, _, hsh5, tk5, t5, n5, lines5, el5, tO5, tS5, H', ?_, hr5, hT5, hS5⟩, K0.mono fun _ q => List.mem_append.mpr (.inr q)⟩
          have e0 : Parts ((tb, tupO [Value.str (if p.1.length = 0 then Str.ofString " " else p.1) t9, Value.str p.2 up1]) :: (X ++ [(ta, tupO [Value.str p.1 tp, Value.str p.2 up1])] ++ T)) [] [] := ⟨rfl, fun j p e => by cases e⟩
          exact Parts.snoc (qs := []) e0 (.head _)
        replace K := K5
        replace hg := hg5
        by_cases hp0 : p.1.length = 0
        · rw [if_pos (by simp [hp0])]
          walk_at "w"
          refine wpAny_mono (fin _ _ _ _ (by rw [if_pos hp0]) H) (fun _ s' hq => ?_) (fun _ _ e => e)
          walk_at "w"
          exact .inr ⟨by first | rfl | trivial, hq⟩
        · rw [if_neg (by simpa using hp0)]
          walk_at "w"
          refine wpAny_mono (fin _ _ _ _ (by rw [if_neg hp0]) H) (fun _ s' hq => ?_) (fun _ _ e => e)
          walk_at "w"
          exact .inr ⟨by first | rfl | trivial, hq⟩
      · rw [if_neg (by simpa using hh0)]
        rw [if_neg hh0] at h
        walk_at "w"
        refine acc_push G H (R.le (by decide)) (by walk_at "puts") (by walk_at "mems") hg (by rw [hp.len]; omega) ?_
        intro tb s H
        walk_at "w"
        replace H := H.sink
        refine .inr ⟨by first | rfl | trivial, ?_⟩
        subst hZ
        exact h [_, _] s ⟨⟨_, _, hsh, tk, t0, n, lines, el, tO2, tS, H.leave hL ho (by walk_at "drops"), Parts.snoc (hp.mono fun _ q => .tail _ (.tail _ q)) (.head _), hr, hT2, hS⟩, K0.mono fun _ q => .tail _ (.tail _ q)⟩
  · rintro fl s (⟨rfl, i1, t1, m2, hc1, hs1, hi1, H⟩ | ⟨rfl, hq⟩)
    · have hib := cutIn_bound hc1
      have hadd : FS.add width marks.cps.toList ⟨h0, ps, rows⟩ p = ⟨0, (ps ++ [p]).drop i1, rows ++ [txt ((ps ++ [p]).take i1)]⟩ := by
        unfold FS.add; dsimp only; rw [if_pos hw, hc1]
      rw [hadd] at h
      have hzt : Small ((ps ++ [p]).take i1) := ⟨by rw [List.length_take]; have := hz.n; omega, fun q hq => hz.z q (List.mem_of_mem_take hq), fun q hq => hz.k q (List.mem_of_mem_take hq)⟩
      have hpt := hp1.take i1
      dsimp only
      walk_at "w"
      refine acc_pop_from G H (R.le (by decide)) (by walk_at "puts") (by omega) (by omega) ?_
      intro ep6 la s H
      walk_at "w"
      refine acc_str_call G H (R.le (by decide)) (by walk_at "mems") (by walk_at "mems") (hpt.mono (by walk_at "subs")) (by walk_at "puts") hS hzt ?_
      intro tS6 t6 s hS6 H
      walk_at "w"
      refine lst_append H (by walk_at "puts") (by rw [hr.length]; omega) ?_
      intro s H
      walk_at "w"
      refine acc_reset1 G H (R.le (by decide)) (by walk_at "puts") (fun o => by walk_at "puts") (by walk_at "mems") (by rw [List.length_take, List.length_drop]; omega) ?_
      intro ep7 t7 s H
      walk_at "w"
      replace H := H.sink
      subst hZ
      exact h [_, _] s ⟨⟨_, _, hsh, tk, t7, n, _, _, tO2, tS6, H.leave hL ho (by walk_at "drops"), (hpT.drop i1).mono (fun _ q => .tail _ q), hr.append' (.cons _ _ .nil), hT2, hS6⟩, K0.mono fun _ q => .tail _ (.tail _ q)⟩
    · exact hq
end
end Mine
end
section
open PySem PySem.W PyProof.Rows PySem.Calls PySem.Spec Builtin Builtin.ObjectAttr
set_option Elab.async false
set_option maxRecDepth 100000
set_option maxHeartbeats 4000000
namespace Mine
example (P : Params) : PySem.Challenge.rw_pe0181_01 = PySem.Challenge.rw_pe0181_01 ∧ Mine.hd.heap_1 P = Mine.hd.heap_1 P := by
  k_fill
  exact ⟨rfl, rfl⟩
/-! a new list of parts -/
def listMade (K : Frag) (C : Addr) : Bool := match K.lookup C with
  | some ⟨_, _, .cls cd, sl⟩ => !cd.abstract && !cd.hasDel && (sl.toList[4]?).join == some (.builtin "list.__new__") && cd.mro == [.ref C, .type "list", .type "object"] &&
      specialIn K (.ref C) "__call__" == some (some (.builtin "type.__call__")) && instIn K (.ref C) (.type "type") == some true
  | _ => false
theorem acc_makes {w : World} : listMade (Mine.hd.heap_1 w.params) 178 = true := by kernel_rfl
structure LMakes (M : Model) (h : Heap) (C : Addr) : Prop where
  obj : ∃ oc od cd sl, h.get? C = some ⟨oc, od, .cls cd, sl⟩ ∧ cd.abstract = false ∧ cd.hasDel = false ∧ cd.mro = [.ref C, .type "list", .type "object"]
  made : Looks M h (Bind.madeBy (.ref C)) (some "list.__new__")
  base : Looks M h (Bind.staticBase (.ref C)) (.ref C)
  self : Looks M h (isSubtype (.ref C) (.ref C)) true
  top : Looks M h (isSubtype (.ref C) (.type "list")) true
  call : Looks M h (specialOf (.ref C) "__call__") (some (.builtin "type.__call__"))
  typ : Looks M h (isInstance (.ref C) (.type "type")) true
theorem lmakes_of {K : Frag} {M : Model} {h : Heap} (X : K.In h) {C : Addr} (e : listMade K C = true) : LMakes M h C := by
  unfold listMade at e
  split at e
  · rename_i oc od cd sl ho
    simp only [Bool.and_eq_true, Bool.not_eq_true', beq_iff_eq] at e
    obtain ⟨⟨⟨⟨⟨e1, e2⟩, e3⟩, e4⟩, e7⟩, e8⟩ := e
    have hc : clsIn K C = some cd := by unfold clsIn; rw [ho]
    have hm : Looks M h (mroOf (.ref C)) cd.mro := (looks_clsIn X hc).andThen .now
    have made : Looks M h (Bind.madeBy (.ref C)) (some "list.__new__") := by
      intro A Q E s k q
      unfold Bind.madeBy
      refine wpAny_bind (hm A _ E s k ?_)
      rw [e4, List.forIn_cons]
      refine wpAny_bind (wpAny_bind (wpAny_bind (wpAny_bind (wpAny_loadPart (k _ _ (X _ _ ho)) (wpAny_pure ?_)))))
      dsimp only
      rw [← Array.getElem?_toList, e3]
      exact wpAny_pure (wpAny_pure (wpAny_pure q))
    refine ⟨⟨oc, od, cd, sl, X _ _ ho, e1, e2, e4⟩, made, ?_, looks_mroIn X ?_, looks_mroIn X ?_, looks_specialIn X e7, looks_instIn X e8⟩
    · intro A Q E s k q
      unfold Bind.staticBase
      refine wpAny_bind (hm A _ E s k ?_)
      rw [e4, List.forIn_cons]
      exact wpAny_bind (wpAny_bind (wpAny_bind (made A _ E s k (wpAny_pure (wpAny_pure (wpAny_pure q))))))
    · unfold mroIn; rw [hc, Option.bind_some, if_neg (by rw [e4]; exact Bool.false_ne_true), e4]; simp
    · unfold mroIn; rw [hc, Option.bind_some, if_neg (by rw [e4]; exact Bool.false_ne_true), e4]; simp
  · cases e
section
variable {prog : Program} {w : World} {A : Around} {C : Addr} {R : Result → Shared → Prop} {h : Heap} {g : Array GenState} {d : Drawn} {t : Nat} {os : OsState}
abbrev newAcc (C dx : Addr) : Obj := { cls := .ref C, dict := some dx, data := .seq #[] }
theorem list_new {a : Value} (Y : LMakes (model prog w) h C)
    (hq : R (.ok (.ret (.ref (h.objs.size + 1)))) ⟨(h.push emptyDict).push (newAcc C h.objs.size), g, d, t, os⟩) :
    codeAny (model prog w) A (.call (.builtin "list.__new__") ⟨[.ref C, a], []⟩) R ⟨h, g, d, t, os⟩ := by
  obtain ⟨⟨oc, od, cd, sl, hC, e1, e2, e4⟩, made, base, self, top, call, typ⟩ := Y
  refine codeAny_of_tree ?_
  show wpAny _ A.in1 (do checkBuiltinCall "list.__new__" ⟨[.ref C, a], []⟩; again (.builtin "list.__new__" ⟨[.ref C, a], []⟩)) _ _ _
  refine wpAny_bind ?_
  have hk : builtinKind "list.__new__" = some .builtinFn := by decide +kernel
  have hs : splitId "list.__new__" = some ("list", "__new__") := by decide +kernel
  simp only [checkBuiltinCall, hk, hs]
  rw [if_pos (by decide)]
  have ty : Looks (model prog w) h (isType (.ref C)) true := (Looks.ld (part := none) hC).andThen .now
  refine wpAny_bind (ty.at ?_)
  simp only [Bool.not_true, Bool.false_eq_true, if_false]
  refine wpAny_bind (top.at ?_)
  simp only [Bool.not_true, Bool.false_eq_true, if_false]
  refine wpAny_bind (base.at ?_)
  refine wpAny_bind (made.at ?_)
  simp only [bne_self_eq_false, Bool.false_eq_true, if_false]
  have ck : (match Manifest.signature? "list.__new__" with
    | some sig => Bind.checkArgs "list.__new__" sig ⟨[.ref C, a], []⟩
    | _ => pure ()) = pure () := by kernel_rfl
  refine wpAny_of_eq ck ?_
  refine wpAny_pure ⟨plainId_quiet F.plain_list_new _, codeAny_builtin_stack F.entry_list_new rfl fun p st => ?_⟩
  rw [Around.under_plainId F.plain_list_new _]
  have hown := owner_list_new
  simp only [hown]
  refine wpAny_bind (ty.at ?_)
  simp only [Bool.not_true, Bool.false_eq_true, if_false]
  refine wpAny_bind (top.at ?_)
  simp only [Bool.not_true, Bool.false_eq_true, if_false]
  refine wpAny_bind (wpAny_pure ?_)
  show wpAny _ _ (newDict >>= _) _ _ _
  unfold newDict
  refine wpAny_bind (wpAny_newObj_type ?_)
  dsimp only
  show wpAny _ _ (newObjAsIs (.ref C) (.seq #[]) (some h.objs.size) >>= _) _ _ _
  unfold newObjAsIs classHasDel
  refine wpAny_bind (wpAny_bind (wpAny_alloc (wpAny_bind (wpAny_bind (wpAny_load (Heap.get?_push_of_some _ (Heap.get?_push_of_some _ hC)) (wpAny_pure ?_))))))
  rw [e2]
  refine wpAny_pure (wpAny_pure ?_)
  show R _ _
  rw [Heap.size_push]
  exact hq
theorem Rm.tc {rest : List Value} {k : Nat} (r : Rm A (k + 1)) : Rm (A.under (.builtin "type.__call__" ⟨.ref C :: rest, []⟩)) k :=
  ⟨r.hd, by rw [depth_under_make]; have := r.dp; omega, by rw [PyProof.Rows.units_under_make]; have := r.un; omega⟩

theorem list_make {a init : Value} (Y : LMakes (model prog w) h C) (hi : Looks (model prog w) h (typeLookup (.ref C) "__init__") (some init))
    (hb : ∀ self, Looks (model prog w) h (bindSpecial init self) (init, [self]))
    (hq : codeAny (model prog w) (A.under (.builtin "type.__call__" ⟨[.ref C, a], []⟩)) (.call init ⟨[.ref (h.objs.size + 1), a], []⟩) (InitBack (h.objs.size + 1) R) ⟨(h.push emptyDict).push (newAcc C h.objs.size), g, d, t, os⟩) :
    codeAny (model prog w) A (.call (.ref C) ⟨[a], []⟩) R ⟨h, g, d, t, os⟩ := by
  have Y' := Y
  obtain ⟨⟨oc, od, cd, sl, hC, e1, e2, e4⟩, made, base, self, top, call, typ⟩ := Y
  refine codeAny_of_tree ?_
  show wpAny _ _ (callAny (.ref C) _) _ _ _
  refine nd_load hC ?_
  show wpAny _ _ (callAny.viaDunder (.ref C) _) _ _ _
  unfold callAny.viaDunder
  refine wpAny_bind (call.at ?_)
  dsimp only
  rw [tc_bind]
  refine wpAny_bind (wpAny_pure (wpAny_bind (wpAny_pure ?_)))
  refine wpAny_pure (a := Fin.again (.call (.builtin "type.__call__") ⟨[.ref C, a], []⟩)) (And.intro rfl ?_)
  refine codeAny_call_builtin_at (Code.quiet_builtin _ (by decide +kernel)) entry_typeCall (check_slot tc_kind tc_split typ (tc_args _ _ _) ?_)
  unfold Builtin.«type.__call__»
  have hm : Looks (model prog w) h (mroOf (.ref C)) cd.mro := ((Looks.ld (part := none) hC).andThen .now).andThen .now
  have e5 : cd.mro.isEmpty = false := by rw [e4]; rfl
  repeat (first | simp only [e5, Bool.false_eq_true, if_false] | with_reducible refine wpAny_call ?_ | lk)
  refine list_new Y' ?_
  have k : ∀ b o, h.get? b = some o → ((h.push emptyDict).push (newAcc C h.objs.size)).get? b = some o := fun b o e => Heap.get?_push_of_some _ (Heap.get?_push_of_some _ e)
  have hx : ((h.push emptyDict).push (newAcc C h.objs.size)).get? (h.objs.size + 1) = some (newAcc C h.objs.size) := by heap_get
  have t1 : Looks (model prog w) ((h.push emptyDict).push (newAcc C h.objs.size)) (typeOf (.ref (h.objs.size + 1))) (.ref C) := (Looks.ld hx).andThen .now
  have s1 := self.keeps k
  have i1 := hi.keeps k
  have b1 := (hb (.ref (h.objs.size + 1))).keeps k
  unfold isInstance callSpecial? specialOf
  repeat (first | with_reducible refine wpAny_call ?_ | lk)
  refine codeAny_mono hq fun r s' z => ?_
  rcases r with e | (v | _ | _ | _) <;> first | exact z | exact z.elim | skip
  obtain ⟨rfl, z⟩ := z
  exact wpAny_pure (wpAny_pure z)
end
end Mine
end
section
open PySem PySem.W PyProof.Rows PySem.Calls PySem.Spec
set_option Elab.async false
set_option maxRecDepth 100000
set_option maxHeartbeats 4000000
namespace Mine
example (P : Params) : PySem.Challenge.rw_pe0181_01 = PySem.Challenge.rw_pe0181_01 ∧ Mine.hd.heap_1 P = Mine.hd.heap_1 P := by
  k_fill
  exact ⟨rfl, rfl⟩
section
variable {prog : Program} {w : World} {A : Around} {E : Value → Shared → Prop} {s : Shared} {mk md ll ac dc a c : Addr} {width h0 : Int} {marks : Str} {items lines : List Value} {x v : Value} {ep el n : Nat}
  {b h' : Heap} {ω : OsState} {L f : Addr} {m mg mb : Str → Option Value} {ns ns' T : List (Addr × Obj)} {Q : Value → Shared → Prop} {g : Obj → List (Addr × Obj)}

theorem acc_init_code {i : Value} {Rs : Result → Shared → Prop} (G : Gd w mg mb b) (H : At b ω L m ns s) (R : Rm A 4) (hx : (ac, accO dc [] ep) ∈ ns) (U : PutF dc (dictOf [] n) ns g)
    (hx' : ∀ o, (ac, accO dc [] ep) ∈ g o) (h : ∀ hsh tk s', At b ω L m (g (ownD hsh tk i (n + 1))) s' → Rs (.ok (.ret .none)) s') :
    codeAny (model PySem.Challenge.pw_pe0181_01 w) A (.call (.ref 115) ⟨[.ref ac, i], []⟩) Rs s := by
  have hL := H.F.above
  refine fn_code [("self", .ref ac), ("initial_size", i)] G H R (by k_is) (by k_is) (by first | exact BindsTo.of_eq rfl | exact binds_K (G.X.keeps H.F.keep) rfl (by k_is) rfl rfl rfl) (locs rfl) (by decide) ?_
  clear H R
  intro L' oL s ho H R
  refine ks_wpAt_execs_cons (_root_.PySem.wpAt_of_wpAny ?_)
  walk_at "w"
  refine acc_store0 G H (by walk_at "mems") (by walk_at "puts") ?_
  intro hsh tk s H
  refine ks_wpAt_execs_cons (ks_wpAt_Expr_any (ks_wpAt_MethodCall ?_ rfl) rfl rfl)
  refine sup_base G H (List.Mem.tail _ (hx' _)) (by k_is) rfl rfl (by k_is) rfl (by decide +kernel) rfl rfl rfl rfl ?_
  intro so s H
  refine sup_method (bt := "method-wrapper") (id := "list.__init__") G H (List.Mem.tail _ (List.Mem.tail _ (hx' _))) (by walk_at "mems") (by kernel_rfl) FD.type_init FD.slot_wd_get.lookup (by decide +kernel) (fun X hx q => wd_get X hx FD.type_init (by decide +kernel) q) ?_
  intro q s H
  refine bound_callWith H (by walk_at "mems") (.inr rfl) ?_
  refine bound_init H (by walk_at "mems") (List.Mem.tail _ (List.Mem.tail _ (List.Mem.tail _ (hx' _)))) ?_
  intro s H
  refine _root_.PySem.wpAt_of_wpAny (wpAny_execs_nil ?_)
  exact h _ _ _ (H.leave hL ho (by walk_at "drops"))
theorem acc_make {i : Value} (G : Gd w mg mb b) (H : At b ω L m ns s) (R : Rm A 5) (h : ∀ ac dc hsh tk n s', At b ω L m ((ac, accO dc [] 0) :: (dc, ownD hsh tk i n) :: ns) s' → Q (.ref ac) s') :
    wpAny (model PySem.Challenge.pw_pe0181_01 w) A (call (.ref 178) [i]) Q E s := by
  have X : (Mine.hd.heap_1 w.params).In s.heap := G.X.keeps H.F.keep
  have hi : findIn (Mine.hd.heap_1 w.params) (.ref 178) "__init__" = some (some (.ref 115)) := by k_is
  have hf : typeIn (Mine.hd.heap_1 w.params) (.ref 115) = some (.type "function") := by k_is
  have H₂ := (H.push emptyDict (Nat.le_refl _)).push (newAcc 178 s.heap.objs.size) (Nat.le_refl _)
  rw [Heap.size_push] at H₂
  obtain ⟨hp, gs, d, t, os⟩ := s
  refine wpAny_call (list_make (lmakes_of X acc_makes) (looks_findIn X hi) (fun self => bind_fn X self hf) ?_)
  refine acc_init_code (ac := hp.objs.size + 1) (dc := hp.objs.size) (ep := 0) (n := 0) (g := fun o => (hp.objs.size + 1, newAcc 178 hp.objs.size) :: (hp.objs.size, o) :: ns) G H₂ R.tc (.head _) (.tail .head) (fun _ => .head _) ?_
  intro hsh tk s' H'
  exact ⟨rfl, h _ _ _ _ _ _ H'⟩

theorem c_len {x : Str} {t : Tok} (H : At b ω L m ns s) (hz : x.length ≤ 1000000) (h : ∀ t s', At b ω L m ns s' → Q (.int x.length t) s') : wpAny (model prog w) A (call (.builtin "len") [.str x t]) Q E s :=
  len_str (by omega) (h _ _ (H.toks (by omega)))
/-! the formatter's own stores -/
theorem PutF.split {a : Addr} {o : Obj} {l : List (Addr × Obj)} {g : Obj → List (Addr × Obj)} (h : PutF a o l g) : ∃ pre post, l = pre ++ (a, o) :: post ∧ ∀ o', g o' = pre ++ (a, o') :: post := by
  induction h with
  | head => exact ⟨[], _, rfl, fun _ => rfl⟩
  | @tail p r g _ ih =>
    obtain ⟨pre, post, e1, e2⟩ := ih
    exact ⟨p :: pre, post, by rw [e1]; rfl, fun o' => by show p :: g o' = _; rw [e2]; rfl⟩
theorem getL_no {name : Str} {es : List DictEntry} (hl : getL name es = some none) : es.any (·.key.isStr name) = false := by
  unfold getL at hl
  split at hl
  · cases hl
  · rename_i e
    rw [List.any_eq_false]
    intro x hx
    exact List.find?_eq_none.mp e x hx
theorem putL_new {name : Str} {hsh : Int} {key v : Value} : ∀ {es : List DictEntry}, es.any (·.key.isStr name) = false → putL name hsh key v es = es ++ [⟨hsh, key, v⟩]
  | [], _ => rfl
  | e :: r, h => by
    rw [List.any_cons, Bool.or_eq_false_iff] at h
    unfold putL
    rw [if_neg (by rw [h.1]; decide), putL_new h.2]
    rfl
theorem mk_set {name : Str} {es : List DictEntry} {Q : Unit → Shared → Prop} (G : Gd w mg mb b) (H : At b ω L m ns s) (h1 : (mk, instObj 94 md) ∈ ns) (U : PutF md (dictOf es n) ns g)
    (ht : takerIn (Mine.hd.heap_1 w.params) 94 name = some none) (hl : getL name es = some none) (hz : es.length ≤ 100)
    (h : ∀ hsh tk s', At b ω L m (g (dictOf (es ++ [⟨hsh, .str name tk, v⟩]) (n + 1))) s' → Q () s') :
    wpAny (model prog w) A (setAttr (.ref mk) name v) Q E s := by
  have X : (Mine.hd.heap_1 w.params).In s.heap := G.X.keeps H.F.keep
  have I : W.InstAt s.heap mk (instObj 94 md) 94 (some (dictOf es n)) := ⟨H.get h1, rfl, rfl, H.get U.mem⟩
  have hp : plainOver (Mine.hd.heap_1 w.params) 94 = true := by kernel_rfl
  have hh : (clsIn (Mine.hd.heap_1 w.params) 94).any (·.hasDict) = true := by kernel_rfl
  refine set_plain X I (by k_is) ?_
  obtain ⟨pre, post, e1, e2⟩ := U.split
  have hD := H.D
  rw [e1, List.map_append, List.map_cons, List.nodup_append] at hD
  have n1 : ∀ p ∈ pre, p.1 ≠ md := fun p hp => hD.2.2 _ (List.mem_map_of_mem (f := (·.1)) hp) _ (.head _)
  have n2 : ∀ p ∈ post, p.1 ≠ md := fun p hp e => by
    have := hD.2.1
    rw [List.nodup_cons] at this
    exact this.1 (e ▸ List.mem_map_of_mem (f := (·.1)) hp)
  refine osa_dict (s := { s with toks := s.toks + 1 }) H.F (e1 ▸ H.N) X I rfl hp ht hh (by rw [lookIn_dict, hl]; rfl) n1 n2 (putName_dict _ _ _ _ _ _) rfl (by rw [putL_new (getL_no hl), List.length_append]; simp only [List.length_singleton]; omega) ?_
  intro h' F' N'
  rw [putL_new (getL_no hl), show putN name es n = n + 1 from if_neg (by rw [getL_no hl]; decide)] at N'
  refine h _ _ _ ⟨F', e2 _ ▸ N', ?_, H.os, H.gens, Nat.lt_of_lt_of_le H.tk (by show s.toks ≤ s.toks + 1 + 1; omega)⟩
  rw [(U.put _).keys]; exact H.D

theorem mk_init {cws : Str} {u1 u2 u3 u4 : Tok} {Rs : Result → Shared → Prop} (G : Gd w mg mb b) (H : At b ω L m ns s) (R : Rm A 8) (h1 : (mk, instObj 94 md) ∈ ns) (U : PutF md (dictOf [] n) ns g) (h1' : ∀ o, (mk, instObj 94 md) ∈ g o) (hc : cws.length ≤ 1000)
    (h : ∀ es n ac dc hsh tk n' ll s', MkIn [(mk, instObj 94 md), (md, dictOf es n)] mk width marks ll ac → At b ω L m ((ac, accO dc [] 0) :: (dc, ownD hsh tk (.int h0 u1) n') :: (ll, lstO [] 0) :: g (dictOf es n)) s' → Rs (.ok (.ret .none)) s') :
    codeAny (model PySem.Challenge.pw_pe0181_01 w) A (.call (.ref 35) ⟨[.ref mk, .int h0 u1, .int width u2, .str cws u3, .str marks u4], []⟩) Rs s := by
  have hL := H.F.above
  refine fn_code [("self", .ref mk), ("headerlen", .int h0 u1), ("maxlen", .int width u2), ("continuation_ws", .str cws u3), ("splitchars", .str marks u4)] G H R (by k_is) (by k_is) (BindsTo.of_eq rfl) (locs rfl) (by decide) ?_
  clear H R
  intro L' oL s ho H R
  refine _root_.PySem.wpAt_of_wpAny ?_
  walk_at "w"
  refine mk_set G H (.tail _ h1) (.tail U) (by k_is) rfl (Nat.le_of_ble_eq_true rfl) ?_
  intro y1 z1 s H
  walk_at "w"
  refine mk_set G H (.tail _ (h1' _)) (.tail U.again) (by k_is) rfl (Nat.le_of_ble_eq_true rfl) ?_
  intro y2 z2 s H
  walk_at "w"
  refine c_len H (by omega) ?_
  intro u5 s H
  walk_at "w"
  refine mk_set G H (.tail _ (h1' _)) (.tail U.again) (by k_is) rfl (Nat.le_of_ble_eq_true rfl) ?_
  intro y3 z3 s H
  walk_at "w"
  refine mk_set G H (.tail _ (h1' _)) (.tail U.again) (by k_is) rfl (Nat.le_of_ble_eq_true rfl) ?_
  intro y4 z4 s H
  walk_at "w"
  refine mk_set G H (.tail _ (.tail _ (h1' _))) (.tail (.tail U.again)) (by k_is) rfl (Nat.le_of_ble_eq_true rfl) ?_
  intro y5 z5 s H
  walk_at "w"
  refine acc_make G H (R.le (by decide)) ?_
  intro ac dc hsh tk n' s H
  walk_at "w"
  refine mk_set G H (.tail _ (.tail _ (.tail _ (.tail _ (h1' _))))) (.tail (.tail (.tail (.tail U.again)))) (by k_is) rfl (Nat.le_of_ble_eq_true rfl) ?_
  intro y6 z6 s H
  walk_at "w"
  refine h _ _ ac dc hsh tk n' la s ⟨_, _, _, .head _, .tail _ (.head _), ⟨_, rfl⟩, ⟨_, rfl⟩, rfl, rfl, ?_⟩ (H.leave hL ho (by walk_at "drops"))
  intro x hx
  simp only [List.mem_cons, List.not_mem_nil, or_false] at hx
  rcases hx with rfl | rfl | rfl <;> rfl
theorem mk_make {cws : Str} {u1 u2 u3 u4 : Tok} (G : Gd w mg mb b) (H : At b ω L m ns s) (R : Rm A 9) (hc : cws.length ≤ 1000)
    (h : ∀ mk md es n ac dc hsh tk n' ll s', MkIn [(mk, instObj 94 md), (md, dictOf es n)] mk width marks ll ac → At b ω L m ((ac, accO dc [] 0) :: (dc, ownD hsh tk (.int h0 u1) n') :: (ll, lstO [] 0) :: (mk, instObj 94 md) :: (md, dictOf es n) :: ns) s' → Q (.ref mk) s') :
    wpAny (model PySem.Challenge.pw_pe0181_01 w) A (call (.ref 94) [.int h0 u1, .int width u2, .str cws u3, .str marks u4]) Q E s := by
  have X : (Mine.hd.heap_1 w.params).In s.heap := G.X.keeps H.F.keep
  have hi : findIn (Mine.hd.heap_1 w.params) (.ref 94) "__init__" = some (some (.ref 35)) := by k_is
  have hf : typeIn (Mine.hd.heap_1 w.params) (.ref 35) = some (.type "function") := by k_is
  have hm : makesIn (Mine.hd.heap_1 w.params) 94 = true := by kernel_rfl
  have H₂ := (H.push emptyDict (Nat.le_refl _)).push (instObj 94 s.heap.objs.size) (Nat.le_refl _)
  rw [Heap.size_push] at H₂
  obtain ⟨hp, gs, d, t, os⟩ := s
  refine wpAny_call (make_core (makes_of X hm) (looks_findIn X hi) (fun self => bind_fn X self hf) (.inl rfl) ?_)
  refine mk_init (mk := hp.objs.size + 1) (md := hp.objs.size) (n := 0) (g := fun o => (hp.objs.size + 1, instObj 94 hp.objs.size) :: (hp.objs.size, o) :: ns) G H₂ R.tc (.head _) (.tail .head) (fun _ => .head _) hc ?_
  intro es n ac dc hsh tk n' ll s' K H'
  exact ⟨rfl, h _ _ _ _ _ _ _ _ _ _ _ K H'⟩
end
end Mine
end
section
open PySem PySem.W PyProof.Rows PySem.Calls PySem.Spec
set_option Elab.async false
set_option maxRecDepth 100000
set_option maxHeartbeats 4000000
namespace Mine
example (P : Params) : PySem.Challenge.rw_pe0181_01 = PySem.Challenge.rw_pe0181_01 ∧ Mine.hd.heap_1 P = Mine.hd.heap_1 P := by
  k_fill
  exact ⟨rfl, rfl⟩
section
variable {prog : Program} {w : World} {A : Around} {E : Value → Shared → Prop} {s : Shared} {mk ll ac dc a c : Addr} {width h0 : Int} {marks : Str} {items lines : List Value} {x v : Value} {ep el n : Nat}
  {b h' : Heap} {ω : OsState} {L f : Addr} {m mg mb : Str → Option Value} {ns ns' T : List (Addr × Obj)} {Q : Value → Shared → Prop} {g : Obj → List (Addr × Obj)} {ps qs : List (Str × Str)} {p : Str × Str} {rows : List Str}
theorem c_join {sep : Str} {t : Tok} {ys : List Str} (H : At b ω L m ns s) (hm : (a, lstO items n) ∈ ns) (hy : StrsAre items ys) (hs : sep.length ≤ 16) (hw : (ys.map (·.length)).sum + ys.length ≤ 1048576)
    (h : ∀ t s', At b ω L m ns s' → Q (.str (Txt.join sep ys) t) s') : wpAny (model prog w) A (call (.builtin "str.join") [.str sep t, .ref a]) Q E s := by
  refine wpAny_with_toks (n := s.toks) (Nat.le_refl _) ?_
  refine join_listW ⟨_, H.get hm, rfl, _, rfl⟩ hy hs hw fun t' k hk => ?_
  exact h _ _ (H.toks hk)
theorem c_split {y sep : Str} {t u : Tok} (H : At b ω L m ns s) (hy : (sep.length == 0) = false) (hz : y.length ≤ 1048576)
    (h : ∀ D vs s', StrsAre vs (Txt.split y sep) → At b ω L m ((D, lstO vs 0) :: ns) s' → Q (.ref D) s') : wpAny (model prog w) A (call (.builtin "str.split") [.str y t, .str sep u]) Q E s := by
  refine wpAny_with_toks (n := s.toks) (Nat.le_refl _) ?_
  refine KSpl.split1 H.F H.N hy (fun D l h' k e S F N hD hk => ?_) (by rw [sizeLine_eq]; omega)
  rw [e] at S
  refine h D _ _ S ⟨F, N, ?_, H.os, H.gens, Nat.lt_of_lt_of_le H.tk hk⟩
  rw [List.map_cons, List.nodup_cons]
  refine ⟨fun q => ?_, H.D⟩
  obtain ⟨p, hp, e⟩ := List.mem_map.mp q
  exact Nat.lt_irrefl _ (e ▸ hD p hp)
theorem mk_str {t : Tok} (G : Gd w mg mb b) (M : Fm b ω L m mk ac dc ll width marks h0 ps rows T s) (R : Rm A 13) (hz : Small ps) (hh : 0 ≤ h0 ∧ h0 ≤ 1000)
    (hne : ∀ p, ps.getLast? = some p → ¬ (p.1 = " " ∧ p.2 = "")) (hpos : 0 < h0 + wt (nl ps)) (hws : onlyws h0 (nl ps) = false) (hrows : rows.length ≤ 100)
    (hw : ((rows ++ [txt (nl ps)]).map (·.length)).sum + (rows ++ [txt (nl ps)]).length ≤ 1048576)
    (h : ∀ Y X tO' tS' t s', TabOk tO' → TabOk tS' → At b ω L m (Y ++ (140, tO') :: (147, tS') :: (X ++ T)) s' → Q (.str (Txt.join "\n" (rows ++ [txt (nl ps)])) t) s') :
    wpAny (model PySem.Challenge.pw_pe0181_01 w) A (call (.ref 42) [.ref mk, .str "\n" t]) Q E s := by
  obtain ⟨⟨items, ep, hsh, tk, t0, n, lines, el, tO, tS, H, hp, hr, hT, hS⟩, K⟩ := M
  have K0 := K
  have hL := H.F.above
  refine fn_call [("self", .ref mk), ("linesep", .str "\n" t)] G H R (by k_is) (by k_is) (BindsTo.of_eq rfl) (locs rfl) (by decide) ?_
  clear H R
  intro L' oL s ho H R
  refine _root_.PySem.wpAt_of_wpAny ?_
  replace H := H.sink
  replace K := K.mono (T' := (L, oL) :: T) fun _ q => .tail _ q
  walk_at "w"
  refine mk_newline G ⟨⟨items, ep, hsh, tk, t0, n, lines, el, tO, tS, H, hp.mono fun _ q => .tail _ q, hr, hT, hS⟩, K⟩ (R.le (by decide)) hz hh hne hpos hws hrows ?_
  intro X s M
  obtain ⟨⟨items5, ep5, hsh5, tk5, t5, n5, lines5, el5, tO5, tS5, H, hp5, hr5, hT5, hS5⟩, K5⟩ := M
  replace K := K5
  walk_at "w"
  refine c_join H (by walk_at "mems") hr5 (Nat.le_of_ble_eq_true rfl) hw ?_
  intro t9 s H
  walk_at "w"
  have H' := H.leave hL ho (.keep (.keep (.keep (.keep (.keep (Drop.mid X))))))
  exact h [_, _, _] X tO5 tS5 t9 s hT5 hS5 H'
end
end Mine
end
section
open PySem PySem.W PyProof.Rows PySem.Calls PySem.Spec
set_option Elab.async false
set_option maxRecDepth 100000
set_option maxHeartbeats 4000000
namespace Mine
/-! comprehensions -/
section
variable {prog : Program} {w : World} {A : Around} {E : Value → Shared → Prop} {s : Shared} {b : Heap} {ω : OsState} {L C it l r a : Addr} {m mC : Str → Option Value} {ns : List (Addr × Obj)} {o oL : Obj} {env : Env} {N : Nat} {V : Nat → Value → Prop} {It : Nat → Obj → Prop} {need : List (Addr × Obj) → Prop} {Q : Value → Shared → Prop} {R : Result → Shared → Prop}

/-- the frame at hand and one that waits change places -/
theorem At.swap (H : At b ω C mC ((L, oL) :: ns) s) (ho : NsO oL m) (hL : b.objs.size ≤ L) : ∃ oC, NsO oC mC ∧ At b ω L m ((C, oC) :: ns) s := by
  obtain ⟨oC, es, ep, hC, r⟩ := H.F.ns
  obtain ⟨es', ep', e1, e2, e3⟩ := ho
  have hD := H.D
  rw [List.map_cons, List.nodup_cons] at hD
  refine ⟨oC, ⟨es, ep, r⟩, ⟨⟨oL, es', ep', H.get (.head _), e1, e2, e3⟩, H.F.keep, hL⟩, fun p hp => ?_, ?_, H.os, H.gens, H.tk⟩
  · rcases List.mem_cons.mp hp with rfl | hp
    · refine ⟨hC, fun e => (H.N _ (.head _)).2.1 e.symm, ?_⟩
      cases z : b.get? C with
      | none => rfl
      | some o => exact absurd H.F.above (Nat.not_le.mpr (Heap.lt_size z))
    · have := H.N p (.tail _ hp)
      exact ⟨this.1, fun e => hD.1 (e ▸ List.mem_map_of_mem (f := (·.1)) hp), this.2.2⟩
  · rw [List.map_cons, List.nodup_cons]
    refine ⟨fun q => ?_, hD.2⟩
    obtain ⟨p, hp, e⟩ := List.mem_map.mp q
    exact (H.N p (.tail _ hp)).2.1 e
/-- a dead frame's dict is changed and forgotten -/
theorem At.gone {h' : Heap} {oC : Obj} (H : At b ω L m ((C, oC) :: ns) s) (hs : Heap.SameBut C s.heap h') : At b ω L m ns { s with heap := h' } := by
  have hD := H.D
  rw [List.map_cons, List.nodup_cons] at hD
  have hC := H.N _ (.head _)
  refine ⟨⟨H.F.ns.sameBut hs (Ne.symm hC.2.1), fun c oc ec => (hs.2 c fun q => ?_).trans (H.F.keep c oc ec), H.F.above⟩, fun p hp => ?_, hD.2, H.os, H.gens, H.tk⟩
  · rw [q, hC.2.2] at ec; cases ec
  · have := H.N p (.tail _ hp)
    exact ⟨(hs.2 _ fun e => hD.1 (e ▸ List.mem_map_of_mem (f := (·.1)) hp)).trans this.1, this.2⟩
theorem NsO.at_ {h : Heap} (ho : NsO o m) (e : h.get? C = some o) : h.Ns C m := let ⟨es, ep, r⟩ := ho; ⟨o, es, ep, e, r⟩

def CompGo (prog : Program) (w : World) (A : Around) (E : Value → Shared → Prop) (e : Expr) (scope : Scope) (cl : List (Str × Addr)) (env : Env) (RR : Value → Addr → Result → Shared → Prop) (it : Value) (s : Shared) : Prop :=
  wpAny (model prog w) A (newList []) (fun acc s₃ => wpAny (model prog w) A (newFunctionEnv scope env.globals cl [] env.qual none .none (some env)) (fun cenv s₄ =>
      codeAny (model prog w) A (.compStart e 0 it acc { cenv with scope := relabel scope env }) (RR acc cenv.locals) s₄) E s₃) E s

theorem ListComp_ {elt target iter : Expr} {ifs : List Expr} {rest : List Comprehension} {scope : Scope} {cl : List (Str × Addr)} {pos : Pos}
    (h : wpAny (model prog w) A (eval iter env) (fun x s₁ => wpAny (model prog w) A (pyIter x) (fun it s₂ => CompGo prog w A E (.ListComp elt (⟨target, iter, ifs, 0⟩ :: rest) scope pos) scope cl env (fun acc C => compPost (model prog w) A E none Q acc C) it s₂) E s₁) E s)
    (hclos : closureFor scope env = pure cl) (hkind : scope.kind = .function) (hnames : ∀ x ∈ scope.names, x.2 = .local → scope.names.lookup x.1 = some .local)
    (hs : ∀ x, foldedSetIterable iter env x = pure x) :
    wpAny (model prog w) A (eval (.ListComp elt (⟨target, iter, ifs, 0⟩ :: rest) scope pos) env) Q E s := by
  rw [eval_ListComp]; exact wpAny_comprehension_free (use := none) rfl hs hclos hkind hnames h
theorem Assign_ListComp_ {elt target iter : Expr} {ifs : List Expr} {rest : List Comprehension} {scope : Scope} {cl : List (Str × Addr)} {pos py spos : Pos} {y : Str} {Q : Flow → Shared → Prop}
    (h : wpAny (model prog w) A (eval iter env) (fun x s₁ => wpAny (model prog w) A (pyIter x) (fun it s₂ => CompGo prog w A E (.ListComp elt (⟨target, iter, ifs, 0⟩ :: rest) scope pos) scope cl env (fun acc C => compPost (model prog w) A E (some (assign (.Name y py) env)) (fun _ s' => Q .next s') acc C) it s₂) E s₁) E s)
    (hsw : swapsWith (.ListComp elt (⟨target, iter, ifs, 0⟩ :: rest) scope pos) (some (.Name y py)) spos.line env = pure true)
    (hclos : closureFor scope env = pure cl) (hkind : scope.kind = .function) (hnames : ∀ x ∈ scope.names, x.2 = .local → scope.names.lookup x.1 = some .local)
    (hs : ∀ x, foldedSetIterable iter env x = pure x) :
    wpAny (model prog w) A (exec (.Assign [.Name y py] (.ListComp elt (⟨target, iter, ifs, 0⟩ :: rest) scope pos) spos) env) Q E s := by
  rw [exec_Assign_Name_used _ _ _ _ hsw]
  refine wpAny_bind (wpAny_standAt (wpAny_bind ?_))
  show wpAny _ A (do let _ ← comprehension (.ListComp elt (⟨target, iter, ifs, 0⟩ :: rest) scope pos) scope env _ (newList []) false (eval iter env) (some (assign (.Name y py) env))) _ _ s
  exact wpAny_bind (wpAny_mono (wpAny_comprehension_free (use := some (assign (.Name y py) env)) (Q := fun _ s' => Q .next s') rfl hs hclos hkind hnames h) (fun _ s' hq => wpAny_pure (wpAny_pure hq)) fun _ _ e => e)

/-- what is wanted behind the loop, the frame being the comprehension's -/
theorem post_none {D : Addr} (H : At b ω C mC ((L, oL) :: ns) s) (ho : NsO oL m) (hL : b.objs.size ≤ L) (h : ∀ s', At b ω L m ns s' → Q (.ref D) s') :
    compPost (model prog w) A E none Q (.ref D) C (.ok .next) s := by
  obtain ⟨oC, hoC, H'⟩ := H.swap ho hL
  exact ⟨mC, NsO.at_ hoC (H'.get (.head _)), fun h' hs => h _ (H'.gone hs)⟩
theorem post_name {D : Addr} {y : Str} {py : Pos} {Q : Shared → Prop} (H : At b ω C mC ((env.locals, oL) :: ns) s) (ho : NsO oL m) (hL : b.objs.size ≤ env.locals) (hk : env.scope.kind = .function) (hy : env.kindOf y = some .local)
    (h : ∀ s', At b ω env.locals (up y (.ref D) m) ns s' → Q s') :
    compPost (model prog w) A E (some (assign (.Name y py) env)) (fun _ s' => Q s') (.ref D) C (.ok .next) s := by
  obtain ⟨oC, hoC, H'⟩ := H.swap ho hL
  show wpAny _ _ (assign (.Name y py) env (.ref D)) _ _ _
  refine wpAny_assign_Name (st_local H' hk hy fun s' H'' => ?_)
  exact ⟨mC, NsO.at_ hoC (H''.get (.head _)), fun h' hs => h _ (H''.gone hs)⟩

theorem comp_loop {elt target iter : Expr} {scope : Scope} {pos : Pos} {cenv : Env} {itv acc : Value} (I : Nat → Shared → Prop)
    (turn : ∀ n s, I n s → wpAny (model prog w) A (pyNext itv) (fun r s₁ => match r with
      | none => R (.ok .next) s₁
      | some v => wpAny (model prog w) A (letOwnedTupleGo target itv v) (fun _ s₁' => wpAny (model prog w) A (assign target cenv v) (fun _ s₂ =>
          wpAny (model prog w) A (eval elt cenv) (fun x s₄ =>
              wpAny (model prog w) A (call (.builtin "list.append") [acc, x]) (fun _ s₅ => ∃ m, m < n ∧ I m s₅) NoE s₄) NoE s₂) NoE s₁') NoE s₁) NoE s)
    (n : Nat) (h : I n s) : codeAny (model prog w) A (.compLoop (.ListComp elt [⟨target, iter, [], 0⟩] scope pos) 0 itv acc cenv) R s := by
  refine codeAny_loop rfl I (fun n s hI => ?_) n h
  show wpAny _ A ((compTurn (.ListComp elt [⟨target, iter, [], 0⟩] scope pos) 0 itv acc cenv).onRaise (fun x => do noteFrame x cenv; theTreesLotGoes x)) _ _ s
  refine wpAny_noted ?_
  rw [compTurn_list]
  refine wpAny_bind (wpAny_standAt (wpAny_bind (wpAny_mono (turn n s hI) (fun r s₁ h₁ => ?_) fun _ _ h' => h'.elim)))
  cases r with
  | none => exact wpAny_pure h₁
  | some v =>
    refine wpAny_bind (wpAny_mono h₁ (fun _ s₁' h₁' => ?_) fun _ _ h' => h'.elim)
    refine wpAny_bind (wpAny_mono h₁' (fun _ s₂ h₂ => wpAny_bind (wpAny_mono (wpAny_tests_nil (Q := fun ok s₃ => ok = true ∧ s₃ = s₂) ⟨rfl, rfl⟩) (fun ok s₃ h₃ => ?_) fun _ _ h' => h')) fun _ _ h' => h'.elim)
    obtain ⟨rfl, rfl⟩ := h₃
    exact wpAny_bind (wpAny_bind (wpAny_mono h₂ (fun x s₄ h₄ => wpAny_bind (wpAny_mono h₄ (fun _ s₅ h₅ => wpAny_pure (wpAny_pure ⟨rfl, h₅⟩)) fun _ _ h' => h'.elim)) fun _ _ h' => h'.elim))

theorem lst_push {x : Value} {items : List Value} {n : Nat} {g : Obj → List (Addr × Obj)} (H : At b ω L m ns s) (U : PutF a (lstO items n) ns g) (hz : items.length ≤ 1000)
    (h : ∀ s', At b ω L m (g (lstO (items ++ [x]) (n + 1))) s' → Q .none s') : wpAny (model prog w) A (call (.builtin "list.append") [.ref a, x]) Q E s := by
  refine append_at (H.get U.mem) (fun h' hs e => ?_) (by rw [List.size_toArray, sizeLine_eq]; omega)
  refine h _ (H.same (U.put _) hs ?_ (Nat.le_refl _))
  rw [e]; simp

theorem comp_go {elt target iter : Expr} {scope : Scope} {cl : List (Str × Addr)} {pos : Pos} {RR : Value → Addr → Result → Shared → Prop} (S : ∀ C, Itr prog w A b ω C it N V It need)
    (J : Nat → List Value → List (Addr × Obj) → Prop) (hn : ∀ i vs ns p q, J i vs ns → need (p :: q :: ns)) (h0 : J 0 [] ns) (ho : It 0 o) (H : At b ω env.locals m ((it, o) :: ns) s) (hN : N ≤ 1000)
    (hlen : ∀ i vs ns, J i vs ns → vs.length = i)
    (self : ∀ o s (Q : Value → Shared → Prop) (E : Value → Shared → Prop), It 0 o → s.heap.get? it = some o → Q (.ref it) s → wpAny (model prog w) A (pyIter (.ref it)) Q E s)
    (go : ∀ i o v s (Q : Unit → Shared → Prop), V i v → It (i + 1) o → s.heap.get? it = some o → Q () s → wpAny (model prog w) A (letOwnedTupleGo target (.ref it) v) Q NoE s)
    (hcell : ∀ y ∈ scope.names, y.2 ≠ .cell) (hkind : scope.kind = .function)
    (step : ∀ C D i o v m' ns oL n vs s, i < N → V i v → J i vs ns → NsO oL m → At b ω C m' ((it, o) :: (D, lstO vs n) :: (env.locals, oL) :: ns) s → wpAny (model prog w) A (assign target (compEnvC scope cl C env) v) (fun _ s₂ =>
      wpAny (model prog w) A (eval elt (compEnvC scope cl C env)) (fun y s₃ => ∃ m'' ns', J (i + 1) (vs ++ [y]) ns' ∧ At b ω C m'' ((it, o) :: (D, lstO vs n) :: (env.locals, oL) :: ns') s₃) NoE s₂) NoE s)
    (fin : ∀ C D m' ns oL n vs s, J N vs ns → NsO oL m → At b ω C m' ((env.locals, oL) :: (D, lstO vs n) :: ns) s → RR (.ref D) C (.ok .next) s) :
    CompGo prog w A E (.ListComp elt [⟨target, iter, [], 0⟩] scope pos) scope cl env RR (.ref it) s := by
  unfold CompGo
  refine wpAny_newObj_type ?_
  have H₁ := H.push (lstO [] 0) (Nat.le_refl _)
  generalize hD : s.heap.objs.size = D at H₁ ⊢
  generalize hs₁ : ({ s with heap := s.heap.push (lstO [] 0), toks := s.toks } : Shared) = s₁ at H₁
  refine wpAny_newFunctionEnv hcell (by intro y hy; cases hy) (fun h' hns hsb => ?_) hkind
  obtain ⟨oL, hoL, H₂⟩ := H₁.enter (t := s₁.toks + 0) hns (fun c o e => hsb.extBut c o (Nat.ne_of_lt (Heap.lt_size e)) (Heap.get?_push_of_some _ e)) (Nat.le_add_right _ _)
  have H₃ := H₂.perm (ns' := (it, o) :: (D, lstO [] 0) :: (env.locals, oL) :: ns) (by
    refine (List.perm_middle (l₁ := [(env.locals, oL), (D, lstO [] 0)]) (l₂ := ns) (a := (it, o))).trans (.cons _ (List.Perm.swap _ _ _)))
  generalize s₁.heap.objs.size = C at H₃ ⊢
  show codeAny (model prog w) A (.compStart (.ListComp elt [⟨target, iter, [], 0⟩] scope pos) 0 (.ref it) (.ref D) (compEnvC scope cl C env)) (RR (.ref D) C) _
  generalize ({ s₁ with heap := h', toks := s₁.toks + ([] : List (Str × Value)).length } : Shared) = s₂ at H₃ ⊢
  have loop : codeAny (model prog w) A (.compLoop (.ListComp elt [⟨target, iter, [], 0⟩] scope pos) 0 (.ref it) (.ref D) (compEnvC scope cl C env)) (RR (.ref D) C) s₂ := by
    refine comp_loop (fun k s' => ∃ i o vs m' ns n, i ≤ N ∧ k = N - i ∧ It i o ∧ J i vs ns ∧ At b ω C m' ((it, o) :: (D, lstO vs n) :: (env.locals, oL) :: ns) s') ?_ N ⟨0, o, [], _, ns, 0, Nat.zero_le _, rfl, ho, h0, H₃⟩
    rintro k s ⟨i, o, vs, m', ns, n, hi, rfl, ho, hJ, H⟩
    rcases Nat.lt_or_ge i N with hlt | hge
    · refine (S C).next i o m' _ s _ _ hlt ho (hn _ _ _ _ _ hJ) H fun v o' s' hv ho' H' => ?_
      refine wpAny_mono (go i o' v s' (fun _ s₂ => s₂ = s') hv ho' (H'.get (.head _)) rfl) (fun _ s₂ e => ?_) fun _ _ e => e.elim
      subst e
      refine wpAny_mono (step C D i o' v m' ns oL n vs s₂ hlt hv hJ hoL H') (fun _ s₃ h₃ => wpAny_mono h₃ (fun y s₄ h₄ => ?_) fun _ _ e => e.elim) fun _ _ e => e.elim
      obtain ⟨m'', ns', hJ', H''⟩ := h₄
      refine lst_push H'' (.tail .head) (by rw [hlen _ _ _ hJ]; omega) fun s₅ H₅ => ?_
      exact ⟨N - (i + 1), by omega, i + 1, o', _, m'', ns', n + 1, hlt, rfl, ho', hJ', H₅⟩
    · obtain rfl : i = N := by omega
      refine (S C).done o m' _ s _ _ ho (hn _ _ _ _ _ hJ) H fun s' H' => ?_
      exact fin C D m' ns oL n vs s' hJ hoL (H'.perm (List.Perm.swap _ _ _))
  exact codeAny_compStart_list loop (self _ _ _ _ ho (H₃.get (.head _)) loop)

/-! the three kinds of iterators lead back to themselves -/
theorem self_list {i : Nat} (hx : s.heap.get? it = some o) (ho : o.cls = .type "list_iterator" ∧ o.data = .fields #[.ref l, .int i 0]) (h : Q (.ref it) s) : wpAny (model prog w) A (pyIter (.ref it)) Q E s :=
  wpAny_pyIter_listiter ⟨o, hx, ho.1, ho.2⟩ h
theorem go_list {i k : Nat} {elts : List Expr} {tp : Pos} {a : Addr} {Q : Unit → Shared → Prop} (hx : s.heap.get? it = some o) (ho : o.cls = .type "list_iterator" ∧ o.data = .fields #[.ref l, .int i 0]) (h : Q () s) : wpAny (model prog w) A (letOwnedTupleGo (.Tuple elts k tp) (.ref it) (.ref a)) Q E s :=
  wpAny_letOwnedTupleGo_listiter ⟨o, hx, ho.1, ho.2⟩ h
end
end Mine
end
section
open PySem PySem.W PyProof.Rows PySem.Calls PySem.Spec
set_option Elab.async false
set_option maxRecDepth 100000
set_option maxHeartbeats 4000000
namespace Mine
section
variable {prog : Program} {w : World} {A : Around} {E : Value → Shared → Prop} {s : Shared} {b : Heap} {ω : OsState} {L f : Addr} {m mg mb : Str → Option Value} {ns : List (Addr × Obj)} {k : Nat}
  {name qual : Str} {params : Arguments} {body : List Stmt} {scope : Scope} {dV kV doc pm cdv ct oc : Value} {an od : Option Addr} {osl : Array (Option Value)} {args : List Value} {binds : List (Str × Value)}
theorem CellsAre.keys {cm : Str → Option Value} {cs : List (Str × Addr)} {cells : List (Addr × Obj)} (h : CellsAre cm cs cells) : cells.map (·.1) = cs.map (·.2) := by
  induction h with
  | nil => rfl
  | cons _ _ ih => rw [List.map_cons, List.map_cons, ih]
/-- a call of a function some of whose names live in cells -/
theorem fn_callC {Q : Value → Shared → Prop} (binds : List (Str × Value)) (G : Gd w mg mb b) (H : At b ω L m ns s) (R : Rm A (k + 1))
    (ho : (Mine.hd.heap_1 w.params).lookup f = some ⟨oc, od, .func (fnX name qual params body scope [] dV kV doc pm an cdv ct), osl⟩) (hcd : codeIn (Mine.hd.heap_1 w.params) cdv qual = true)
    (hbind : BindsTo s (fnX name qual params body scope [] dV kV doc pm an cdv ct) ⟨args, []⟩ binds)
    (hkind : ∀ n, ∀ x ∈ binds, scope.names.lookup x.1 = some .local ∨ (scope.names.lookup x.1 = some .cell ∧ ((cellsFrom n scope.names []).lookup x.1).isSome = true))
    (hnd : ((cellsFrom 0 scope.names []).map (·.1)).Nodup)
    (h : ∀ L' oL cells s', NsO oL m → CellsAre (bindC (envX qual scope L' f cdv (cellsFrom (L' + 1) scope.names [])).kindOf binds fun _ => none) (cellsFrom (L' + 1) scope.names []) cells →
      At b ω L' (bindL (envX qual scope L' f cdv (cellsFrom (L' + 1) scope.names [])).kindOf binds fun _ => none) (cells ++ (L, oL) :: ns) s' → Rm (A.deeper (envX qual scope L' f cdv (cellsFrom (L' + 1) scope.names []))) k →
      wpAny (model prog w) (A.deeper (envX qual scope L' f cdv (cellsFrom (L' + 1) scope.names []))) (execs body (envX qual scope L' f cdv (cellsFrom (L' + 1) scope.names []))) (fun fl s' => Q (match fl with | .ret v => v | _ => .none) s') NoE s')
    (hco : scope.isCoroutine = false := by rfl) (hgen : scope.isGenerator = false := by rfl) (hk : scope.kind = .function := by rfl) :
    wpAny (model prog w) A (call (.ref f) args) Q E s := by
  have X : (Mine.hd.heap_1 w.params).In s.heap := G.X.keeps H.F.keep
  refine wpAny_call (codeAny_call_function R.room (X _ _ ho) rfl hco hgen rfl (codeRec_of X hcd) (hbind _ _ _ _ ?_))
  refine wpAny_with_toks (n := s.toks) (Nat.le_refl _) (wpAny_newFunctionEnv_cells hk (hkind _) fun env' he s' x ht => ?_)
  subst he
  have hkeep : ∀ c o, s.heap.get? c = some o → s'.heap.get? c = some o := x.toInCall.keep
  refine ⟨(G.nolimit.keeps H.F.keep).keeps hkeep, codeAny_func ?_⟩
  obtain ⟨cells, NC, Y⟩ := Cl.news (h₀ := s.heap) (Nat.le_refl _) fun n c hm => ⟨x.cell n c (lookup_of_mem_nodup (cellsFrom_names scope.names 0 (s.heap.objs.size + 1) [] [] rfl ▸ hnd) hm), x.above n c hm⟩
  obtain ⟨oL, es, ep, hL, r⟩ := H.F.ns
  obtain ⟨h₁, tk, hs'⟩ := x.toInCall.same
  have hout : ∀ p ∈ cells, ∀ c o, s.heap.get? c = some o → p.1 ≠ c := fun p hp c o e q => by
    have := (NC p hp).2.2; rw [q, e] at this; cases this
  have H' : At b ω s.heap.objs.size (bindL (envX qual scope s.heap.objs.size f cdv (cellsFrom (s.heap.objs.size + 1) scope.names [])).kindOf binds fun _ => none) (cells ++ (L, oL) :: ns) s' := by
    refine ⟨⟨x.toInCall.ns, fun c o e => hkeep c o (H.F.keep c o e), Nat.le_trans H.F.above (Nat.le_of_lt (Heap.lt_size hL))⟩, fun p hp => ?_, ?_, by rw [hs']; exact H.os, by rw [hs']; exact H.gens, Nat.lt_of_lt_of_le H.tk ht⟩
    · rcases List.mem_append.mp hp with hp | hp
      · refine ⟨(NC p hp).1, (NC p hp).2.1, ?_⟩
        cases q : b.get? p.1 with
        | none => rfl
        | some o => exact absurd rfl (hout p hp _ _ (H.F.keep _ _ q))
      · rcases List.mem_cons.mp hp with rfl | hp
        · refine ⟨hkeep _ _ hL, Nat.ne_of_lt (Heap.lt_size hL), ?_⟩
          cases z : b.get? L with
          | none => rfl
          | some o => exact absurd H.F.above (Nat.not_le.mpr (Heap.lt_size z))
        · exact ⟨hkeep _ _ (H.get hp), Nat.ne_of_lt (H.lt hp), (H.N p hp).2.2⟩
    · rw [List.map_append, List.nodup_append]
      refine ⟨?_, ?_, ?_⟩
      · rw [CellsAre.keys Y]
        exact (List.pairwise_map).mpr x.apart
      · rw [List.map_cons, List.nodup_cons]
        refine ⟨fun q => ?_, H.D⟩
        obtain ⟨p, hp, e⟩ := List.mem_map.mp q
        exact (H.N p hp).2.1 e
      · rintro a ha c hc rfl
        obtain ⟨p, hp, rfl⟩ := List.mem_map.mp ha
        obtain ⟨q, hq, e⟩ := List.mem_map.mp hc
        rcases List.mem_cons.mp hq with rfl | hq
        · exact hout p hp _ _ hL e.symm
        · exact hout p hp _ _ (H.get hq) e.symm
  exact wpAny_mono (h _ oL cells s' ⟨es, ep, r⟩ Y H' R.deeper) (fun _ _ z => z) fun _ _ z => z.elim

/-- a name that lives in a cell -/
structure CellIs (o : Obj) (v : Option Value) : Prop where
  data : o.data = .cell v
theorem nm_cellI {env : Env} {x : Str} {pos : Pos} {v : Value} {Q : Value → Shared → Prop} {c : Addr} {o : Obj} (H : At b ω L m ns s) (hc : env.cells.lookup x = some c) (hm : (c, o) ∈ ns) (hd : CellIs o (some v)) (hk : env.scope.kind = .function) (hx : env.kindOf x = some .cell) (hb : (x == ("__debug__" : Str)) = false) (h : Q v s) :
    wpAny (model prog w) A (eval (.Name x pos) env) Q E s := nm_cell H hc hm hd.data hk hx hb h
theorem st_cellI {env : Env} {x : Str} {v : Value} {Q : Unit → Shared → Prop} {c : Addr} {o : Obj} {v₀ : Option Value} {g : Obj → List (Addr × Obj)} (H : At b ω L m ns s) (hc : env.cells.lookup x = some c) (U : PutF c o ns g) (hd : CellIs o v₀) (hk : env.scope.kind = .function) (hx : env.kindOf x = some .cell)
    (h : ∀ o' s', CellIs o' (some v) → At b ω L m (g o') s' → Q () s') : wpAny (model prog w) A (storeName env x v) Q E s := by
  unfold storeName
  simp only [hx, hk]
  refine wpAny_bind (wpAny_cellOf hc ?_)
  unfold cellSet
  refine wpAny_bind (wpAny_load (H.get U.mem) ?_)
  rw [hd.data]
  exact wpAny_update (H.get U.mem) (h { o with data := .cell (some v) } _ ⟨rfl⟩ (At.upd (f := fun o => { o with data := .cell (some v) }) H (U.put _) rfl (Nat.le_refl _)))
theorem CellsAre.four {cm : Str → Option Value} {n1 n2 n3 n4 : Str} {c1 c2 c3 c4 : Addr} {cells : List (Addr × Obj)} (x : CellsAre cm [(n1, c1), (n2, c2), (n3, c3), (n4, c4)] cells) :
    ∃ o1 o2 o3 o4, cells = [(c1, o1), (c2, o2), (c3, o3), (c4, o4)] ∧ CellIs o1 (cm n1) ∧ CellIs o2 (cm n2) ∧ CellIs o3 (cm n3) ∧ CellIs o4 (cm n4) := by
  cases x with | cons h1 r => cases r with | cons h2 r => obtain ⟨o3, o4, rfl, h3, h4⟩ := r.two; exact ⟨_, _, o3, o4, rfl, ⟨h1⟩, ⟨h2⟩, ⟨h3⟩, ⟨h4⟩⟩
end
end Mine
end
section
open PySem PySem.W PyProof.Rows PySem.Calls PySem.Spec
set_option Elab.async false
set_option maxRecDepth 100000
set_option maxHeartbeats 4000000
namespace Mine
section
variable {prog : Program} {w : World} {A : Around} {E : Value → Shared → Prop} {s : Shared} {b : Heap} {ω : OsState} {L a sa : Addr} {m : Str → Option Value} {ns : List (Addr × Obj)} {Q : Value → Shared → Prop} {value slice : Expr} {x y : Str} {t u : Tok} {items vs : List Value} {n : Nat} {env : Env}
/-! texts -/
theorem c_slice {l r : Option (Int × Tok)} (H : At b ω L m ns s) (hs : (sa, sliO (partValue l) (partValue r) .none) ∈ ns) (hz : x.length ≤ 1000000)
    (h : ∀ t s', At b ω L m ns s' → Q (.str (Txt.slice x (l.map (·.1)) (r.map (·.1))) t) s')
    (he : subscripted slice false (.str x t) (.ref sa) = operate [.ref sa, .str x t] (getItem (.str x t) (.ref sa))) (ht : ∀ v, letTemporaryGo value (.str x t) v = pure ()) :
    wpAny (model prog w) A (subscriptTail value slice (.str x t) (.ref sa)) Q E s := by
  refine wpAny_with_toks (n := s.toks) (Nat.le_refl _) ?_
  refine tail_of_ItemOn (ops := [.ref sa, .str x t]) ⟨"str", _, PySem.F.slot_str_getitem.lookup, typeIs_str _ _ _, wpAny_getItem_str_slice (l := l) (u := r) (st := none) ⟨_, H.get hs, rfl, rfl⟩ rfl
    (post_val_or_str ⟨Nat.le_trans (Txt.slice_le x _ _) (by rw [sizeLine_eq]; omega), fun t' k hk => h _ _ (H.toks hk)⟩)⟩ he ht
theorem c_slice_to {j : Int} {uj : Tok} (H : At b ω L m ns s) (hs : (sa, sliO .none (.int j uj) .none) ∈ ns) (hz : x.length ≤ 1000000)
    (h : ∀ t s', At b ω L m ns s' → Q (.str (Txt.slice x none (some j)) t) s')
    (he : subscripted slice false (.str x t) (.ref sa) = operate [.ref sa, .str x t] (getItem (.str x t) (.ref sa)) := by with_unfolding_all rfl) (ht : ∀ v, letTemporaryGo value (.str x t) v = pure () := by intro _; with_unfolding_all rfl) :
    wpAny (model prog w) A (subscriptTail value slice (.str x t) (.ref sa)) Q E s := c_slice (l := none) (r := some (j, uj)) H hs hz h he ht
theorem c_slice_from {i : Int} {ui : Tok} (H : At b ω L m ns s) (hs : (sa, sliO (.int i ui) .none .none) ∈ ns) (hz : x.length ≤ 1000000)
    (h : ∀ t s', At b ω L m ns s' → Q (.str (Txt.slice x (some i) none) t) s')
    (he : subscripted slice false (.str x t) (.ref sa) = operate [.ref sa, .str x t] (getItem (.str x t) (.ref sa)) := by with_unfolding_all rfl) (ht : ∀ v, letTemporaryGo value (.str x t) v = pure () := by intro _; with_unfolding_all rfl) :
    wpAny (model prog w) A (subscriptTail value slice (.str x t) (.ref sa)) Q E s := c_slice (l := some (i, ui)) (r := none) H hs hz h he ht
theorem c_slice_ft {i j : Int} {ui uj : Tok} (H : At b ω L m ns s) (hs : (sa, sliO (.int i ui) (.int j uj) .none) ∈ ns) (hz : x.length ≤ 1000000)
    (h : ∀ t s', At b ω L m ns s' → Q (.str (Txt.slice x (some i) (some j)) t) s')
    (he : subscripted slice false (.str x t) (.ref sa) = operate [.ref sa, .str x t] (getItem (.str x t) (.ref sa)) := by with_unfolding_all rfl) (ht : ∀ v, letTemporaryGo value (.str x t) v = pure () := by intro _; with_unfolding_all rfl) :
    wpAny (model prog w) A (subscriptTail value slice (.str x t) (.ref sa)) Q E s := c_slice (l := some (i, ui)) (r := some (j, uj)) H hs hz h he ht
theorem c_add (H : At b ω L m ns s) (hz : x.length + y.length ≤ 1000000) (h : ∀ t s', At b ω L m ns s' → Q (.str (x ++ y) t) s') : wpAny (model prog w) A (binaryOp .Add (.str x t) (.str y u)) Q E s :=
  wpAny_with_toks (n := s.toks) (Nat.le_refl _) (PyProof.Rows.add_str (fun _ _ hk => h _ _ (H.toks hk)) (by rw [sizeLine_eq]; omega))
theorem mulOk_small {k : Int} (h1 : x.length ≤ 1000) (h2 : k ≤ 1000) (h3 : -1000 ≤ k) : MulOk x k := by
  refine ⟨?_, ?_, ?_⟩
  · rw [Bool.or_eq_false_iff]; exact ⟨decide_eq_false (by omega), decide_eq_false (by omega)⟩
  · intro ha _ hc
    have : (2 ^ 63 - 1) / 1000 ≤ (2 ^ 63 - 1 : Int) / k := by
      refine Int.le_ediv_of_mul_le (by omega) ?_
      have := Int.mul_le_mul_of_nonneg_left h2 (show (0 : Int) ≤ (2 ^ 63 - 1) / 1000 by decide)
      omega
    have e : ((2 ^ 63 - 1) / 1000 : Int) = 9223372036854775 := by decide
    omega
  · intro ha _
    unfold Builtin.Str.tooLong
    refine decide_eq_false ?_
    have : x.length * k.toNat ≤ 1000 * 1000 := Nat.mul_le_mul h1 (by omega)
    rw [sizeLine_eq]; omega
theorem c_mulS {k : Int} (H : At b ω L m ns s) (h1 : x.length ≤ 1000) (h2 : k ≤ 1000) (h3 : -1000 ≤ k) (h : ∀ t s', At b ω L m ns s' → Q (.str (Txt.mul x k) t) s') : wpAny (model prog w) A (binaryOp .Mult (.str x t) (.int k u)) Q E s :=
  wpAny_with_toks (n := s.toks) (Nat.le_refl _) (SB.mul (mulOk_small h1 h2 h3) (fun _ _ hk => h _ _ (H.toks hk)))
theorem c_count (H : At b ω L m ns s) (h : ∀ t s', At b ω L m ns s' → Q (.int (Txt.count x y) t) s') : wpAny (model prog w) A (call (.builtin "str.count") [.str x t, .str y u]) Q E s :=
  SC.count (h _ _ (H.toks (Nat.le_succ _)))
/-! lists -/
theorem c_item {i : Int} {v : Value} (H : At b ω L m ns s) (hm : (a, lstO items n) ∈ ns) (h0 : 0 ≤ i) (hfit : i < 2 ^ 63) (hv : items[i.toNat]? = some v) (h : Q v s)
    (hs : subscripted slice false (.ref a) (.int i u) = operate [.ref a, .int i u] (getItem (.ref a) (.int i u)) := by with_unfolding_all rfl) (hg : ∀ r, letTemporaryGo value (.ref a) r = pure () := by intro _; with_unfolding_all rfl) :
    wpAny (model prog w) A (subscriptTail value slice (.ref a) (.int i u)) Q E s := item_listL ⟨_, H.get hm, rfl, _, rfl⟩ h0 hfit hv h hs hg
theorem c_lenL (H : At b ω L m ns s) (hm : (a, lstO items n) ∈ ns) (hz : items.length ≤ 1000000) (h : ∀ t s', At b ω L m ns s' → Q (.int items.length t) s') : wpAny (model prog w) A (call (.builtin "len") [.ref a]) Q E s :=
  len_list ⟨_, H.get hm, rfl, _, rfl⟩ (by rw [List.size_toArray]; omega) (by rw [List.size_toArray]; exact h _ _ (H.toks (by omega)))
theorem c_lslice {i j : Nat} {ti tj : Tok} (H : At b ω L m ns s) (hm : (a, lstO items n) ∈ ns) (hs : (sa, sliO (.int i ti) (.int j tj) .none) ∈ ns) (hi : i ≤ j) (hj : j ≤ items.length) (hz : items.length ≤ 1000)
    (h : ∀ la s', At b ω L m ((la, lstO ((items.drop i).take (j - i)) 0) :: ns) s' → Q (.ref la) s')
    (he : subscripted slice false (.ref a) (.ref sa) = operate [.ref sa, .ref a] (getItem (.ref a) (.ref sa)) := by with_unfolding_all rfl) :
    wpAny (model prog w) A (subscriptTail value slice (.ref a) (.ref sa)) Q E s := by
  have hl : s.heap.IsList a items.toArray := ⟨_, H.get hm, rfl, _, rfl⟩
  refine tail_any hl.typeIs slot_list_getitem.lookup ?_ he
  refine wpAny_getItem_list_slice hl ⟨_, H.get hs, rfl, rfl⟩ (.int (i : Int) ti) (.int (j : Int) tj) .none (by simp) ?_ (by rw [List.size_toArray, sizeLine_eq]; omega)
  rw [slicePick_run _ _ _ (by simpa using hj) hi]
  exact h _ _ (H.push (lstO ((items.drop i).take (j - i)) 0) (Nat.le_refl _))
theorem c_sum {ks : List Int} (hh : A.handled = none) (H : At b ω L m ns s) (hm : (a, lstO vs n) ∈ ns) (hi : IntsAre vs ks) (h : ∀ t s', At b ω L m ns s' → Q (.int ks.sum t) s') : wpAny (model prog w) A (call (.builtin "sum") [.ref a]) Q E s := by
  obtain ⟨xs, e⟩ := hi.allInts.items
  have hs : (numsOf vs) = ks := hi.numsOf
  refine wpAny_with_toks (n := s.toks) (Nat.le_refl _) ?_
  refine sum_intListG (xs := xs) hh (by rw [← e]; exact ⟨_, H.get hm, rfl, _, rfl⟩) fun h' tk t' hk ht => ?_
  have e2 : preSum (numAt xs) xs.size = ks.sum := by
    rw [preSum_eq, List.take_of_length_le (by simp), ← nums_intItems, ← e]
    show (numsOf vs).sum = _
    rw [hs]
  rw [e2]
  exact h _ _ ⟨(H.grown hk H.gens ht).F, (H.grown hk H.gens ht).N, H.D, H.os, H.gens, Nat.lt_of_lt_of_le H.tk ht⟩
theorem lst_app {name : Str} {pl : Sem Bool} {id : String} {Q : Value × List Value → Shared → Prop} (H : At b ω L m ns s) (hm : (a, lstO items n) ∈ ns) (slot : Slot "list" name id) (hty : typeOf (.builtin id) = pure (.type "method_descriptor"))
    (h : Q (.builtin id, [.ref a]) s) : wpAny (model prog w) A (getMethod (.ref a) name pl) Q E s :=
  getMethod_builtin ⟨_, H.get hm, rfl⟩ PySem.F.plainAttrs_list slot hty (fun a e => by cases e; exact ⟨_, H.get hm, rfl⟩) h
/-! a while: what holds before each test, with a measure -/
theorem while_it {test : Expr} {body orelse : List Stmt} {pos : Pos} {Q : Flow → Shared → Prop} (J : Nat → (Str → Option Value) → List (Addr × Obj) → Prop) (k : Nat) (h0 : J k m ns) (H : At b ω L m ns s)
    (turn : ∀ k m ns s, J k m ns → At b ω L m ns s → wpAny (model prog w) A (isTrue test env (eval test env)) (fun c s₂ =>
      if c = true then wpAny (model prog w) A (execs body env) (fun f s₃ => match f with
          | .next | .cont => ∃ k' m' ns', k' < k ∧ J k' m' ns' ∧ At b ω L m' ns' s₃
          | .brk => Q .next s₃
          | .ret v => Q (.ret v) s₃) NoE s₂
      else wpAny (model prog w) A (execs orelse env) Q NoE s₂) NoE s) :
    wpAny (model prog w) A (exec (.While test body orelse pos) env) Q E s := by
  refine wpAny_While (codeAny_whileLoop (fun k s => ∃ m ns, J k m ns ∧ At b ω L m ns s) (fun k s hI => ?_) k ⟨m, ns, h0, H⟩)
  obtain ⟨m, ns, hJ, H⟩ := hI
  refine wpAny_mono (turn k m ns s hJ H) (fun c s₂ h₂ => ?_) fun _ _ e => e.elim
  cases c with
  | true =>
    rw [if_pos rfl] at h₂ ⊢
    refine wpAny_mono h₂ (fun f s₃ h₃ => ?_) fun _ _ e => e.elim
    cases f with
    | ret v => exact h₃
    | brk => exact h₃
    | next => obtain ⟨k', m', ns', h1, h2, h3⟩ := h₃; exact ⟨k', h1, m', ns', h2, h3⟩
    | cont => obtain ⟨k', m', ns', h1, h2, h3⟩ := h₃; exact ⟨k', h1, m', ns', h2, h3⟩
  | false =>
    rw [if_neg (by decide)] at h₂ ⊢
    exact wpAny_mono h₂ (fun _ _ q => q) fun _ _ e => e.elim
end
end Mine
end
section
open PySem PySem.W PyProof.Rows PySem.Calls PySem.Spec
set_option Elab.async false
set_option maxRecDepth 100000
set_option maxHeartbeats 4000000
namespace Mine
example (P : Params) : PySem.Challenge.rw_pe0181_01 = PySem.Challenge.rw_pe0181_01 ∧ Mine.hd.heap_1 P = Mine.hd.heap_1 P := by
  k_fill
  exact ⟨rfl, rfl⟩
/-! a reply read -/
def decL : List Nat → List Nat
  | [] => []
  | c :: cs => if c = 34 then (match cs with
      | d :: r => if d = 34 then 34 :: decL r else []
      | [] => []) else c :: decL cs
def mkS (l : List Nat) : Str := ⟨l.toArray⟩
theorem mkS_len (l : List Nat) : (mkS l).length = l.length := by simp [mkS, Str.length]
theorem mkS_app (l r : List Nat) : mkS l ++ mkS r = mkS (l ++ r) := by
  show (⟨l.toArray ++ r.toArray⟩ : Str) = ⟨(l ++ r).toArray⟩
  simp
theorem mkS_self (x : Str) : mkS x.cps.toList = x := by simp [mkS]
theorem mkS_list (l : List Nat) : (mkS l).cps.toList = l := by simp [mkS]
theorem mkS_inj {l r : List Nat} (h : mkS l = mkS r) : l = r := by rw [← mkS_list l, h, mkS_list]
theorem sl_to (x : Str) (k : Nat) : Txt.slice x none (some (k : Int)) = mkS (x.cps.toList.take k) := by
  by_cases h : x.length < k
  · rw [slice_to_beyond (by omega)]
    have := slice_closes_toL (x := x) (j := (x.length : Int)) (by omega) (Int.le_refl _)
    rw [eq_of_beq this]
    have h' : x.cps.toList.length ≤ k := by simp [Str.length] at h ⊢; omega
    rw [List.take_of_length_le h']
    have e : List.take x.cps.size x.cps.toList = x.cps.toList := List.take_of_length_le (by simp)
    simp [mkS, Str.length, e]
  · have := slice_closes_toL (x := x) (j := (k : Int)) (by omega) (by omega)
    rw [eq_of_beq this]
    simp [mkS]
theorem sl_ft (x : Str) {i j : Nat} (h1 : i ≤ j) (h2 : j ≤ x.length) : Txt.slice x (some (i : Int)) (some (j : Int)) = mkS ((x.cps.toList.drop i).take (j - i)) := by
  have := slice_closesL (x := x) (i := (i : Int)) (j := (j : Int)) (by omega) (by omega) (by omega)
  rw [eq_of_beq this]
  rw [show ((j : Int) - (i : Int)).toNat = j - i from by omega]
  rfl
section
variable {prog : Program} {w : World} {A : Around} {E : Value → Shared → Prop} {s : Shared} {b : Heap} {ω : OsState} {L a sa : Addr} {m mg mb : Str → Option Value} {ns : List (Addr × Obj)} {Q : Value → Shared → Prop} {x y : Str} {tx : Tok}
theorem parse_call (G : Gd w mg mb b) (H : At b ω L m ns s) (R : Rm A 3) (hz : y.length ≤ 100000)
    (h : ∀ X t s', At b ω L m (X ++ ns) s' → Q (.str (mkS (decL y.cps.toList)) t) s') : wpAny (model prog w) A (call (.ref 214) [.str (Str.ofString "257 \"" ++ y) tx]) Q E s := by
  have hL := H.F.above
  have hx0 : (Str.ofString "257 \"" ++ y).cps.toList = 50 :: 53 :: 55 :: 32 :: 34 :: y.cps.toList := by
    show ((Str.ofString "257 \"").cps ++ y.cps).toList = _
    rw [Array.toList_append, show (Str.ofString "257 \"").cps.toList = [50, 53, 55, 32, 34] from by decide +kernel]
    rfl
  have hxl : (Str.ofString "257 \"" ++ y).length = y.length + 5 := by
    have := congrArg List.length hx0
    simpa [Str.length] using this
  generalize hx : Str.ofString "257 \"" ++ y = x at hx0 hxl
  refine fn_call [("resp", .str x tx)] G H R (by k_is) (by k_is) (BindsTo.of_eq rfl) (locs rfl) (by decide) ?_
  clear H R
  intro L' oL s ho H R
  refine _root_.PySem.wpAt_of_wpAny ?_
  walk_at "w"
  refine c_slice_to H (by walk_at "mems") (by omega) ?_
  intro t1 s H
  walk_at "w"
  rw [show Txt.slice x none (some 3) = Str.ofString "257" from by rw [show (3 : Int) = ((3 : Nat) : Int) from rfl, sl_to, hx0]; show mkS [50, 53, 55] = _; decide +kernel, if_neg (by decide)]
  walk_at "w"
  refine c_slice_ft H (by walk_at "mems") (by omega) ?_
  intro t2 s H
  walk_at "w"
  rw [show Txt.slice x (some 3) (some 5) = Str.ofString " \"" from by rw [show (3 : Int) = ((3 : Nat) : Int) from rfl, show (5 : Int) = ((5 : Nat) : Int) from rfl, sl_ft x (by decide) (by omega), hx0]; show mkS [32, 34] = _; decide +kernel, if_neg (by decide)]
  walk_at "w"
  refine c_len H (by omega) ?_
  intro tn s H
  walk_at "w"
  generalize hns0 : (_ :: _ :: (L, oL) :: ns : List (Addr × Obj)) = ns0 at H
  refine while_it (fun k m ns' => ns' = ns0 ∧ ∃ (i : Nat) (d : Str) (ti td : Tok), k = x.length - i ∧ i ≤ x.length ∧ m "resp" = some (.str x tx) ∧ m "n" = some (.int x.length tn) ∧ m "i" = some (.int i ti) ∧ m "dirname" = some (.str d td) ∧
    d.length ≤ i ∧ decL y.cps.toList = d.cps.toList ++ decL (x.cps.toList.drop i)) (x.length - 5) ⟨rfl, 5, Str.ofString "", _, _, rfl, by omega, by walk_at "upl", by walk_at "upl", by walk_at "upl", by walk_at "upl", Nat.zero_le _, by rw [hx0]; rfl⟩ H ?_
  rintro k m ns' s ⟨rfl, i, d, ti, td, rfl, hi, m1, m2, m3, m4, hd, heq⟩ H
  walk_at "w"
  by_cases hlt : i < x.length
  · rw [if_pos (by simpa using hlt)]
    obtain ⟨c, hc⟩ : ∃ c, x.cps[i]? = some c := ⟨_, Array.getElem?_eq_getElem hlt⟩
    have hdrop := drop_cps hc
    rw [hdrop] at heq
    walk_at "w"
    refine str_item (c := c) H ?_ ?_ ?_
    · rw [Bool.or_eq_false_iff]; exact ⟨decide_eq_false (by omega), decide_eq_false (by omega)⟩
    · rw [seqIdx (by omega) (by omega), Int.toNat_natCast]; exact hc
    intro t5 s H
    walk_at "w"
    rw [show ((⟨#[c]⟩ : Str) == Str.ofString "\"") = (c == 34) from str1_beq c 34]
    by_cases hq : c = 34
    · rw [if_pos (by simpa using hq)]
      subst hq
      walk_at "w"
      have dbrk : ∀ {r : List Nat}, (∀ q, r ≠ 34 :: q) → decL (34 :: r) = [] := by
        intro r hr
        unfold decL
        rw [if_pos rfl]
        cases r with
        | nil => rfl
        | cons e q =>
          dsimp only
          rw [if_neg fun h => hr q (by rw [h])]
      by_cases hend : x.length ≤ i + 1
      · rw [if_pos (by simpa using (show (x.length : Int) ≤ i + 1 by omega))]
        walk_at "w"
        have e : x.cps.toList.drop (i + 1) = [] := List.drop_of_length_le (by simpa [Str.length] using hend)
        rw [dbrk (by rw [e]; intro q h; cases h), List.append_nil] at heq
        have e2 : d = mkS (decL y.cps.toList) := by rw [heq, mkS_self]
        subst hns0 e2
        exact h [_, _] td s (H.leave hL ho (by walk_at "drops"))
      · rw [if_neg (by simpa using (show ¬ (x.length : Int) ≤ i + 1 by omega))]
        obtain ⟨c2, hc2⟩ : ∃ c, x.cps[i + 1]? = some c := ⟨_, Array.getElem?_eq_getElem (show i + 1 < x.cps.size by have : ¬ x.cps.size ≤ i + 1 := hend; omega)⟩
        have hdrop2 := drop_cps hc2
        rw [hdrop2] at heq
        walk_at "w"
        refine str_item (c := c2) H ?_ ?_ ?_
        · rw [Bool.or_eq_false_iff]; exact ⟨decide_eq_false (by omega), decide_eq_false (by omega)⟩
        · rw [seqIdx (by omega) (by omega), show ((i : Int) + 1).toNat = i + 1 from by omega]; exact hc2
        intro t7 s H
        walk_at "w"
        rw [show ((⟨#[c2]⟩ : Str) != Str.ofString "\"") = !(c2 == 34) from congrArg (fun z => !z) (str1_beq c2 34)]
        by_cases hq2 : c2 = 34
        · subst hq2
          rw [if_neg (by decide)]
          walk_at "w"
          refine c_add H (by have : (⟨#[34]⟩ : Str).length = 1 := rfl; omega) ?_
          intro t8 s H
          walk_at "w"
          refine ⟨x.length - (i + 2), _, _, by omega, ⟨rfl, i + 2, _, _, _, rfl, by omega, by walk_at "upl", by walk_at "upl", by walk_at "upl", by walk_at "upl", ?_, ?_⟩, H⟩
          · rw [strLen_append]
            have : (⟨#[34]⟩ : Str).length = 1 := rfl
            omega
          · rw [heq]
            show _ = (d.cps ++ #[34]).toList ++ _
            rw [Array.toList_append, List.append_assoc]
            congr 1
        · rw [if_pos (by simpa using hq2)]
          walk_at "w"
          rw [dbrk (by intro q h; injection h with h1 h2; exact hq2 h1), List.append_nil] at heq
          have e2 : d = mkS (decL y.cps.toList) := by rw [heq, mkS_self]
          subst hns0 e2
          exact h [_, _] td s (H.leave hL ho (by walk_at "drops"))
    · rw [if_neg (by simpa using hq)]
      walk_at "w"
      refine c_add H (by have : (⟨#[c]⟩ : Str).length = 1 := rfl; omega) ?_
      intro t8 s H
      walk_at "w"
      refine ⟨x.length - (i + 1), _, _, by omega, ⟨rfl, i + 1, _, _, _, rfl, by omega, by walk_at "upl", by walk_at "upl", by walk_at "upl", by walk_at "upl", ?_, ?_⟩, H⟩
      · rw [strLen_append]
        have : (⟨#[c]⟩ : Str).length = 1 := rfl
        omega
      · rw [heq]
        show _ = (d.cps ++ #[c]).toList ++ _
        rw [Array.toList_append, List.append_assoc]
        congr 1
        conv => lhs; unfold decL
        simp [hq]
  · rw [if_neg (by simpa using hlt)]
    walk_at "w"
    have e : x.cps.toList.drop i = [] := List.drop_of_length_le (by have : x.cps.size ≤ i := Nat.le_of_not_lt hlt; simpa using this)
    rw [e] at heq
    have heq : decL y.cps.toList = d.cps.toList := by rw [heq]; simp [decL]
    have e2 : d = mkS (decL y.cps.toList) := by rw [heq, mkS_self]
    subst hns0 e2
    exact h [_, _] td s (H.leave hL ho (by walk_at "drops"))
end
end Mine
end
section
open PySem PySem.W PyProof.Rows PySem.Calls PySem.Spec
set_option Elab.async false
set_option maxRecDepth 100000
set_option maxHeartbeats 4000000
namespace Mine
example (P : Params) : PySem.Challenge.rw_pe0181_01 = PySem.Challenge.rw_pe0181_01 ∧ Mine.hd.heap_1 P = Mine.hd.heap_1 P := by
  k_fill
  exact ⟨rfl, rfl⟩
/-! the plain row, its runs of quotation marks counted -/
def readL (t p : Nat) : Nat → List Nat → List Nat
  | run, [] => List.replicate (run * t / p) 34
  | run, c :: cs => if c = 34 then readL t p (run + 1) cs else List.replicate (run * t / p) 34 ++ (if run * t % p ≠ 0 then [] else c :: readL t p 0 cs)
theorem foldl_reps (c : Nat) : ∀ (k : Nat) (acc : Array Nat), (List.replicate k #[c]).foldl (· ++ ·) acc = acc ++ (List.replicate k c).toArray
  | 0, acc => by simp
  | k + 1, acc => by
    rw [List.replicate_succ, List.foldl_cons, foldl_reps c k, List.replicate_succ]
    apply Array.ext'
    simp
theorem mul_one (c k : Nat) : Txt.mul (mkS [c]) (k : Int) = mkS (List.replicate k c) := by
  unfold Txt.mul
  by_cases h : k = 0
  · subst h; rfl
  rw [if_neg (by omega)]
  by_cases h1 : k = 1
  · subst h1; rfl
  rw [if_neg (by simp [mkS, Str.length]; omega)]
  show Str.mk ((List.replicate (Int.toNat (k : Int)) #[c]).foldl (· ++ ·) #[]) = _
  rw [Int.toNat_natCast, foldl_reps]
  simp [mkS]
theorem sl_but1 (x : Str) (h : 1 ≤ x.length) : Txt.slice x none (some (-1)) = mkS (x.cps.toList.take (x.length - 1)) := by
  rw [slice_to_neg (by decide), show max 0 ((x.length : Int) + -1) = ((x.length - 1 : Nat) : Int) from by omega, sl_to]
theorem natMul_ok {a b : Nat} (ha : a < 2 ^ 60) : IntMulOk (a : Int) (b : Int) := by
  exact IntMulOk.of_left (intBits_le_64 (by omega) (by omega))
section
variable {prog : Program} {w : World} {A : Around} {E : Value → Shared → Prop} {s : Shared} {b : Heap} {ω : OsState} {L a sa : Addr} {m mg mb : Str → Option Value} {ns : List (Addr × Obj)} {Q : Value → Shared → Prop} {x y : Str} {tx ut up' : Tok}
theorem fdiv_nat (a c : Nat) : Int.fdiv (a : Int) (c : Int) = ((a / c : Nat) : Int) := by
  rw [Int.fdiv_eq_ediv_of_nonneg _ (by omega)]; rfl
theorem fmod_nat (a c : Nat) : Int.fmod (a : Int) (c : Int) = ((a % c : Nat) : Int) := by
  rw [Int.fmod_eq_emod_of_nonneg _ (by omega)]; rfl
theorem read_call {T P : Nat} (G : Gd w mg mb b) (H : At b ω L m ns s) (R : Rm A 3) (hz : y.length ≤ 100) (ha : y.cps.all (· < 128) = true) (hT : 1 ≤ T ∧ T ≤ 8) (hP : 1 ≤ P ∧ P ≤ 8)
    (h : ∀ X t s', At b ω L m (X ++ ns) s' → Q (.str (mkS (readL T P 0 y.cps.toList)) t) s') : wpAny (model prog w) A (call (.ref 233) [.str y tx, .int T ut, .int P up']) Q E s := by
  have hL := H.F.above
  refine fn_call [("row", .str y tx), ("times", .int T ut), ("part", .int P up')] G H R (by k_is) (by k_is) (BindsTo.of_eq rfl) (locs rfl) (by decide) ?_
  clear H R
  intro L' oL s ho H R
  refine _root_.PySem.wpAt_of_wpAny ?_
  walk_at "w"
  refine wpAny_For ?_ (fun _ => rfl)
  walk_at "w"
  refine c_add H (by have : (Str.ofString " ").length = 1 := rfl; omega) ?_
  intro t1 s H
  have hx0 : (y ++ Str.ofString " ").cps.toList = y.cps.toList ++ [32] := by
    show (y.cps ++ (Str.ofString " ").cps).toList = _
    rw [Array.toList_append]; rfl
  have hxa : (y ++ Str.ofString " ").cps.all (· < 128) = true := by
    rw [← Array.all_toList, hx0, List.all_append, Array.all_toList, ha]; rfl
  have hxl : (y ++ Str.ofString " ").cps.size = y.length + 1 := by
    have := congrArg List.length hx0
    simpa [Str.length] using this
  generalize hx : y ++ Str.ofString " " = x at hx0 hxl hxa
  refine it_str H hxa ?_
  intro it oi s hoi H
  generalize hns0 : ((L, oL) :: ns : List (Addr × Obj)) = ns0 at H
  refine for_it (itr_str R.hd x _) (fun i m ns' => ns' = ns0 ∧ ∃ (run : Nat) (d : Str) (ti td : Tok), m "times" = some (.int T ut) ∧ m "part" = some (.int P up') ∧ m "run" = some (.int run ti) ∧ m "told" = some (.str d td) ∧
      d.length + T * run ≤ T * i + i ∧ run ≤ i ∧ (if i ≤ y.length then readL T P 0 y.cps.toList = d.cps.toList ++ readL T P run (y.cps.toList.drop i) else readL T P 0 y.cps.toList ++ [32] = d.cps.toList))
      (fun _ _ _ _ => trivial) ⟨rfl, 0, Str.ofString "", _, _, by walk_at "upl", by walk_at "upl", by walk_at "upl", by walk_at "upl", by simp; rfl, Nat.le_refl _, by rw [if_pos (Nat.zero_le _)]; rfl⟩ hoi H (fun _ _ _ _ _ _ _ _ hq => wpAny_pure hq) ?_ ?_
  · rintro i o v m ns' s hi ⟨c, tc, hc, rfl⟩ ⟨rfl, run, d, ti, td, m1, m2, m3, m4, hd, hr, heq⟩ H
    walk_at "w"
    have hcx : x.cps.toList[i]? = some c := by rw [Array.getElem?_toList]; exact hc
    rw [hx0] at hcx
    have hi' : i ≤ y.length := by omega
    rw [if_pos hi'] at heq
    have hcut : (i < y.length ∧ y.cps.toList.drop i = c :: y.cps.toList.drop (i + 1)) ∨ (i = y.length ∧ c = 32 ∧ y.cps.toList.drop i = []) := by
      by_cases hlt : i < y.length
      · refine .inl ⟨hlt, ?_⟩
        rw [List.getElem?_append_left (by simpa [Str.length] using hlt), Array.getElem?_toList] at hcx
        exact drop_cps hcx
      · have e : i = y.length := by omega
        subst e
        have e3 : y.cps.toList.length = y.length := by simp [Str.length]
        refine .inr ⟨rfl, ?_, List.drop_of_length_le (by omega)⟩
        rw [List.getElem?_append_right (by omega), e3, Nat.sub_self] at hcx
        exact (Option.some.inj hcx).symm
    rw [show ((⟨#[c]⟩ : Str) == Str.ofString "\"") = (c == 34) from str1_beq c 34]
    by_cases hq : c = 34
    · rw [if_pos (by simpa using hq)]
      walk_at "w"
      obtain ⟨hlt, hdr⟩ : i < y.length ∧ y.cps.toList.drop i = c :: y.cps.toList.drop (i + 1) := hcut.resolve_right fun z => by omega
      refine ⟨_, _, ⟨rfl, run + 1, d, _, td, by walk_at "upl", by walk_at "upl", by walk_at "upl", by walk_at "upl", ?_, by omega, ?_⟩, H⟩
      · rw [Nat.mul_succ, Nat.mul_succ]; omega
      · rw [if_pos (by omega), heq, hdr]
        conv => lhs; unfold readL
        rw [if_pos hq]
    · rw [if_neg (by simpa using hq)]
      walk_at "w"
      refine i_mul H (natMul_ok (by omega)) ?_
      intro t5 s H
      walk_at "w"
      refine i_div H (by omega) (PyProof.noPylong_small (by omega)) ?_
      intro t6 s H
      rw [show ((run : Int) * (T : Int)) = ((run * T : Nat) : Int) from by push_cast; rfl, fdiv_nat]
      have hk : run * T / P ≤ T * run := by rw [Nat.mul_comm]; exact Nat.div_le_self _ _
      have hT2 : T * run ≤ 8 * 101 := Nat.mul_le_mul hT.2 (by omega)
      have hT3 : T * i ≤ 8 * 101 := Nat.mul_le_mul hT.2 (by omega)
      generalize hkk : run * T / P = kk at hk H
      refine c_mulS H (by decide) (by omega) (by omega) ?_
      intro t7 s H
      rw [show Str.ofString "\"" = mkS [34] from rfl, mul_one]
      refine c_add H (by rw [mkS_len, List.length_replicate]; omega) ?_
      intro t8 s H
      walk_at "w"
      refine i_mul H (natMul_ok (by omega)) ?_
      intro t9 s H
      walk_at "w"
      refine i_mod H (by omega) ?_
      intro t10 s H
      rw [show ((run : Int) * (T : Int)) = ((run * T : Nat) : Int) from by push_cast; rfl, fmod_nat]
      walk_at "w"
      have hkk' : readL T P run (y.cps.toList.drop i) = List.replicate kk 34 ++ (match y.cps.toList.drop i with | [] => [] | c :: cs => if run * T % P ≠ 0 then [] else c :: readL T P 0 cs) := by
        rcases hcut with ⟨_, hdr⟩ | ⟨_, _, hdr⟩
        · rw [hdr]; conv => lhs; unfold readL
          rw [if_neg hq, hkk]
        · rw [hdr]; conv => lhs; unfold readL
          rw [hkk]; simp
      rw [hkk'] at heq
      by_cases hmod : run * T % P = 0
      · rw [if_neg (by rw [hmod]; decide)]
        walk_at "w"
        refine c_add H (by rw [strLen_append, mkS_len, List.length_replicate]; have : (⟨#[c]⟩ : Str).length = 1 := rfl; omega) ?_
        intro t11 s H
        walk_at "w"
        refine ⟨_, _, ⟨rfl, 0, _, _, _, by walk_at "upl", by walk_at "upl", by walk_at "upl", by walk_at "upl", ?_, by omega, ?_⟩, H⟩
        · rw [strLen_append, strLen_append, mkS_len, List.length_replicate, Nat.mul_succ]
          have : (⟨#[c]⟩ : Str).length = 1 := rfl
          omega
        · have e0 : (d ++ mkS (List.replicate kk 34) ++ ⟨#[c]⟩ : Str).cps.toList = d.cps.toList ++ (List.replicate kk 34 ++ [c]) := by
            show ((d.cps ++ (List.replicate kk 34).toArray) ++ #[c]).toList = _
            simp
          rw [e0]
          rcases hcut with ⟨hlt, hdr⟩ | ⟨he, hc32, hdr⟩
          · rw [if_pos (by omega), heq, hdr]
            simp [hmod]
          · rw [if_neg (by omega), heq, hdr, hc32]
            simp
      · rw [if_pos (by rw [bne_iff_ne]; exact fun e => hmod (by exact_mod_cast e))]
        walk_at "w"
        have e3 : readL T P 0 y.cps.toList = d.cps.toList ++ List.replicate kk 34 := by
          rw [heq]
          rcases hcut with ⟨hlt, hdr⟩ | ⟨he, hc32, hdr⟩
          · rw [hdr]; simp [hmod]
          · rw [hdr]; simp
        have e4 : d ++ mkS (List.replicate kk 34) = mkS (readL T P 0 y.cps.toList) := by
          rw [e3, ← mkS_app, mkS_self]
        rw [e4]
        subst hns0
        exact h [_] _ s (H.leave hL ho (by walk_at "drops"))
  · rintro m ns' s ⟨rfl, run, d, ti, td, m1, m2, m3, m4, hd, hr, heq⟩ H
    rw [if_neg (by omega)] at heq
    walk_at "w"
    refine PyProof.Rows.neg_int ?_
    replace H := H.toks (Nat.le_succ _)
    walk_at "w"
    have hdl : d.length = (readL T P 0 y.cps.toList).length + 1 := by
      have := congrArg List.length heq
      simpa [Str.length] using this.symm
    have hT3 : T * x.cps.size ≤ 8 * 101 := Nat.mul_le_mul hT.2 (by omega)
    refine c_slice_to H (by walk_at "mems") (by omega) ?_
    intro t12 s H
    walk_at "w"
    rw [sl_but1 d (by omega), ← heq, hdl, Nat.add_sub_cancel, List.take_left]
    subst hns0
    exact h [_] _ s (H.leave hL ho (by walk_at "drops"))
end
end Mine
end
section
open PySem PySem.W PyProof.Rows PySem.Calls PySem.Spec
set_option Elab.async false
set_option maxRecDepth 100000
set_option maxHeartbeats 4000000
namespace Mine
example (P : Params) : PySem.Challenge.rw_pe0181_01 = PySem.Challenge.rw_pe0181_01 ∧ Mine.hd.heap_1 P = Mine.hd.heap_1 P := by
  k_fill
  exact ⟨rfl, rfl⟩
/-! the pieces -/
def leadS (r : Nat) : Str := if r = 0 then Str.ofString "" else if r = 1 then Str.ofString " " else if r = 2 then Str.ofString "\t " else Str.ofString "  "
def sgn (k j : Nat) : Nat := if k / 16 / 3 ^ j % 3 = 0 then 97 else if k / 16 / 3 ^ j % 3 = 1 then 34 else 59
def wordL (k : Nat) : List Nat := (List.range (1 + k / 4 % 4)).map (sgn k)
def pieceOf (k : Nat) : Str × Str := (leadS (k % 4), mkS (wordL k))
def piecesOf (ks : List Nat) : List (Str × Str) := (Str.ofString "", Str.ofString "a\"") :: ks.map pieceOf ++ [(Str.ofString " ", Str.ofString "b"), (Str.ofString "", Str.ofString "\"\"c;"), (Str.ofString "\t", Str.ofString "d\"e")]
section
variable {prog : Program} {w : World} {A : Around} {E : Value → Shared → Prop} {s : Shared} {b : Heap} {ω : OsState} {L a c sa : Addr} {m mg mb : Str → Option Value} {ns : List (Addr × Obj)} {Q : Value → Shared → Prop} {x y : Str} {tx ut up' : Tok} {items vs ws : List Value} {n n2 : Nat} {ks : List Nat}
theorem c_addL (H : At b ω L m ns s) (h1 : (a, lstO vs n) ∈ ns) (h2 : (c, lstO ws n2) ∈ ns) (hz : vs.length + ws.length ≤ 1000) (h : ∀ la s', At b ω L m ((la, lstO (vs ++ ws) 0) :: ns) s' → Q (.ref la) s') :
    wpAny (model prog w) A (binaryOp .Add (.ref a) (.ref c)) Q E s := by
  refine P.add_list (H.get h1) (H.get h2) ?_ (by rw [List.size_toArray, List.size_toArray, sizeLine_eq]; omega)
  rw [List.append_toArray]
  exact h _ _ (H.push (lstO (vs ++ ws) 0) (Nat.le_refl _))
theorem intsAre_get : ∀ {vs : List Value} {ns : List Int}, IntsAre vs ns → ∀ {i : Nat} {v : Value}, vs[i]? = some v → ∃ k t, ns[i]? = some k ∧ v = .int k t
  | _, _, .nil, i, v, h => by cases h
  | _, _, .cons k t r, 0, v, h => by cases h; exact ⟨k, t, rfl, rfl⟩
  | _, _, .cons k t r, i + 1, v, h => intsAre_get r (i := i) h
theorem At.front1 {p1 : Addr × Obj} {T : List (Addr × Obj)} (X : List (Addr × Obj)) (H : At b ω L m (X ++ p1 :: T) s) : At b ω L m (p1 :: (X ++ T)) s :=
  H.perm List.perm_middle
theorem At.front2 {p1 p2 : Addr × Obj} {T : List (Addr × Obj)} (X : List (Addr × Obj)) (H : At b ω L m (X ++ p1 :: p2 :: T) s) : At b ω L m (p1 :: p2 :: (X ++ T)) s :=
  H.perm (List.perm_append_comm_assoc X [p1, p2] T)
theorem At.front3 {p1 p2 p3 : Addr × Obj} {T : List (Addr × Obj)} (X : List (Addr × Obj)) (H : At b ω L m (X ++ p1 :: p2 :: p3 :: T) s) : At b ω L m (p1 :: p2 :: p3 :: (X ++ T)) s :=
  H.perm (List.perm_append_comm_assoc X [p1, p2, p3] T)
theorem c_pow {z k : Int} (H : At b ω L m ns s) (h0 : 0 ≤ k) (h1 : k ≤ 1000000) (hz : z.natAbs < 2 ^ 64) (h : ∀ t s', At b ω L m ns s' → Q (.int (z ^ k.toNat) t) s') : wpAny (model prog w) A (binaryOp .Pow (.int z tx) (.int k ut)) Q E s :=
  PyProof.Rows.pow_int_small h0 h1 hz (h _ _ (H.toks (Nat.le_succ _)))
theorem lead_at {t0 t1 t2 t3 : Tok} {r : Nat} (h : r < 4) : ∃ t, ([.str (Str.ofString "") t0, .str (Str.ofString " ") t1, .str (Str.ofString "\t ") t2, .str (Str.ofString "  ") t3] : List Value)[((r : Nat) : Int).toNat]? = some (.str (leadS r) t) := by
  rcases r with _ | _ | _ | _ | r
  · exact ⟨_, rfl⟩
  · exact ⟨_, rfl⟩
  · exact ⟨_, rfl⟩
  · exact ⟨_, rfl⟩
  · omega
theorem sgn_at (k j : Nat) : (seqIndex? (((k / 16 / 3 ^ j % 3 : Nat) : Int)) (Str.ofString "a\";").length).bind ((Str.ofString "a\";").cps[·]?) = some (sgn k j) := by
  have h : k / 16 / 3 ^ j % 3 < 3 := Nat.mod_lt _ (by decide)
  unfold sgn
  generalize k / 16 / 3 ^ j % 3 = r at h
  rcases r with _ | _ | _ | r
  · decide +kernel
  · decide +kernel
  · decide +kernel
  · omega
theorem Parts.three {Y Z : List (Addr × Obj)} {qs : List (Str × Str)} {p1 p2 p3 : Str × Str} {a1 a2 a3 : Addr} {t1 u1 t2 u2 t3 u3 : Tok} (hp : Parts Y items qs) (h1 : (a1, tupO [.str p1.1 t1, .str p1.2 u1]) ∈ Z) (h2 : (a2, tupO [.str p2.1 t2, .str p2.2 u2]) ∈ Z) (h3 : (a3, tupO [.str p3.1 t3, .str p3.2 u3]) ∈ Z)
    (hs : ∀ p ∈ Y, p ∈ Z) : Parts Z (items ++ [.ref a1, .ref a2, .ref a3]) (qs ++ [p1, p2, p3]) := by
  have := (((hp.mono hs).snoc h1).snoc h2).snoc h3
  simpa using this
theorem pieces_call (G : Gd w mg mb b) (H : At b ω L m ns s) (R : Rm A 3) (hm : (a, lstO vs n) ∈ ns) (hi_ : IntsAre vs (ks.map fun k : Nat => (k : Int))) (hk : ∀ k ∈ ks, k < 1000000) (hn : ks.length ≤ 6)
    (h : ∀ X rl items n s', At b ω L m (X ++ ns) s' → (rl, lstO items n) ∈ X → Parts X items (piecesOf ks) → Q (.ref rl) s') : wpAny (model prog w) A (call (.ref 221) [.ref a]) Q E s := by
  have hL := H.F.above
  refine fn_call [("numbers", .ref a)] G H R (by k_is) (by k_is) (BindsTo.of_eq rfl) (locs rfl) (by decide) ?_
  clear H R
  intro L' oL s ho H R
  refine _root_.PySem.wpAt_of_wpAny ?_
  walk_at "w"
  refine wpAny_For ?_ (fun _ => rfl)
  walk_at "w"
  refine it_list H (.tail _ (.tail _ (.tail _ hm))) ?_
  intro it oi s hoi H
  refine for_it (itr_list (l := a) R.hd vs) (fun i m ns' => ∃ Y items n, ns' = (la, lstO items n) :: (Y ++ (L, oL) :: ns) ∧ m "pieces" = some (.ref la) ∧ Parts Y items ((Str.ofString "", Str.ofString "a\"") :: (ks.take i).map pieceOf))
    ?_ ⟨[_], _, 0, rfl, by walk_at "upl", rfl, ?_⟩ hoi H (fun _ _ _ _ _ _ _ _ hq => wpAny_pure hq) ?_ ?_
  · rintro i m ns' ⟨Y, items, n', rfl, _⟩
    exact ⟨n, .tail _ (List.mem_append.mpr (.inr (.tail _ hm)))⟩
  · intro j p hp
    rcases j with _ | j
    · cases hp; exact ⟨ta, _, _, rfl, .head _⟩
    · simp at hp
  · rintro i o v m ns' s hi hv ⟨Y, items, n', rfl, m1, hp⟩ H
    obtain ⟨kz, tk, hkz, rfl⟩ := intsAre_get hi_ hv
    rw [List.getElem?_map] at hkz
    obtain ⟨k, hk1, rfl⟩ := Option.map_eq_some_iff.mp hkz
    have hkl := hk k (List.mem_of_getElem? hk1)
    walk_at "w"
    refine wpAny_For ?_ (fun _ => rfl)
    walk_at "w"
    refine i_div H (by decide) (PyProof.noPylong_small (by decide)) ?_
    intro t1 s H
    walk_at "w"
    refine i_mod H (by decide) ?_
    intro t2 s H
    rw [show Int.fdiv (k : Int) 4 = ((k / 4 : Nat) : Int) from fdiv_nat k 4, show Int.fmod ((k / 4 : Nat) : Int) 4 = ((k / 4 % 4 : Nat) : Int) from fmod_nat (k / 4) 4]
    walk_at "w"
    refine mk_range1 H ?_
    intro r r1 r2 r3 s H
    generalize hN : 1 + k / 4 % 4 = N
    have hN4 : N ≤ 4 := by have := Nat.mod_lt (k / 4) (show 0 < 4 by decide); omega
    rw [show (1 : Int) + ((k / 4 % 4 : Nat) : Int) = (N : Int) from by rw [← hN]; push_cast; rfl] at H
    refine it_range (N := N) H (by walk_at "mems") (small_one (by decide) (by decide) (by omega) (by omega)) (by rw [rangeSize_nat]; congr 1) ?_
    intro it2 o2 s ho2 H
    refine for_it (itr_range R.hd 0 1 N) (fun j m' ns' => ns' = ((r, rngO 0 (N : Int) 1 r1 r2 r3) :: (it, o) :: (la, lstO items n') :: (Y ++ (L, oL) :: ns)) ∧ m' "pieces" = some (.ref la) ∧ (∃ t, m' "x" = some (.int k t)) ∧ ∃ t, m' "word" = some (.str (mkS ((List.range j).map (sgn k))) t))
      (fun _ _ _ _ => trivial) ⟨rfl, by walk_at "upl", ⟨_, by walk_at "upl"⟩, ⟨_, by walk_at "upl"⟩⟩ ho2 H (fun _ _ _ _ _ _ _ _ hq => wpAny_pure hq) ?_ ?_
    · rintro j oj v m2 ns' s hj ⟨tj, rfl⟩ ⟨rfl, q1, ⟨tx, q2⟩, ⟨tw, q3⟩⟩ H
      rw [show (0 : Int) + (j : Int) * 1 = (j : Int) from by omega]
      walk_at "w"
      refine i_div H (by decide) (PyProof.noPylong_small (by decide)) ?_
      intro t3 s H
      rw [show Int.fdiv (k : Int) 16 = ((k / 16 : Nat) : Int) from fdiv_nat k 16]
      walk_at "w"
      refine c_pow H (by omega) (by omega) (by decide) ?_
      intro t4 s H
      rw [Int.toNat_natCast, show (3 : Int) ^ j = ((3 ^ j : Nat) : Int) from by push_cast; rfl]
      have h3 : 3 ^ j ≤ 81 := Nat.le_trans (Nat.pow_le_pow_right (by decide) (show j ≤ 4 by omega)) (by decide)
      have h3' : 0 < 3 ^ j := Nat.pow_pos (by decide)
      refine i_div H (by omega) (PyProof.noPylong_small (by omega)) ?_
      intro t5 s H
      rw [fdiv_nat]
      walk_at "w"
      refine i_mod H (by decide) ?_
      intro t6 s H
      rw [show Int.fmod ((k / 16 / 3 ^ j : Nat) : Int) 3 = ((k / 16 / 3 ^ j % 3 : Nat) : Int) from fmod_nat _ 3]
      have h3'' : k / 16 / 3 ^ j % 3 < 3 := Nat.mod_lt _ (by decide)
      refine str_item H ?_ (sgn_at k j) ?_
      · rw [Bool.or_eq_false_iff]; exact ⟨decide_eq_false (by omega), decide_eq_false (by omega)⟩
      intro t7 s H
      refine c_add H (by rw [mkS_len, List.length_map, List.length_range]; have : (⟨#[sgn k j]⟩ : Str).length = 1 := rfl; omega) ?_
      intro t8 s H
      walk_at "w"
      refine ⟨_, _, ⟨rfl, by walk_at "upl", ⟨_, by walk_at "upl"⟩, ?_⟩, H⟩
      have e : mkS ((List.range (j + 1)).map (sgn k)) = mkS ((List.range j).map (sgn k)) ++ ⟨#[sgn k j]⟩ := by
        rw [List.range_succ, List.map_append, ← mkS_app]; rfl
      exact ⟨t8, by rw [e]; walk_at "upl"⟩
    · rintro m2 ns' s ⟨rfl, q1, ⟨tx, q2⟩, ⟨tw, q3⟩⟩ H
      have e : mkS ((List.range N).map (sgn k)) = (pieceOf k).2 := by rw [← hN]; rfl
      rw [e] at q3
      walk_at "w"
      refine i_mod H (by decide) ?_
      intro t9 s H
      rw [show Int.fmod (k : Int) 4 = ((k % 4 : Nat) : Int) from fmod_nat k 4]
      have h4 : k % 4 < 4 := Nat.mod_lt _ (by decide)
      obtain ⟨t10, hl⟩ := lead_at h4
      refine tup_item H (by walk_at "mems") (by omega) (by omega) hl ?_
      walk_at "w"
      refine lst_append H (by walk_at "puts") ?_ ?_
      · rw [hp.len, List.length_cons, List.length_map, List.length_take]; omega
      intro s H
      walk_at "w"
      refine ⟨_, _, ⟨_ :: _ :: _ :: Y, _, _, rfl, q1, ?_⟩, At.front2 [_, _, _] H⟩
      have e2 : (ks.take (i + 1)).map pieceOf = (ks.take i).map pieceOf ++ [(leadS (k % 4), (pieceOf k).2)] := by
        rw [List.take_add_one, List.map_append, hk1]; rfl
      rw [e2, ← List.cons_append]
      exact (hp.mono fun _ q => .tail _ (.tail _ (.tail _ q))).snoc (p := (leadS (k % 4), (pieceOf k).2)) (.head _)
  · rintro m ns' s ⟨Y, items, n', rfl, m1, hp⟩ H
    walk_at "w"
    have e1 : ks.take vs.length = ks := List.take_of_length_le (by have := hi_.length; rw [List.length_map] at this; omega)
    rw [e1] at hp
    refine c_addL H (by walk_at "mems") (by walk_at "mems") ?_ ?_
    · rw [hp.len]; simp; omega
    intro lb s H
    have H' := H.leave hL ho (.keep (.keep (.keep (.keep (.keep (.keep (Drop.mid Y)))))))
    walk_at "w"
    refine h (_ :: _ :: _ :: _ :: _ :: _ :: Y) _ _ _ s H' (.head _) ?_
    refine Parts.three (p1 := (Str.ofString " ", Str.ofString "b")) (p2 := (Str.ofString "", Str.ofString "\"\"c;")) (p3 := (Str.ofString "\t", Str.ofString "d\"e")) hp (by walk_at "mems") (by walk_at "mems") (by walk_at "mems") ?_
    intro p q
    repeat (first | exact q | refine List.Mem.tail _ ?_)
end
end Mine
end
section
open PySem PySem.W PyProof.Rows PySem.Calls PySem.Spec
set_option Elab.async false
set_option maxRecDepth 100000
set_option maxHeartbeats 4000000
namespace Mine
/-! a comprehension with two for's, a test behind the second -/
section
variable {prog : Program} {w : World} {A : Around} {E : Value → Shared → Prop} {s : Shared} {b : Heap} {ω : OsState} {L C D it it1 l r a : Addr} {m mC : Str → Option Value} {ns : List (Addr × Obj)} {o oL : Obj} {env cenv : Env} {N : Nat} {V : Nat → Value → Prop} {It : Nat → Obj → Prop} {need : List (Addr × Obj) → Prop} {Q : Value → Shared → Prop} {R : Result → Shared → Prop}
  {elt t0 t1 i0 i1 c1 : Expr} {scope : Scope} {pos : Pos} {itv acc : Value}
theorem turn_outer : compTurn (.ListComp elt [⟨t0, i0, [], 0⟩, ⟨t1, i1, [c1], 0⟩] scope pos) 0 itv acc cenv = (standAt i0.pos >>= fun _ => pyNext itv >>= fun r => match r with
      | none => pure (.done .next)
      | some v => letOwnedTupleGo t0 itv v >>= fun _ => assign t0 cenv v >>= fun _ => eval i1 cenv >>= fun x => standAt i1.pos >>= fun _ => foldedSetIterable i1 cenv x >>= fun x =>
          holding [x] (pyIter x) >>= fun it1 => runOwn (.compStart (.ListComp elt [⟨t0, i0, [], 0⟩, ⟨t1, i1, [c1], 0⟩] scope pos) 1 it1 acc cenv) cenv >>= fun _ =>
          again (.compLoop (.ListComp elt [⟨t0, i0, [], 0⟩, ⟨t1, i1, [c1], 0⟩] scope pos) 0 itv acc cenv)) := by rfl
theorem turn_inner : compTurn (.ListComp elt [⟨t0, i0, [], 0⟩, ⟨t1, i1, [c1], 0⟩] scope pos) 1 itv acc cenv = (do
      standAt i1.pos
      match ← pyNext itv with
      | none => pure (.done .next)
      | some v =>
        letOwnedTupleGo t1 itv v
        assign t1 cenv v
        let mut ok := true
        for c in [c1] do
          if ok then ok ← isTrue c cenv (eval c cenv)
        if ok then
          (do let _ ← call (.builtin "list.append") [acc, ← eval elt cenv])
        again (.compLoop (.ListComp elt [⟨t0, i0, [], 0⟩, ⟨t1, i1, [c1], 0⟩] scope pos) 1 itv acc cenv)) := by rfl
theorem comp_in (S : Itr prog w A b ω C it1 N V It need) (J : Nat → (Str → Option Value) → List Value → List (Addr × Obj) → Prop) (hn : ∀ i m vs ns p, J i m vs ns → need (p :: ns))
    {vs : List Value} {n : Nat} (h0 : J 0 m vs ns) (ho : It 0 o) (H : At b ω C m ((it1, o) :: (D, lstO vs n) :: ns) s) (hlen : ∀ i m vs ns, J i m vs ns → vs.length ≤ 1000)
    (self : ∀ o s (Q : Value → Shared → Prop) (E : Value → Shared → Prop), It 0 o → s.heap.get? it1 = some o → Q (.ref it1) s → wpAny (model prog w) A (pyIter (.ref it1)) Q E s)
    (go : ∀ v, letOwnedTupleGo t1 (.ref it1) v = pure ())
    (step : ∀ i o v m n vs ns s, i < N → V i v → J i m vs ns → At b ω C m ((it1, o) :: (D, lstO vs n) :: ns) s → wpAny (model prog w) A (assign t1 cenv v) (fun _ s₂ => wpAny (model prog w) A (isTrue c1 cenv (eval c1 cenv)) (fun ok s₃ =>
      if ok = true then wpAny (model prog w) A (eval elt cenv) (fun y s₄ => ∃ m' ns', J (i + 1) m' (vs ++ [y]) ns' ∧ At b ω C m' ((it1, o) :: (D, lstO vs n) :: ns') s₄) NoE s₃
      else ∃ m' ns', J (i + 1) m' vs ns' ∧ At b ω C m' ((it1, o) :: (D, lstO vs n) :: ns') s₃) NoE s₂) NoE s)
    (fin : ∀ m n vs ns s, J N m vs ns → At b ω C m ((D, lstO vs n) :: ns) s → R (.ok .next) s) :
    codeAny (model prog w) A (.compStart (.ListComp elt [⟨t0, i0, [], 0⟩, ⟨t1, i1, [c1], 0⟩] scope pos) 1 (.ref it1) (.ref D) cenv) R s := by
  have loop : codeAny (model prog w) A (.compLoop (.ListComp elt [⟨t0, i0, [], 0⟩, ⟨t1, i1, [c1], 0⟩] scope pos) 1 (.ref it1) (.ref D) cenv) R s := by
    refine codeAny_loop rfl (fun k s' => ∃ i o m vs ns n, i ≤ N ∧ k = N - i ∧ It i o ∧ J i m vs ns ∧ At b ω C m ((it1, o) :: (D, lstO vs n) :: ns) s') (fun k s hI => ?_) N ⟨0, o, m, vs, ns, n, Nat.zero_le _, rfl, ho, h0, H⟩
    obtain ⟨i, o, m, vs, ns, n, hi, rfl, ho, hJ, H⟩ := hI
    show wpAny _ A ((compTurn (.ListComp elt [⟨t0, i0, [], 0⟩, ⟨t1, i1, [c1], 0⟩] scope pos) 1 (.ref it1) (.ref D) cenv).onRaise (fun x => do noteFrame x cenv; theTreesLotGoes x)) _ _ s
    refine wpAny_noted ?_
    rw [turn_inner]
    rcases Nat.lt_or_ge i N with hlt | hge
    · refine wpAny_bind (wpAny_standAt (wpAny_bind (S.next i o m _ s _ _ hlt ho (hn _ _ _ _ _ hJ) H fun v o' s' hv ho' H' => ?_)))
      refine wpAny_bind (wpAny_of_eq (go v) (wpAny_bind (wpAny_mono (step i o' v m n vs ns s' hlt hv hJ H') (fun _ s₂ h₂ => ?_) fun _ _ e => e.elim)))
      refine wpAny_bind (wpAny_tests_one (wpAny_mono h₂ (fun ok s₃ h₃ => ?_) fun _ _ e => e.elim))
      cases ok with
      | true =>
        rw [if_pos rfl] at h₃
        refine wpAny_bind (wpAny_bind (wpAny_mono h₃ (fun y s₄ h₄ => ?_) fun _ _ e => e.elim))
        obtain ⟨m', ns', hJ', H''⟩ := h₄
        refine wpAny_bind (lst_push H'' (.tail .head) (hlen _ _ _ _ hJ) fun s₅ H₅ => wpAny_pure ?_)
        exact wpAny_pure ⟨rfl, N - (i + 1), by omega, i + 1, o', m', _, ns', n + 1, hlt, rfl, ho', hJ', H₅⟩
      | false =>
        rw [if_neg (by decide)] at h₃
        obtain ⟨m', ns', hJ', H''⟩ := h₃
        exact wpAny_pure ⟨rfl, N - (i + 1), by omega, i + 1, o', m', _, ns', n, hlt, rfl, ho', hJ', H''⟩
    · obtain rfl : i = N := by omega
      refine wpAny_bind (wpAny_standAt (wpAny_bind (S.done o m _ s _ _ ho (hn _ _ _ _ _ hJ) H fun s' H' => ?_)))
      exact wpAny_pure (fin m n vs ns s' hJ H')
  refine codeAny_of_tree ?_
  show wpAny _ _ ((compStart (.ListComp elt [⟨t0, i0, [], 0⟩, ⟨t1, i1, [c1], 0⟩] scope pos) 1 (.ref it1) (.ref D) cenv).onRaise (fun x => do noteFrame x cenv; standAt theWindowsPlace)) _ _ s
  refine wpAny_notedAt ?_
  unfold compStart
  show wpAny _ _ (ask >>= _) _ _ s
  refine wpAny_bind (wpAny_askSetting (wpAny_ite ?_))
  split
  · first
      | exact wpAny_bind (wpAny_pure (wpAny_pure (And.intro rfl loop)))
      | exact wpAny_pure (And.intro rfl loop)
  · have h := self o s (fun it' s' => it' = .ref it1 ∧ s' = s) (notedBy (model prog w) A cenv fun x s' => R (.error x) s') ho (H.get (.head _)) ⟨rfl, rfl⟩
    have h' := wpAny_mono (Q' := fun it' s' => codeAny (model prog w) A (.compLoop (.ListComp elt [⟨t0, i0, [], 0⟩, ⟨t1, i1, [c1], 0⟩] scope pos) 1 it' (.ref D) cenv) R s') h (fun it' s' e => by obtain ⟨rfl, rfl⟩ := e; exact loop) fun _ _ e => e
    first
      | exact wpAny_bind (wpAny_rule (wpAny_bind (wpAny_standAt (wpAny_bind (wpAny_mono h' (fun it' s' h' => wpAny_pure (And.intro rfl h')) fun _ _ x => x)))))
      | (refine wpAny_bind (wpAny_rule ?_); show wpAny _ _ (standAt i1.pos >>= _) _ _ s; exact wpAny_bind (wpAny_standAt (wpAny_bind (wpAny_mono h' (fun it' s' h' => wpAny_pure (And.intro rfl h')) fun _ _ x => x))))

def InOk (prog : Program) (w : World) (A : Around) (b : Heap) (ω : OsState) (C D it L : Addr) (o oL : Obj) (J : List Value → List (Addr × Obj) → Prop) (e : Expr) (cenv : Env) (itv : Value) (s : Shared) : Prop :=
  codeAny (model prog w) A (.compStart e 1 itv (.ref D) cenv) (fun r s' => match r with
    | .ok _ => ∃ m'' vs' ns' n', J vs' ns' ∧ At b ω C m'' ((it, o) :: (D, lstO vs' n') :: (L, oL) :: ns') s'
    | .error _ => False) s
theorem comp_go2 {cl : List (Str × Addr)} {RR : Value → Addr → Result → Shared → Prop} (S : ∀ C, Itr prog w A b ω C it N V It need)
    (J : Nat → List Value → List (Addr × Obj) → Prop) (hn : ∀ i vs ns p q, J i vs ns → need (p :: q :: ns)) (h0 : J 0 [] ns) (ho : It 0 o) (H : At b ω env.locals m ((it, o) :: ns) s)
    (self : ∀ o s (Q : Value → Shared → Prop) (E : Value → Shared → Prop), It 0 o → s.heap.get? it = some o → Q (.ref it) s → wpAny (model prog w) A (pyIter (.ref it)) Q E s)
    (go : ∀ v, letOwnedTupleGo t0 (.ref it) v = pure ()) (hs : ∀ C x, foldedSetIterable i1 (compEnvC scope cl C env) x = pure x)
    (hcell : ∀ y ∈ scope.names, y.2 ≠ .cell) (hkind : scope.kind = .function)
    (step : ∀ C D i o v m' ns oL n vs s, i < N → V i v → J i vs ns → NsO oL m → At b ω C m' ((it, o) :: (D, lstO vs n) :: (env.locals, oL) :: ns) s → wpAny (model prog w) A (assign t0 (compEnvC scope cl C env) v) (fun _ s₂ =>
      wpAny (model prog w) A (eval i1 (compEnvC scope cl C env)) (fun x s₃ => wpAny (model prog w) A (pyIter x) (fun itv s₄ =>
        InOk prog w A b ω C D it env.locals o oL (J (i + 1)) (.ListComp elt [⟨t0, i0, [], 0⟩, ⟨t1, i1, [c1], 0⟩] scope pos) (compEnvC scope cl C env) itv s₄) NoE s₃) NoE s₂) NoE s)
    (fin : ∀ C D m' ns oL n vs s, J N vs ns → NsO oL m → At b ω C m' ((env.locals, oL) :: (D, lstO vs n) :: ns) s → RR (.ref D) C (.ok .next) s) :
    CompGo prog w A E (.ListComp elt [⟨t0, i0, [], 0⟩, ⟨t1, i1, [c1], 0⟩] scope pos) scope cl env RR (.ref it) s := by
  unfold CompGo
  refine wpAny_newObj_type ?_
  have H₁ := H.push (lstO [] 0) (Nat.le_refl _)
  generalize hD : s.heap.objs.size = D at H₁ ⊢
  generalize hs₁ : ({ s with heap := s.heap.push (lstO [] 0), toks := s.toks } : Shared) = s₁ at H₁
  refine wpAny_newFunctionEnv hcell (by intro y hy; cases hy) (fun h' hns hsb => ?_) hkind
  obtain ⟨oL, hoL, H₂⟩ := H₁.enter (t := s₁.toks + 0) hns (fun c o e => hsb.extBut c o (Nat.ne_of_lt (Heap.lt_size e)) (Heap.get?_push_of_some _ e)) (Nat.le_add_right _ _)
  have H₃ := H₂.perm (ns' := (it, o) :: (D, lstO [] 0) :: (env.locals, oL) :: ns) (by
    refine (List.perm_middle (l₁ := [(env.locals, oL), (D, lstO [] 0)]) (l₂ := ns) (a := (it, o))).trans (.cons _ (List.Perm.swap _ _ _)))
  generalize s₁.heap.objs.size = C at H₃ ⊢
  show codeAny (model prog w) A (.compStart (.ListComp elt [⟨t0, i0, [], 0⟩, ⟨t1, i1, [c1], 0⟩] scope pos) 0 (.ref it) (.ref D) (compEnvC scope cl C env)) (RR (.ref D) C) _
  generalize ({ s₁ with heap := h', toks := s₁.toks + ([] : List (Str × Value)).length } : Shared) = s₂ at H₃ ⊢
  have loop : codeAny (model prog w) A (.compLoop (.ListComp elt [⟨t0, i0, [], 0⟩, ⟨t1, i1, [c1], 0⟩] scope pos) 0 (.ref it) (.ref D) (compEnvC scope cl C env)) (RR (.ref D) C) s₂ := by
    refine codeAny_loop rfl (fun k s' => ∃ i o vs m' ns n, i ≤ N ∧ k = N - i ∧ It i o ∧ J i vs ns ∧ At b ω C m' ((it, o) :: (D, lstO vs n) :: (env.locals, oL) :: ns) s') (fun k s hI => ?_) N ⟨0, o, [], _, ns, 0, Nat.zero_le _, rfl, ho, h0, H₃⟩
    obtain ⟨i, o, vs, m', ns, n, hi, rfl, ho, hJ, H⟩ := hI
    show wpAny _ A ((compTurn (.ListComp elt [⟨t0, i0, [], 0⟩, ⟨t1, i1, [c1], 0⟩] scope pos) 0 (.ref it) (.ref D) (compEnvC scope cl C env)).onRaise (fun x => do noteFrame x (compEnvC scope cl C env); theTreesLotGoes x)) _ _ s
    refine wpAny_noted ?_
    rw [turn_outer]
    rcases Nat.lt_or_ge i N with hlt | hge
    · refine wpAny_bind (wpAny_standAt (wpAny_bind ((S C).next i o m' _ s _ _ hlt ho (hn _ _ _ _ _ hJ) H fun v o' s' hv ho' H' => ?_)))
      refine wpAny_bind (wpAny_of_eq (go v) (wpAny_bind (wpAny_mono (step C D i o' v m' ns oL n vs s' hlt hv hJ hoL H') (fun _ s₂ h₂ => ?_) fun _ _ e => e.elim)))
      refine wpAny_bind (wpAny_mono h₂ (fun x s₃ h₃ => ?_) fun _ _ e => e.elim)
      refine wpAny_bind (wpAny_standAt (wpAny_bind (wpAny_of_eq (hs C x) (wpAny_bind (wpAny_holding (wpAny_mono h₃ (fun itv s₄ h₄ => ?_) fun _ _ e => e.elim))))))
      refine wpAny_bind (wpAny_runOwn (codeAny_mono h₄ fun r s₅ h₅ => ?_))
      cases r with
      | ok f =>
        obtain ⟨m'', vs', ns', n', hJ', H''⟩ := h₅
        exact wpAny_pure ⟨rfl, N - (i + 1), by omega, i + 1, o', vs', m'', ns', n', hlt, rfl, ho', hJ', H''⟩
      | error e => exact h₅.elim
    · obtain rfl : i = N := by omega
      refine wpAny_bind (wpAny_standAt (wpAny_bind ((S C).done o m' _ s _ _ ho (hn _ _ _ _ _ hJ) H fun s' H' => ?_)))
      exact wpAny_pure (fin C D m' ns oL n vs s' hJ hoL (H'.perm (List.Perm.swap _ _ _)))
  refine codeAny_of_tree ?_
  show wpAny _ _ ((compStart (.ListComp elt [⟨t0, i0, [], 0⟩, ⟨t1, i1, [c1], 0⟩] scope pos) 0 (.ref it) (.ref D) (compEnvC scope cl C env)).onRaise (fun x => do noteFrame x (compEnvC scope cl C env); standAt theWindowsPlace)) _ _ s₂
  refine wpAny_notedAt ?_
  unfold compStart
  show wpAny _ _ (ask >>= _) _ _ s₂
  refine wpAny_bind (wpAny_askSetting (wpAny_ite ?_))
  split
  · first
      | exact wpAny_bind (wpAny_pure (wpAny_pure (And.intro rfl loop)))
      | exact wpAny_pure (And.intro rfl loop)
  · have h := self o s₂ (fun it' s' => it' = .ref it ∧ s' = s₂) (notedBy (model prog w) A (compEnvC scope cl C env) fun x s' => RR (.ref D) C (.error x) s') ho (H₃.get (.head _)) ⟨rfl, rfl⟩
    have h' := wpAny_mono (Q' := fun it' s' => codeAny (model prog w) A (.compLoop (.ListComp elt [⟨t0, i0, [], 0⟩, ⟨t1, i1, [c1], 0⟩] scope pos) 0 it' (.ref D) (compEnvC scope cl C env)) (RR (.ref D) C) s') h (fun it' s' e => by obtain ⟨rfl, rfl⟩ := e; exact loop) fun _ _ e => e
    first
      | exact wpAny_bind (wpAny_rule (wpAny_bind (wpAny_standAt (wpAny_bind (wpAny_mono h' (fun it' s' h' => wpAny_pure (And.intro rfl h')) fun _ _ x => x)))))
      | (refine wpAny_bind (wpAny_rule ?_); show wpAny _ _ (standAt i0.pos >>= _) _ _ s₂; exact wpAny_bind (wpAny_standAt (wpAny_bind (wpAny_mono h' (fun it' s' h' => wpAny_pure (And.intro rfl h')) fun _ _ x => x))))
end
end Mine
end
section
open PySem PySem.W PyProof.Rows PySem.Calls PySem.Spec
set_option Elab.async false
set_option maxRecDepth 100000
set_option maxHeartbeats 4000000
namespace Mine
section
variable {prog : Program} {w : World} {A : Around} {E : Value → Shared → Prop} {s : Shared} {b : Heap} {ω : OsState} {L a c sa : Addr} {m mg mb : Str → Option Value} {ns : List (Addr × Obj)} {Q : Value → Shared → Prop} {x y : Str} {t u : Tok} {items vs ws : List Value} {n n2 : Nat} {g : Obj → List (Addr × Obj)} {value slice : Expr}
theorem c_setL0 {k : Int} {v : Value} {Q : Unit → Shared → Prop} (H : At b ω L m ns s) (U : PutF a (lstO items n) ns g) (h0 : 0 ≤ k) (hn : k < items.length) (hz : items.length ≤ 1000)
    (h : ∀ n' s', At b ω L m (g (lstO (items.set k.toNat v) n')) s' → Q () s') : wpAny (model prog w) A (setItem (.ref a) (.int k t) v) Q E s := by
  have hl : s.heap.IsList a items.toArray := ⟨_, H.get U.mem, rfl, _, rfl⟩
  have hfit : k < 2 ^ 63 := by omega
  unfold setItem
  try with_reducible refine wpAny_holding ?_
  first | refine wpAny_bind (wpAny_pure ?_) | skip
  refine wpAny_bind (wpAny_sequenceKey hl.typeIs (by decide) ?_)
  refine wpAny_bind (wpAny_callSpecial?_slot (name := Str.ofString "__setitem__") hl.typeIs slot_list_setitem
    (wpAny_call_entry slot_list_setitem hl.typeIs entry_list_setitem ?_ (args_list_setitem _ _ _)))
  show wpAny _ _ (Builtin.List.listSubscript? (.int k t) >>= _) _ _ s
  refine wpAny_bind (wpAny_listSubscript_int (fitsIndex_of h0 hfit) ?_)
  clear hfit
  obtain ⟨j, rfl⟩ := Int.eq_ofNat_of_zero_le h0
  have hj : j < items.length := by omega
  have hx' : items.toArray[j]? = some items[j] := by simp [hj]
  show wpAny _ _ ((seqItemAt a j >>= fun r => pure (r.map (j, ·))) >>= _) _ _ s
  refine wpAny_bind (wpAny_bind (wpAny_seqItemAt (H.get U.mem) rfl (wpAny_pure ?_)))
  rw [hx']
  show wpAny _ _ (setSeqItemAt a j v >>= _) _ _ s
  have hfin := h _ _ (At.upd (f := Obj.mapSeq (·.setIfInBounds j v)) H (U.put (lstO (items.set j v) (if (items.set j v).toArray.size == items.toArray.size then n else n + 1))) (mapSeq_is (by simp)) (Nat.le_refl _))
  refine wpAny_bind (wpAny_setSeqItemAt (H.get U.mem) rfl ?_)
  first
    | exact wpAny_bind (wpAny_pure (wpAny_pure ⟨.none, rfl, wpAny_pure hfin⟩))
    | exact wpAny_pure ⟨.none, rfl, wpAny_pure hfin⟩
theorem c_setL {i : Nat} {v : Value} {Q : Unit → Shared → Prop} (H : At b ω L m ns s) (U : PutF a (lstO items n) ns g) (hn : i < items.length) (hz : items.length ≤ 1000)
    (h : ∀ n' s', At b ω L m (g (lstO (items.set i v) n')) s' → Q () s') : wpAny (model prog w) A (setItem (.ref a) (.int (i : Int) t) v) Q E s :=
  c_setL0 H U (by omega) (by omega) hz h
theorem c_lsl {i j : Int} {i' j' : Nat} {ti tj : Tok} (H : At b ω L m ns s) (hm : (a, lstO items n) ∈ ns) (hs : (sa, sliO (.int i ti) (.int j tj) .none) ∈ ns) (ei : i = (i' : Int)) (ej : j = (j' : Int)) (hi : i' ≤ j') (hj : j' ≤ items.length) (hz : items.length ≤ 1000)
    (h : ∀ la s', At b ω L m ((la, lstO ((items.drop i').take (j' - i')) 0) :: ns) s' → Q (.ref la) s')
    (he : subscripted slice false (.ref a) (.ref sa) = operate [.ref sa, .ref a] (getItem (.ref a) (.ref sa)) := by with_unfolding_all rfl) :
    wpAny (model prog w) A (subscriptTail value slice (.ref a) (.ref sa)) Q E s := by
  subst ei ej
  exact c_lslice H hm hs hi hj hz h he
theorem c_lfrom {i : Int} {i' : Nat} {ti : Tok} (H : At b ω L m ns s) (hm : (a, lstO items n) ∈ ns) (hs : (sa, sliO (.int i ti) .none .none) ∈ ns) (ei : i = (i' : Int)) (hi : i' ≤ items.length) (hz : items.length ≤ 1000)
    (h : ∀ la s', At b ω L m ((la, lstO (items.drop i') 0) :: ns) s' → Q (.ref la) s')
    (he : subscripted slice false (.ref a) (.ref sa) = operate [.ref sa, .ref a] (getItem (.ref a) (.ref sa)) := by with_unfolding_all rfl) :
    wpAny (model prog w) A (subscriptTail value slice (.ref a) (.ref sa)) Q E s := by
  subst ei
  have hl : s.heap.IsList a items.toArray := ⟨_, H.get hm, rfl, _, rfl⟩
  refine tail_any hl.typeIs slot_list_getitem.lookup ?_ he
  refine wpAny_getItem_list_slice hl ⟨_, H.get hs, rfl, rfl⟩ (.int (i' : Int) ti) .none .none (by simp) ?_ (by rw [List.size_toArray, sizeLine_eq]; omega)
  rw [slicePick_from _ _ (by simpa using hi)]
  exact h _ _ (H.push (lstO (items.drop i') 0) (Nat.le_refl _))
theorem ints_lay : ∀ (ks : List Int), PyData.canLayAll0 (ks.map .int) = true ∧ PyData.depthAll (ks.map .int) = 0
  | [] => ⟨rfl, rfl⟩
  | k :: ks => by
    have := ints_lay ks
    simp [PyData.canLayAll0, PyData.canLay0, PyData.depthAll, PyData.depth, this]
theorem ints_shaped (ks : List Int) : SeqAt.shaped (.list (ks.map .int)) = true := by
  simp [SeqAt.shaped, PyData.canLay0, PyData.depth, ints_lay ks]
theorem reads_ints {h : Heap} : ∀ {vs : List Value} {ks : List Int}, IntsAre vs ks → ReadsAll h vs (ks.map .int) []
  | _, _, .nil => .nil
  | _, _, .cons k t r => .cons (.int _ _) (reads_ints r)
theorem eqv_nil (ks : List Int) : PyData.eqv (.list (ks.map .int)) (.list []) = ks.isEmpty := by
  cases ks <;> simp [PyData.eqv, PyData.eqvAll]
theorem c_neNil {ks : List Int} {n2 : Nat} (H : At b ω L m ns s) (R : Rm A 5) (hm : (a, lstO vs n) ∈ ns) (hm2 : (c, lstO [] n2) ∈ ns) (hi : IntsAre vs ks) (h : Q (.bool (!ks.isEmpty)) s) : wpAny (model prog w) A (compareOp .NotEq (.ref a) (.ref c)) Q E s := by
  refine ne_dataH (.list (H.get hm) rfl rfl (reads_ints hi)) (.list (H.get hm2) rfl rfl .nil) (ints_shaped ks) (ints_shaped []) (by have := R.un; omega) ?_
  show Q (.bool (!PyData.eqv (.list (ks.map .int)) (.list []))) s
  rw [eqv_nil]
  exact h
theorem c_inTup {u1 u2 : Tok} {y z : Str} (H : At b ω L m ns s) (hm : (a, tupO [.str y u1, .str z u2]) ∈ ns) (h : Q (.bool (y == x || z == x)) s) : wpAny (model prog w) A (compareOp .In (.str x t) (.ref a)) Q E s := by
  refine in_tuple_strs (ys := [y, z]) ⟨_, H.get hm, rfl, _, rfl⟩ (.cons _ _ (.cons _ _ .nil)) ?_
  simpa using h
end
theorem At.front4 {p1 p2 p3 p4 : Addr × Obj} {T : List (Addr × Obj)} {b : Heap} {ω : OsState} {L : Addr} {m : Str → Option Value} {s : Shared} (X : List (Addr × Obj)) (H : At b ω L m (X ++ p1 :: p2 :: p3 :: p4 :: T) s) : At b ω L m (p1 :: p2 :: p3 :: p4 :: (X ++ T)) s :=
  H.perm (List.perm_append_comm_assoc X [p1, p2, p3, p4] T)
theorem At.inner {p0 r4 i3 d l : Addr × Obj} {B : List (Addr × Obj)} {b : Heap} {ω : OsState} {L : Addr} {m : Str → Option Value} {s : Shared} (H : At b ω L m (p0 :: r4 :: i3 :: d :: l :: B) s) : At b ω L m (p0 :: d :: i3 :: l :: r4 :: B) s :=
  H.perm (.cons _ ((List.perm_middle (a := r4) (l₁ := [i3, d, l]) (l₂ := B)).symm.trans (List.Perm.swap d i3 _)))
theorem At.front7 {p1 p2 p3 p4 p5 p6 p7 : Addr × Obj} {T : List (Addr × Obj)} {b : Heap} {ω : OsState} {L : Addr} {m : Str → Option Value} {s : Shared} (X : List (Addr × Obj)) (H : At b ω L m (X ++ p1 :: p2 :: p3 :: p4 :: p5 :: p6 :: p7 :: T) s) : At b ω L m (p1 :: p2 :: p3 :: p4 :: p5 :: p6 :: p7 :: (X ++ T)) s :=
  H.perm (List.perm_append_comm_assoc X [p1, p2, p3, p4, p5, p6, p7] T)
theorem At.front9 {p1 p2 p3 p4 p5 p6 p7 p8 p9 : Addr × Obj} {T : List (Addr × Obj)} {b : Heap} {ω : OsState} {L : Addr} {m : Str → Option Value} {s : Shared} (X : List (Addr × Obj)) (H : At b ω L m (X ++ p1 :: p2 :: p3 :: p4 :: p5 :: p6 :: p7 :: p8 :: p9 :: T) s) :
    At b ω L m (p1 :: p2 :: p3 :: p4 :: p5 :: p6 :: p7 :: p8 :: p9 :: (X ++ T)) s :=
  H.perm (List.perm_append_comm_assoc X [p1, p2, p3, p4, p5, p6, p7, p8, p9] T)
/-- the rows laid so far -/
structure RowsIn (ns : List (Addr × Obj)) (ritems : List Value) (rows : List (List (Str × Str))) : Prop where
  len : ritems.length = rows.length
  at_ : ∀ (j : Nat) (row : List (Str × Str)), rows[j]? = some row → ∃ (a : Addr) (items : List Value) (n : Nat), ritems[j]? = some (.ref a) ∧ (a, lstO items n) ∈ ns ∧ Parts ns items row
theorem RowsIn.mono {ns ns' : List (Addr × Obj)} {ritems : List Value} {rows : List (List (Str × Str))} (h : RowsIn ns ritems rows) (hs : ∀ p ∈ ns, p ∈ ns') : RowsIn ns' ritems rows :=
  ⟨h.len, fun j row e => let ⟨a, items, n, e1, e2, e3⟩ := h.at_ j row e; ⟨a, items, n, e1, hs _ e2, e3.mono hs⟩⟩
theorem RowsIn.snoc {ns : List (Addr × Obj)} {ritems items : List Value} {rows : List (List (Str × Str))} {row : List (Str × Str)} {a : Addr} {n : Nat} (h : RowsIn ns ritems rows) (ha : (a, lstO items n) ∈ ns) (hp : Parts ns items row) : RowsIn ns (ritems ++ [.ref a]) (rows ++ [row]) := by
  refine ⟨by simp [h.len], fun j q e => ?_⟩
  by_cases hj : j < rows.length
  · rw [List.getElem?_append_left hj] at e
    obtain ⟨c, it, k, e1, e2, e3⟩ := h.at_ j q e
    exact ⟨c, it, k, by rw [List.getElem?_append_left (by rw [h.len]; exact hj)]; exact e1, e2, e3⟩
  · rw [List.getElem?_append_right (by omega)] at e
    have hj' : j = rows.length := by
      rcases Nat.lt_or_ge (j - rows.length) 1 with h1 | h1
      · omega
      · rw [List.getElem?_eq_none (by simpa using h1)] at e; cases e
    subst hj'
    simp at e
    subst e
    exact ⟨a, items, n, by rw [List.getElem?_append_right (by rw [h.len]; exact Nat.le_refl _), h.len, Nat.sub_self]; rfl, ha, hp⟩
theorem sl_first (x : Str) (c : Nat) : (Txt.slice x none (some 1) == ⟨#[c]⟩) = (x.cps[0]? == some c) := by
  rw [show (1 : Int) = ((1 : Nat) : Int) from rfl, sl_to]
  rcases x with ⟨⟨l⟩⟩
  rcases l with _ | ⟨d, l⟩
  · rfl
  · show (mkS [d] == mkS [c]) = _
    rw [show (mkS [d] == mkS [c]) = (d == c) from str1_beq d c]
    simp
theorem sl_from (x : Str) {k : Nat} (h : k ≤ x.length) : Txt.slice x (some (k : Int)) none = mkS (x.cps.toList.drop k) := by
  rw [slice_from_eq (b := (x.length : Int)) (by omega) (by omega) rfl, show ((x.length : Int) - (k : Int)).toNat = x.length - k from by omega, List.take_of_length_le (by simp [Str.length])]
  rfl
theorem sl_last (x : Str) (c : Nat) : (Txt.slice x (some (-1)) none == ⟨#[c]⟩) = (x.cps.back? == some c) := by
  rw [slice_from_neg (by decide)]
  by_cases h0 : x.length = 0
  · rw [show max 0 ((x.length : Int) + -1) = ((0 : Nat) : Int) from by omega, sl_from x (Nat.zero_le _)]
    have e : x.cps = #[] := Array.eq_empty_of_size_eq_zero h0
    rw [e]
    rfl
  · rw [show max 0 ((x.length : Int) + -1) = ((x.length - 1 : Nat) : Int) from by omega, sl_from x (by omega)]
    obtain ⟨d, e1, _⟩ := idx_last h0
    have e2 : x.cps.toList.drop (x.length - 1) = [d] := by
      have e3 : x.cps.toList[x.length - 1]? = some d := by rw [Array.getElem?_toList]; exact e1
      obtain ⟨h3, e4⟩ := List.getElem?_eq_some_iff.mp e3
      rw [List.drop_eq_getElem_cons h3, e4, List.drop_of_length_le (by simp [Str.length]; omega)]
    rw [e2, show (mkS [d] == ⟨#[c]⟩) = (d == c) from str1_beq d c, e1]
    simp
theorem parts_item {ns : List (Addr × Obj)} {items : List Value} {ps : List (Str × Str)} {i : Nat} {v : Value} (hp : Parts ns items ps) (hv : items[i]? = some v) : ∃ p a t u, ps[i]? = some p ∧ v = .ref a ∧ (a, tupO [.str p.1 t, .str p.2 u]) ∈ ns := by
  have hi : i < ps.length := hp.len ▸ (List.getElem?_eq_some_iff.mp hv).1
  obtain ⟨a, t, u, e1, e2⟩ := hp.at_ i _ (List.getElem?_eq_getElem hi)
  rw [hv] at e1
  cases e1
  exact ⟨_, a, t, u, List.getElem?_eq_getElem hi, rfl, e2⟩
/-! the law's own rows -/
def wtT (T : Nat) (p : Str × Str) : Int := ((p.1 ++ p.2).length : Int) + ((T : Int) - 1) * cnt 34 p.2.cps.toList
def lhit (c : Nat) (p q : Str × Str) : Bool := (q.1.cps[0]? == some c) || (p.2.cps.back? == some c)
def lhitAt (c : Nat) (ps : List (Str × Str)) (i : Nat) : Bool := match ps[i - 1]?, ps[i]? with
  | some p, some q => lhit c p q
  | _, _ => false
def lcuts (c : Nat) (ps : List (Str × Str)) : Nat → List Nat
  | 0 => []
  | k + 1 => if lhitAt c ps (k + 1) then (k + 1) :: lcuts c ps k else lcuts c ps k
def lcutsIn : List Nat → List (Str × Str) → List Nat
  | [], _ => []
  | c :: cs, ps => lcuts c ps (ps.length - 1) ++ lcutsIn cs ps
structure LS where
  h0 : Nat
  cur : List (Str × Str)
  rows : List (List (Str × Str))
def LS.add (T W : Nat) (marks : List Nat) (f : LS) (p : Str × Str) : LS :=
  if (f.h0 : Int) + ((f.cur ++ [p]).map (wtT T)).sum > W then
    match lcutsIn marks (f.cur ++ [p]) with
    | i :: _ => ⟨0, (f.cur ++ [p]).drop i, f.rows ++ [(f.cur ++ [p]).take i]⟩
    | [] => if f.h0 > 0 then ⟨0, [(if p.1 == Str.ofString "" then Str.ofString " " else p.1, p.2)], f.rows ++ [f.cur]⟩ else ⟨f.h0, f.cur ++ [p], f.rows⟩
  else ⟨f.h0, f.cur ++ [p], f.rows⟩
/-- what stands before the turn k -/
structure RJ (T W : Nat) (um uw ut : Tok) (marks : Str) (ps : List (Str × Str)) (f : LS) (L : Addr) (oL : Obj) (ns0 : List (Addr × Obj)) (rng : Obj) (r la sl ck cs ch ct hl : Addr) (k : Nat) (m : Str → Option Value) (ns : List (Addr × Obj)) : Prop where
  ex : ∃ hitems hn svals sn ritems rn ok os oh ot Z st pre pz ts th tr vk, ns = (r, rng) :: (la, lstO ritems rn) :: (sl, lstO svals sn) :: (ck, ok) :: (cs, os) :: (ch, oh) :: (ct, ot) :: (hl, lstO hitems hn) :: Z ∧
    CellIs ok vk ∧ CellIs os (some (.int (st : Nat) ts)) ∧ CellIs oh (some (.ref hl)) ∧ CellIs ot (some (.int T ut)) ∧
    m "marks" = some (.str marks um) ∧ m "width" = some (.int W uw) ∧ m "head" = some (.int f.h0 th) ∧ m "room" = some (.int ((W : Int) - f.h0) tr) ∧ m "rows" = some (.ref la) ∧ m "sizes" = some (.ref sl) ∧
    Parts Z hitems (pre ++ f.cur ++ ps.drop k) ∧ pre.length = st ∧ st + f.cur.length = k ∧
    IntsAre svals (pz ++ f.cur.map (wtT T) ++ (ps.drop k).map (wtT T)) ∧ pz.length = st ∧ RowsIn Z ritems f.rows ∧ (∃ X, Z = X ++ (L, oL) :: ns0) ∧ Small (f.cur ++ ps.drop k) ∧ f.h0 ≤ 100 ∧ ritems.length ≤ k
theorem RJ.elim {T W : Nat} {um uw ut : Tok} {marks : Str} {ps : List (Str × Str)} {f : LS} {L : Addr} {oL : Obj} {ns0 : List (Addr × Obj)} {rng : Obj} {r la sl ck cs ch ct hl : Addr} {k : Nat} {m : Str → Option Value} {ns : List (Addr × Obj)} {P : Prop}
    (J : RJ T W um uw ut marks ps f L oL ns0 rng r la sl ck cs ch ct hl k m ns)
    (q : ∀ hitems hn svals sn ritems rn ok os oh ot Z st pre pz ts th tr vk, ns = (r, rng) :: (la, lstO ritems rn) :: (sl, lstO svals sn) :: (ck, ok) :: (cs, os) :: (ch, oh) :: (ct, ot) :: (hl, lstO hitems hn) :: Z →
      CellIs ok vk → CellIs os (some (.int (st : Nat) ts)) → CellIs oh (some (.ref hl)) → CellIs ot (some (.int T ut)) →
      m "marks" = some (.str marks um) → m "width" = some (.int W uw) → m "head" = some (.int f.h0 th) → m "room" = some (.int ((W : Int) - f.h0) tr) → m "rows" = some (.ref la) → m "sizes" = some (.ref sl) →
      Parts Z hitems (pre ++ f.cur ++ ps.drop k) → pre.length = st → st + f.cur.length = k →
      IntsAre svals (pz ++ f.cur.map (wtT T) ++ (ps.drop k).map (wtT T)) → pz.length = st → RowsIn Z ritems f.rows → (∃ X, Z = X ++ (L, oL) :: ns0) → Small (f.cur ++ ps.drop k) → f.h0 ≤ 100 → ritems.length ≤ k → P) : P := by
  obtain ⟨hitems, hn, svals, sn, ritems, rn, ok, os, oh, ot, Z, st, pre, pz, ts, th, tr, vk, a0, a1, a2, a3, a4, a5, a6, a7, a8, a9, a10, a11, a12, a13, a14, a15, a16, a17, a18, a19, a20⟩ := J.ex
  exact q hitems hn svals sn ritems rn ok os oh ot Z st pre pz ts th tr vk a0 a1 a2 a3 a4 a5 a6 a7 a8 a9 a10 a11 a12 a13 a14 a15 a16 a17 a18 a19 a20
theorem RJ.mk' {T W : Nat} {um uw ut : Tok} {marks : Str} {ps : List (Str × Str)} {f : LS} {L : Addr} {oL : Obj} {ns0 : List (Addr × Obj)} {rng : Obj} {r la sl ck cs ch ct hl : Addr} {k : Nat} {m : Str → Option Value}
    {hitems : List Value} {hn : Nat} {svals : List Value} {sn : Nat} {ritems : List Value} {rn : Nat} {ok os oh ot : Obj} {Z : List (Addr × Obj)} {st : Nat} {pre : List (Str × Str)} {pz : List Int} {ts th tr : Tok} {vk : Option Value}
    (a1 : CellIs ok vk) (a2 : CellIs os (some (.int (st : Nat) ts))) (a3 : CellIs oh (some (.ref hl))) (a4 : CellIs ot (some (.int T ut)))
    (a5 : m "marks" = some (.str marks um)) (a6 : m "width" = some (.int W uw)) (a7 : m "head" = some (.int f.h0 th)) (a8 : m "room" = some (.int ((W : Int) - f.h0) tr)) (a9 : m "rows" = some (.ref la)) (a10 : m "sizes" = some (.ref sl))
    (a11 : Parts Z hitems (pre ++ f.cur ++ ps.drop k)) (a12 : pre.length = st) (a13 : st + f.cur.length = k)
    (a14 : IntsAre svals (pz ++ f.cur.map (wtT T) ++ (ps.drop k).map (wtT T))) (a15 : pz.length = st) (a16 : RowsIn Z ritems f.rows) (a17 : ∃ X, Z = X ++ (L, oL) :: ns0) (a18 : Small (f.cur ++ ps.drop k)) (a19 : f.h0 ≤ 100) (a20 : ritems.length ≤ k) :
    RJ T W um uw ut marks ps f L oL ns0 rng r la sl ck cs ch ct hl k m ((r, rng) :: (la, lstO ritems rn) :: (sl, lstO svals sn) :: (ck, ok) :: (cs, os) :: (ch, oh) :: (ct, ot) :: (hl, lstO hitems hn) :: Z) :=
  ⟨hitems, hn, svals, sn, ritems, rn, ok, os, oh, ot, Z, st, pre, pz, ts, th, tr, vk, rfl, a1, a2, a3, a4, a5, a6, a7, a8, a9, a10, a11, a12, a13, a14, a15, a16, a17, a18, a19, a20⟩
theorem ints_cut {ks : List Int} {vs : List Value} (h : IntsAre vs ks) (i j : Nat) : IntsAre ((vs.drop i).take j) ((ks.drop i).take j) := by
  have hd : ∀ {vs : List Value} {ks : List Int}, IntsAre vs ks → ∀ i, IntsAre (vs.drop i) (ks.drop i) := by
    intro vs ks h
    induction h with
    | nil => intro i; simp; exact .nil
    | cons n t r ih =>
      intro i
      cases i with
      | zero => exact .cons n t r
      | succ i => exact ih i
  have ht : ∀ {vs : List Value} {ks : List Int}, IntsAre vs ks → ∀ i, IntsAre (vs.take i) (ks.take i) := by
    intro vs ks h
    induction h with
    | nil => intro i; simp; exact .nil
    | cons n t r ih =>
      intro i
      cases i with
      | zero => exact .nil
      | succ i => exact .cons n t (ih i)
  exact ht (hd h i) j
theorem cut_mid {α : Type} (pre mid post : List α) {i j : Nat} (h1 : pre.length = i) (h2 : mid.length = j) : ((pre ++ mid ++ post).drop i).take j = mid := by
  subst h1 h2
  rw [List.append_assoc, List.drop_left, List.take_left]
theorem lcuts_len (c : Nat) (ps : List (Str × Str)) : ∀ k, (lcuts c ps k).length ≤ k
  | 0 => Nat.le_refl _
  | k + 1 => by
    have := lcuts_len c ps k
    unfold lcuts
    split
    · rw [List.length_cons]; omega
    · omega
theorem lcutsIn_app (ps : List (Str × Str)) : ∀ (x y : List Nat), lcutsIn (x ++ y) ps = lcutsIn x ps ++ lcutsIn y ps
  | [], _ => rfl
  | c :: x, y => by
    show lcuts c ps (ps.length - 1) ++ lcutsIn (x ++ y) ps = _
    rw [lcutsIn_app ps x y, ← List.append_assoc]; rfl
theorem lcutsIn_len (ps : List (Str × Str)) : ∀ (x : List Nat), (lcutsIn x ps).length ≤ x.length * (ps.length - 1)
  | [] => Nat.zero_le _
  | c :: x => by
    have h1 := lcutsIn_len ps x
    have h2 := lcuts_len c ps (ps.length - 1)
    show (lcuts c ps (ps.length - 1) ++ lcutsIn x ps).length ≤ _
    rw [List.length_append, List.length_cons, Nat.succ_mul]
    omega
theorem lcuts_bound {c : Nat} {ps : List (Str × Str)} {k i : Nat} (h : i ∈ lcuts c ps k) : 1 ≤ i ∧ i ≤ k := by
  induction k with
  | zero => cases h
  | succ k ih =>
    unfold lcuts at h
    split at h
    · rcases List.mem_cons.mp h with rfl | h
      · omega
      · have := ih h; omega
    · have := ih h; omega
theorem lcutsIn_bound {ps : List (Str × Str)} {i : Nat} : ∀ {x : List Nat}, i ∈ lcutsIn x ps → 1 ≤ i ∧ i ≤ ps.length - 1
  | c :: x, h => by
    rcases List.mem_append.mp h with h | h
    · exact lcuts_bound h
    · exact lcutsIn_bound h
theorem get_mid {α : Type} {pre cur rest : List α} {p : α} {st i : Nat} (h : pre.length = st) (hi : i ≤ cur.length) : (pre ++ cur ++ p :: rest)[st + i]? = (cur ++ [p])[i]? := by
  subst h
  rw [List.append_assoc, List.getElem?_append_right (by omega), Nat.add_sub_cancel_left]
  by_cases h2 : i < cur.length
  · rw [List.getElem?_append_left h2, List.getElem?_append_left h2]
  · rw [List.getElem?_append_right (by omega), List.getElem?_append_right (by omega), show i - cur.length = 0 from by omega]; rfl
theorem self_str {prog : Program} {w : World} {A : Around} {E : Value → Shared → Prop} {s : Shared} {it : Addr} {o : Obj} {x : Str} {t : Tok} {i : Nat} {Q : Value → Shared → Prop} (hx : s.heap.get? it = some o) (ho : o.cls = .type "str_ascii_iterator" ∧ o.data = .fields #[.str x t, .int i 0]) (h : Q (.ref it) s) : wpAny (model prog w) A (pyIter (.ref it)) Q E s :=
  wpAny_pyIter_striter_ascii ⟨o, hx, ho.1, ho.2⟩ h
theorem self_range {prog : Program} {w : World} {A : Around} {E : Value → Shared → Prop} {s : Shared} {it : Addr} {o : Obj} {x l c : Int} {Q : Value → Shared → Prop} (hx : s.heap.get? it = some o) (ho : o = ⟨.type "range_iterator", none, .fields #[rawInt x, rawInt l, rawInt c], #[]⟩) (h : Q (.ref it) s) : wpAny (model prog w) A (pyIter (.ref it)) Q E s := by
  subst ho
  exact wpAny_pyIter_rangeiter hx h
theorem Parts.set {ns : List (Addr × Obj)} {items : List Value} {ps : List (Str × Str)} {a : Addr} {p : Str × Str} {t u : Tok} {k : Nat} (h : Parts ns items ps) (ha : (a, tupO [.str p.1 t, .str p.2 u]) ∈ ns) : Parts ns (items.set k (.ref a)) (ps.set k p) := by
  refine ⟨by simp [h.len], fun j q e => ?_⟩
  by_cases hj : k = j
  · subst hj
    have hk : k < ps.length := by
      have := (List.getElem?_eq_some_iff.mp e).1
      simpa using this
    rw [List.getElem?_set_self hk] at e
    cases e
    exact ⟨a, t, u, List.getElem?_set_self (by rw [h.len]; exact hk), ha⟩
  · rw [List.getElem?_set_ne hj] at e
    obtain ⟨c, t', u', e1, e2⟩ := h.at_ j q e
    exact ⟨c, t', u', by rw [List.getElem?_set_ne hj]; exact e1, e2⟩
theorem intsAre_set {vs : List Value} {ks : List Int} {i : Int} {t : Tok} (h : IntsAre vs ks) : ∀ k : Nat, IntsAre (vs.set k (.int i t)) (ks.set k i) := by
  induction h with
  | nil => intro k; exact .nil
  | cons n t' r ih =>
    intro k
    cases k with
    | zero => exact .cons _ _ r
    | succ k => exact .cons _ _ (ih k)
theorem take_mid {α : Type} (pre cur rest : List α) (p : α) (i : Nat) : pre ++ cur ++ p :: rest = pre ++ (cur ++ [p]).take i ++ ((cur ++ [p]).drop i ++ rest) := by
  have h := List.take_append_drop i (cur ++ [p])
  have e : pre ++ cur ++ p :: rest = pre ++ (cur ++ [p]) ++ rest := by simp
  rw [e]
  conv => lhs; rw [← h]
  simp only [List.append_assoc]
theorem set_mid {α : Type} {pre cur rest : List α} {p q : α} {k : Nat} (h : pre.length + cur.length = k) : (pre ++ cur ++ p :: rest).set k q = pre ++ cur ++ q :: rest := by
  subst h
  rw [List.set_append_right _ _ (by simp)]
  simp
theorem wtT_fix {T : Nat} {p : Str × Str} (h : p.1 = Str.ofString "") : wtT T (Str.ofString " ", p.2) = wtT T p + 1 := by
  unfold wtT
  simp only [strLen_append, h]
  have e1 : (Str.ofString " ").length = 1 := rfl
  have e2 : (Str.ofString "").length = 0 := rfl
  rw [e1, e2]
  omega
theorem Small.sub {ps qs : List (Str × Str)} (h : Small ps) (hl : qs.length ≤ ps.length) (hs : ∀ p ∈ qs, p ∈ ps) : Small qs := ⟨Nat.le_trans hl h.n, fun p hp => h.z p (hs p hp), fun p hp => h.k p (hs p hp)⟩
def RS (row : List (Str × Str)) : Str := Txt.join "" (row.map fun p => p.1 ++ p.2)
theorem row_weight {row : List (Str × Str)} (h : Small row) : ((row.map fun p => p.1 ++ p.2).map (·.length)).sum + (row.map fun p => p.1 ++ p.2).length ≤ 1048576 := by
  have : ∀ row : List (Str × Str), (∀ p ∈ row, p.1.length ≤ 100 ∧ p.2.length ≤ 100) → ((row.map fun p => p.1 ++ p.2).map (·.length)).sum ≤ row.length * 200 := by
    intro row
    induction row with
    | nil => intro _; exact Nat.zero_le _
    | cons p r ih =>
      intro hz
      have h1 := ih fun q hq => hz q (.tail _ hq)
      have h2 := hz p (.head _)
      simp only [List.map_cons, List.sum_cons, List.length_cons, strLen_append] at h1 ⊢
      omega
  have h1 := this row h.z
  have h2 := h.n
  rw [List.length_map]
  omega
theorem rows_item {ns : List (Addr × Obj)} {ritems : List Value} {rows : List (List (Str × Str))} {i : Nat} {v : Value} (hp : RowsIn ns ritems rows) (hv : ritems[i]? = some v) :
    ∃ row a items n, rows[i]? = some row ∧ v = .ref a ∧ (a, lstO items n) ∈ ns ∧ Parts ns items row := by
  have hi : i < rows.length := hp.len ▸ (List.getElem?_eq_some_iff.mp hv).1
  obtain ⟨a, items, n, e1, e2, e3⟩ := hp.at_ i _ (List.getElem?_eq_getElem hi)
  rw [hv] at e1
  cases e1
  exact ⟨_, a, items, n, List.getElem?_eq_getElem hi, rfl, e2, e3⟩
end Mine
end
section
open PySem PySem.W PyProof.Rows PySem.Calls PySem.Spec
set_option Elab.async false
set_option maxRecDepth 100000
set_option maxHeartbeats 4000000
namespace Mine
example (P : Params) : PySem.Challenge.rw_pe0181_01 = PySem.Challenge.rw_pe0181_01 ∧ Mine.hd.heap_1 P = Mine.hd.heap_1 P := by
  k_fill
  exact ⟨rfl, rfl⟩
section
variable {prog : Program} {w : World} {A : Around} {s : Shared} {b : Heap} {ω : OsState} {L la : Addr} {m mg mb : Str → Option Value} {B : List (Addr × Obj)} {Q : Value → Shared → Prop} {env : Env} {ritems : List Value} {rn : Nat} {rows : List (List (Str × Str))}
  {p1 p3 p4 p5 p6 p7 p8 p9 p10 p12 p13 p14 : Pos}
theorem ret_rows (G : Gd w mg mb b) (H : At b ω env.locals m B s) (R : Rm A 3) (hla : (la, lstO ritems rn) ∈ B) (hR : RowsIn B ritems rows) (hsm : ∀ row ∈ rows, Small row) (hn : rows.length ≤ 100)
    (hm : m "rows" = some (.ref la)) (hk : env.scope.kind = .function) (hkr : env.kindOf "rows" = some .local) (hg : env.globals = mainGlobals) (hb : env.builtins = builtinsNs)
    (h : ∀ X D vs n s', StrsAre vs (rows.map RS) → At b ω env.locals m ((D, lstO vs n) :: (X ++ B)) s' → Q (.ref D) s') :
    wpAny (model prog w) A (eval (.ListComp (.Call (.Attribute (.Constant (.str "") 0 p1) "join" ⟨164, 12, 164, 19⟩) [.ListComp (.BinOp (.Name "lead" p3) .Add (.Name "word" p4) p5) [⟨.Tuple [.Name "lead" p6, .Name "word" p7] 0 p8, .Name "row" p9, [], 0⟩]
        { kind := .function, names := [(".0", .local), ("lead", .local), ("word", .local)], isGenerator := false, isCoroutine := false } p10] [] ⟨164, 12, 164, 56⟩) [⟨.Name "row" p12, .Name "rows" p13, [], 0⟩]
        { kind := .function, names := [(".0", .local), ("row", .local)], isGenerator := false, isCoroutine := false } p14) env) Q NoE s := by
  have hLe := H.F.above
  refine ListComp_ (cl := []) ?_ (by rfl) rfl (by decide) (fun _ => rfl)
  refine nm_local H hm hk hkr (by decide +kernel) ?_
  refine it_list H hla ?_
  intro it oi s hoi H
  refine comp_go (fun C => itr_list (l := la) R.hd ritems) (fun i vs ns' => ∃ X, ns' = X ++ B ∧ StrsAre vs ((rows.take i).map RS) ∧ vs.length = i)
    ?_ ⟨[], rfl, .nil, rfl⟩ hoi H (by rw [hR.len]; omega) ?_ (fun o s Q E ho hx h => self_list hx ho h) (fun _ _ _ _ _ _ _ _ hq => wpAny_pure hq) (by decide) rfl ?_ ?_
  · rintro i vs ns' p q ⟨X, rfl, _⟩
    exact ⟨rn, .tail _ (.tail _ (List.mem_append.mpr (.inr hla)))⟩
  · rintro i vs ns' ⟨X, rfl, _, e⟩
    exact e
  · rintro C D i o v m' ns' oL' n' vs s hi hv ⟨X, rfl, hq, hle⟩ hoL' H
    obtain ⟨row, ar, items, nr, e1, rfl, e2, e3⟩ := rows_item hR hv
    have hCa := H.F.above
    have hrow := hsm row (List.mem_of_getElem? e1)
    walk_at "w"
    refine ListComp_ (cl := []) ?_ (by rfl) rfl (by decide) (fun _ => rfl)
    walk_at "w"
    obtain ⟨B2, hB2⟩ : ∃ B2, B2 = (it, o) :: (D, lstO vs n') :: (env.locals, oL') :: (X ++ B) := ⟨_, rfl⟩
    rw [← hB2] at H
    have hin : ∀ q ∈ B, q ∈ B2 := fun q hq => by rw [hB2]; exact .tail _ (.tail _ (.tail _ (List.mem_append.mpr (.inr hq))))
    refine it_list H (hin _ e2) ?_
    intro it6 o6 s ho6 H
    refine comp_go (fun C => itr_list (l := ar) R.hd items) (fun j ws ns' => ns' = B2 ∧ StrsAre ws ((row.take j).map fun p => p.1 ++ p.2) ∧ ws.length = j)
      ?_ ⟨rfl, .nil, rfl⟩ ho6 H (by rw [e3.len]; have := hrow.n; omega) (fun i vs ns' h => h.2.2) (fun o s Q E ho hx h => self_list hx ho h) ?_ (by decide) rfl ?_ ?_
    · rintro j ws ns' p q ⟨rfl, _⟩
      exact ⟨nr, .tail _ (.tail _ (hin _ e2))⟩
    · intro j o v s Q hv ho hx h
      obtain ⟨p, aq, tq, uq, f1, rfl, f2⟩ := parts_item e3 hv
      exact go_list hx ho h
    · rintro C2 D2 j o7 v m7 ns7 oL7 n7 ws s hj hv ⟨rfl, hqw, hlw⟩ hoL7 H
      obtain ⟨p, aq, tq, uq, f1, rfl, f2⟩ := parts_item e3 hv
      have hmq : (aq, tupO [.str p.1 tq, .str p.2 uq]) ∈ (it6, o7) :: (D2, lstO ws n7) :: (C, oL7) :: ns7 := .tail _ (.tail _ (.tail _ (hin _ f2)))
      have hzp := hrow.z p (List.mem_of_getElem? f1)
      walk_at "w"
      refine c_add H (by omega) ?_
      intro t1 s H
      refine ⟨_, _, ⟨rfl, ?_, by simp [hlw]⟩, H⟩
      rw [List.take_add_one, f1, List.map_append]
      exact hqw.append' (.cons _ _ .nil)
    rintro C2 D2 m7 ns7 oL7 n7 ws s ⟨rfl, hqw, hlw⟩ hoL7 H
    rw [List.take_of_length_le (by rw [e3.len]; exact Nat.le_refl _)] at hqw
    refine post_none H hoL7 hCa ?_
    intro s H
    walk_at "w"
    refine c_join H (.head _) hqw (by decide) (row_weight hrow) ?_
    intro t2 s H
    subst hB2
    refine ⟨_, _, ⟨_ :: X, rfl, ?_, by simp [hle]⟩, At.front3 [_] H⟩
    rw [List.take_add_one, e1, List.map_append]
    exact hq.append' (.cons _ _ .nil)
  rintro C D m' ns' oL' n' vs s ⟨X, rfl, hq, hle⟩ hoL' H
  rw [List.take_of_length_le (by rw [hR.len]; exact Nat.le_refl _)] at hq
  refine post_none H hoL' hLe ?_
  intro s H
  exact h X D vs _ s hq H
end
end Mine
end
section
open PySem PySem.W PyProof.Rows PySem.Calls PySem.Spec
set_option Elab.async false
set_option maxRecDepth 100000
set_option maxHeartbeats 4000000
namespace Mine
example (P : Params) : PySem.Challenge.rw_pe0181_01 = PySem.Challenge.rw_pe0181_01 ∧ Mine.hd.heap_1 P = Mine.hd.heap_1 P := by
  k_fill
  exact ⟨rfl, rfl⟩
section
variable {prog : Program} {w : World} {A : Around} {E : Value → Shared → Prop} {s : Shared} {b : Heap} {ω : OsState} {L a c sa : Addr} {m mg mb : Str → Option Value} {ns : List (Addr × Obj)} {Q : Value → Shared → Prop} {ut uh uw um : Tok} {pitems : List Value} {n n2 : Nat} {ps : List (Str × Str)} {marks : Str}
theorem rows_call {T W h0 : Nat} (G : Gd w mg mb b) (H : At b ω L m ns s) (R : Rm A 6) (hm : (a, lstO pitems n) ∈ ns) (hp : Parts ns pitems ps) (hz : Small ps) (hn : ps.length ≤ 20) (hma : marks.cps.all (· < 128) = true) (hml : marks.length ≤ 10)
    (hT : 1 ≤ T ∧ T ≤ 8) (hW : W ≤ 100) (hh : h0 ≤ 100)
    (hsm : ∀ row ∈ (ps.foldl (LS.add T W marks.cps.toList) ⟨h0, [], []⟩).rows ++ [(ps.foldl (LS.add T W marks.cps.toList) ⟨h0, [], []⟩).cur], Small row)
    (h : ∀ X rl lines n s', At b ω L m (X ++ ns) s' → (rl, lstO lines n) ∈ X → StrsAre lines (((ps.foldl (LS.add T W marks.cps.toList) ⟨h0, [], []⟩).rows ++ [(ps.foldl (LS.add T W marks.cps.toList) ⟨h0, [], []⟩).cur]).map RS) → Q (.ref rl) s') :
    wpAny (model prog w) A (call (.ref 226) [.ref a, .int T ut, .int h0 uh, .int W uw, .str marks um]) Q E s := by
  have hL := H.F.above
  refine fn_callC [("pieces", .ref a), ("times", .int T ut), ("head", .int h0 uh), ("width", .int W uw), ("marks", .str marks um)] G H R (by k_is) (by k_is) (BindsTo.of_eq rfl) ?_ ?_ ?_
  · intro k x hx
    simp only [List.mem_cons, List.not_mem_nil, or_false] at hx
    rcases hx with rfl | rfl | rfl | rfl | rfl <;> first | exact .inl rfl | exact .inr ⟨rfl, rfl⟩
  · decide
  clear H R
  intro L' oL cells s ho Y H R
  obtain ⟨ok, os, oh, ot, rfl, ck, cs, ch, ct⟩ := CellsAre.four Y
  clear Y
  have ct : CellIs ot (some (.int T ut)) := ct
  have ck : CellIs ok none := ck
  have cs : CellIs os none := cs
  have ch : CellIs oh none := ch
  generalize hm0 : (bindL _ _ _ : Str → Option Value) = m0 at H
  have m1 : m0 "pieces" = some (.ref a) := by rw [← hm0]; rfl
  have m2 : m0 "head" = some (.int h0 uh) := by rw [← hm0]; rfl
  have m3 : m0 "width" = some (.int W uw) := by rw [← hm0]; rfl
  have m4 : m0 "marks" = some (.str marks um) := by rw [← hm0]; rfl
  clear hm0
  have hL' := H.F.above
  replace H : At b ω L' m0 ((L' + 1 + 1 + 1 + 1, ok) :: (L' + 1 + 1 + 1, os) :: (L' + 1 + 1, oh) :: (L' + 1, ot) :: (L, oL) :: ns) s := H
  obtain ⟨Z, hZ⟩ : ∃ Z, Z = (L, oL) :: ns := ⟨_, rfl⟩
  rw [← hZ] at H
  have hmZ : (a, lstO pitems n) ∈ Z := by rw [hZ]; exact .tail _ hm
  have hpZ : Parts Z pitems ps := hp.mono fun p hp => by rw [hZ]; exact .tail _ hp
  replace hZ : ∃ X, Z = X ++ (L, oL) :: ns := ⟨[], hZ⟩
  walk_at "w"
  refine ListComp_ (cl := []) ?_ (by rfl) rfl (by decide) (fun _ => rfl)
  walk_at "w"
  refine it_list H (by walk_at "mems") ?_
  intro it oi s hoi H
  refine comp_go (fun C => itr_list (l := a) R.hd pitems) (fun i vs ns' => ∃ X, ns' = X ++ ((L' + 1 + 1 + 1 + 1, ok) :: (L' + 1 + 1 + 1, os) :: (L' + 1 + 1, oh) :: (L' + 1, ot) :: Z) ∧ Parts X vs (ps.take i) ∧ vs.length = i)
    ?_ ⟨[], rfl, ⟨rfl, fun j p e => by cases e⟩, rfl⟩ hoi H (by rw [hp.len]; omega) ?_ (fun o s Q E ho hx h => self_list hx ho h) ?_ (by decide) rfl ?_ ?_
  · rintro i vs ns' p q ⟨X, rfl, _⟩
    exact ⟨n, .tail _ (.tail _ (List.mem_append.mpr (.inr (.tail _ (.tail _ (.tail _ (.tail _ hmZ)))))))⟩
  · rintro i vs ns' ⟨X, rfl, hq, e⟩
    exact e
  · intro i o v s Q hv ho hx h
    obtain ⟨p, aq, tq, uq, e1, rfl, e2⟩ := parts_item hp hv
    exact go_list hx ho h
  · rintro C D i o v m' ns' oL' n' vs s hi hv ⟨X, rfl, hq, hle⟩ hoL' H
    obtain ⟨p, aq, tq, uq, e1, rfl, e2⟩ := parts_item hpZ hv
    have hmq : (aq, tupO [.str p.1 tq, .str p.2 uq]) ∈ (it, o) :: (D, lstO vs n') :: (L', oL') :: (X ++ ((L' + 1 + 1 + 1 + 1, ok) :: (L' + 1 + 1 + 1, os) :: (L' + 1 + 1, oh) :: (L' + 1, ot) :: Z)) :=
      .tail _ (.tail _ (.tail _ (List.mem_append.mpr (.inr (.tail _ (.tail _ (.tail _ (.tail _ e2))))))))
    walk_at "w"
    refine ⟨_, _, ⟨_ :: X, rfl, ?_, by simp [hle]⟩, At.front3 [_] H⟩
    rw [List.take_add_one, e1]
    exact (hq.mono fun _ q => .tail _ q).snoc (.head _)
  rintro C hl m' ns' oL' hn1 hitems s ⟨X, rfl, hq, hle⟩ hoL' H
  rw [List.take_of_length_le (by rw [hp.len]; exact Nat.le_refl _)] at hq
  refine post_none H hoL' hL' ?_
  clear H hoi
  intro s H
  replace H := At.front4 (_ :: X) H
  obtain ⟨Z2, hZ2⟩ : ∃ Z2, Z2 = X ++ Z := ⟨_, rfl⟩
  have hqZ : Parts Z2 hitems ps := by rw [hZ2]; exact hq.mono fun p q => List.mem_append.mpr (.inl q)
  replace hZ : ∃ X, Z2 = X ++ (L, oL) :: ns := by obtain ⟨Y, rfl⟩ := hZ; exact ⟨X ++ Y, by rw [hZ2, List.append_assoc]⟩
  rw [List.cons_append, ← hZ2] at H
  clear hmZ hpZ hZ2 hle hq
  walk_at "w"
  refine Assign_ListComp_ (cl := [(Str.ofString "times", L' + 1)]) ?_ (by rfl) (by rfl) rfl (by decide) (fun _ => rfl)
  walk_at "w"
  refine it_list H (by walk_at "mems") ?_
  clear C m' oL' hoL'
  intro it oi s hoi H
  obtain ⟨Y, hY⟩ : ∃ Y, Y = [(L' + 1 + 1 + 1 + 1, ok), (L' + 1 + 1 + 1, os)] := ⟨_, rfl⟩
  generalize hB : (_ :: _ :: _ :: _ :: (hl, lstO hitems hn1) :: Z2 : List (Addr × Obj)) = B at H
  refine comp_go (fun C => itr_list (l := hl) R.hd hitems) (fun i vs ns' => ns' = B ∧ IntsAre vs ((ps.take i).map (wtT T)) ∧ vs.length = i)
    ?_ ⟨rfl, .nil, rfl⟩ hoi H (by rw [hqZ.len]; omega) (fun i vs ns' h => h.2.2) (fun o s Q E ho hx h => self_list hx ho h) ?_ (by decide) rfl ?_ ?_
  · rintro i vs ns' p q ⟨rfl, _⟩
    exact ⟨hn1, .tail _ (.tail _ (by rw [← hB]; walk_at "mems"))⟩
  · intro i o v s Q hv ho hx h
    obtain ⟨p, aq, tq, uq, e1, rfl, e2⟩ := parts_item hqZ hv
    exact go_list hx ho h
  · rintro C D i o v m' ns' oL' n' vs s hi hv ⟨rfl, hq, hle⟩ hoL' H
    obtain ⟨p, aq, tq, uq, e1, rfl, e2⟩ := parts_item hqZ hv
    have hmq : (aq, tupO [.str p.1 tq, .str p.2 uq]) ∈ (it, o) :: (D, lstO vs n') :: (L', oL') :: ns' :=
      .tail _ (.tail _ (.tail _ (by rw [← hB]; exact .tail _ (.tail _ (.tail _ (.tail _ (.tail _ e2)))))))
    have hmt : (L' + 1, ot) ∈ (it, o) :: (D, lstO vs n') :: (L', oL') :: ns' := .tail _ (.tail _ (.tail _ (by rw [← hB]; walk_at "mems")))
    have hzp := hz.z p (List.mem_of_getElem? e1)
    walk_at "w"
    refine c_add H (by omega) ?_
    intro t1 s H
    walk_at "w"
    refine c_len H (by rw [strLen_append]; omega) ?_
    intro t2 s H
    walk_at "w"
    refine c_count H ?_
    intro t3 s H
    walk_at "w"
    refine i_mul H (IntMulOk.of_left (intBits_le_64 (by omega) (by omega))) ?_
    intro t4 s H
    walk_at "w"
    rw [show Str.ofString "\"" = ⟨#[34]⟩ from rfl, count_cnt]
    refine ⟨_, _, ⟨rfl, ?_, by simp [hle]⟩, H⟩
    rw [List.take_add_one, e1, List.map_append]
    exact hq.append (.cons _ _ .nil)
  rintro C sl m' ns' oL' sn svals s ⟨rfl, hq, hle⟩ hoL' H
  rw [List.take_of_length_le (by rw [hqZ.len]; exact Nat.le_refl _)] at hq
  refine' post_name ?k1 hoL' ?k2 ?k3 ?k4 ?_
  case k1 => exact H
  case k2 => exact hL'
  case k3 => exact rfl
  case k4 => exact rfl
  clear H hoi hY Y C m' oL' hoL'
  intro s H
  subst hB
  walk_at "w"
  refine wpAny_For ?_ (fun _ => rfl)
  walk_at "w"
  refine c_lenL H (by walk_at "mems") (by rw [hqZ.len]; omega) ?_
  intro t5 s H
  walk_at "w"
  refine mk_range1 H ?_
  intro r r1 r2 r3 s H
  refine it_range (N := hitems.length) H (by walk_at "mems") (small_one (by decide) (by decide) (by rw [hqZ.len]; omega) (by rw [hqZ.len]; omega)) (by rw [rangeSize_nat]; congr 1) ?_
  intro it2 o2 s ho2 H
  refine for_it (itr_range R.hd 0 1 hitems.length) (fun k m ns' => RJ T W um uw ut marks ps ((ps.take k).foldl (LS.add T W marks.cps.toList) ⟨h0, [], []⟩) L oL ns (rngO 0 (hitems.length : Int) 1 r1 r2 r3) r la sl (L' + 1 + 1 + 1 + 1) (L' + 1 + 1 + 1) (L' + 1 + 1) (L' + 1) hl k m ns')
    (fun _ _ _ _ => trivial) (RJ.mk' (pre := []) (pz := []) (st := 0) ck (by assumption) (by assumption) ct (by walk_at "upl") (by walk_at "upl") (by walk_at "upl") (by walk_at "upl") (by walk_at "upl") (by walk_at "upl") (by simpa using hqZ) rfl rfl (by simpa using hq) rfl ⟨rfl, fun j row e => by cases e⟩ hZ (by simpa using hz) hh (Nat.le_refl _)) ho2 H (fun _ _ _ _ _ _ _ _ hq => wpAny_pure hq) ?_ ?_
  · rintro k o v m' ns' s hk ⟨tk, rfl⟩ hJ H
    refine hJ.elim ?_
    clear hJ
    intro hitems' hn' svals' sn' ritems rn ok' os' oh' ot' Z' st pre pz ts th tr vk hns ck' cs' ch' ct' e1 e2 e3 e4 e5 e6 e7 e8 e9 e10 e11 e12 e13 e14 e15 e16
    subst hns
    rw [show (0 : Int) + (k : Int) * 1 = (k : Int) from by omega]
    generalize hf : (ps.take k).foldl (LS.add T W marks.cps.toList) ⟨h0, [], []⟩ = f at *
    have hk' : k < ps.length := by rw [← hqZ.len]; exact hk
    obtain ⟨p, hpk⟩ : ∃ p, ps[k]? = some p := ⟨_, List.getElem?_eq_getElem hk'⟩
    have hf' : (ps.take (k + 1)).foldl (LS.add T W marks.cps.toList) ⟨h0, [], []⟩ = LS.add T W marks.cps.toList f p := by
      rw [List.take_add_one, hpk, List.foldl_append, hf]; rfl
    rw [hf']
    have hdr : ps.drop k = p :: ps.drop (k + 1) := by
      obtain ⟨hk2, e⟩ := List.getElem?_eq_some_iff.mp hpk
      rw [List.drop_eq_getElem_cons hk2, e]
    rw [hdr] at e7 e10 e14
    have hl7 := e7.len
    have hl10 := e10.length
    simp only [List.length_append, List.length_cons, List.length_map, List.length_drop] at hl7 hl10
    refine wpAny_assign_Name ?_
    refine' st_cellI H ?k1 ?k2 ck' rfl ?k4 ?_
    case k1 => exact rfl
    case k4 => exact rfl
    case k2 => walk_at "puts"
    intro ok2 s ck2 H
    clear ck'
    walk_at "w"
    refine c_lsl (i' := st) (j' := k + 1) H (by walk_at "mems") (by walk_at "mems") rfl (by omega) (by omega) (by omega) (by omega) ?_
    intro lb s H
    walk_at "w"
    have hsum : IntsAre ((svals'.drop st).take (k + 1 - st)) ((f.cur ++ [p]).map (wtT T)) := by
      have := ints_cut e10 st (k + 1 - st)
      rw [List.map_cons, ← List.singleton_append, ← List.append_assoc, List.append_assoc pz, show [wtT T p] = [p].map (wtT T) from rfl, ← List.map_append, cut_mid _ _ _ e11 (by simp; omega)] at this
      exact this
    refine c_sum R.hd H (by walk_at "mems") hsum ?_
    intro t7 s H
    walk_at "w"
    by_cases hle : ((f.cur ++ [p]).map (wtT T)).sum ≤ (W : Int) - f.h0
    · rw [if_pos (by simpa using hle)]
      walk_at "w"
      have hadd : LS.add T W marks.cps.toList f p = ⟨f.h0, f.cur ++ [p], f.rows⟩ := by unfold LS.add; rw [if_neg (by omega)]
      rw [hadd]
      replace H := At.front9 [_, _] H
      refine ⟨_, _, RJ.mk' ck2 cs' ch' ct' e1 e2 e3 e4 e5 e6 ?_ e8 (by simp; omega) ?_ e11 (e12.mono fun p q => .tail _ (.tail _ q)) ?_ ?_ e15 (by omega), H⟩
      · exact Parts.mono (ns := Z') (by simpa using e7) fun p q => .tail _ (.tail _ q)
      · simpa using e10
      · obtain ⟨X, rfl⟩ := e13; exact ⟨_ :: _ :: X, rfl⟩
      · simpa using e14
    rw [if_neg (by simpa using hle)]
    walk_at "w"
    replace H := At.front9 [_, _] H
    generalize hZ3 : ([_, _] ++ Z' : List (Addr × Obj)) = Z3 at H
    replace e7 : Parts Z3 hitems' (pre ++ f.cur ++ p :: ps.drop (k + 1)) := e7.mono fun p q => by rw [← hZ3]; exact .tail _ (.tail _ q)
    replace e12 : RowsIn Z3 ritems f.rows := e12.mono fun p q => by rw [← hZ3]; exact .tail _ (.tail _ q)
    replace e13 : ∃ X, Z3 = X ++ (L, oL) :: ns := by obtain ⟨X, rfl⟩ := e13; exact ⟨_ :: _ :: X, hZ3.symm⟩
    clear hsum hZ3
    refine Assign_ListComp_ (cl := [(Str.ofString "start", L' + 1 + 1 + 1), (Str.ofString "k", L' + 1 + 1 + 1 + 1), (Str.ofString "held", L' + 1 + 1)]) ?_ (by rfl) (by rfl) rfl (by decide) (fun _ => rfl)
    walk_at "w"
    refine it_str H hma ?_
    intro it3 o3 s ho3 H
    have hcl : (f.cur ++ [p]).length = f.cur.length + 1 := by simp
    have hcb : f.cur.length ≤ 20 := by omega
    have hlen : ∀ i, (lcutsIn (marks.cps.toList.take i) (f.cur ++ [p])).length ≤ 200 := fun i => by
      have h1 := lcutsIn_len (f.cur ++ [p]) (marks.cps.toList.take i)
      have h4 : marks.cps.toList.length = marks.length := by simp [Str.length]
      have h2 : (marks.cps.toList.take i).length ≤ 10 := by rw [List.length_take]; omega
      have h3 := Nat.mul_le_mul h2 (show (f.cur ++ [p]).length - 1 ≤ 20 by omega)
      omega
    refine comp_go2 (fun C => itr_str R.hd marks um) (fun i vs ns' => ns' = ((it2, o) :: (r, rngO 0 (hitems.length : Int) 1 r1 r2 r3) :: (la, lstO ritems rn) :: (sl, lstO svals' sn') :: (L' + 1 + 1 + 1 + 1, ok2) :: (L' + 1 + 1 + 1, os') :: (L' + 1 + 1, oh') :: (L' + 1, ot') :: (hl, lstO hitems' hn') :: Z3) ∧
        IntsAre vs ((lcutsIn (marks.cps.toList.take i) (f.cur ++ [p])).map fun i : Nat => ((st + i : Nat) : Int)))
      (fun _ _ _ _ _ _ => trivial) ⟨rfl, .nil⟩ ho3 H (fun o s Q E ho hx h => self_str hx ho h) (fun _ => rfl) (fun _ _ => rfl) (by decide) rfl ?_ ?_
    · rintro C D i o3 v mC ns' oL' nD vs s hi ⟨c, tc, hc, rfl⟩ ⟨rfl, hvs⟩ hoL' H
      walk_at "w"
      refine PyProof.Rows.neg_int ?_
      replace H := H.toks (Nat.le_succ _)
      walk_at "w"
      refine mk_range3 H (by decide) (PyProof.noPylong_small (by decide)) ?_
      intro r4 v1 v2 v3 s H
      refine it_range H (by walk_at "mems") (small_down (by omega) (by omega) (by omega) (by omega)) (rangeSize_downNat _ _) ?_
      intro it4 o4 s ho4 H
      have hN : ((k : Int) - (st : Int)).toNat = k - st := by omega
      have htk : lcutsIn (marks.cps.toList.take (i + 1)) (f.cur ++ [p]) = lcutsIn (marks.cps.toList.take i) (f.cur ++ [p]) ++ lcuts c (f.cur ++ [p]) (k - st) := by
        rw [List.take_add_one, Array.getElem?_toList, hc, lcutsIn_app]
        congr 1
        show lcuts c (f.cur ++ [p]) ((f.cur ++ [p]).length - 1) ++ [] = _
        rw [List.append_nil, hcl]
        congr 1
        omega
      have hl1 := hlen (i + 1)
      replace H := At.inner H
      unfold InOk
      refine comp_in (itr_range R.hd (k : Int) (-1) _) (fun j m vs ns' => ns' = ((it3, o3) :: (L', oL') :: (r4, rngO (k : Int) (st : Int) (-1) v1 v2 v3) :: (it2, o) :: (r, rngO 0 (hitems.length : Int) 1 r1 r2 r3) :: (la, lstO ritems rn) :: (sl, lstO svals' sn') :: (L' + 1 + 1 + 1 + 1, ok2) :: (L' + 1 + 1 + 1, os') :: (L' + 1 + 1, oh') :: (L' + 1, ot') :: (hl, lstO hitems' hn') :: Z3) ∧
          m "mark" = some (.str ⟨#[c]⟩ tc) ∧ ∃ acc : List Nat, IntsAre vs (acc.map fun i : Nat => ((st + i : Nat) : Int)) ∧ acc ++ lcuts c (f.cur ++ [p]) (k - st - j) = lcutsIn (marks.cps.toList.take (i + 1)) (f.cur ++ [p]))
        (fun _ _ _ _ _ _ => trivial) ⟨rfl, by walk_at "upl", _, hvs, htk.symm⟩ ho4 H ?_ (fun o s Q E ho hx h => self_range hx ho h) (fun _ => rfl) ?_ ?_
      · rintro j m vs ns' ⟨rfl, _, acc, h1, h2⟩
        rw [h1.length, List.length_map]
        have := congrArg List.length h2
        rw [List.length_append] at this
        omega
      · rintro j oj v mj nj vs ns' s hj ⟨tj, rfl⟩ ⟨rfl, hmk, acc, h1, h2⟩ H
        rw [hN] at hj
        obtain ⟨i0, hi0, hi1⟩ : ∃ i0 : Nat, (k : Int) + (j : Int) * (-1) = ((st + (i0 + 1) : Nat) : Int) ∧ k - st - j = i0 + 1 := ⟨k - st - j - 1, by omega, by omega⟩
        rw [hi0]
        rw [hi1] at h2
        have g1 := get_mid (pre := pre) (cur := f.cur) (p := p) (rest := ps.drop (k + 1)) (i := i0 + 1) e8 (by omega)
        have g0 := get_mid (pre := pre) (cur := f.cur) (p := p) (rest := ps.drop (k + 1)) (i := i0) e8 (by omega)
        obtain ⟨q1, hq1⟩ : ∃ q, (f.cur ++ [p])[i0 + 1]? = some q := ⟨_, List.getElem?_eq_getElem (by omega)⟩
        obtain ⟨q0, hq0⟩ : ∃ q, (f.cur ++ [p])[i0]? = some q := ⟨_, List.getElem?_eq_getElem (by omega)⟩
        rw [hq1] at g1
        rw [hq0] at g0
        obtain ⟨a1, ta1, ua1, ea1, ma1⟩ := e7.at_ _ _ g1
        obtain ⟨a0, ta0, ua0, ea0, ma0⟩ := e7.at_ _ _ g0
        have hq1m : q1 ∈ f.cur ++ p :: ps.drop (k + 1) := by
          have := List.mem_of_getElem? hq1
          rcases List.mem_append.mp this with h | h
          · exact List.mem_append.mpr (.inl h)
          · rw [List.mem_singleton.mp h]; exact List.mem_append.mpr (.inr (.head _))
        have hq0m : q0 ∈ f.cur ++ p :: ps.drop (k + 1) := by
          have := List.mem_of_getElem? hq0
          rcases List.mem_append.mp this with h | h
          · exact List.mem_append.mpr (.inl h)
          · rw [List.mem_singleton.mp h]; exact List.mem_append.mpr (.inr (.head _))
        have z1 := e14.z q1 hq1m
        have z0 := e14.z q0 hq0m
        walk_at "w"
        refine c_item H (by walk_at "mems") (by omega) (by omega) (by rw [Int.toNat_natCast]; exact ea1) ?_
        walk_at "w"
        refine tup_item H (by walk_at "mems") (by decide) (by decide) rfl ?_
        walk_at "w"
        refine c_slice_to H (by walk_at "mems") (by omega) ?_
        intro t8 s H
        walk_at "w"
        refine c_item H (by walk_at "mems") (by omega) (by omega) (by rw [show (((st + (i0 + 1) : Nat) : Int) - 1).toNat = st + i0 from by omega]; exact ea0) ?_
        walk_at "w"
        refine tup_item H (by walk_at "mems") (by decide) (by decide) rfl ?_
        walk_at "w"
        refine PyProof.Rows.neg_int ?_
        replace H := H.toks (Nat.le_succ _)
        walk_at "w"
        refine c_slice_from H (by walk_at "mems") (by omega) ?_
        intro t9 s H
        walk_at "w"
        refine c_inTup H (by walk_at "mems") ?_
        rw [sl_first, sl_last]
        have hb : lhitAt c (f.cur ++ [p]) (i0 + 1) = lhit c q0 q1 := by unfold lhitAt; rw [show i0 + 1 - 1 = i0 from rfl, hq0, hq1]
        have hlc : lcuts c (f.cur ++ [p]) (i0 + 1) = if lhit c q0 q1 = true then (i0 + 1) :: lcuts c (f.cur ++ [p]) i0 else lcuts c (f.cur ++ [p]) i0 := by
          conv => lhs; unfold lcuts
          rw [hb]
        rw [hlc] at h2
        have hi2 : k - st - (j + 1) = i0 := by omega
        change wpAny _ _ (truthy (.bool (lhit c q0 q1))) _ _ _
        walk_at "w"
        by_cases hhit : lhit c q0 q1 = true
        · rw [if_pos hhit] at h2 ⊢
          walk_at "w"
          refine ⟨_, _, ⟨rfl, by walk_at "upl", acc ++ [i0 + 1], ?_, ?_⟩, H.sub (.cons _ (.cons _ (.cons _ (List.Sublist.refl _))))⟩
          · rw [List.map_append]
            exact h1.append (.cons _ _ .nil)
          · rw [hi2, List.append_assoc]; exact h2
        · rw [if_neg hhit] at h2 ⊢
          refine ⟨_, _, ⟨rfl, by walk_at "upl", acc, h1, by rw [hi2]; exact h2⟩, H.sub (.cons _ (.cons _ (.cons _ (List.Sublist.refl _))))⟩
      · rintro mj nj vs ns' s ⟨rfl, hmk, acc, h1, h2⟩ H
        rw [hN, Nat.sub_self] at h2
        have h2 : acc = lcutsIn (marks.cps.toList.take (i + 1)) (f.cur ++ [p]) := by rw [← h2]; exact (List.append_nil _).symm
        rw [h2] at h1
        exact ⟨_, _, _, _, ⟨rfl, h1⟩, (H.perm (List.Perm.swap _ _ _)).sub (.cons_cons _ (.cons_cons _ (.cons_cons _ (.cons _ (List.Sublist.refl _)))))⟩
    · rintro C cd mC ns' oL' cn cvals s ⟨rfl, hvs⟩ hoL' H
      rw [List.take_of_length_le (by simp)] at hvs
      refine' post_name ?k1 hoL' ?k2 ?k3 ?k4 ?_
      case k1 => exact H
      case k2 => exact hL'
      case k3 => exact rfl
      case k4 => exact rfl
      clear H ho3 hlen hoL'
      intro s H
      walk_at "w"
      refine c_neNil H (R.le (by decide)) (by walk_at "mems") (by walk_at "mems") hvs ?_
      walk_at "w"
      have hgt : (f.h0 : Int) + ((f.cur ++ [p]).map (wtT T)).sum > W := by omega
      cases hli : lcutsIn marks.cps.toList (f.cur ++ [p]) with
      | cons i0 irest =>
        have hib := lcutsIn_bound (x := marks.cps.toList) (ps := f.cur ++ [p]) (i := i0) (by rw [hli]; exact List.Mem.head _)
        have hadd : LS.add T W marks.cps.toList f p = ⟨0, (f.cur ++ [p]).drop i0, f.rows ++ [(f.cur ++ [p]).take i0]⟩ := by unfold LS.add; rw [if_pos hgt, hli]
        rw [hadd]
        rw [hli] at hvs
        obtain ⟨tc0, hc0⟩ : ∃ t, cvals[((0 : Int)).toNat]? = some (.int ((st + i0 : Nat) : Int) t) := by
          cases hvs with | cons n t r => exact ⟨t, rfl⟩
        rw [if_pos (by rfl)]
        walk_at "w"
        refine c_item H (by walk_at "mems") (by decide) (by decide) hc0 ?_
        walk_at "w"
        refine c_lsl (i' := st) (j' := st + i0) H (by walk_at "mems") (by walk_at "mems") rfl rfl (by omega) (by omega) (by omega) ?_
        intro lb2 s H
        walk_at "w"
        refine lst_append H (by walk_at "puts") (by omega) ?_
        intro s H
        walk_at "w"
        refine c_item H (by walk_at "mems") (by decide) (by decide) hc0 ?_
        walk_at "w"
        replace H := At.front9 [_, _, _, _] H
        refine ⟨_, _, RJ.mk' (st := st + i0) (pre := pre ++ (f.cur ++ [p]).take i0) (pz := pz ++ ((f.cur ++ [p]).take i0).map (wtT T)) ck2 (by assumption) ch' ct' (by walk_at "upl") (by walk_at "upl") (by walk_at "upl") (by rw [show (W : Int) - ((0 : Nat) : Int) = W from by omega]; walk_at "upl") (by walk_at "upl") (by walk_at "upl")
          ?_ ?_ ?_ ?_ ?_ ?_ ?_ ?_ (Nat.zero_le _) ?_, H⟩
        · refine Parts.mono (ns := Z3) ?_ fun p q => .tail _ (.tail _ (.tail _ (.tail _ q)))
          have e : pre ++ (f.cur ++ [p]).take i0 ++ (f.cur ++ [p]).drop i0 ++ ps.drop (k + 1) = pre ++ f.cur ++ p :: ps.drop (k + 1) := by
            rw [List.append_assoc pre, List.take_append_drop]; simp
          rw [e]; exact e7
        · rw [List.length_append, List.length_take, e8]; omega
        · rw [List.length_drop]; omega
        · have e : pz ++ ((f.cur ++ [p]).take i0).map (wtT T) ++ ((f.cur ++ [p]).drop i0).map (wtT T) ++ (ps.drop (k + 1)).map (wtT T) = pz ++ f.cur.map (wtT T) ++ (p :: ps.drop (k + 1)).map (wtT T) := by
            rw [List.append_assoc pz, ← List.map_append, List.take_append_drop]; simp
          rw [e]; exact e10
        · rw [List.length_append, List.length_map, List.length_take, e11]; omega
        · refine RowsIn.snoc (items := (hitems'.drop st).take (st + i0 - st)) (n := 0) (e12.mono fun p q => .tail _ (.tail _ (.tail _ (.tail _ q)))) (.head _) ?_
          refine Parts.mono (ns := Z3) ?_ fun p q => .tail _ (.tail _ (.tail _ (.tail _ q)))
          have := (e7.drop st).take (st + i0 - st)
          rw [take_mid pre f.cur (ps.drop (k + 1)) p i0, cut_mid _ _ _ e8 (by rw [List.length_take]; omega)] at this
          exact this
        · obtain ⟨X, rfl⟩ := e13; exact ⟨_ :: _ :: _ :: _ :: X, rfl⟩
        · refine e14.sub (by simp only [List.length_append, List.length_drop, List.length_cons, List.length_nil]; omega) fun q hq => ?_
          rcases List.mem_append.mp hq with h | h
          · rcases List.mem_append.mp (List.mem_of_mem_drop h) with h | h
            · exact List.mem_append.mpr (.inl h)
            · rw [List.mem_singleton.mp h]; exact List.mem_append.mpr (.inr (.head _))
          · exact List.mem_append.mpr (.inr (.tail _ h))
        · rw [List.length_append, List.length_singleton]; omega
      | nil =>
        rw [if_neg (by simp)]
        walk_at "w"
        by_cases hh0 : 0 < f.h0
        · rw [if_pos (by simpa using hh0)]
          have hadd : LS.add T W marks.cps.toList f p = ⟨0, [(if p.1 == Str.ofString "" then Str.ofString " " else p.1, p.2)], f.rows ++ [f.cur]⟩ := by unfold LS.add; rw [if_pos hgt, hli]; exact if_pos hh0
          rw [hadd]
          have hzp := e14.z p (List.mem_append.mpr (.inr (.head _)))
          have ehk : (pre ++ f.cur ++ p :: ps.drop (k + 1))[k]? = some p := by
            have := get_mid (pre := pre) (cur := f.cur) (p := p) (rest := ps.drop (k + 1)) (i := f.cur.length) e8 (Nat.le_refl _)
            rw [e9] at this
            rw [this]; simp
          obtain ⟨ap, tp, up1, eap, map_⟩ := e7.at_ _ _ ehk
          walk_at "w"
          refine c_lsl (i' := st) (j' := k) H (by walk_at "mems") (by walk_at "mems") rfl rfl (by omega) (by omega) (by omega) ?_
          intro lb2 s H
          walk_at "w"
          refine lst_append H (by walk_at "puts") (by omega) ?_
          intro s H
          walk_at "w"
          refine c_item H (by walk_at "mems") (by omega) (by omega) (by rw [Int.toNat_natCast]; exact eap) ?_
          walk_at "w"
          refine tup_item H (by walk_at "mems") (by decide) (by decide) rfl ?_
          walk_at "w"
          have hrow : ∀ Z', (∀ q ∈ Z3, q ∈ Z') → Parts Z' ((hitems'.drop st).take (k - st)) f.cur := fun Z' hs => by
            have := (e7.drop st).take (k - st)
            rw [cut_mid _ _ _ e8 (by omega)] at this
            exact this.mono hs
          by_cases hemp : (p.1 == Str.ofString "") = true
          · rw [if_pos hemp]
            rw [if_pos hemp]
            walk_at "w"
            refine c_item H (by walk_at "mems") (by omega) (by omega) (by rw [Int.toNat_natCast]; exact eap) ?_
            walk_at "w"
            refine tup_item H (by walk_at "mems") (by decide) (by decide) rfl ?_
            walk_at "w"
            refine c_setL H (by walk_at "puts") (by omega) (by omega) ?_
            intro nh s H
            walk_at "w"
            have ezk : (pz ++ f.cur.map (wtT T) ++ (p :: ps.drop (k + 1)).map (wtT T))[k]? = some (wtT T p) := by
              rw [List.map_cons]
              have := get_mid (pre := pz) (cur := f.cur.map (wtT T)) (p := wtT T p) (rest := (ps.drop (k + 1)).map (wtT T)) (i := f.cur.length) e11 (by simp)
              rw [e9] at this
              rw [this]; simp
            obtain ⟨vz, hvz⟩ : ∃ v, svals'[k]? = some v := ⟨_, List.getElem?_eq_getElem (by omega)⟩
            obtain ⟨kz, tz, hkz, rfl⟩ := intsAre_get e10 hvz
            rw [ezk] at hkz
            cases hkz
            refine c_item H (by walk_at "mems") (by omega) (by omega) (by rw [Int.toNat_natCast]; exact hvz) ?_
            walk_at "w"
            refine c_setL H (by walk_at "puts") (by omega) (by omega) ?_
            intro nz s H
            walk_at "w"
            have hpe : p.1 = Str.ofString "" := eq_of_beq hemp
            replace H := At.front9 [_, _, _, _, _] H
            refine ⟨_, _, RJ.mk' (st := k) (pre := pre ++ f.cur) (pz := pz ++ f.cur.map (wtT T)) ck2 (by assumption) ch' ct' (by walk_at "upl") (by walk_at "upl") (by walk_at "upl") (by rw [show (W : Int) - ((0 : Nat) : Int) = W from by omega]; walk_at "upl") (by walk_at "upl") (by walk_at "upl")
              ?_ ?_ rfl ?_ ?_ ?_ ?_ ?_ (Nat.zero_le _) ?_, H⟩
            · rw [show pre ++ f.cur ++ [(Str.ofString " ", p.2)] ++ ps.drop (k + 1) = (pre ++ f.cur ++ p :: ps.drop (k + 1)).set k (Str.ofString " ", p.2) from by rw [set_mid (by omega)]; simp]
              exact Parts.set (e7.mono fun p q => .tail _ (.tail _ (.tail _ (.tail _ (.tail _ q))))) (.head _)
            · rw [List.length_append]; omega
            · have eS : (pz ++ f.cur.map (wtT T) ++ wtT T p :: (ps.drop (k + 1)).map (wtT T)).set k (wtT T p + 1) = pz ++ f.cur.map (wtT T) ++ (wtT T p + 1) :: (ps.drop (k + 1)).map (wtT T) := set_mid (by rw [List.length_map]; omega)
              have eS' : wtT T (Str.ofString " ", p.2) = wtT T p + 1 := wtT_fix hpe
              rw [show pz ++ f.cur.map (wtT T) ++ [(Str.ofString " ", p.2)].map (wtT T) ++ (ps.drop (k + 1)).map (wtT T) = pz ++ f.cur.map (wtT T) ++ (wtT T p + 1) :: (ps.drop (k + 1)).map (wtT T) from by rw [← eS']; simp, ← eS]
              exact intsAre_set e10 k
            · rw [List.length_append, List.length_map]; omega
            · exact RowsIn.snoc (items := (hitems'.drop st).take (k - st)) (n := 0) (e12.mono fun p q => .tail _ (.tail _ (.tail _ (.tail _ (.tail _ q))))) (.tail _ (.head _)) (hrow _ fun p q => .tail _ (.tail _ (.tail _ (.tail _ (.tail _ q)))))
            · obtain ⟨X, rfl⟩ := e13; exact ⟨_ :: _ :: _ :: _ :: _ :: X, rfl⟩
            · have e14' : Small (p :: ps.drop (k + 1)) := e14.sub (by rw [List.length_append]; omega) fun q hq => List.mem_append.mpr (.inr hq)
              refine ⟨by have := e14'.n; simpa using this, fun q hq => ?_, fun q hq => ?_⟩
              · rcases List.mem_cons.mp hq with rfl | hq
                · exact ⟨Nat.le_of_ble_eq_true rfl, (e14'.z p (.head _)).2⟩
                · exact e14'.z q (.tail _ hq)
              · rcases List.mem_cons.mp hq with rfl | hq
                · exact ⟨show PyData.strOk (Str.ofString " ") = true by decide +kernel, (e14'.k p (.head _)).2⟩
                · exact e14'.k q (.tail _ hq)
            · rw [List.length_append, List.length_singleton]; omega
          · rw [if_neg hemp]
            rw [if_neg hemp]
            walk_at "w"
            replace H := At.front9 [_, _, _, _] H
            refine ⟨_, _, RJ.mk' (st := k) (pre := pre ++ f.cur) (pz := pz ++ f.cur.map (wtT T)) ck2 (by assumption) ch' ct' (by walk_at "upl") (by walk_at "upl") (by walk_at "upl") (by rw [show (W : Int) - ((0 : Nat) : Int) = W from by omega]; walk_at "upl") (by walk_at "upl") (by walk_at "upl")
              ?_ ?_ rfl ?_ ?_ ?_ ?_ ?_ (Nat.zero_le _) ?_, H⟩
            · exact Parts.mono (ns := Z3) (by simpa using e7) fun p q => .tail _ (.tail _ (.tail _ (.tail _ q)))
            · rw [List.length_append]; omega
            · simpa using e10
            · rw [List.length_append, List.length_map]; omega
            · exact RowsIn.snoc (items := (hitems'.drop st).take (k - st)) (n := 0) (e12.mono fun p q => .tail _ (.tail _ (.tail _ (.tail _ q)))) (.head _) (hrow _ fun p q => .tail _ (.tail _ (.tail _ (.tail _ q))))
            · obtain ⟨X, rfl⟩ := e13; exact ⟨_ :: _ :: _ :: _ :: X, rfl⟩
            · exact e14.sub (by simp only [List.length_append, List.length_cons, List.length_nil]; omega) fun q hq => List.mem_append.mpr (.inr (by simpa using hq))
            · rw [List.length_append, List.length_singleton]; omega
        · rw [if_neg (by simpa using hh0)]
          walk_at "w"
          have hadd : LS.add T W marks.cps.toList f p = ⟨f.h0, f.cur ++ [p], f.rows⟩ := by unfold LS.add; rw [if_pos hgt, hli]; exact if_neg hh0
          rw [hadd]
          replace H := At.front9 [_, _] H
          refine ⟨_, _, RJ.mk' ck2 cs' ch' ct' (by walk_at "upl") (by walk_at "upl") (by walk_at "upl") (by walk_at "upl") (by walk_at "upl") (by walk_at "upl") ?_ e8 (by simp; omega) ?_ e11 (e12.mono fun p q => .tail _ (.tail _ q)) ?_ ?_ e15 (by omega), H⟩
          · exact Parts.mono (ns := Z3) (by simpa using e7) fun p q => .tail _ (.tail _ q)
          · simpa using e10
          · obtain ⟨X, rfl⟩ := e13; exact ⟨_ :: _ :: X, rfl⟩
          · simpa using e14
  · rintro m' ns' s hJ H
    rw [hqZ.len, List.take_of_length_le (Nat.le_refl _)] at hJ
    refine hJ.elim ?_
    clear hJ
    intro hitems' hn' svals' sn' ritems rn ok' os' oh' ot' Z' st pre pz ts th tr vk hns ck' cs' ch' ct' e1 e2 e3 e4 e5 e6 e7 e8 e9 e10 e11 e12 e13 e14 e15 e16
    subst hns
    generalize hf : ps.foldl (LS.add T W marks.cps.toList) ⟨h0, [], []⟩ = f at *
    rw [List.drop_length] at e7 e10 e14
    have hl7 := e7.len
    simp only [List.length_append, List.length_nil] at hl7
    walk_at "w"
    refine c_lfrom (i' := st) H (by walk_at "mems") (by walk_at "mems") rfl (by omega) (by omega) ?_
    intro lb s H
    walk_at "w"
    refine lst_append H (by walk_at "puts") (by omega) ?_
    intro s H
    walk_at "w"
    have hcur : Parts Z' (hitems'.drop st) f.cur := by
      have := e7.drop st
      have e : (pre ++ f.cur).drop st = f.cur := by rw [← e8, List.drop_left]
      rw [List.append_nil, e] at this
      exact this
    generalize hB : (_ :: _ :: _ :: _ :: _ :: _ :: _ :: _ :: _ :: _ :: Z' : List (Addr × Obj)) = B at H
    have hZB : ∀ q ∈ Z', q ∈ B := fun q hq => by rw [← hB]; exact .tail _ (.tail _ (.tail _ (.tail _ (.tail _ (.tail _ (.tail _ (.tail _ (.tail _ (.tail _ hq)))))))))
    have hlaB : (la, lstO (ritems ++ [.ref lb]) (rn + 1)) ∈ B := by rw [← hB]; walk_at "mems"
    have hRB : RowsIn B (ritems ++ [.ref lb]) (f.rows ++ [f.cur]) := RowsIn.snoc (items := hitems'.drop st) (n := 0) (e12.mono hZB) (by rw [← hB]; exact .head _) (hcur.mono hZB)
    replace e13 : ∃ X, B = X ++ (L, oL) :: ns := by
      obtain ⟨X, rfl⟩ := e13
      exact ⟨_ :: _ :: _ :: _ :: _ :: _ :: _ :: _ :: _ :: _ :: X, hB.symm⟩
    have hln : ritems.length ≤ 20 := by omega
    have hlr : f.rows.length ≤ 20 := by rw [← e12.len]; omega
    obtain ⟨X0, hX0⟩ := e13
    refine ret_rows G H (R.le (by decide)) hlaB hRB hsm (by rw [List.length_append, List.length_singleton]; omega) e5 rfl rfl rfl rfl ?_
    intro X D vs' nD s hvs H
    subst hX0
    have H' := H.leave hL ho (.keep (Drop.app (Drop.mid X0) X))
    rw [← List.append_assoc] at H'
    exact h (_ :: (X ++ X0)) D vs' _ s H' (.head _) hvs
end
end Mine
end
section
open PySem PySem.W PyProof.Rows PySem.Calls PySem.Spec
set_option Elab.async false
set_option maxRecDepth 100000
set_option maxHeartbeats 4000000
namespace Mine
/-! plain: quotation marks written T times, and read again -/
def exL (T : Nat) : List Nat → List Nat
  | [] => []
  | c :: cs => if c = 34 then List.replicate T 34 ++ exL T cs else c :: exL T cs
theorem exL_cons (T c : Nat) (cs : List Nat) : exL T (c :: cs) = if c = 34 then List.replicate T 34 ++ exL T cs else c :: exL T cs := rfl
theorem exL_app (T : Nat) : ∀ a b : List Nat, exL T (a ++ b) = exL T a ++ exL T b
  | [], _ => rfl
  | c :: a, b => by
    rw [List.cons_append, exL_cons, exL_cons, exL_app T a b]
    split
    · rw [List.append_assoc]
    · rfl
theorem exL_free {T : Nat} : ∀ {a : List Nat}, 34 ∉ a → exL T a = a
  | [], _ => rfl
  | c :: a, h => by
    rw [exL_cons, if_neg (fun e : c = 34 => h (by rw [e]; exact List.Mem.head _)), exL_free fun m => h (.tail _ m)]
def jl (sep : List Nat) : List (List Nat) → List Nat
  | [] => []
  | [x] => x
  | x :: y :: r => x ++ sep ++ jl sep (y :: r)
theorem join_jl (sep : Str) : ∀ ys : List Str, (Str.join sep ys).cps.toList = jl sep.cps.toList (ys.map (·.cps.toList))
  | [] => rfl
  | [x] => rfl
  | x :: y :: r => by
    show ((x.cps ++ sep.cps) ++ (Str.join sep (y :: r)).cps).toList = _
    rw [Array.toList_append, Array.toList_append, join_jl sep (y :: r)]
    rfl
theorem exL_jl (T : Nat) : ∀ xs : List (List Nat), (∀ x ∈ xs, 34 ∉ x) → exL T (jl [34] xs) = jl (List.replicate T 34) xs
  | [], _ => rfl
  | [x], h => exL_free (h x (.head _))
  | x :: y :: r, h => by
    show exL T (x ++ [34] ++ jl [34] (y :: r)) = x ++ List.replicate T 34 ++ jl _ (y :: r)
    rw [exL_app, exL_app, exL_jl T (y :: r) fun z hz => h z (.tail _ hz), exL_free (h x (.head _))]
    congr 2
    show (if (34 : Nat) = 34 then List.replicate T 34 ++ exL T [] else _) = _
    rw [if_pos rfl]
    exact List.append_nil _
theorem replace_ex (T : Nat) (x : Str) : Txt.replace x (mkS [34]) (mkS (List.replicate T 34)) = mkS (exL T x.cps.toList) := by
  have h1 := StrLaws.replace_one x (mkS (List.replicate T 34)) 34
  have h2 := StrLaws.join_split x ⟨#[34]⟩
  have h3 := StrLaws.split_free x 34
  have e1 : x.cps.toList = jl [34] ((Txt.split x ⟨#[34]⟩).map (·.cps.toList)) := by rw [← join_jl ⟨#[34]⟩, h2]
  have e2 := exL_jl T ((Txt.split x ⟨#[34]⟩).map (·.cps.toList)) (by
    intro y hy
    obtain ⟨p, hp, rfl⟩ := List.mem_map.mp hy
    exact h3 p hp)
  rw [← e1] at e2
  rw [e2, ← mkS_self (Txt.replace x (mkS [34]) (mkS (List.replicate T 34)))]
  congr 1
  show (Txt.replace x ⟨#[34]⟩ (mkS (List.replicate T 34))).cps.toList = _
  rw [h1, join_jl, mkS_list]
theorem readL_one (T : Nat) : ∀ (l : List Nat) (run : Nat), readL T 1 run l = List.replicate (run * T) 34 ++ exL T l
  | [], run => by unfold readL exL; rw [Nat.div_one, List.append_nil]
  | c :: cs, run => by
    rw [exL_cons]
    unfold readL
    by_cases h : c = 34
    · rw [if_pos h, if_pos h, readL_one T cs, ← List.append_assoc, List.replicate_append_replicate]
      congr 2
      rw [Nat.succ_mul]
    · rw [if_neg h, if_neg h, Nat.div_one, Nat.mod_one, if_neg (by simp), readL_one T cs 0, Nat.zero_mul]
      rfl
theorem decL_rep : ∀ (m : Nat) (rest : List Nat), (∀ r, rest ≠ 34 :: r) → decL (List.replicate m 34 ++ rest) = List.replicate (m / 2) 34 ++ (if m % 2 ≠ 0 then [] else decL rest)
  | 0, rest, h => by simp
  | 1, rest, h => by
    show decL (34 :: rest) = _
    unfold decL
    rw [if_pos rfl]
    cases rest with
    | nil => rfl
    | cons d r =>
      dsimp only
      rw [if_neg fun e => h r (by rw [e])]
      rfl
  | m + 2, rest, h => by
    have ih := decL_rep m rest h
    show decL (34 :: 34 :: (List.replicate m 34 ++ rest)) = _
    conv => lhs; unfold decL
    rw [if_pos rfl]
    dsimp only
    rw [if_pos rfl, ih, show (m + 2) / 2 = m / 2 + 1 from by omega, show (m + 2) % 2 = m % 2 from by omega]
    rfl
theorem decL_read (T : Nat) {P : Nat} (hP : 0 < P) : ∀ (l : List Nat) (run : Nat), decL (readL T P run l) = readL T (2 * P) run l
  | [], run => by
    unfold readL
    have := decL_rep (run * T / P) [] (fun r e => by cases e)
    rw [List.append_nil] at this
    rw [this, Nat.div_div_eq_div_mul, Nat.mul_comm P 2]
    split <;> simp [decL]
  | c :: cs, run => by
    unfold readL
    by_cases h : c = 34
    · rw [if_pos h, if_pos h]; exact decL_read T hP cs (run + 1)
    · rw [if_neg h, if_neg h]
      by_cases hm : run * T % P = 0
      · rw [if_neg (by simpa using hm), decL_rep _ _ (fun r e => h (by injection e)), Nat.div_div_eq_div_mul, Nat.mul_comm P 2]
        have e1 : decL (c :: readL T P 0 cs) = c :: readL T (2 * P) 0 cs := by
          conv => lhs; unfold decL
          rw [if_neg h, decL_read T hP cs 0]
        rw [e1]
        have e2 : run * T = P * (run * T / P) := (Nat.mul_div_cancel' (Nat.dvd_of_mod_eq_zero hm)).symm
        have e3 : run * T % (2 * P) = P * (run * T / P % 2) := by
          conv => lhs; rw [e2, Nat.mul_comm 2 P]
          exact Nat.mul_mod_mul_left P _ 2
        congr 1
        by_cases h2 : run * T / P % 2 = 0
        · rw [if_neg (by simpa using h2), if_neg (by rw [e3, h2]; simp)]
        · rw [if_pos (by simpa using h2), if_pos (by rw [e3]; exact Nat.mul_ne_zero (by omega) h2)]
      · rw [if_pos hm, decL_rep _ _ (fun r e => by cases e), Nat.div_div_eq_div_mul, Nat.mul_comm P 2]
        have e4 : run * T % (2 * P) ≠ 0 := fun e => hm (Nat.mod_eq_zero_of_dvd (Nat.dvd_trans (Nat.dvd_mul_left P 2) (Nat.dvd_of_mod_eq_zero e)))
        rw [if_pos e4]
        congr 1
        split <;> simp [decL]
end Mine
end
section
open PySem PySem.W PyProof.Rows PySem.Calls PySem.Spec
set_option Elab.async false
set_option maxRecDepth 100000
set_option maxHeartbeats 4000000
namespace Mine
/-! the formatter upon the written pieces does as the law's rows upon the plain ones -/
def EP (T : Nat) (p : Str × Str) : Str × Str := (p.1, mkS (exL T p.2.cps.toList))
theorem exL_len (T : Nat) : ∀ l : List Nat, ((exL T l).length : Int) = l.length + ((T : Int) - 1) * cnt 34 l
  | [] => by simp [exL, cnt_nil]
  | c :: l => by
    rw [exL_cons, cnt_cons, List.length_cons]
    have ih := exL_len T l
    by_cases h : c = 34
    · rw [if_pos h, if_pos h, List.length_append, List.length_replicate, Int.mul_add]
      push_cast
      omega
    · rw [if_neg h, if_neg h, List.length_cons, Int.zero_add]
      push_cast
      omega
theorem str_length (x : Str) : x.length = x.cps.toList.length := by simp [Str.length]
theorem wt_one (T : Nat) (p : Str × Str) : (((EP T p).1.length : Int) + ((EP T p).2.length : Int)) = wtT T p := by
  unfold wtT EP
  dsimp only
  rw [mkS_len, strLen_append, exL_len, str_length p.2]
  push_cast
  omega
theorem wt_ex (T : Nat) (ps : List (Str × Str)) : wt (ps.map (EP T)) = (ps.map (wtT T)).sum := by
  unfold wt
  rw [List.map_map]
  congr 1
  exact List.map_congr_left fun p _ => wt_one T p
/-- a lead begins with a white sign, if it has any -/
def LeadOk (p : Str × Str) : Prop := ∀ c, p.1.cps[0]? = some c → Unicode.isSpace c = true
theorem back_mkS (l : List Nat) : (mkS l).cps.back? = l.getLast? := by simp [mkS]
theorem exL_last {T : Nat} (hT : 1 ≤ T) (l : List Nat) : (exL T l).getLast? = l.getLast? := by
  rcases List.eq_nil_or_concat l with rfl | ⟨a, c, rfl⟩
  · rfl
  · rw [List.concat_eq_append, exL_app, List.getLast?_concat]
    rw [exL_cons]
    by_cases h : c = 34
    · rw [if_pos h]
      obtain ⟨k, rfl⟩ : ∃ k, T = k + 1 := ⟨T - 1, by omega⟩
      rw [List.replicate_succ']
      show (exL _ a ++ (List.replicate k 34 ++ [34] ++ [])).getLast? = _
      rw [List.append_nil, ← List.append_assoc, List.getLast?_concat, h]
    · rw [if_neg h]
      show (exL _ a ++ [c]).getLast? = _
      rw [List.getLast?_concat]
theorem hit_ex {T : Nat} (hT : 1 ≤ T) (c : Nat) (p q : Str × Str) (hq : LeadOk q) : hit c (EP T p) (EP T q) = lhit c p q := by
  unfold hit lhit EP
  dsimp only
  rw [back_mkS, exL_last hT, show p.2.cps.back? = p.2.cps.toList.getLast? from by rw [← back_mkS, mkS_self]]
  congr 1
  cases h : q.1.cps[0]? with
  | none => simp
  | some d =>
    by_cases e : d = c
    · subst e; rw [hq d h]; simp
    · have : (some d == some c) = false := by simpa using e
      rw [this]; simp
theorem hitAt_ex {T : Nat} (hT : 1 ≤ T) (c : Nat) (ps : List (Str × Str)) (hl : ∀ p ∈ ps, LeadOk p) (i : Nat) : hitAt c (ps.map (EP T)) i = lhitAt c ps i := by
  unfold hitAt lhitAt
  rw [List.getElem?_map, List.getElem?_map]
  cases h1 : ps[i - 1]? with
  | none => rfl
  | some p =>
    cases h2 : ps[i]? with
    | none => rfl
    | some q => exact hit_ex hT c p q (hl q (List.mem_of_getElem? h2))
theorem cut_ex {T : Nat} (hT : 1 ≤ T) (c : Nat) (ps : List (Str × Str)) (hl : ∀ p ∈ ps, LeadOk p) : ∀ k, cutAt c (ps.map (EP T)) k = (lcuts c ps k).head?
  | 0 => rfl
  | k + 1 => by
    unfold cutAt lcuts
    rw [hitAt_ex hT c ps hl]
    split
    · rfl
    · exact cut_ex hT c ps hl k
theorem cutIn_ex {T : Nat} (hT : 1 ≤ T) (ps : List (Str × Str)) (hl : ∀ p ∈ ps, LeadOk p) : ∀ marks, cutIn marks (ps.map (EP T)) = (lcutsIn marks ps).head?
  | [] => rfl
  | c :: cs => by
    unfold cutIn lcutsIn
    rw [cut_ex hT c ps hl, List.length_map]
    cases h : lcuts c ps (ps.length - 1) with
    | nil => exact cutIn_ex hT ps hl cs
    | cons i r => rfl
def RT (T : Nat) (row : List (Str × Str)) : Str := txt (row.map (EP T))
theorem txt_nl (ps : List (Str × Str)) : txt (nl ps) = txt ps := by
  unfold nl
  split
  · rename_i h; subst h; rfl
  · rfl
theorem len0 (x : Str) : (x.length = 0) ↔ (x == Str.ofString "") = true := by
  constructor
  · intro h
    have e : x.cps = #[] := Array.eq_empty_of_size_eq_zero h
    have : x = ⟨#[]⟩ := by cases x; cases e; rfl
    subst this; rfl
  · intro h
    rw [eq_of_beq h]; rfl
theorem add_ex {T W : Nat} (hT : 1 ≤ T) (marks : List Nat) (f : LS) (p : Str × Str) (hl : ∀ q ∈ f.cur ++ [p], LeadOk q) :
    FS.add (W : Int) marks ⟨(f.h0 : Int), f.cur.map (EP T), f.rows.map (RT T)⟩ (EP T p) = ⟨((LS.add T W marks f p).h0 : Int), (LS.add T W marks f p).cur.map (EP T), (LS.add T W marks f p).rows.map (RT T)⟩ := by
  unfold FS.add LS.add
  have e0 : f.cur.map (EP T) ++ [EP T p] = (f.cur ++ [p]).map (EP T) := by simp
  dsimp only
  rw [e0, wt_ex, cutIn_ex hT _ hl]
  by_cases hw : (f.h0 : Int) + ((f.cur ++ [p]).map (wtT T)).sum > W
  · rw [if_pos hw, if_pos hw]
    cases hc : lcutsIn marks (f.cur ++ [p]) with
    | cons i r =>
      dsimp only [List.head?]
      have e1 : f.rows.map (RT T) ++ [txt (((f.cur ++ [p]).map (EP T)).take i)] = (f.rows ++ [(f.cur ++ [p]).take i]).map (RT T) := by
        rw [← List.map_take]
        generalize (f.cur ++ [p]).take i = row
        simp [RT]
      rw [e1, List.map_drop]
      rfl
    | nil =>
      dsimp only [List.head?]
      by_cases hh : f.h0 > 0
      · rw [if_pos (by omega), if_pos hh, txt_nl, List.map_append]
        congr 1
        show [_] = [EP T _]
        unfold EP
        dsimp only
        congr 2
        by_cases h1 : p.1.length = 0
        · rw [if_pos h1, if_pos ((len0 _).mp h1)]
        · rw [if_neg h1, if_neg (fun h => h1 ((len0 _).mpr h))]
      · rw [if_neg (by omega), if_neg hh]
  · rw [if_neg hw, if_neg hw]
end Mine
end
section
open PySem PySem.W PyProof.Rows PySem.Calls PySem.Spec
set_option Elab.async false
set_option maxRecDepth 100000
set_option maxHeartbeats 4000000
namespace Mine
/-! what is known of the pieces -/
def leads : List Str := [Str.ofString "", Str.ofString " ", Str.ofString "\t ", Str.ofString "  ", Str.ofString "\t"]
structure Pc (p : Str × Str) : Prop where
  lead : p.1 ∈ leads
  word : ∀ c ∈ p.2.cps.toList, c ∈ ([97, 98, 99, 100, 101, 34, 59] : List Nat)
  n1 : 1 ≤ p.2.length
  n2 : p.2.length ≤ 4
theorem lead_first : ∀ x ∈ leads, ((x.cps[0]?).all Unicode.isSpace) = true := by decide +kernel
theorem lead_chars : ∀ x ∈ leads, (x.cps.toList.all fun c => c == 32 || c == 9) = true := by decide +kernel
theorem lead_len : ∀ x ∈ leads, x.length ≤ 2 := by decide +kernel
theorem Pc.leadOk {p : Str × Str} (h : Pc p) : LeadOk p := fun c hc => by
  have := lead_first p.1 h.lead
  rw [hc] at this
  exact this
theorem Pc.leadc {p : Str × Str} (h : Pc p) : ∀ c ∈ p.1.cps.toList, c = 32 ∨ c = 9 := fun c hc => by
  have := List.all_eq_true.mp (lead_chars p.1 h.lead) c hc
  simpa using this
theorem Pc.leadn {p : Str × Str} (h : Pc p) : p.1.length ≤ 2 := lead_len p.1 h.lead
theorem Pc.fix {p : Str × Str} (h : Pc p) : Pc (if p.1 == Str.ofString "" then Str.ofString " " else p.1, p.2) := by
  refine ⟨?_, h.word, h.n1, h.n2⟩
  dsimp only
  split
  · exact .tail _ (.head _)
  · exact h.lead
/-! texts of rows -/
theorem jl_nil : ∀ xs : List (List Nat), jl [] xs = xs.flatten
  | [] => rfl
  | [x] => by simp [jl]
  | x :: y :: r => by
    show x ++ [] ++ jl [] (y :: r) = _
    rw [List.append_nil, jl_nil (y :: r)]; rfl
theorem tjoin (sep : Str) (ys : List Str) : (Txt.join sep ys).cps.toList = jl sep.cps.toList (ys.map (·.cps.toList)) := by
  show (Builtin.Str.glued sep ys).cps.toList = _
  rw [StrLaws.glued_eq_join, join_jl]
theorem txt_cps (ps : List (Str × Str)) : (txt ps).cps.toList = (ps.map fun p => p.1.cps.toList ++ p.2.cps.toList).flatten := by
  unfold txt
  rw [tjoin, show (Str.ofString "").cps.toList = [] from rfl, jl_nil, List.map_map]
  congr 1
  refine List.map_congr_left fun p _ => ?_
  show (one p).cps.toList = _
  unfold one
  rw [tjoin, show (Str.ofString "").cps.toList = [] from rfl, jl_nil]
  simp
theorem rowS_txt (ps : List (Str × Str)) : Txt.join "" (ps.map fun p => p.1 ++ p.2) = txt ps := by
  have h : (Txt.join "" (ps.map fun p => p.1 ++ p.2)).cps.toList = (txt ps).cps.toList := by
    rw [txt_cps, tjoin, show (Str.ofString "").cps.toList = [] from rfl, jl_nil, List.map_map]
    refine congrArg List.flatten (List.map_congr_left fun p _ => ?_)
    exact Array.toList_append
  rw [← mkS_self (Txt.join "" (ps.map fun p => p.1 ++ p.2)), h, mkS_self]
theorem txt_mem {ps : List (Str × Str)} (h : ∀ p ∈ ps, Pc p) {c : Nat} (hc : c ∈ (txt ps).cps.toList) : c ∈ ([32, 9, 97, 98, 99, 100, 101, 34, 59] : List Nat) := by
  rw [txt_cps] at hc
  obtain ⟨l, hl, hcl⟩ := List.mem_flatten.mp hc
  obtain ⟨p, hp, rfl⟩ := List.mem_map.mp hl
  rcases List.mem_append.mp hcl with h1 | h1
  · rcases (h p hp).leadc c h1 with rfl | rfl
    · exact .head _
    · exact .tail _ (.head _)
  · exact .tail _ (.tail _ ((h p hp).word c h1))
theorem exL_mem {T c : Nat} : ∀ {l : List Nat}, c ∈ exL T l → c ∈ l
  | [], h => h
  | d :: l, h => by
    rw [exL_cons] at h
    split at h
    · rename_i e
      rcases List.mem_append.mp h with h | h
      · rw [List.eq_of_mem_replicate h, e]; exact .head _
      · exact .tail _ (exL_mem h)
    · rcases List.mem_cons.mp h with rfl | h
      · exact .head _
      · exact .tail _ (exL_mem h)
theorem RT_ex (T : Nat) : ∀ {row : List (Str × Str)}, (∀ p ∈ row, Pc p) → RT T row = mkS (exL T (txt row).cps.toList) := by
  intro row h
  rw [← mkS_self (RT T row)]
  congr 1
  unfold RT
  rw [txt_cps, txt_cps, List.map_map]
  induction row with
  | nil => rfl
  | cons p r ih =>
    rw [List.map_cons, List.map_cons, List.flatten_cons, List.flatten_cons, exL_app, exL_app, ih fun q hq => h q (.tail _ hq), exL_free (a := p.1.cps.toList) fun m => by
      rcases (h p (.head _)).leadc 34 m with e | e <;> cases e]
    congr 1
theorem txt_len {row : List (Str × Str)} (h : ∀ p ∈ row, Pc p) : (txt row).length ≤ 6 * row.length := by
  rw [str_length, txt_cps]
  induction row with
  | nil => exact Nat.le_refl _
  | cons p r ih =>
    have h1 := ih fun q hq => h q (.tail _ hq)
    have h2 := (h p (.head _)).leadn
    have h3 := (h p (.head _)).n2
    rw [str_length] at h2 h3
    rw [List.map_cons, List.flatten_cons, List.length_append, List.length_append, List.length_cons]
    omega
/-! a join by line ends, split -/
theorem jl_cut {c : Nat} : ∀ {a b r s : List Nat}, c ∉ a → c ∉ b → a ++ c :: r = b ++ c :: s → a = b ∧ r = s
  | [], [], _, _, _, _, h => ⟨rfl, by injection h⟩
  | [], d :: b, _, _, _, hb, h => by injection h with h1 h2; exact absurd (h1 ▸ List.Mem.head _) hb
  | d :: a, [], _, _, ha, _, h => by injection h with h1 h2; exact absurd (h1 ▸ List.Mem.head _) ha
  | d :: a, e :: b, _, _, ha, hb, h => by
    injection h with h1 h2
    obtain ⟨e1, e2⟩ := jl_cut (fun m => ha (.tail _ m)) (fun m => hb (.tail _ m)) h2
    exact ⟨by rw [h1, e1], e2⟩
theorem jl_inj {c : Nat} : ∀ {as bs : List (List Nat)}, as ≠ [] → bs ≠ [] → (∀ a ∈ as, c ∉ a) → (∀ b ∈ bs, c ∉ b) → jl [c] as = jl [c] bs → as = bs
  | [], _, h, _, _, _, _ => absurd rfl h
  | _, [], _, h, _, _, _ => absurd rfl h
  | [a], [b], _, _, _, _, h => by rw [show a = b from h]
  | [a], b :: b2 :: r, _, _, ha, _, h => by
    exfalso
    refine ha a (.head _) ?_
    have h : a = b ++ [c] ++ jl [c] (b2 :: r) := h
    rw [h]; simp
  | a :: a2 :: r, [b], _, _, _, hb, h => by
    exfalso
    refine hb b (.head _) ?_
    have h : a ++ [c] ++ jl [c] (a2 :: r) = b := h
    rw [← h]; simp
  | a :: a2 :: r, b :: b2 :: q, _, _, ha, hb, h => by
    have h : a ++ [c] ++ jl [c] (a2 :: r) = b ++ [c] ++ jl [c] (b2 :: q) := h
    rw [List.append_assoc, List.append_assoc] at h
    obtain ⟨e1, e2⟩ := jl_cut (ha a (.head _)) (hb b (.head _)) h
    rw [e1, jl_inj (by simp) (by simp) (fun x hx => ha x (.tail _ hx)) (fun x hx => hb x (.tail _ hx)) e2]
theorem split_join {c : Nat} {ys : List Str} (hne : ys ≠ []) (hf : ∀ y ∈ ys, c ∉ y.cps.toList) : Txt.split (Txt.join ⟨#[c]⟩ ys) ⟨#[c]⟩ = ys := by
  have h2 := StrLaws.join_split (Txt.join ⟨#[c]⟩ ys) ⟨#[c]⟩
  have h3 := StrLaws.split_free (Txt.join ⟨#[c]⟩ ys) c
  have h4 := split_pos (Txt.join ⟨#[c]⟩ ys) ⟨#[c]⟩
  have e1 : jl [c] ((Txt.split (Txt.join ⟨#[c]⟩ ys) ⟨#[c]⟩).map (·.cps.toList)) = jl [c] (ys.map (·.cps.toList)) := by
    rw [← join_jl ⟨#[c]⟩, h2, tjoin]
  have e2 := jl_inj (c := c) (as := (Txt.split (Txt.join ⟨#[c]⟩ ys) ⟨#[c]⟩).map (·.cps.toList)) (bs := ys.map (·.cps.toList)) (by
      intro e
      have := congrArg List.length e
      rw [List.length_map] at this
      have h5 : (Txt.split (Txt.join ⟨#[c]⟩ ys) ⟨#[c]⟩).length = 0 := this
      omega) (by simpa using hne) (by
      intro a ha
      obtain ⟨p, hp, rfl⟩ := List.mem_map.mp ha
      exact h3 p hp) (by
      intro a ha
      obtain ⟨p, hp, rfl⟩ := List.mem_map.mp ha
      exact hf p hp) e1
  have inj : ∀ xs zs : List Str, xs.map (·.cps.toList) = zs.map (·.cps.toList) → xs = zs := by
    intro xs
    induction xs with
    | nil => intro zs h; cases zs with | nil => rfl | cons z r => cases h
    | cons x r ih =>
      intro zs h
      cases zs with
      | nil => cases h
      | cons z q =>
        rw [List.map_cons, List.map_cons] at h
        injection h with h1 h2
        rw [ih q h2]
        congr 1
        rw [← mkS_self x, ← mkS_self z, h1]
  exact inj _ _ e2
/-! the law's rows keep what is known of the pieces -/
structure LOk (k : Nat) (f : LS) : Prop where
  cur : ∀ p ∈ f.cur, Pc p
  rows : ∀ row ∈ f.rows, ∀ p ∈ row, Pc p
  ncur : f.cur.length ≤ k
  nrows : f.rows.length ≤ k
  nrow : ∀ row ∈ f.rows, row.length ≤ k
  h0 : f.h0 ≤ 100
  ne : 0 < k → f.cur ≠ []
theorem LOk.add {T W k : Nat} {marks : List Nat} {f : LS} {p : Str × Str} (h : LOk k f) (hp : Pc p) : LOk (k + 1) (LS.add T W marks f p) := by
  have hc : ∀ q ∈ f.cur ++ [p], Pc q := fun q hq => by
    rcases List.mem_append.mp hq with hq | hq
    · exact h.cur q hq
    · rw [List.mem_singleton.mp hq]; exact hp
  have hn : (f.cur ++ [p]).length ≤ k + 1 := by rw [List.length_append, List.length_singleton]; have := h.ncur; omega
  have h1 := h.nrows
  unfold LS.add
  split
  · cases hi : lcutsIn marks (f.cur ++ [p]) with
    | cons i r =>
      have hb := lcutsIn_bound (x := marks) (ps := f.cur ++ [p]) (i := i) (by rw [hi]; exact .head _)
      refine ⟨fun q hq => hc q (List.mem_of_mem_drop hq), fun row hr q hq => ?_, ?_, ?_, fun row hr => ?_, Nat.zero_le _, fun _ e => ?_⟩
      · rcases List.mem_append.mp hr with hr | hr
        · exact h.rows row hr q hq
        · rw [List.mem_singleton.mp hr] at hq; exact hc q (List.mem_of_mem_take hq)
      · dsimp only; rw [List.length_drop]; omega
      · dsimp only; rw [List.length_append, List.length_singleton]; omega
      · rcases List.mem_append.mp hr with hr | hr
        · have := h.nrow row hr; omega
        · rw [List.mem_singleton.mp hr, List.length_take]; omega
      · have := congrArg List.length e
        dsimp only at this
        rw [List.length_drop] at this
        simp at this hb
        omega
    | nil =>
      dsimp only
      split
      · refine ⟨fun q hq => ?_, fun row hr q hq => ?_, ?_, ?_, fun row hr => ?_, Nat.zero_le _, fun _ e => by cases e⟩
        · rw [List.mem_singleton.mp hq]; exact hp.fix
        · rcases List.mem_append.mp hr with hr | hr
          · exact h.rows row hr q hq
          · rw [List.mem_singleton.mp hr] at hq; exact h.cur q hq
        · show 1 ≤ k + 1; omega
        · dsimp only; rw [List.length_append, List.length_singleton]; omega
        · rcases List.mem_append.mp hr with hr | hr
          · have := h.nrow row hr; omega
          · rw [List.mem_singleton.mp hr]; have := h.ncur; omega
      · exact ⟨hc, h.rows, hn, by dsimp only; omega, fun row hr => by have := h.nrow row hr; omega, h.h0, fun _ e => by simp at e⟩
  · exact ⟨hc, h.rows, hn, by dsimp only; omega, fun row hr => by have := h.nrow row hr; omega, h.h0, fun _ e => by simp at e⟩
end Mine
end
section
open PySem PySem.W PyProof.Rows PySem.Calls PySem.Spec
set_option Elab.async false
set_option maxRecDepth 100000
set_option maxHeartbeats 4000000
namespace Mine
theorem leadS_mem (r : Nat) : leadS r ∈ leads := by
  unfold leadS
  split
  · exact .head _
  · split
    · exact .tail _ (.head _)
    · split
      · exact .tail _ (.tail _ (.head _))
      · exact .tail _ (.tail _ (.tail _ (.head _)))
theorem sgn_mem (k j : Nat) : sgn k j ∈ ([97, 98, 99, 100, 101, 34, 59] : List Nat) := by
  unfold sgn
  split
  · decide
  · split <;> decide
theorem pieceOf_ok (k : Nat) : Pc (pieceOf k) := by
  have h4 : k / 4 % 4 < 4 := Nat.mod_lt _ (by decide)
  refine ⟨leadS_mem _, fun c hc => ?_, ?_, ?_⟩
  · have hc : c ∈ wordL k := by
      have := hc
      unfold pieceOf at this
      dsimp only at this
      rwa [mkS_list] at this
    obtain ⟨j, _, rfl⟩ := List.mem_map.mp hc
    exact sgn_mem k j
  · show 1 ≤ (mkS (wordL k)).length
    rw [mkS_len]; unfold wordL; rw [List.length_map, List.length_range]; omega
  · show (mkS (wordL k)).length ≤ 4
    rw [mkS_len]; unfold wordL; rw [List.length_map, List.length_range]; omega
theorem pieces_ok (ks : List Nat) : ∀ p ∈ piecesOf ks, Pc p := by
  intro p hp
  rcases List.mem_append.mp hp with hp | hp
  · rcases List.mem_cons.mp hp with rfl | hp
    · exact ⟨.head _, by decide +kernel, by decide +kernel, by decide +kernel⟩
    · obtain ⟨k, _, rfl⟩ := List.mem_map.mp hp
      exact pieceOf_ok k
  · simp only [List.mem_cons, List.not_mem_nil, or_false] at hp
    rcases hp with rfl | rfl | rfl
    · exact ⟨.tail _ (.head _), by decide +kernel, by decide +kernel, by decide +kernel⟩
    · exact ⟨.head _, by decide +kernel, by decide +kernel, by decide +kernel⟩
    · exact ⟨.tail _ (.tail _ (.tail _ (.tail _ (.head _)))), by decide +kernel, by decide +kernel, by decide +kernel⟩
theorem pieces_len (ks : List Nat) : (piecesOf ks).length = ks.length + 4 := by simp [piecesOf]
theorem exL_le {T : Nat} : ∀ l : List Nat, (exL T l).length ≤ (T + 1) * l.length
  | [] => Nat.zero_le _
  | c :: l => by
    have ih := exL_le (T := T) l
    rw [exL_cons, List.length_cons, Nat.mul_succ]
    split
    · rw [List.length_append, List.length_replicate]; omega
    · rw [List.length_cons]; omega
theorem strOk_of {x : Str} (h : ∀ c ∈ x.cps.toList, c < 200) : PyData.strOk x = true := by
  unfold PyData.strOk
  rw [← Array.all_toList, List.all_eq_true]
  intro c hc
  have := h c hc
  exact decide_eq_true (by omega)
theorem word_lt {c : Nat} (h : c ∈ ([97, 98, 99, 100, 101, 34, 59] : List Nat)) : c < 128 := by
  simp only [List.mem_cons, List.not_mem_nil, or_false] at h
  omega
theorem Pc.small1 {T : Nat} (hT : T ≤ 8) {p : Str × Str} (h : Pc p) : ((EP T p).1.length ≤ 100 ∧ (EP T p).2.length ≤ 100) ∧ (PyData.strOk (EP T p).1 = true ∧ PyData.strOk (EP T p).2 = true) := by
  refine ⟨⟨Nat.le_trans h.leadn (by decide), ?_⟩, strOk_of fun c hc => ?_, strOk_of fun c hc => ?_⟩
  · show (mkS _).length ≤ 100
    rw [mkS_len]
    have h1 := exL_le (T := T) p.2.cps.toList
    have h2 : p.2.cps.toList.length ≤ 4 := by rw [← str_length]; exact h.n2
    have h3 : (T + 1) * p.2.cps.toList.length ≤ 9 * 4 := Nat.mul_le_mul (by omega) h2
    omega
  · rcases h.leadc c hc with rfl | rfl <;> decide
  · have hc : c ∈ exL T p.2.cps.toList := by
      have := hc
      unfold EP at this
      dsimp only at this
      rwa [mkS_list] at this
    have := word_lt (h.word c (exL_mem hc))
    omega
theorem small_EP {T : Nat} (hT : T ≤ 8) {qs : List (Str × Str)} (hn : qs.length ≤ 100) (h : ∀ p ∈ qs, Pc p) : Small (qs.map (EP T)) := by
  refine ⟨by rw [List.length_map]; exact hn, fun p hp => ?_, fun p hp => ?_⟩ <;>
  · obtain ⟨q, hq, rfl⟩ := List.mem_map.mp hp
    first | exact ((h q hq).small1 hT).1 | exact ((h q hq).small1 hT).2
theorem Pc.small0 {p : Str × Str} (h : Pc p) : (p.1.length ≤ 100 ∧ p.2.length ≤ 100) ∧ (PyData.strOk p.1 = true ∧ PyData.strOk p.2 = true) := by
  refine ⟨⟨Nat.le_trans h.leadn (by decide), Nat.le_trans h.n2 (by decide)⟩, strOk_of fun c hc => ?_, strOk_of fun c hc => ?_⟩
  · rcases h.leadc c hc with rfl | rfl <;> decide
  · have := word_lt (h.word c hc); omega
theorem small_P {qs : List (Str × Str)} (hn : qs.length ≤ 100) (h : ∀ p ∈ qs, Pc p) : Small qs :=
  ⟨hn, fun p hp => (h p hp).small0.1, fun p hp => (h p hp).small0.2⟩
/-! texts read -/
theorem readL_mem {T P c : Nat} : ∀ {l : List Nat} {run : Nat}, c ∈ readL T P run l → c = 34 ∨ c ∈ l
  | [], run, h => .inl (List.eq_of_mem_replicate h)
  | d :: l, run, h => by
    unfold readL at h
    split at h
    · rcases readL_mem h with h | h
      · exact .inl h
      · exact .inr (.tail _ h)
    · rcases List.mem_append.mp h with h | h
      · exact .inl (List.eq_of_mem_replicate h)
      · split at h
        · cases h
        · rcases List.mem_cons.mp h with rfl | h
          · exact .inr (.head _)
          · rcases readL_mem h with h | h
            · exact .inl h
            · exact .inr (.tail _ h)
theorem readL_le {T P : Nat} : ∀ (l : List Nat) (run : Nat), (readL T P run l).length ≤ run * T + (T + 1) * l.length
  | [], run => by
    unfold readL
    rw [List.length_replicate]
    exact Nat.le_trans (Nat.div_le_self _ _) (Nat.le_add_right _ _)
  | c :: l, run => by
    unfold readL
    rw [List.length_cons, Nat.mul_succ]
    split
    · have := readL_le (T := T) (P := P) l (run + 1)
      rw [Nat.succ_mul] at this
      omega
    · have h1 := readL_le (T := T) (P := P) l 0
      have h2 := Nat.div_le_self (run * T) P
      rw [List.length_append, List.length_replicate]
      split
      · rw [List.length_nil]; omega
      · rw [List.length_cons]; omega
/-- the texts told when the reply has been read until marks stand for P -/
def toldL (T P : Nat) (ds : List Str) : List Str := ds.map fun y => mkS (readL T P 0 y.cps.toList)
theorem told_one {T : Nat} {rows : List (List (Str × Str))} (h : ∀ row ∈ rows, ∀ p ∈ row, Pc p) : rows.map (RT T) = toldL T 1 (rows.map txt) := by
  unfold toldL
  rw [List.map_map]
  refine List.map_congr_left fun row hr => ?_
  show RT T row = mkS (readL T 1 0 (txt row).cps.toList)
  rw [RT_ex T (h row hr), readL_one, Nat.zero_mul]
  rfl
theorem told_dec {T P : Nat} (hP : 0 < P) (ds : List Str) : (toldL T P ds).map (fun y => mkS (decL y.cps.toList)) = toldL T (2 * P) ds := by
  unfold toldL
  rw [List.map_map]
  refine List.map_congr_left fun y _ => ?_
  show mkS (decL (mkS (readL T P 0 y.cps.toList)).cps.toList) = _
  rw [mkS_list, decL_read T hP]
/-- what is known of the plain rows -/
structure DOk (ds : List Str) : Prop where
  n : ds.length ≤ 20
  len : ∀ y ∈ ds, y.length ≤ 100
  chars : ∀ y ∈ ds, ∀ c ∈ y.cps.toList, c ∈ ([32, 9, 97, 98, 99, 100, 101, 34, 59] : List Nat)
theorem DOk.lt {ds : List Str} (h : DOk ds) : ∀ y ∈ ds, ∀ c ∈ y.cps.toList, c < 128 := fun y hy c hc => by
  have := h.chars y hy c hc
  simp only [List.mem_cons, List.not_mem_nil, or_false] at this
  omega
theorem DOk.ascii {ds : List Str} (h : DOk ds) : ∀ y ∈ ds, y.cps.all (· < 128) = true := fun y hy => by
  rw [← Array.all_toList, List.all_eq_true]
  intro c hc
  exact decide_eq_true (h.lt y hy c hc)
theorem DOk.told {T P : Nat} (hT : T ≤ 8) {ds : List Str} (h : DOk ds) : ∀ z ∈ toldL T P ds, z.length ≤ 1000 ∧ PyData.strOk z = true := fun z hz => by
  obtain ⟨y, hy, rfl⟩ := List.mem_map.mp hz
  refine ⟨?_, strOk_of fun c hc => ?_⟩
  · rw [mkS_len]
    have h1 := readL_le (T := T) (P := P) y.cps.toList 0
    have h2 : y.cps.toList.length ≤ 100 := by rw [← str_length]; exact h.len y hy
    have h3 : (T + 1) * y.cps.toList.length ≤ 9 * 100 := Nat.mul_le_mul (by omega) h2
    omega
  · rw [mkS_list] at hc
    rcases readL_mem hc with rfl | hc
    · decide
    · have := h.lt y hy c hc; omega
theorem LOk.due {k : Nat} {f : LS} (h : LOk k f) (hk : k ≤ 10) : DOk ((f.rows ++ [f.cur]).map txt) := by
  have hp : ∀ row ∈ f.rows ++ [f.cur], (∀ p ∈ row, Pc p) ∧ row.length ≤ 10 := fun row hr => by
    rcases List.mem_append.mp hr with hr | hr
    · exact ⟨h.rows row hr, by have := h.nrow row hr; omega⟩
    · rw [List.mem_singleton.mp hr]; exact ⟨h.cur, by have := h.ncur; omega⟩
  refine ⟨by have := h.nrows; rw [List.length_map, List.length_append, List.length_singleton]; omega, fun y hy => ?_, fun y hy c hc => ?_⟩
  · obtain ⟨row, hr, rfl⟩ := List.mem_map.mp hy
    have := txt_len (hp row hr).1
    have := (hp row hr).2
    omega
  · obtain ⟨row, hr, rfl⟩ := List.mem_map.mp hy
    exact txt_mem (hp row hr).1 hc
/-- the rows of the formatter, joined and split -/
theorem LOk.split {T k : Nat} {f : LS} (h : LOk k f) : Txt.split (Txt.join (Str.ofString "\n") ((f.rows ++ [f.cur]).map (RT T))) (Str.ofString "\n") = toldL T 1 ((f.rows ++ [f.cur]).map txt) := by
  have hp : ∀ row ∈ f.rows ++ [f.cur], ∀ p ∈ row, Pc p := fun row hr => by
    rcases List.mem_append.mp hr with hr | hr
    · exact h.rows row hr
    · rw [List.mem_singleton.mp hr]; exact h.cur
  rw [← told_one hp]
  refine split_join (c := 10) (by simp) fun y hy hc => ?_
  obtain ⟨row, hr, rfl⟩ := List.mem_map.mp hy
  rw [RT_ex T (hp row hr), mkS_list] at hc
  have := txt_mem (hp row hr) (exL_mem hc)
  simp at this
end Mine
end
section
open PySem PySem.W PyProof.Rows PySem.Calls PySem.Spec
set_option Elab.async false
set_option maxRecDepth 100000
set_option maxHeartbeats 4000000
namespace Mine
example (P : Params) : PySem.Challenge.rw_pe0181_01 = PySem.Challenge.rw_pe0181_01 ∧ Mine.hd.heap_1 P = Mine.hd.heap_1 P := by
  k_fill
  exact ⟨rfl, rfl⟩
section
variable {prog : Program} {w : World} {A : Around} {E : Value → Shared → Prop} {s : Shared} {b : Heap} {ω : OsState} {f : Addr} {mg mb : Str → Option Value} {ns : List (Addr × Obj)} {k : Nat}
  {name qual : Str} {params : Arguments} {body : List Stmt} {scope : Scope} {dV kV doc pm cdv ct oc : Value} {an od : Option Addr} {osl : Array (Option Value)} {args : List Value} {binds : List (Str × Value)}
theorem stLC' {M : Model} {s₀ : Shared} {m cm : Str → Option Value} {env : Env} {n : Str} {v : Value} {Q : Unit → Shared → Prop} (x : InCallC s₀ env.locals m env.cells cm s) (hk : env.scope.kind = .function) (hl : env.kindOf n = some .local)
    (h : ∀ s', InCallC s₀ env.locals (fun y => if y = n then some v else m y) env.cells cm s' → 0 < s'.toks → Q () s') : wpAny M A (storeName env n v) Q E s := by
  refine wpAny_storeName_local hl x.toInCall.ns (fun h' hn' hs' => h _ ⟨⟨?_, hn', fun b o e => ?_, x.toInCall.fresh⟩, fun k c hc => ?_, x.apart, x.above⟩ (Nat.succ_pos _)) (by rw [hk]; rfl)
  · obtain ⟨h₁, tk, rfl⟩ := x.toInCall.same
    exact ⟨h', _, rfl⟩
  · exact hs'.extBut b o (Nat.ne_of_lt (Nat.lt_of_lt_of_le (Heap.lt_size e) x.toInCall.fresh)) (x.toInCall.keep b o e)
  · exact (x.cell k c hc).sameBut hs' (Nat.ne_of_gt (x.above k c (mem_of_lookup hc)))
theorem newEnv_one {M : Model} {globals : Addr} {n : Str} {v : Value} {func : Option Addr} {code : Value} {builtins : Addr} {Q : Env → Shared → Prop}
    (hk : scope.kind = .function) (hl : scope.names.lookup n = some .local)
    (hQ : ∀ env, env = newEnv scope s.heap.objs.size globals (cellsFrom (s.heap.objs.size + 1) scope.names []) qual func code none builtins →
      ∀ s', InCallC s env.locals (fun y => if y = n then some v else none) env.cells (fun _ => none) s' → 0 < s'.toks → Q env s') :
    wpAny M A (newFunctionEnv scope globals [] [(n, v)] qual func code none builtins) Q E s := by
  simp only [newFunctionEnv, Option.isSome_none, Bool.false_eq_true, if_false]
  refine wpAny_bind (wpAny_alloc ?_)
  refine wpAny_bind (wpAny_layCells _ (fun name kind cells => by cases hkc : kind == NameKind.cell <;> simp [hkc]) _ _ _ _ ?_)
  have ok := cellsFrom_ok scope.names (s.heap.push { cls := .type "frame", data := .dict #[] }) (s.heap.objs.size + 1) [] ⟨fun _ _ hm => (nomatch hm), List.Pairwise.nil⟩ (by rw [Heap.size_push]; exact Nat.le_refl _)
  rw [Heap.size_push] at ok
  rw [show ({ s with heap := s.heap.push { cls := .type "frame", data := .dict #[] } } : Shared).heap.objs.size = s.heap.objs.size + 1 from Heap.size_push ..]
  rw [List.forIn_cons]
  refine wpAny_bind (wpAny_bind (wpAny_bind (stLC' (s₀ := s) (env := newEnv scope s.heap.objs.size globals (cellsFrom (s.heap.objs.size + 1) scope.names []) qual func code none builtins) (m := fun _ => none) (cm := fun _ => none)
    ⟨⟨⟨_, _, rfl⟩, (Heap.Ns.new s.heap (.type "frame")).keeps (pushCells_keeps _ _), fun b o e => pushCells_keeps _ _ b o (Heap.get?_push_of_some _ e), Nat.le_refl _⟩,
      fun n c hc => (ok.empty n c (mem_of_lookup hc)).1, ok.apart, fun n c hm => (ok.empty n c hm).2⟩ hk hl fun s' x ht => wpAny_pure ?_)))
  dsimp only
  rw [List.forIn_nil]
  exact wpAny_pure (wpAny_pure (hQ _ rfl s' x ht))
/-- the law's own entry: no frame of ours waits -/
theorem fn_enter {Q : Value → Shared → Prop} {n : Str} {v : Value} (G : Gd w mg mb b) (hkb : ∀ c o, b.get? c = some o → s.heap.get? c = some o) (hsz : b.objs.size ≤ s.heap.objs.size)
    (hN : ∀ p ∈ ns, s.heap.get? p.1 = some p.2 ∧ b.get? p.1 = none) (hD : (ns.map (·.1)).Nodup) (hos : s.os = ω) (hgens : AllBare s.gens) (R : Rm A (k + 1))
    (ho : (Mine.hd.heap_1 w.params).lookup f = some ⟨oc, od, .func (fnX name qual params body scope [] dV kV doc pm an cdv ct), osl⟩) (hcd : codeIn (Mine.hd.heap_1 w.params) cdv qual = true)
    (hbind : BindsTo s (fnX name qual params body scope [] dV kV doc pm an cdv ct) ⟨args, []⟩ [(n, v)])
    (hl : scope.names.lookup n = some .local)
    (hnd : ((cellsFrom 0 scope.names []).map (·.1)).Nodup)
    (h : ∀ L' cells s', CellsAre (fun _ => none) (cellsFrom (L' + 1) scope.names []) cells →
      At b ω L' (fun y => if y = n then some v else none) (cells ++ ns) s' → Rm (A.deeper (envX qual scope L' f cdv (cellsFrom (L' + 1) scope.names []))) k →
      wpAny (model prog w) (A.deeper (envX qual scope L' f cdv (cellsFrom (L' + 1) scope.names []))) (execs body (envX qual scope L' f cdv (cellsFrom (L' + 1) scope.names []))) (fun fl s' => Q (match fl with | .ret v => v | _ => .none) s') NoE s')
    (hco : scope.isCoroutine = false := by rfl) (hgen : scope.isGenerator = false := by rfl) (hk : scope.kind = .function := by rfl) :
    wpAny (model prog w) A (call (.ref f) args) Q E s := by
  have X : (Mine.hd.heap_1 w.params).In s.heap := G.X.keeps hkb
  refine wpAny_call (codeAny_call_function R.room (X _ _ ho) rfl hco hgen rfl (codeRec_of X hcd) (hbind _ _ _ _ ?_))
  refine newEnv_one hk hl fun env' he s' x ht => ?_
  subst he
  have hkeep : ∀ c o, s.heap.get? c = some o → s'.heap.get? c = some o := x.toInCall.keep
  refine ⟨(G.nolimit.keeps hkb).keeps hkeep, codeAny_func ?_⟩
  obtain ⟨cells, NC, Y⟩ := Cl.news (h₀ := s.heap) (Nat.le_refl _) fun n c hm => ⟨x.cell n c (lookup_of_mem_nodup (cellsFrom_names scope.names 0 (s.heap.objs.size + 1) [] [] rfl ▸ hnd) hm), x.above n c hm⟩
  obtain ⟨h₁, tk, hs'⟩ := x.toInCall.same
  have hout : ∀ p ∈ cells, ∀ c o, s.heap.get? c = some o → p.1 ≠ c := fun p hp c o e q => by
    have := (NC p hp).2.2; rw [q, e] at this; cases this
  have H' : At b ω s.heap.objs.size (fun y => if y = n then some v else none) (cells ++ ns) s' := by
    refine ⟨⟨x.toInCall.ns, fun c o e => hkeep c o (hkb c o e), hsz⟩, fun p hp => ?_, ?_, by rw [hs']; exact hos, by rw [hs']; exact hgens, ht⟩
    · rcases List.mem_append.mp hp with hp | hp
      · refine ⟨(NC p hp).1, (NC p hp).2.1, ?_⟩
        cases q : b.get? p.1 with
        | none => rfl
        | some o => exact absurd rfl (hout p hp _ _ (hkb _ _ q))
      · exact ⟨hkeep _ _ (hN p hp).1, Nat.ne_of_lt (Heap.lt_size (hN p hp).1), (hN p hp).2⟩
    · rw [List.map_append, List.nodup_append]
      refine ⟨?_, hD, ?_⟩
      · rw [CellsAre.keys Y]
        exact (List.pairwise_map).mpr x.apart
      · rintro a ha c hc rfl
        obtain ⟨p, hp, rfl⟩ := List.mem_map.mp ha
        obtain ⟨q, hq, e⟩ := List.mem_map.mp hc
        exact hout p hp _ _ (hN q hq).1 e.symm
  exact wpAny_mono (h _ cells s' Y H' R.deeper) (fun _ _ z => z) fun _ _ z => z.elim
end
end Mine
end
section
open PySem PySem.W PyProof.Rows PySem.Calls PySem.Spec
set_option Elab.async false
set_option maxRecDepth 100000
set_option maxHeartbeats 4000000
namespace Mine
section
variable {prog : Program} {w : World} {A : Around} {E : Value → Shared → Prop} {s : Shared} {b : Heap} {ω : OsState} {L a c sa : Addr} {m mg mb : Str → Option Value} {ns : List (Addr × Obj)} {Q : Value → Shared → Prop} {env : Env} {x : Str} {tx tT : Tok} {T : Nat}
  {p1 p3 p4 p5 p6 : Pos}
theorem rep_call (H : At b ω env.locals m ns s) (hnb : NoneBooked b) (hw : m "word" = some (.str x tx)) (hk : env.scope.kind = .function) (hkw : env.kindOf "word" = some .local) (hx : x.length ≤ 1000) (hT : 1 ≤ T ∧ T ≤ 8)
    (htimes : ∀ {Q : Value → Shared → Prop} {E : Value → Shared → Prop} {s : Shared}, At b ω env.locals m ns s → Q (.int T tT) s → wpAny (model prog w) A (eval (.Name "times" p5) env) Q E s)
    (h : ∀ t s', At b ω env.locals m ns s' → Q (.str (mkS (exL T x.cps.toList)) t) s') :
    wpAny (model prog w) A (eval (.Call (.Attribute (.Name "word" p1) "replace" ⟨188, 34, 188, 46⟩) [.Constant (.str "\"") 0 p3, .BinOp (.Constant (.str "\"") 0 p4) .Mult (.Name "times" p5) p6] [] ⟨188, 34, 188, 64⟩) env) Q E s := by
  refine MethodCall_ (nm_local H hw hk hkw (by decide +kernel) (GM.replace ?_)) rfl
  refine callWith_method1 (args_cons (Calls.Constant_str ?_) rfl) rfl rfl
  have H1 := H.toks (t := s.toks + 1) (Nat.le_succ _)
  refine args_cons (wpAny_BinOp (Calls.Constant_str ?_)) rfl
  have H2 := H.toks (t := s.toks + 1 + 1) (by omega)
  refine htimes H2 ?_
  have htk := H.tk
  have key : ∀ v k, s.toks < v → s.toks ≤ k → wpAny (model prog w) A (call (.builtin "str.replace") [.str x tx, .str (Str.ofString "\"") s.toks, .str (mkS (List.replicate T 34)) v]) Q E { s with toks := k } := fun v k hv hk => by
    refine wpAny_with_toks (n := s.toks) hk ?_
    refine SC.replaceA (x := x) (y := Str.ofString "\"") (z := mkS (List.replicate T 34)) (t := tx) (u := s.toks) (v := v) (show s.toks ≠ 0 by omega) (show v ≠ 0 by omega) (show s.toks ≠ v by omega) ?_ (fun t' k' hk' => ?_) ?_
    · rw [mkS_len, List.length_replicate]
      have : (x.length + 1) * T ≤ 1001 * 8 := Nat.mul_le_mul (by omega) hT.2
      omega
    · rw [show Str.ofString "\"" = mkS [34] from rfl, replace_ex]
      exact h _ _ (H.toks hk')
    · obtain ⟨mc, h1, h2⟩ := hnb
      exact ⟨mc, h1.keeps H.F.keep, h2⟩
  by_cases h1 : T = 1
  · subst h1
    refine P.mul_str (by decide) (fun _ _ => by decide) (fun _ _ => by decide) ?_
    refine args_nil ?_
    exact key (s.toks + 1) _ (by omega) (by show s.toks ≤ s.toks + 1 + 1; omega)
  · have hm := mulOk_small (x := Str.ofString "\"") (k := (T : Int)) (by decide) (by omega) (by omega)
    refine P.mul_str hm.1 hm.2.1 hm.2.2 ?_
    have e := mul_one 34 T
    unfold Txt.mul at e
    rw [show Str.ofString "\"" = mkS [34] from rfl]
    rw [if_neg (by omega)] at e ⊢
    have hc : ((T : Int) == 1 || (mkS [34]).length == 0) = false := by
      rw [Bool.or_eq_false_iff]
      exact ⟨beq_eq_false_iff_ne.mpr (by omega), rfl⟩
    rw [hc] at e ⊢
    rw [if_neg (by decide)] at e ⊢
    rw [e]
    refine ⟨by rw [mkS_len, List.length_replicate, sizeLine_eq]; omega, ?_⟩
    refine args_nil ?_
    exact key (s.toks + 1 + 1) _ (by omega) (by show s.toks ≤ s.toks + 1 + 1 + 1; omega)
end
end Mine
end
section
open PySem PySem.W PyProof.Rows PySem.Calls PySem.Spec
set_option Elab.async false
set_option maxRecDepth 100000
set_option maxHeartbeats 4000000
namespace Mine
section
section
variable {prog : Program} {w : World} {A : Around} {E : Value → Shared → Prop} {s : Shared} {b : Heap} {ω : OsState} {L it l r a : Addr} {m : Str → Option Value} {ns : List (Addr × Obj)} {o : Obj} {env : Env} {N : Nat} {V : Nat → Value → Prop} {It : Nat → Obj → Prop} {need : List (Addr × Obj) → Prop} {Q : Value → Shared → Prop}
theorem for_it2 {target : Expr} {body orelse : List Stmt} {Q : Flow → Shared → Prop} (S : Itr prog w A b ω L it N V It need)
    (J : Nat → (Str → Option Value) → List (Addr × Obj) → Prop) (hn : ∀ i m ns, J i m ns → need ns) (h0 : J 0 m ns) (ho : It 0 o) (H : At b ω L m ((it, o) :: ns) s)
    (go : ∀ i o v s (Q : Unit → Shared → Prop), V i v → It (i + 1) o → s.heap.get? it = some o → Q () s → wpAny (model prog w) A (letOwnedTupleGo target (.ref it) v) Q NoE s)
    (step : ∀ i o v m ns s, i < N → V i v → It (i + 1) o → J i m ns → At b ω L m ((it, o) :: ns) s → wpAny (model prog w) A (assign target env v) (fun _ s₂ => wpAny (model prog w) A (execs body env) (fun f s₃ => match f with
        | .next | .cont => ∃ m' ns', J (i + 1) m' ns' ∧ At b ω L m' ((it, o) :: ns') s₃
        | .brk => Q .next s₃
        | .ret v => Q (.ret v) s₃) NoE s₂) NoE s)
    (done : ∀ m ns s, J N m ns → At b ω L m ns s → wpAny (model prog w) A (execs orelse env) Q NoE s) :
    codeAny (model prog w) A (.forLoop target (.ref it) body orelse env) (fun r s' => match r with | .ok f => Q f s' | .error e => cameBackBy (model prog w) A env E e s') s := by
  refine codeAny_forLoop_any (fun k s' => ∃ i o m ns, i ≤ N ∧ k = N - i ∧ It i o ∧ J i m ns ∧ At b ω L m ((it, o) :: ns) s') ?_ N ⟨0, o, m, ns, Nat.zero_le _, rfl, ho, h0, H⟩
  rintro k s ⟨i, o, m, ns, hi, rfl, ho, hJ, H⟩
  rcases Nat.lt_or_ge i N with hlt | hge
  · refine S.next i o m ns s _ _ hlt ho (hn _ _ _ hJ) H fun v o' s' hv ho' H' => ?_
    refine wpAny_mono (go i o' v s' (fun _ s₂ => s₂ = s') hv ho' (H'.get (.head _)) rfl) (fun _ s₂ e => ?_) fun _ _ e => e.elim
    subst e
    refine wpAny_mono (step i o' v m ns s₂ hlt hv ho' hJ H') (fun _ s₃ h₃ => wpAny_mono h₃ (fun f s₄ h₄ => ?_) fun _ _ e => e.elim) fun _ _ e => e.elim
    cases f with
    | ret v => exact h₄
    | brk => exact h₄
    | next => obtain ⟨m', ns', hJ', H''⟩ := h₄; exact ⟨N - (i + 1), by omega, i + 1, o', m', ns', hlt, rfl, ho', hJ', H''⟩
    | cont => obtain ⟨m', ns', hJ', H''⟩ := h₄; exact ⟨N - (i + 1), by omega, i + 1, o', m', ns', hlt, rfl, ho', hJ', H''⟩
  · obtain rfl : i = N := by omega
    refine S.done o m ns s _ _ ho (hn _ _ _ hJ) H fun s' H' => ?_
    exact wpAny_mono (done m ns s' hJ H') (fun _ _ q => q) fun _ _ e => e.elim

end
theorem strs_lay : ∀ (ys : List Str), (∀ y ∈ ys, PyData.strOk y = true) → PyData.canLayAll0 (ys.map .str) = true ∧ PyData.depthAll (ys.map .str) = 0
  | [], _ => ⟨rfl, rfl⟩
  | y :: ys, h => by
    have h1 := strs_lay ys fun z hz => h z (.tail _ hz)
    have h2 := h y (.head _)
    simp [PyData.canLayAll0, PyData.canLay0, PyData.depthAll, PyData.depth, h1, h2]
theorem strs_shaped (ys : List Str) (h : ∀ y ∈ ys, PyData.strOk y = true) : SeqAt.shaped (.list (ys.map .str)) = true := by
  simp [SeqAt.shaped, PyData.canLay0, PyData.depth, strs_lay ys h]
theorem reads_strs {h : Heap} : ∀ {vs : List Value} {ys : List Str}, StrsAre vs ys → ReadsAll h vs (ys.map .str) []
  | _, _, .nil => .nil
  | _, _, .cons y t r => .cons (.str _ _) (reads_strs r)
theorem strs_get : ∀ {vs : List Value} {ys : List Str}, StrsAre vs ys → ∀ {i : Nat} {v : Value}, vs[i]? = some v → ∃ y t, ys[i]? = some y ∧ v = .str y t
  | _, _, .nil, i, v, h => by cases i <;> cases h
  | _, _, .cons y t r, 0, v, h => by cases h; exact ⟨y, t, rfl, rfl⟩
  | _, _, .cons y t r, i + 1, v, h => strs_get r (i := i) h
theorem strs_app {y : Str} {t : Tok} : ∀ {vs : List Value} {ys : List Str}, StrsAre vs ys → StrsAre (vs ++ [.str y t]) (ys ++ [y])
  | _, _, .nil => .cons _ _ .nil
  | _, _, .cons z u r => .cons z u (strs_app r)
theorem strs_len : ∀ {vs : List Value} {ys : List Str}, StrsAre vs ys → vs.length = ys.length
  | _, _, .nil => rfl
  | _, _, .cons z u r => by rw [List.length_cons, List.length_cons, strs_len r]
theorem Parts.without {X T1 : List (Addr × Obj)} {it : Addr} {o : Obj} {items : List Value} {ps : List (Str × Str)} (h : Parts (X ++ (it, o) :: T1) items ps) (ho : o.cls = .type "list_iterator") : Parts (X ++ T1) items ps := by
  refine ⟨h.len, fun j p e => ?_⟩
  obtain ⟨a, t, u, e1, e2⟩ := h.at_ j p e
  refine ⟨a, t, u, e1, ?_⟩
  rcases List.mem_append.mp e2 with h2 | h2
  · exact List.mem_append.mpr (.inl h2)
  · rcases List.mem_cons.mp h2 with h3 | h3
    · injection h3 with _ h4
      rw [← h4] at ho
      exact absurd ho (show ¬ (Value.type "tuple" = Value.type "list_iterator") by decide)
    · exact List.mem_append.mpr (.inr h3)
theorem sum_le : ∀ l : List Str, (∀ y ∈ l, y.length ≤ 1000) → (l.map (·.length)).sum ≤ 1000 * l.length
  | [], _ => Nat.le_refl _
  | y :: l, h => by
    have h1 := sum_le l fun z hz => h z (.tail _ hz)
    have h2 := h y (.head _)
    rw [List.map_cons, List.sum_cons, List.length_cons]
    omega
theorem exL_pos {T : Nat} (hT : 1 ≤ T) {x : Str} (h : 1 ≤ x.length) : 1 ≤ (mkS (exL T x.cps.toList)).length := by
  rw [mkS_len]
  have e : x.length = x.cps.toList.length := by simp [Str.length]
  rw [e] at h
  generalize x.cps.toList = l at h ⊢
  cases l with
  | nil => exact absurd h (by decide)
  | cons c cs =>
    rw [exL_cons]
    split
    · rw [List.length_append, List.length_replicate]; omega
    · rw [List.length_cons]; omega
theorem EP_pos {T : Nat} (hT : 1 ≤ T) {p : Str × Str} (h : Pc p) : (EP T p).2.length ≠ 0 := by
  have := exL_pos hT (x := p.2) h.n1
  show (mkS (exL T p.2.cps.toList)).length ≠ 0
  omega
theorem EP_all {T : Nat} (hT : 1 ≤ T) {ps : List (Str × Str)} (h : ∀ p ∈ ps, Pc p) : ∀ q ∈ ps.map (EP T), q.2.length ≠ 0 := fun q hq => by
  obtain ⟨p, hp, rfl⟩ := List.mem_map.mp hq
  exact EP_pos hT (h p hp)
theorem wt_pos : ∀ {ps : List (Str × Str)}, (∀ p ∈ ps, p.2.length ≠ 0) → 0 ≤ wt ps ∧ (ps ≠ [] → 0 < wt ps)
  | [], _ => ⟨Int.le_refl _, fun h => absurd rfl h⟩
  | p :: ps, h => by
    have h1 := wt_pos (ps := ps) fun q hq => h q (.tail _ hq)
    have h2 := h p (.head _)
    have e : wt (p :: ps) = ((p.1.length : Int) + (p.2.length : Int)) + wt ps := by unfold wt; rw [List.map_cons, List.sum_cons]
    rw [e]
    exact ⟨by omega, fun _ => by omega⟩
/-- the row laid as it is written, by the number of signs -/
theorem LOk.rt_len {T k : Nat} {f : LS} (h : LOk k f) (hk : k ≤ 10) (hT : T ≤ 8) : ∀ y ∈ (f.rows ++ [f.cur]).map (RT T), y.length ≤ 1000 := by
  have hp : ∀ row ∈ f.rows ++ [f.cur], ∀ p ∈ row, Pc p := fun row hr => by
    rcases List.mem_append.mp hr with hr | hr
    · exact h.rows row hr
    · rw [List.mem_singleton.mp hr]; exact h.cur
  rw [told_one hp]
  exact fun y hy => ((h.due hk).told (T := T) (P := 1) hT y hy).1
theorem isspace_no {x : Str} {c : Nat} (hc : c ∈ x.cps.toList) (h : Unicode.isSpace c = false) : Txt.isspace x = false := by
  unfold Txt.isspace
  rw [Bool.and_eq_false_iff]
  right
  rw [Bool.eq_false_iff]
  intro q
  rw [← Array.all_toList, List.all_eq_true] at q
  exact absurd (q c hc) (by rw [h]; decide)
theorem word_sp : ∀ c ∈ ([97, 98, 99, 100, 101, 34, 59] : List Nat), Unicode.isSpace c = false := by decide +kernel
theorem ws_no {T : Nat} (hT : 1 ≤ T) {ps : List (Str × Str)} (h : ∀ p ∈ ps, Pc p) (hne : ps ≠ []) : Txt.isspace (txt (ps.map (EP T))) = false := by
  cases ps with
  | nil => exact absurd rfl hne
  | cons p ps =>
    have hp := h p (.head _)
    have h1 := exL_pos hT (x := p.2) hp.n1
    rw [mkS_len] at h1
    obtain ⟨c, hc⟩ : ∃ c, c ∈ exL T p.2.cps.toList := by
      cases hl : exL T p.2.cps.toList with
      | nil => rw [hl] at h1; exact absurd h1 (by decide)
      | cons c cs => exact ⟨c, .head _⟩
    refine isspace_no (c := c) ?_ (word_sp c (hp.word c (exL_mem hc)))
    rw [txt_cps, List.map_cons, List.map_cons, List.flatten_cons]
    refine List.mem_append.mpr (.inl (List.mem_append.mpr (.inr ?_)))
    show c ∈ (mkS (exL T p.2.cps.toList)).cps.toList
    rw [mkS_list]
    exact hc
theorem last_no {T : Nat} (hT : 1 ≤ T) {ps : List (Str × Str)} (h : ∀ p ∈ ps, Pc p) : ∀ p, (ps.map (EP T)).getLast? = some p → ¬ (p.1 = " " ∧ p.2 = "") := fun p hp q => by
  have h1 := EP_all hT h p (List.mem_of_getLast? hp)
  rw [q.2] at h1
  exact h1 rfl
theorem ws_off {h0 : Nat} {T : Nat} (hT : 1 ≤ T) {ps : List (Str × Str)} (h : ∀ p ∈ ps, Pc p) (hne : ps ≠ []) : onlyws (h0 : Int) (ps.map (EP T)) = false := by
  have h1 := (wt_pos (EP_all hT h)).2 (by simpa using hne)
  have h2 : ((h0 : Int) + wt (ps.map (EP T)) != 0) = true := by
    rw [bne_iff_ne]; omega
  unfold onlyws
  rw [ws_no hT h hne, h2]
  simp
/-- the lists of strings told and read are equal -/
theorem c_neStrs {prog : Program} {w : World} {A : Around} {E : Value → Shared → Prop} {s : Shared} {b : Heap} {ω : OsState} {L a c : Addr} {m : Str → Option Value} {ns : List (Addr × Obj)} {Q : Value → Shared → Prop} {vs ws : List Value} {n n2 : Nat} {ys : List Str}
    (H : At b ω L m ns s) (hu : A.units + 64 < cLine) (hm : (a, lstO vs n) ∈ ns) (hm2 : (c, lstO ws n2) ∈ ns) (hi : StrsAre vs ys) (hi2 : StrsAre ws ys) (hok : ∀ y ∈ ys, PyData.strOk y = true) (h : Q (.bool false) s) : wpAny (model prog w) A (compareOp .NotEq (.ref a) (.ref c)) Q E s := by
  refine ne_dataH (.list (H.get hm) rfl rfl (reads_strs hi)) (.list (H.get hm2) rfl rfl (reads_strs hi2)) (strs_shaped ys hok) (strs_shaped ys hok) hu ?_
  have e : PyData.eqv (.list (ys.map .str)) (.list (ys.map .str)) = true := SeqAt.eqv_refl _ (SeqAt.canLay_of_shaped (strs_shaped ys hok))
  rw [e]
  exact h
theorem Rm.hu {A : Around} (R : Rm A 5) : A.units + 64 < cLine := by have := R.un; omega
theorem tjoin_len (ys : List Str) : (Txt.join (Str.ofString "\n") ys).length ≤ (ys.map (·.length)).sum + ys.length * 1 := by
  show (Builtin.Str.glued (Str.ofString "\n") ys).length ≤ _
  rw [StrLaws.glued_eq_join]
  exact StrLaws.join_length_le (Str.ofString "\n") ys
theorem At.behind {it p1 p2 p3 p4 p5 : Addr × Obj} {T : List (Addr × Obj)} {b : Heap} {ω : OsState} {L : Addr} {m : Str → Option Value} {s : Shared} (H : At b ω L m (it :: p1 :: p2 :: p3 :: p4 :: p5 :: T) s) : At b ω L m (p1 :: p2 :: p3 :: p4 :: p5 :: it :: T) s := H.sink
theorem At.made {p1 p2 p3 p4 p5 p6 p7 p8 p9 : Addr × Obj} {T : List (Addr × Obj)} {b : Heap} {ω : OsState} {L : Addr} {m : Str → Option Value} {s : Shared} (H : At b ω L m (p1 :: p2 :: p3 :: p4 :: p5 :: p6 :: p7 :: p8 :: p9 :: T) s) : At b ω L m (p1 :: p2 :: p3 :: p8 :: p9 :: p6 :: p4 :: p5 :: p7 :: T) s :=
  H.perm (((((List.perm_append_comm_assoc [p4, p5, p6, p7] [p8, p9] T).trans (((List.perm_middle (a := p6) (l₁ := [p4, p5]) (l₂ := p7 :: T)).cons _).cons _)).cons _).cons _).cons _)
/-- what stands before the k-th piece is laid -/
structure LJ (T W : Nat) (mk ac dc ll rl : Addr) (M : Str) (hd0 : Nat) (tM th tw : Tok) (Z : List (Addr × Obj)) (k : Nat) (f : LS) (m : Str → Option Value) (ns : List (Addr × Obj)) : Prop where
  ex : ∃ items ep hsh tk t0 n lines el tO tS T1, ns = (ac, accO dc items ep) :: (dc, ownD hsh tk (.int (f.h0 : Int) t0) n) :: (ll, lstO lines el) :: (140, tO) :: (147, tS) :: T1 ∧
    Parts T1 items (f.cur.map (EP T)) ∧ StrsAre lines (f.rows.map (RT T)) ∧ TabOk tO ∧ TabOk tS ∧ (∃ Y, T1 = Y ++ Z) ∧ LOk k f ∧
    m "maker" = some (.ref mk) ∧ m "pieces" = some (.ref rl) ∧ m "head" = some (.int (hd0 : Int) th) ∧ m "width" = some (.int (W : Int) tw) ∧ m "marks" = some (.str M tM)
theorem LJ.elim {T W : Nat} {mk ac dc ll rl : Addr} {M : Str} {hd0 : Nat} {tM th tw : Tok} {Z : List (Addr × Obj)} {k : Nat} {f : LS} {m : Str → Option Value} {ns : List (Addr × Obj)} {P : Prop}
    (J : LJ T W mk ac dc ll rl M hd0 tM th tw Z k f m ns)
    (q : ∀ items ep hsh tk t0 n lines el tO tS Y, ns = (ac, accO dc items ep) :: (dc, ownD hsh tk (.int (f.h0 : Int) t0) n) :: (ll, lstO lines el) :: (140, tO) :: (147, tS) :: (Y ++ Z) →
      Parts (Y ++ Z) items (f.cur.map (EP T)) → StrsAre lines (f.rows.map (RT T)) → TabOk tO → TabOk tS → LOk k f →
      m "maker" = some (.ref mk) → m "pieces" = some (.ref rl) → m "head" = some (.int (hd0 : Int) th) → m "width" = some (.int (W : Int) tw) → m "marks" = some (.str M tM) → P) : P := by
  obtain ⟨items, ep, hsh, tk, t0, n, lines, el, tO, tS, T1, h1, h2, h3, h4, h5, ⟨Y, h6⟩, h7, h8, h9, h10, h11, h12⟩ := J.ex
  subst h6
  exact q items ep hsh tk t0 n lines el tO tS Y h1 h2 h3 h4 h5 h7 h8 h9 h10 h11 h12
theorem LJ.mk' {T W : Nat} {mk ac dc ll rl : Addr} {M : Str} {hd0 : Nat} {tM th tw : Tok} {Z : List (Addr × Obj)} {k : Nat} {f : LS} {m : Str → Option Value}
    {items : List Value} {ep : Nat} {hsh : Int} {tk t0 : Tok} {n : Nat} {lines : List Value} {el : Nat} {tO tS : Obj} (Y : List (Addr × Obj))
    (h2 : Parts (Y ++ Z) items (f.cur.map (EP T))) (h3 : StrsAre lines (f.rows.map (RT T))) (h4 : TabOk tO) (h5 : TabOk tS) (h7 : LOk k f)
    (h8 : m "maker" = some (.ref mk)) (h9 : m "pieces" = some (.ref rl)) (h10 : m "head" = some (.int (hd0 : Int) th)) (h11 : m "width" = some (.int (W : Int) tw)) (h12 : m "marks" = some (.str M tM)) :
    LJ T W mk ac dc ll rl M hd0 tM th tw Z k f m ((ac, accO dc items ep) :: (dc, ownD hsh tk (.int (f.h0 : Int) t0) n) :: (ll, lstO lines el) :: (140, tO) :: (147, tS) :: (Y ++ Z)) :=
  ⟨items, ep, hsh, tk, t0, n, lines, el, tO, tS, _, rfl, h2, h3, h4, h5, ⟨Y, rfl⟩, h7, h8, h9, h10, h11, h12⟩
end
end Mine
end
section
open PySem PySem.W PyProof.Rows PySem.Calls PySem.Spec
set_option Elab.async false
set_option maxRecDepth 100000
set_option maxHeartbeats 4000000
namespace Mine
example (P : Params) : PySem.Challenge.rw_pe0181_01 = PySem.Challenge.rw_pe0181_01 ∧ Mine.hd.heap_1 P = Mine.hd.heap_1 P := by
  k_fill
  exact ⟨rfl, rfl⟩
set_option hygiene false in
local macro_rules | `(tactic| walk_at "w1") => `(tactic| ((with_reducible refine p_eval ?_); (with_reducible refine' rep_call (T := T) (tT := tT) H hnb ?k1 ?k2 ?k3 ?k4 ?k5 ?k6 ?_); (case k1 => walk_at "upl"); (case k2 => exact rfl); (case k3 => exact rfl); (case k4 => exact hwl); (case k5 => exact ⟨hT1, hT8⟩); (case k6 => intro Q E s H q; walk_at "w1"; exact q); intro t s H))
section
variable {prog : Program} {w : World} {A : Around} {E : Value → Shared → Prop} {s : Shared} {b : Heap} {ω : OsState} {L a c sa : Addr} {m mg mb : Str → Option Value} {ns : List (Addr × Obj)} {Q : Value → Shared → Prop} {n : Nat} {vs : List Value} {zs : List Int} {tO tS : Obj} {value slice : Expr}
theorem b_upto {j : Nat} {tj : Tok} (hl : b.IsList a vs.toArray) (H : At b ω L m ns s) (hs : (sa, sliO .none (.int (j : Int) tj) .none) ∈ ns) (hz : vs.length ≤ 1000)
    (h : ∀ la s', At b ω L m ((la, lstO (vs.take j) 0) :: ns) s' → Q (.ref la) s')
    (he : subscripted slice false (.ref a) (.ref sa) = operate [.ref sa, .ref a] (getItem (.ref a) (.ref sa)) := by with_unfolding_all rfl) :
    wpAny (model prog w) A (subscriptTail value slice (.ref a) (.ref sa)) Q E s := by
  have hl' : s.heap.IsList a vs.toArray := let ⟨o, e, r⟩ := hl; ⟨o, H.F.keep _ _ e, r⟩
  refine tail_any hl'.typeIs slot_list_getitem.lookup ?_ he
  refine wpAny_getItem_list_slice hl' ⟨_, H.get hs, rfl, rfl⟩ .none (.int (j : Int) tj) .none (by simp) ?_ (by rw [List.size_toArray, sizeLine_eq]; omega)
  rw [slicePick_upto']
  exact h _ _ (H.push (lstO (vs.take j) 0) (Nat.le_refl _))
theorem times_at {t0 t1 t2 : Tok} (D : Nat) : ∃ T t, ([.int 4 t0, .int 2 t1, .int 1 t2] : List Value)[((D % 3 : Nat) : Int).toNat]? = some (.int ((T : Nat) : Int) t) ∧ 1 ≤ T ∧ T ≤ 4 := by
  have h : D % 3 < 3 := Nat.mod_lt _ (by decide)
  generalize D % 3 = r at h
  rcases r with _ | _ | _ | r
  · exact ⟨4, t0, rfl, by decide, by decide⟩
  · exact ⟨2, t1, rfl, by decide, by decide⟩
  · exact ⟨1, t2, rfl, by decide, by decide⟩
  · omega
theorem head_at {t0 t1 t2 : Tok} (D : Nat) : ∃ T t, ([.int 5 t0, .int 0 t1, .int 2 t2] : List Value)[((D % 3 : Nat) : Int).toNat]? = some (.int ((T : Nat) : Int) t) ∧ T ≤ 5 := by
  have h : D % 3 < 3 := Nat.mod_lt _ (by decide)
  generalize D % 3 = r at h
  rcases r with _ | _ | _ | r
  · exact ⟨5, t0, rfl, by decide⟩
  · exact ⟨0, t1, rfl, by decide⟩
  · exact ⟨2, t2, rfl, by decide⟩
  · omega
def allMarks : List Str := [Str.ofString "\" ", Str.ofString ";", Str.ofString "\" \t", Str.ofString " ;", Str.ofString "", Str.ofString "\""]
theorem marks_at {t0 t1 t2 t3 t4 t5 : Tok} (D : Nat) : ∃ M t, ([.str (Str.ofString "\" ") t0, .str (Str.ofString ";") t1, .str (Str.ofString "\" \t") t2, .str (Str.ofString " ;") t3, .str (Str.ofString "") t4, .str (Str.ofString "\"") t5] : List Value)[((D % 6 : Nat) : Int).toNat]? = some (.str M t) ∧ M ∈ allMarks := by
  have h : D % 6 < 6 := Nat.mod_lt _ (by decide)
  generalize D % 6 = r at h
  rcases r with _ | _ | _ | _ | _ | _ | r
  · exact ⟨_, t0, rfl, .head _⟩
  · exact ⟨_, t1, rfl, .tail _ (.head _)⟩
  · exact ⟨_, t2, rfl, .tail _ (.tail _ (.head _))⟩
  · exact ⟨_, t3, rfl, .tail _ (.tail _ (.tail _ (.head _)))⟩
  · exact ⟨_, t4, rfl, .tail _ (.tail _ (.tail _ (.tail _ (.head _))))⟩
  · exact ⟨_, t5, rfl, .tail _ (.tail _ (.tail _ (.tail _ (.tail _ (.head _)))))⟩
  · omega
theorem marks_ok : ∀ M ∈ allMarks, (M.cps.all (· < 128) && decide (M.length ≤ 10)) = true := by decide +kernel
theorem law_call (G : Gd w mg mb b) (hnb : NoneBooked b) (hkb : ∀ c o, b.get? c = some o → s.heap.get? c = some o) (hsz : b.objs.size ≤ s.heap.objs.size)
    (h1 : s.heap.get? 140 = some tO ∧ b.get? 140 = none) (h2 : s.heap.get? 147 = some tS ∧ b.get? 147 = none) (hT : TabOk tO) (hS : TabOk tS)
    (hos : s.os = ω) (hgens : AllBare s.gens) (R : Rm A 19) (hl : b.IsList a vs.toArray) (hi : IntsAre vs zs) (hz : vs.length ≤ 63)
    (h : ∀ L' m' ns' tO' tS' s', At b ω L' m' ns' s' → (140, tO') ∈ ns' → TabOk tO' → (147, tS') ∈ ns' → TabOk tS' → Q (.bool true) s') :
    wpAny (model PySem.Challenge.pw_pe0181_01 w) A (call (.ref 238) [.ref a]) Q E s := by
  refine fn_enter (n := "script") (v := .ref a) (ns := [(140, tO), (147, tS)]) G hkb hsz ?_ (by simp) hos hgens R (by k_is) (by k_is) (BindsTo.of_eq rfl) (by rfl) (by decide) ?_
  · intro p hp
    simp only [List.mem_cons, List.not_mem_nil, or_false] at hp
    rcases hp with rfl | rfl
    · exact h1
    · exact h2
  clear hkb hsz h1 h2 hos hgens R
  intro L' cells s Y H R
  obtain ⟨op, ot, rfl, cp, ct⟩ := CellsAre.two Y
  clear Y
  replace cp : CellIs op none := ⟨cp⟩
  replace ct : CellIs ot none := ⟨ct⟩
  have hL' := H.F.above
  generalize hm0 : (fun y : Str => if y = (Str.ofString "script") then some (Value.ref a) else none) = m0 at H
  have m1 : m0 "script" = some (.ref a) := by rw [← hm0]; rfl
  clear hm0
  replace H : At b ω L' m0 ((L' + 1 + 1, op) :: (L' + 1, ot) :: (140, tO) :: (147, tS) :: []) s := H
  refine wpAny_execs_cons ?_
  refine Assign_ListComp_ (cl := []) ?_ (by rfl) (by rfl) rfl (by decide) (fun _ => rfl)
  walk_at "w"
  refine b_upto (j := 6) hl H (by walk_at "mems") (by omega) ?_
  intro la s H
  have hi6 : IntsAre (vs.take 6) (zs.take 6) := by have := ints_cut hi 0 6; simpa using this
  obtain ⟨ks, hks⟩ : ∃ ks : List Nat, ks = (zs.take 6).map fun z => (z % 1000000).toNat := ⟨_, rfl⟩
  have hkn : ks.length ≤ 6 := by rw [hks, List.length_map, List.length_take]; omega
  have hkl : ∀ k ∈ ks, k < 1000000 := fun k hk => by
    rw [hks] at hk
    obtain ⟨z, _, rfl⟩ := List.mem_map.mp hk
    omega
  have hvl : (vs.take 6).length = ks.length := by rw [hi6.length, hks, List.length_map]
  refine it_list H (by walk_at "mems") ?_
  intro it oi s hoi H
  generalize hB : (_ :: _ :: (L' + 1 + 1, op) :: (L' + 1, ot) :: (140, tO) :: (147, tS) :: [] : List (Addr × Obj)) = B at H
  refine comp_go (fun C => itr_list (l := la) R.hd (vs.take 6)) (fun i vs ns' => ns' = B ∧ IntsAre vs ((ks.take i).map fun k : Nat => (k : Int)) ∧ vs.length = i)
    ?_ ⟨rfl, .nil, rfl⟩ hoi H (by omega) (fun i vs ns' h => h.2.2) (fun o s Q E ho hx h => self_list hx ho h) (fun _ _ _ _ _ _ _ _ hq => wpAny_pure hq) (by decide) rfl ?_ ?_
  · rintro i vs ns' p q ⟨rfl, _⟩
    exact ⟨0, .tail _ (.tail _ (by rw [← hB]; walk_at "mems"))⟩
  · rintro C D i o v m' ns' oL' n' ws s hi' hv ⟨rfl, hq, hle⟩ hoL' H
    obtain ⟨z, tz, hz1, rfl⟩ := intsAre_get hi6 hv
    walk_at "w"
    refine c_pow H (by decide) (by decide) (by decide) ?_
    intro t1 s H
    rw [show (10 : Int) ^ (6 : Int).toNat = 1000000 from by decide]
    refine i_mod H (by decide) ?_
    intro t2 s H
    refine ⟨_, _, ⟨rfl, ?_, by simp [hle]⟩, H⟩
    have e : ks[i]? = some (z % 1000000).toNat := by rw [hks, List.getElem?_map, hz1]; rfl
    rw [List.take_add_one, e, List.map_append]
    refine hq.append ?_
    show IntsAre [Value.int (z.fmod 1000000) t2] [(((z % 1000000).toNat : Nat) : Int)]
    rw [Int.fmod_eq_emod_of_nonneg _ (by decide), Int.toNat_of_nonneg (Int.emod_nonneg _ (by decide))]
    exact .cons _ _ .nil
  rintro C na m' ns' oL' nn nvals s ⟨rfl, hnums, hle⟩ hoL' H
  rw [List.take_of_length_le (by omega)] at hnums
  refine' post_name ?k1 hoL' ?k2 ?k3 ?k4 ?_
  case k1 => exact H
  case k2 => exact hL'
  case k3 => exact rfl
  case k4 => exact rfl
  clear H hoi hoL'
  intro s H
  subst hB
  walk_at "w"
  refine c_sum R.hd H (by walk_at "mems") hnums ?_
  intro t3 s H
  obtain ⟨D, hD⟩ : ∃ D : Nat, (ks.map fun k : Nat => (k : Int)).sum = (D : Int) := by
    clear hnums hkl hkn hks hvl
    induction ks with
    | nil => exact ⟨0, rfl⟩
    | cons k r ih => obtain ⟨D, e⟩ := ih; exact ⟨k + D, by rw [List.map_cons, List.sum_cons, e]; push_cast; rfl⟩
  rw [hD]
  walk_at "w"
  refine i_mod H (by decide) ?_
  intro t4 s H
  rw [show Int.fmod (D : Int) 3 = ((D % 3 : Nat) : Int) from fmod_nat D 3]
  have h3 : D % 3 < 3 := Nat.mod_lt _ (by decide)
  obtain ⟨T, tT, hTv, hT1, hT4⟩ := times_at D
  refine tup_item H (by walk_at "mems") (by omega) (by omega) hTv ?_
  walk_at "w"
  refine i_div H (by decide) (PyProof.noPylong_small (by decide)) ?_
  intro t5 s H
  rw [show Int.fdiv (D : Int) 3 = ((D / 3 : Nat) : Int) from fdiv_nat D 3]
  walk_at "w"
  refine i_mod H (by decide) ?_
  intro t6 s H
  rw [show Int.fmod ((D / 3 : Nat) : Int) 3 = ((D / 3 % 3 : Nat) : Int) from fmod_nat _ 3]
  have h3' : D / 3 % 3 < 3 := Nat.mod_lt _ (by decide)
  obtain ⟨hd0, th, hhv, hh5⟩ := head_at (D / 3)
  refine tup_item H (by walk_at "mems") (by omega) (by omega) hhv ?_
  walk_at "w"
  refine i_div H (by decide) (PyProof.noPylong_small (by decide)) ?_
  intro t7 s H
  rw [show Int.fdiv (D : Int) 9 = ((D / 9 : Nat) : Int) from fdiv_nat D 9]
  walk_at "w"
  refine i_mod H (by decide) ?_
  intro t8 s H
  rw [show Int.fmod (((D / 9 : Nat) : Int) + 7) 13 = (((D / 9 + 7) % 13 : Nat) : Int) from fmod_nat (D / 9 + 7) 13]
  walk_at "w"
  obtain ⟨W, hW, hW16⟩ : ∃ W : Nat, (3 : Int) + (((D / 9 + 7) % 13 : Nat) : Int) = (W : Int) ∧ W ≤ 16 := ⟨3 + (D / 9 + 7) % 13, by push_cast; rfl, by have := Nat.mod_lt (D / 9 + 7) (show 0 < 13 by decide); omega⟩
  rw [hW] at H
  refine i_div H (by decide) (PyProof.noPylong_small (by decide)) ?_
  intro t9 s H
  rw [show Int.fdiv (D : Int) 117 = ((D / 117 : Nat) : Int) from fdiv_nat D 117]
  walk_at "w"
  refine i_mod H (by decide) ?_
  intro t10 s H
  rw [show Int.fmod ((D / 117 : Nat) : Int) 6 = ((D / 117 % 6 : Nat) : Int) from fmod_nat _ 6]
  have h6' : D / 117 % 6 < 6 := Nat.mod_lt _ (by decide)
  obtain ⟨M, tM, hMv, hM⟩ := marks_at (D / 117)
  have hMok := marks_ok M hM
  rw [Bool.and_eq_true] at hMok
  have hMa := hMok.1
  have hMl := of_decide_eq_true hMok.2
  refine tup_item H (by walk_at "mems") (by omega) (by omega) hMv ?_
  walk_at "w"
  refine pieces_call G H (R.le (by decide)) (by walk_at "mems") hnums hkl hkn ?_
  intro X rl pitems pn s H hrl hpc
  have hpsok := pieces_ok ks
  have hpslen := pieces_len ks
  generalize hps : piecesOf ks = ps at hpc hpsok hpslen
  clear hps
  have hT8 : T ≤ 8 := by omega
  have hpsl : ps.length ≤ 10 := by omega
  replace H := H.perm List.perm_append_comm
  simp only [List.cons_append, List.nil_append] at H
  replace H := At.front4 [_, _, _, _, _, _] H
  generalize hZ0 : ([_, _, _, _, _, _] ++ X : List (Addr × Obj)) = Z0 at H
  have hrl0 : (rl, lstO pitems pn) ∈ Z0 := by rw [← hZ0]; exact List.mem_append.mpr (.inr hrl)
  have hpc0 : Parts Z0 pitems ps := hpc.mono fun p q => by rw [← hZ0]; exact List.mem_append.mpr (.inr q)
  clear hZ0 hrl hpc
  walk_at "w"
  refine mk_make (cws := Str.ofString "\t") G H (R.le (by decide)) (by decide +kernel) ?_
  intro mk md es en ac dc hsh tk n' ll s K H
  replace H := At.made H
  generalize hZ1 : ((mk, instObj 94 md) :: (md, dictOf es en) :: _ :: Z0 : List (Addr × Obj)) = Z1 at H
  have hot : ∃ o, (L' + 1, o) ∈ Z1 ∧ CellIs o (some (.int (T : Nat) tT)) := ⟨_, by rw [← hZ1]; exact .tail _ (.tail _ (.head _)), by assumption⟩
  obtain ⟨otx, hctZ, ctx⟩ := hot
  have KZ : MkIn Z1 mk W M ll ac := K.mono fun p q => by rw [← hZ1]; simp only [List.mem_cons, List.not_mem_nil, or_false] at q; rcases q with rfl | rfl <;> simp
  have hrlZ : (rl, lstO pitems pn) ∈ Z1 := by rw [← hZ1]; exact .tail _ (.tail _ (.tail _ hrl0))
  have hpcZ : Parts Z1 pitems ps := hpc0.mono fun p q => by rw [← hZ1]; exact .tail _ (.tail _ (.tail _ q))
  clear hZ1 K hrl0 hpc0
  walk_at "w"
  refine wpAny_For ?_ (fun _ => rfl)
  walk_at "w"
  refine it_list H (by walk_at "mems") ?_
  intro it oi s hoi H
  refine for_it2 (itr_list (l := rl) R.hd pitems) (fun k m ns' => LJ T W mk ac dc ll rl M hd0 tM th _ ((L' + 1 + 1, op) :: Z1) k ((ps.take k).foldl (LS.add T W M.cps.toList) ⟨hd0, [], []⟩) m ns')
    ?_ (LJ.mk' [] ⟨rfl, fun j p e => by cases e⟩ .nil hT hS ⟨by simp, by simp, by simp, by simp, by simp, (show hd0 ≤ 100 by omega), fun h => absurd h (Nat.lt_irrefl 0)⟩ (by walk_at "upl") (by walk_at "upl") (by walk_at "upl") (by walk_at "upl") (by walk_at "upl")) hoi H ?_ ?_ ?_
  · intro i m' ns' hJ
    refine hJ.elim ?_
    intro items ep hsh tk t0 n lines el tO2 tS2 Y e _ _ _ _ _ _ _ _ _ _
    subst e
    exact ⟨pn, .tail _ (.tail _ (.tail _ (.tail _ (.tail _ (List.mem_append.mpr (.inr (.tail _ hrlZ)))))))⟩
  · intro i o v s Q hv ho hx h
    obtain ⟨p, aq, tq, uq, e1, rfl, e2⟩ := parts_item hpcZ hv
    exact go_list hx ho h
  · intro k o v m' ns' s hk hv hito hJ H
    refine hJ.elim ?_
    clear hJ
    intro items ep hsh tk t0 n lines el tO2 tS2 Y e q1 q2 hT2 hS2 hLO n1 n2 n3 n4 n5
    subst e
    obtain ⟨p, aq, tq, uq, e1, rfl, e2⟩ := parts_item hpcZ hv
    have hpk := hpsok p (List.mem_of_getElem? e1)
    have hwl : p.2.length ≤ 1000 := Nat.le_trans hpk.n2 (by decide)
    have hk' : k < ps.length := by rw [← hpcZ.len]; exact hk
    generalize hf : (ps.take k).foldl (LS.add T W M.cps.toList) ⟨hd0, [], []⟩ = f at *
    have hf' : (ps.take (k + 1)).foldl (LS.add T W M.cps.toList) ⟨hd0, [], []⟩ = LS.add T W M.cps.toList f p := by
      rw [List.take_add_one, e1, List.foldl_append, hf]; rfl
    rw [hf']
    obtain ⟨T1, hT1'⟩ : ∃ T1, T1 = Y ++ (L' + 1 + 1, op) :: Z1 := ⟨_, rfl⟩
    have hin : ∀ q ∈ Z1, q ∈ T1 := fun q hq => by rw [hT1']; exact List.mem_append.mpr (.inr (.tail _ hq))
    have K : MkIn T1 mk W M ll ac := KZ.mono hin
    have hct1 := hin _ hctZ
    have hmq := hin _ e2
    rw [← hT1'] at H q1
    walk_at "w"
    have hcp : ∀ q ∈ f.cur ++ [p], Pc q := fun q hq => by
      rcases List.mem_append.mp hq with hq | hq
      · exact hLO.cur q hq
      · rw [List.mem_singleton.mp hq]; exact hpk
    have n6 := hLO.ncur
    have n7 := hLO.nrows
    have n8 := hLO.h0
    refine mk_append (p := EP T p) (ps := f.cur.map (EP T)) (rows := f.rows.map (RT T)) (h0 := (f.h0 : Int)) G
      ⟨⟨items, ep, hsh, tk, t0, n, lines, el, tO2, tS2, At.behind H, q1.mono fun _ q => .tail _ q, q2, hT2, hS2⟩, K.mono fun _ q => .tail _ q⟩ (R.le (by decide)) ?_ (by rw [List.length_map]; omega) (by omega) hMa (EP_all hT1 hLO.cur) (by rw [List.length_map]; omega) ?_
    · rw [show f.cur.map (EP T) ++ [EP T p] = (f.cur ++ [p]).map (EP T) from by simp]
      exact small_EP hT8 (by rw [List.length_append, List.length_singleton]; omega) hcp
    intro X s M'
    rw [add_ex hT1 M.cps.toList f p fun q hq => (hcp q hq).leadOk] at M'
    obtain ⟨⟨items3, ep3, hsh3, tk3, t3, n3', lines3, el3, tO3, tS3, H, q3, q4, hT3, hS3⟩, _⟩ := M'
    walk_at "w"
    have H2 := At.front1 (_ :: _ :: _ :: _ :: _ :: X) H
    rw [hT1'] at H2
    simp only [List.cons_append, ← List.append_assoc] at H2
    have q3' := Parts.without q3 hito.1
    rw [hT1', ← List.append_assoc] at q3'
    exact ⟨_, _, LJ.mk' (X ++ Y) q3' q4 hT3 hS3 (hLO.add hpk) (by walk_at "upl") (by walk_at "upl") (by walk_at "upl") (by walk_at "upl") (by walk_at "upl"), H2⟩
  intro m' ns' s hJ H
  rw [hpcZ.len, List.take_of_length_le (Nat.le_refl _)] at hJ
  refine hJ.elim ?_
  clear hJ
  intro items ep hsh tk t0 n lines el tO2 tS2 Y e q1 q2 hT2 hS2 hLO n1 n2 n3 n4 n5
  subst e
  generalize hf : ps.foldl (LS.add T W M.cps.toList) ⟨hd0, [], []⟩ = f at H q1 q2 hLO
  have n6 := hLO.ncur
  have n7 := hLO.nrows
  have n8 := hLO.h0
  have hne : f.cur ≠ [] := hLO.ne (by omega)
  have hds := hLO.due hpsl
  obtain ⟨T1, hT1'⟩ : ∃ T1, T1 = Y ++ (L' + 1 + 1, op) :: Z1 := ⟨_, rfl⟩
  have hin : ∀ q ∈ Z1, q ∈ T1 := fun q hq => by rw [hT1']; exact List.mem_append.mpr (.inr (.tail _ hq))
  have K : MkIn T1 mk W M ll ac := KZ.mono hin
  have hct1 := hin _ hctZ
  have hrl1 := hin _ hrlZ
  rw [← hT1'] at H q1
  walk_at "w"
  refine rows_call G H (R.le (by decide)) (by walk_at "mems") (hpcZ.mono fun q hq => .tail _ (.tail _ (.tail _ (.tail _ (.tail _ (hin q hq)))))) (small_P (by omega) hpsok) (by omega) hMa hMl ⟨hT1, hT8⟩ (by omega) (by omega) ?_ ?_
  · rw [hf]
    intro row hr
    rcases List.mem_append.mp hr with hr | hr
    · exact small_P (by have := hLO.nrow row hr; omega) (hLO.rows row hr)
    · rw [List.mem_singleton.mp hr]; exact small_P (by omega) hLO.cur
  rw [hf]
  intro X2 dl dues dn s H hdl hdue
  rw [show (f.rows ++ [f.cur]).map RS = (f.rows ++ [f.cur]).map txt from List.map_congr_left fun row _ => rowS_txt row] at hdue
  replace H := At.sinks X2 H
  obtain ⟨T2, hT2'⟩ : ∃ T2, T2 = X2 ++ T1 := ⟨_, rfl⟩
  have hin2 : ∀ q ∈ T1, q ∈ T2 := fun q hq => by rw [hT2']; exact List.mem_append.mpr (.inr hq)
  rw [← hT2'] at H
  replace K := K.mono hin2
  replace q1 := q1.mono hin2
  walk_at "w"
  have eJ : f.rows.map (RT T) ++ [txt (nl (f.cur.map (EP T)))] = (f.rows ++ [f.cur]).map (RT T) := by rw [txt_nl, List.map_append]; rfl
  have hrt := hLO.rt_len hpsl hT8
  have hrl' : ((f.rows ++ [f.cur]).map (RT T)).length ≤ 11 := by rw [List.length_map, List.length_append, List.length_singleton]; omega
  have hsum := sum_le _ hrt
  have enl : nl (f.cur.map (EP T)) = f.cur.map (EP T) := by unfold nl; rw [if_neg (by simpa using hne)]
  refine mk_str G ⟨⟨items, ep, hsh, tk, t0, n, lines, el, tO2, tS2, H, q1, q2, hT2, hS2⟩, K⟩ (R.le (by decide)) (small_EP hT8 (by omega) hLO.cur) (by omega) (last_no hT1 hLO.cur) ?_ ?_ (by rw [List.length_map]; omega) ?_ ?_
  · rw [enl]
    have := (wt_pos (EP_all hT1 hLO.cur)).2 (by simpa using hne)
    omega
  · rw [enl]
    exact ws_off hT1 hLO.cur hne
  · rw [eJ]; omega
  rw [eJ]
  intro Y3 X3 tO4 tS4 t s hT4 hS4 H
  obtain ⟨W0, hW0⟩ : ∃ W0, W0 = Y3 ++ (X3 ++ (X2 ++ Y)) := ⟨_, rfl⟩
  replace H := At.front2 Y3 H
  have eW : Y3 ++ (X3 ++ T2) = W0 ++ (L' + 1 + 1, op) :: Z1 := by rw [hT2', hT1', hW0]; simp
  rw [eW] at H
  replace H := At.front1 (_ :: _ :: W0) H
  simp only [List.cons_append] at H
  generalize hZ9 : W0 ++ Z1 = B at H
  have hctB : (L' + 1, otx) ∈ B := by rw [← hZ9]; exact List.mem_append.mpr (.inr hctZ)
  have hdlB : (dl, lstO dues dn) ∈ B := by rw [← hZ9, hW0]; simp [hdl]
  clear hW0 eW hZ9 hT2' hT1' hin hin2 hct1 hrl1 K q1 q2 hT2 hS2 hpcZ hrlZ KZ hctZ hdl
  walk_at "w"
  refine c_split H (by decide +kernel) ?_ ?_
  · have h1 := tjoin_len ((f.rows ++ [f.cur]).map (RT T))
    exact Nat.le_trans h1 (by omega)
  rw [hLO.split]
  intro D tolds s htold H
  replace H := At.front1 [_] H
  simp only [List.cons_append, List.nil_append] at H
  generalize hdsg : (f.rows ++ [f.cur]).map txt = ds at *
  have hdsl : ds.length ≤ 20 := hds.n
  have hduel : dues.length = ds.length := strs_len hdue
  walk_at "w"
  have hstr : ∀ P, ∀ y ∈ toldL T P ds, PyData.strOk y = true := fun P y hy => (hds.told (P := P) hT8 y hy).2
  refine ListComp_ (cl := [(Str.ofString "times", L' + 1)]) ?_ (by rfl) rfl (by decide) (fun _ => rfl)
  walk_at "w"
  refine it_list H (by walk_at "mems") ?_
  intro it oi s hoi H
  generalize hB : (_ :: (D, lstO tolds 0) :: (140, tO4) :: (147, tS4) :: B : List (Addr × Obj)) = B1 at H
  have hctB1 : (L' + 1, otx) ∈ B1 := by rw [← hB]; exact .tail _ (.tail _ (.tail _ (.tail _ hctB)))
  have hdlB1 : (dl, lstO dues dn) ∈ B1 := by rw [← hB]; exact .tail _ (.tail _ (.tail _ (.tail _ hdlB)))
  refine comp_go (fun C => itr_list (l := dl) R.hd dues) (fun i vs ns' => ∃ X, ns' = X ++ B1 ∧ StrsAre vs (toldL T 1 (ds.take i)) ∧ vs.length = i)
    ?_ ⟨[], rfl, .nil, rfl⟩ hoi H (by omega) (fun _ _ _ ⟨_, _, _, e⟩ => e) (fun o s Q E ho hx h => self_list hx ho h) (fun _ _ _ _ _ _ _ _ hq => wpAny_pure hq) (by decide) rfl ?_ ?_
  · rintro i vs ns' p q ⟨X, rfl, _⟩
    exact ⟨dn, .tail _ (.tail _ (List.mem_append.mpr (.inr hdlB1)))⟩
  · rintro C D2 i o v m' ns' oL' n' vs s hi hv ⟨X, rfl, hq, hle⟩ hoL' H
    obtain ⟨y, ty, ey, rfl⟩ := strs_get hdue hv
    have hym := List.mem_of_getElem? ey
    have hct2 : (L' + 1, otx) ∈ X ++ B1 := List.mem_append.mpr (.inr hctB1)
    walk_at "w"
    refine read_call (P := 1) G H (R.le (by decide)) (hds.len y hym) (hds.ascii y hym) ⟨hT1, hT8⟩ ⟨by decide, by decide⟩ ?_
    intro X' t s H
    refine ⟨_, _, ⟨X' ++ X, (List.append_assoc X' X B1).symm, ?_, by simp [hle]⟩, At.front3 X' H⟩
    rw [List.take_add_one, ey]
    unfold toldL at hq ⊢
    rw [List.map_append]
    exact strs_app hq
  rintro C D2 mC ns' oL' nn vals s ⟨X, rfl, hq, hle⟩ hoL' H
  rw [hduel, List.take_of_length_le (Nat.le_refl _)] at hq
  refine post_none H hoL' hL' ?_
  clear H hoi hoL'
  intro s H
  subst hB
  refine c_neStrs H (R.le (by decide)).hu (.tail _ (List.mem_append.mpr (.inr (.tail _ (.head _))))) (.head _) htold hq (hstr 1) ?_
  replace H := At.front1 (_ :: X) H
  walk_at "w"
  refine while_it (fun k m ns => ∃ P0 op' tp D' tolds' n' X, k = 20 - 2 * P0 ∧ 1 ≤ P0 ∧ P0 ≤ 2 * T ∧ ns = (L' + 1 + 1, op') :: X ∧ CellIs op' (some (.int ((2 * P0 : Nat) : Int) tp)) ∧ (D', lstO tolds' n') ∈ X ∧
    StrsAre tolds' (toldL T P0 ds) ∧ (∀ q ∈ (140, tO4) :: (147, tS4) :: B, q ∈ X) ∧ m "told" = some (.ref D') ∧ m "due" = some (.ref dl)) 18 ?_ H ?_
  · exact ⟨1, _, _, D, tolds, 0, _, rfl, by decide, by omega, rfl, by assumption, .tail _ (List.mem_append.mpr (.inr (.head _))), htold, fun q hq => .tail _ (List.mem_append.mpr (.inr (.tail _ hq))), by walk_at "upl", by walk_at "upl"⟩
  clear H hq
  rintro k m2 ns2 s ⟨P0, op', tp, D', tolds', n', X9, rfl, hP1, hP2, rfl, cp', hD', htl, hsub, u1, u2⟩ H
  have hctX : (L' + 1, otx) ∈ X9 := hsub _ (.tail _ (.tail _ hctB))
  have hdlX : (dl, lstO dues dn) ∈ X9 := hsub _ (.tail _ (.tail _ hdlB))
  walk_at "w"
  refine i_mul H (IntMulOk.of_left (intBits_le_64 (by omega) (by omega))) ?_
  intro t s H
  walk_at "w"
  by_cases hle : ((2 * P0 : Nat) : Int) ≤ 2 * (T : Int)
  case neg =>
    rw [if_neg (by simpa using hle)]
    walk_at "w"
    exact h _ _ _ _ _ _ H (.tail _ (hsub _ (.head _))) hT4 (.tail _ (hsub _ (.tail _ (.head _)))) hS4
  rw [if_pos (by simpa using hle)]
  have hP8 : 2 * P0 ≤ 8 := by omega
  walk_at "w"
  refine Assign_ListComp_ (cl := []) ?_ (by rfl) (by rfl) rfl (by decide) (fun _ => rfl)
  walk_at "w"
  refine it_list H (by walk_at "mems") ?_
  intro it2 oi2 s hoi2 H
  generalize hB2 : ((L' + 1 + 1, op') :: X9 : List (Addr × Obj)) = B2 at H
  have hDB2 : (D', lstO tolds' n') ∈ B2 := by rw [← hB2]; exact .tail _ hD'
  have htll : tolds'.length = ds.length := by rw [strs_len htl]; unfold toldL; rw [List.length_map]
  refine comp_go (fun C => itr_list (l := D') R.hd tolds') (fun i vs ns' => ∃ X, ns' = X ++ B2 ∧ StrsAre vs (((toldL T P0 ds).take i).map fun y => mkS (decL y.cps.toList)) ∧ vs.length = i)
    ?_ ⟨[], rfl, .nil, rfl⟩ hoi2 H (by omega) (fun _ _ _ ⟨_, _, _, e⟩ => e) (fun o s Q E ho hx h => self_list hx ho h) (fun _ _ _ _ _ _ _ _ hq => wpAny_pure hq) (by decide) rfl ?_ ?_
  · rintro i vs ns' p q ⟨X, rfl, _⟩
    exact ⟨n', .tail _ (.tail _ (List.mem_append.mpr (.inr hDB2)))⟩
  · rintro C D2 i o v mC ns' oL' n2 vs s hi hv ⟨X, rfl, hq, hlq⟩ hoL' H
    obtain ⟨y, ty, ey, rfl⟩ := strs_get htl hv
    have hy := (hds.told (P := P0) hT8 y (List.mem_of_getElem? ey)).1
    walk_at "w"
    refine c_add H (by have : (Str.ofString "257 \"").length = 5 := rfl; omega) ?_
    intro t s H
    walk_at "w"
    refine parse_call G H (R.le (by decide)) (by omega) ?_
    intro X' t s H
    refine ⟨_, _, ⟨X' ++ X, (List.append_assoc X' X B2).symm, ?_, by simp [hlq]⟩, At.front3 X' H⟩
    rw [List.take_add_one, ey, List.map_append]
    exact strs_app hq
  rintro C D2 mC ns' oL' nn vals s ⟨X, rfl, hq, hlq⟩ hoL' H
  rw [List.take_of_length_le (by rw [strs_len htl]; exact Nat.le_refl _), told_dec (by omega)] at hq
  refine' post_name ?k1 hoL' ?k2 ?k3 ?k4 ?_
  case k1 => exact H
  case k2 => exact hL'
  case k3 => exact rfl
  case k4 => exact rfl
  clear H hoi2 hoL' hlq
  intro s H
  subst hB2
  replace H := At.front1 (_ :: X) H
  simp only [List.cons_append] at H
  have hct3 : (L' + 1, otx) ∈ X ++ X9 := List.mem_append.mpr (.inr hctX)
  have hdl3 : (dl, lstO dues dn) ∈ X ++ X9 := List.mem_append.mpr (.inr hdlX)
  walk_at "w"
  refine ListComp_ (cl := [(Str.ofString "times", L' + 1), (Str.ofString "part", L' + 1 + 1)]) ?_ (by rfl) rfl (by decide) (fun _ => rfl)
  walk_at "w"
  refine it_list H (by walk_at "mems") ?_
  intro it3 oi3 s hoi3 H
  generalize hB3 : ((L' + 1 + 1, op') :: (D2, lstO vals nn) :: (X ++ X9) : List (Addr × Obj)) = B3 at H
  have hctB3 : (L' + 1, otx) ∈ B3 := by rw [← hB3]; exact .tail _ (.tail _ hct3)
  have hopB3 : (L' + 1 + 1, op') ∈ B3 := by rw [← hB3]; exact .head _
  have hdlB3 : (dl, lstO dues dn) ∈ B3 := by rw [← hB3]; exact .tail _ (.tail _ hdl3)
  refine comp_go (fun C => itr_list (l := dl) R.hd dues) (fun i vs ns' => ∃ X, ns' = X ++ B3 ∧ StrsAre vs (toldL T (2 * P0) (ds.take i)) ∧ vs.length = i)
    ?_ ⟨[], rfl, .nil, rfl⟩ hoi3 H (by omega) (fun _ _ _ ⟨_, _, _, e⟩ => e) (fun o s Q E ho hx h => self_list hx ho h) (fun _ _ _ _ _ _ _ _ hq => wpAny_pure hq) (by decide) rfl ?_ ?_
  · rintro i vs ns' p q ⟨X, rfl, _⟩
    exact ⟨dn, .tail _ (.tail _ (List.mem_append.mpr (.inr hdlB3)))⟩
  · rintro C D4 i o v mC ns' oL' n2 vs s hi hv ⟨X5, rfl, hq5, hlq⟩ hoL' H
    obtain ⟨y, ty, ey, rfl⟩ := strs_get hdue hv
    have hym := List.mem_of_getElem? ey
    have hct4 : (L' + 1, otx) ∈ X5 ++ B3 := List.mem_append.mpr (.inr hctB3)
    have hop4 : (L' + 1 + 1, op') ∈ X5 ++ B3 := List.mem_append.mpr (.inr hopB3)
    walk_at "w"
    refine read_call (P := 2 * P0) G H (R.le (by decide)) (hds.len y hym) (hds.ascii y hym) ⟨hT1, hT8⟩ ⟨by omega, hP8⟩ ?_
    intro X' t s H
    refine ⟨_, _, ⟨X' ++ X5, (List.append_assoc X' X5 B3).symm, ?_, by simp [hlq]⟩, At.front3 X' H⟩
    rw [List.take_add_one, ey]
    unfold toldL at hq5 ⊢
    rw [List.map_append]
    exact strs_app hq5
  rintro C D4 mC ns' oL' n4 vals4 s ⟨X5, rfl, hq4, hlq⟩ hoL' H
  rw [hduel, List.take_of_length_le (Nat.le_refl _)] at hq4
  refine post_none H hoL' hL' ?_
  clear H hoi3 hoL' hlq
  intro s H
  subst hB3
  refine c_neStrs H (R.le (by decide)).hu (.tail _ (List.mem_append.mpr (.inr (.tail _ (.head _))))) (.head _) hq hq4 (hstr _) ?_
  replace H := At.front1 (_ :: X5) H
  walk_at "w"
  refine i_mul H (IntMulOk.of_left (intBits_le_64 (by omega) (by omega))) ?_
  intro t s H
  rw [show (2 : Int) * ((2 * P0 : Nat) : Int) = ((2 * (2 * P0) : Nat) : Int) from by omega]
  walk_at "w"
  refine ⟨20 - 2 * (2 * P0), _, _, by omega, ⟨2 * P0, _, _, D2, vals, nn, _, rfl, by omega, by omega, rfl, by assumption, .tail _ (List.mem_append.mpr (.inr (.head _))), hq, fun q hq => .tail _ (List.mem_append.mpr (.inr (.tail _ (List.mem_append.mpr (.inr (hsub q hq)))))), by walk_at "upl", by walk_at "upl"⟩, H⟩
end
end Mine
end
section
open PySem PySem.W PyProof.Rows PySem.Calls PySem.Spec
set_option Elab.async false
set_option maxRecDepth 100000
set_option maxHeartbeats 4000000
namespace Mine
example (P : Params) : PySem.Challenge.rw_pe0181_01 = PySem.Challenge.rw_pe0181_01 ∧ Mine.hd.heap_1 P = Mine.hd.heap_1 P := by
  k_fill
  exact ⟨rfl, rfl⟩
theorem far_off (P : Params) : ((Mine.hd.heap_1 P).all fun p => p.1 != 140 && p.1 != 147) = true := by kernel_rfl
theorem K2_lookup {P : Params} {a : Addr} {o : Obj} (h : (Mine.hd.heap_1 P).lookup a = some o) : (K2 P).lookup a = some o := by
  unfold K2
  rw [List.lookup_append, h]
  rfl
theorem mem_of_lk {α β : Type} [BEq α] [LawfulBEq α] {l : List (α × β)} {a : α} {o : β} (h : l.lookup a = some o) : (a, o) ∈ l := by
  induction l with
  | nil => cases h
  | cons p l ih =>
    obtain ⟨x, y⟩ := p
    rw [List.lookup_cons] at h
    split at h
    · rename_i e
      cases h
      rw [eq_of_beq e]
      exact .head _
    · exact .tail _ (ih h)
theorem off_tabs {P : Params} {a : Addr} {o : Obj} (h : (Mine.hd.heap_1 P).lookup a = some o) : a ∉ ([140, 147] : List Addr) := by
  have h1 := List.all_eq_true.mp (far_off P) _ (mem_of_lk h)
  rw [Bool.and_eq_true, bne_iff_ne, bne_iff_ne] at h1
  simp only [List.mem_cons, List.not_mem_nil, or_false, not_or]
  exact h1
theorem tab140 (P : Params) : (K2 P).lookup 140 = some tabO := by kernel_rfl
theorem tab147 (P : Params) : (K2 P).lookup 147 = some tabO := by kernel_rfl
theorem code144 (P : Params) : (((Mine.hd.heap_1 P).lookup 144).any fun o => o.cls == .type "code" && (match o.data with | .fields vs => vs[11]? == some (.ref 140) | _ => false)) = true := by kernel_rfl
theorem code151 (P : Params) : (((Mine.hd.heap_1 P).lookup 151).any fun o => o.cls == .type "code" && (match o.data with | .fields vs => vs[11]? == some (.ref 147) | _ => false)) = true := by kernel_rfl
theorem is_tab {h : Heap} {c b : Addr} {l : Option Obj} (hl : ∀ o, l = some o → h.get? c = some o) (q : (l.any fun o => o.cls == .type "code" && (match o.data with | .fields vs => vs[11]? == some (.ref b) | _ => false)) = true) : isCodeTable h b := by
  cases l with
  | none => cases q
  | some o =>
    rw [Option.any_some, Bool.and_eq_true] at q
    obtain ⟨q1, q2⟩ := q
    obtain ⟨cls, dict, data, slots⟩ := o
    cases data <;> first
      | (rename_i vs; exact ⟨c, _, vs, hl _ rfl, eq_of_beq q1, rfl, eq_of_beq q2⟩)
      | cases q2
theorem tabOk0 : TabOk tabO := ⟨#[], rfl, trivial, rfl⟩
theorem booked_no (P : Params) : (((Mine.hd.heap_1 P).lookup cStatics).any fun o => match o.data with | .dict es _ => (nsFind es sharingNotToldKey).isNone | _ => false) = true := by kernel_rfl
theorem none_of {h : Heap} {l : Option Obj} {mc : Str → Option Value} (hl : ∀ o, l = some o → h.get? cStatics = some o) (q : (l.any fun o => match o.data with | .dict es _ => (nsFind es sharingNotToldKey).isNone | _ => false) = true) (N : h.Ns cStatics mc) : NoneBooked h := by
  refine ⟨mc, N, ?_⟩
  obtain ⟨o, es, ep, ho, hd, _, hf⟩ := N
  cases l with
  | none => cases q
  | some o' =>
    have e := hl _ rfl
    rw [ho] at e
    cases e
    rw [Option.any_some, hd] at q
    rw [← hf]
    exact Option.isNone_iff_eq_none.mp q
theorem post_ok (xs : List WData) : PySem.Challenge.rw_pe0181_01.row.claim.post xs (WData.bool true) xs = true := by
  show (WShape.has [] (.bool true) .bool && WTm.holds [] (.eq .res (.lit (.bool true))) { args := xs, res := some (.bool true), after := xs }) = true
  rw [Bool.and_eq_true]
  refine ⟨by first | rfl | decide | simp [WShape.has], ?_⟩
  unfold WTm.holds
  have e : same (WData.bool true) (WData.bool true) = true := by first | rfl | decide | exact same_self _ | simp [same]
  simp [WTm.value, e]
theorem law_at (P : Params) : nsIn (Mine.hd.heap_1 P) mainGlobals "law" = some (some (.ref 238)) := by kernel_rfl
theorem law_good {p : Program} {loose : List Str} {mean : ExcName → Option Value} {w : World} {s1 : Shared} {mg mb : Str → Option Value} {a fa : Addr} {vs : List Value} {zs : List Int}
    (KX : (K2 w.params).In s1.heap) (T : Top p loose mean mg mb s1.heap) (hmg : mg "law" = some (.ref fa)) (hbare : AllBare s1.gens) (hl : s1.heap.IsList a vs.toArray) (hi : IntsAre vs zs) (hz : zs.length ≤ 63) :
    wpAny (model PySem.Challenge.pw_pe0181_01 w) callerA (call (.ref fa) [.ref a]) (fun v s' => v = .bool true ∧ OldK s1.heap s'.heap ∧ s'.os = s1.os ∧ AllBare s'.gens) NoE s1 := by
  have KH : (Mine.hd.heap_1 w.params).In s1.heap := fun c o e => KX _ _ (K2_lookup e)
  obtain rfl : fa = 238 := by
    have := mg_of KH T.g (law_at w.params)
    rw [hmg] at this
    injection this with this
    injection this
  rw [← hi.length] at hz
  have hg := T.g
  have hb := T.b
  have hnl := T.nolimit
  have hbi := T.builtins
  have hnd : NoneBooked s1.heap := by
    obtain ⟨mc, h1, _⟩ := T.nodigits
    exact none_of (fun o e => KH _ _ e) (booked_no w.params) h1
  have hnot : ∀ {c : Addr} {o : Obj}, s1.heap.get? c = some o → o.cls ≠ .none → c ∉ ([140, 147] : List Addr) := fun {c o} e hc q => by
    simp only [List.mem_cons, List.not_mem_nil, or_false] at q
    rcases q with rfl | rfl
    · rw [KX _ _ (tab140 w.params)] at e; cases e; exact hc rfl
    · rw [KX _ _ (tab147 w.params)] at e; cases e; exact hc rfl
  have M : ∃ bm ob, BMod s1.heap mainGlobals mg bm ob := by
    obtain ⟨bm, ob, x1, x2, x3, x4, x5, x6⟩ := T.bmain
    exact ⟨bm, ob, hg, x1, x2, x3, x4, x5, x6⟩
  have ha : a ∉ ([140, 147] : List Addr) := by
    obtain ⟨o, e, hc, _⟩ := hl
    exact hnot e (by rw [hc]; decide)
  have hns : ∀ {c : Addr} {m : Str → Option Value}, c ∉ ([140, 147] : List Addr) → s1.heap.Ns c m → (hideAll s1.heap [140, 147]).Ns c m := fun hc h => let ⟨o, es, ep, e, r⟩ := h; ⟨o, es, ep, hideAll_get _ e hc, r⟩
  have h140 := KX _ _ (tab140 w.params)
  have h147 := KX _ _ (tab147 w.params)
  have hof : ∀ c o, (hideAll s1.heap [140, 147]).get? c = some o → s1.heap.get? c = some o := fun c o e => of_hideAll _ e
  have Gd0 : Gd w mg mb (hideAll s1.heap [140, 147]) := by
    refine ⟨fun c o e => hideAll_get _ (KX _ _ (K2_lookup e)) (off_tabs e), hns (by decide) hg, hns (by decide) hb, ?_, hbi, ?_⟩
    · obtain ⟨mc, h1, h2⟩ := hnl
      exact ⟨mc, hns (by decide) h1, h2⟩
    · obtain ⟨bm, ob, x⟩ := M
      exact ⟨bm, ob, hns (by decide) x.ns, x.name, x.ne, hideAll_get _ x.obj (hnot x.obj (by rw [x.cls]; decide)), x.cls, x.dict, x.data⟩
  have hnd' : NoneBooked (hideAll s1.heap [140, 147]) := by
    obtain ⟨mc, h1, h2⟩ := hnd
    exact ⟨mc, hns (by decide) h1, h2⟩
  have hl' : (hideAll s1.heap [140, 147]).IsList a vs.toArray := by
    obtain ⟨o, e, r⟩ := hl
    exact ⟨o, hideAll_get _ e ha, r⟩
  refine law_call (tO := tabO) (tS := tabO) Gd0 hnd' hof (Nat.le_of_eq (hideAll_size _ _)) ⟨h140, hideAll_none _ (by decide)⟩ ⟨h147, hideAll_none _ (by decide)⟩ tabOk0 tabOk0 rfl hbare ⟨rfl, by decide, by decide⟩ hl' hi hz ?_
  intro L' m' ns' tO' tS' s' H hO hTO hS hTS
  refine ⟨rfl, ?_, H.os, H.gens⟩
  have isT : isCodeTable s1.heap 140 := is_tab (c := 144) (fun o e => KX _ _ (K2_lookup e)) (code144 w.params)
  have isS : isCodeTable s1.heap 147 := is_tab (c := 151) (fun o e => KX _ _ (K2_lookup e)) (code151 w.params)
  obtain ⟨p1, _, _, rfl⟩ := hTO
  obtain ⟨p2, _, _, rfl⟩ := hTS
  have g1 := H.get hO
  have g2 := H.get hS
  refine ⟨fun c o e => ?_, fun c o e => ?_⟩
  · by_cases c1 : c = 140
    · subst c1
      obtain rfl : o = tabO := Option.some.inj (e.symm.trans h140)
      exact .inr (.inl ⟨isT, rfl, #[], p1, rfl, by rw [g1]; simp [tabO]⟩)
    · by_cases c2 : c = 147
      · subst c2
        obtain rfl : o = tabO := Option.some.inj (e.symm.trans h147)
        exact .inr (.inl ⟨isS, rfl, #[], p2, rfl, by rw [g2]; simp [tabO]⟩)
      · exact .inl (H.F.keep _ _ (hideAll_get _ e (by simp [c1, c2])))
  · by_cases c1 : c = 140
    · subst c1; exact ⟨_, g1⟩
    · by_cases c2 : c = 147
      · subst c2; exact ⟨_, g2⟩
      · exact ⟨o, H.F.keep _ _ (hideAll_get _ e (by simp [c1, c2]))⟩
end Mine
end
end
section
open PySem PySem.W PyProof.Rows
set_option Elab.async false
set_option maxRecDepth 100000 in
set_option maxHeartbeats 8000000 in
theorem PySem.Challenge.cw_pe0181_01_holds : PySem.Challenge.rw_pe0181_01.Holds := by
  w_on
  refine holds_law Mine.said fun said => ?_
  refine holds_open (q := Mine.vw) (loose := Mine.lo) (Xt := fun s => xlAt Mine.vw [] s && recOk [] s) (XP := XL Mine.vw []) (Yf := Hook.obs Mine.HK) (Ya := Hook.val Mine.HK) (YP := Hook.says Mine.HK) (N := 3390) Mine.left (Hook.of Mine.HK) (Hook.keeps Mine.HK) (fun s e => xl_of s (Bool.and_eq_true_iff.mp e).1) XL.keeps (by rfl) (by rfl) (by rfl) (fun s e => recFacts_of (Bool.and_eq_true_iff.mp e).2) rfl said (by decide +kernel) ⟨rfl, rfl, rfl, rfl, rfl, by decide +kernel⟩ ?hw ?hc
  case hw => w_witness2
  intro w s0 s1 mg mb G Y fa o pm cd doc dV kV ho hd hcd hD hmg hg args vals as hpre hlay hrd hwl hlo
  have KX := kIn_of Y
  refine Ground.open G ?_
  intro T B D TE TW
  clear B D TE TW hD hcd hd ho Y G
  wrow_args hpre hlay hrd hwl hlo
  all_goals (
    have hmg' : mg "law" = some (.ref fa) := hmg
    clear hmg
    have hb : AllBare s1.gens := AllBare.of_eq hg
    refine wpAny_mono (Mine.law_good KX T hmg' hb (by assumption) (by assumption) (by omega)) (fun v s' h => ?_) (fun _ _ e => e.elim)
    obtain ⟨rfl, h1, h2, h3⟩ := h
    refine ⟨.inl ⟨.bool true, .bool true, [], rfl, fun _ => rfl, .bool true, ?_, fun _ => ⟨List.nodup_nil, fun _ q => nomatch q⟩⟩, h1, h2, h3⟩
    exact Mine.post_ok _)
end
