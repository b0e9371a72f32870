import PyProof.Rows.All
import Wide.All
import OpenK.AllK
import Wide.FinOn
import PySem.Challenge.RW_yi0065_01
set_option Elab.async false
section
open PySem PySem.W PyProof.Rows
set_option maxRecDepth 100000
namespace Mine
noncomputable def isDefn : Stmt → Bool
  | .FunctionDef .. => true
  | .ClassDef .. => true
  | _ => false
noncomputable def theProg : Program := PySem.Challenge.rw_yi0065_01.row.toRowW.prog
noncomputable def view : Program := { theProg with main := { theProg.main with body := theProg.main.body.filter isDefn } }
theorem left_boot {p q : Program} {loose : List Str} {Xt : Shared → Bool} {α : Type} {Yf : Shared → α} {Ya : World → α} {N : Nat}
    (e : opening p = plainProg p.main.scope.names) (hN : Nat.ble 600 N = true) (f : ∀ s, fenceModules? p s = some s)
    (h : ∀ (w : World) (os : OsState), (topFrom treeTable p w N ⟨boot_heap w.params, Array.mk [], boot_drawn, boot_toks, os⟩).map
      (fun s => (openSeen q loose (importedModules p.main.body) Xt true s, Yf s)) = some (openGood q loose, Ya w)) : LeftO p q loose Xt Yf Ya N := fun w => by
  obtain ⟨⟨hp, gs, d, k, os⟩, e1, e2⟩ := Option.map_eq_some_iff.mp (boot_open e hN f w)
  obtain ⟨rfl, rfl, rfl, rfl⟩ : hp = boot_heap w.params ∧ gs = Array.mk [] ∧ d = boot_drawn ∧ k = boot_toks := by simpa using e2
  unfold openEnds
  rw [e1]
  exact h w os
theorem opens : opening theProg = plainProg theProg.main.scope.names := by kernel_rfl
theorem fences (s : Shared) : fenceModules? theProg s = some s := by kernel_rfl
section
variable {tb : String → Option Builtin} {p : Program} {w : World} {n₀ : Nat} {ann : Option Value}
/-- the top's run upon a tree of objects -/
noncomputable def topRunT (tb : String → Option Builtin) (p : Program) (w : World) (n₀ : Nat) (ann : Option Value) : Nat → SharedT → Thread → Option SharedT
  | 0, _, _ => none
  | n + 1, s, t => match through t with
    | true => some s
    | false => match stepOk n₀ ann t with
      | false => none
      | true => match stepT (denote tb) p w s t with
        | some (s', t') => topRunT tb p w n₀ ann n s' t'
        | none => none
theorem topRunT_of : ∀ {n : Nat} {s s' : SharedT} {t : Thread}, topRunT tb p w n₀ ann n s t = some s' → topRun tb p w n₀ ann n s.abs t = some s'.abs
  | 0, _, _, _, h => by cases h
  | n + 1, s, s', t, h => by
    unfold topRunT at h
    unfold topRun
    cases ht : through t with
    | true => rw [ht] at h; cases h; rfl
    | false =>
      rw [ht] at h
      cases hk : stepOk n₀ ann t with
      | false => rw [hk] at h; cases h
      | true =>
        rw [hk] at h
        cases hs : stepT (denote tb) p w s t with
        | none => rw [hs] at h; cases h
        | some r => obtain ⟨s₂, t₂⟩ := r; rw [hs] at h; rw [stepT_spec hs]; exact topRunT_of h
end
noncomputable def treeOf : List Obj → Nat → BT → BT
  | [], _, t => t
  | o :: l, n, t => treeOf l (n + 1) (t.ins n o)
noncomputable def bootT (P : Params) : BT := treeOf (boot_heap P).objs.toList 0 .nil
noncomputable def lookAll (p q : Program) (loose : List Str) (Xt : Shared → Bool) {α : Type} (Yf : Shared → α) (H : Heap) (s : Shared) :=
  ((staticsOk (importedModules p.main.body) H s.heap && namesBound p s.heap && gensDone s && laidKept H s.heap), openSeen q loose (importedModules p.main.body) Xt true s, Yf s)
theorem left_tree {p q : Program} {loose : List Str} {Xt : Shared → Bool} {α : Type} {Yf : Shared → α} {Ya : World → α} {N m₀ : Nat} {ann : Option Value}
    (e : opening p = plainProg p.main.scope.names) (hN : Nat.ble 600 N = true) (f : ∀ s, fenceModules? p s = some s)
    (tree : ∀ P, boot_heap P = absHeap (bootT P) m₀ (boot_heap P).life)
    (size : ∀ P, ((boot_heap P).isNs mainGlobals, (boot_heap P).objs.size, (boot_heap P).nsMap mainGlobals "__annotations__") = (true, m₀, ann))
    (run : ∀ (w : World) (os : OsState), (topRunT treeTable p w m₀ ann N ⟨bootT w.params, m₀, (boot_heap w.params).life, Array.mk [], boot_drawn, boot_toks, os⟩ (topStub p)).map (fun r => lookAll p q loose Xt Yf (boot_heap w.params) r.abs) =
      some (true, openGood q loose, Ya w)) : LeftO p q loose Xt Yf Ya N := by
  refine left_boot e hN f fun w os => ?_
  obtain ⟨r, e1, e2⟩ := Option.map_eq_some_iff.mp (run w os)
  have e3 := topRunT_of e1
  have e4 : (⟨bootT w.params, m₀, (boot_heap w.params).life, Array.mk [], boot_drawn, boot_toks, os⟩ : SharedT).abs = ⟨boot_heap w.params, Array.mk [], boot_drawn, boot_toks, os⟩ := by
    show Shared.mk (absHeap (bootT w.params) m₀ (boot_heap w.params).life) _ _ _ _ = _
    rw [← tree]
  rw [e4] at e3
  have z := size w.params
  simp only [Prod.mk.injEq] at z
  obtain ⟨z1, z2, z3⟩ := z
  unfold lookAll at e2
  simp only [Prod.mk.injEq] at e2
  obtain ⟨l1, l2, l3⟩ := e2
  have t : topFrom treeTable p w N ⟨boot_heap w.params, Array.mk [], boot_drawn, boot_toks, os⟩ = some r.abs := by
    unfold topFrom
    dsimp only
    rw [z1, z2, z3, e3]
    show (match staticsOk (importedModules p.main.body) (boot_heap w.params) r.abs.heap && namesBound p r.abs.heap && gensDone r.abs && laidKept (boot_heap w.params) r.abs.heap with | true => _ | false => _) = _
    rw [l1]
  rw [t]
  exact congrArg some (Prod.ext l2 l3)
/-- the top's run, its step and its test left open -/
noncomputable def topRunG (ok : Nat → Option Value → Thread → Bool) (st : SharedT → Thread → Option (SharedT × Thread)) (n₀ : Nat) (ann : Option Value) (n : Nat) : SharedT → Thread → Option SharedT :=
  @Nat.rec (fun _ => SharedT → Thread → Option SharedT) (fun _ _ => none)
    (fun _ ih s t => @Bool.rec (fun _ => Option SharedT) (@Bool.rec (fun _ => Option SharedT) none (@Option.rec (SharedT × Thread) (fun _ => Option SharedT) none (fun r => @Prod.rec SharedT Thread (fun _ => Option SharedT) (fun s' t' => ih s' t') r) (st s t)) (ok n₀ ann t)) (some s) (through t)) n
theorem topRunG_of {tb : String → Option Builtin} {p : Program} {w : World} {n₀ : Nat} {ann : Option Value} : ∀ (n : Nat) (s : SharedT) (t : Thread), topRunG stepOk (stepT (denote tb) p w) n₀ ann n s t = topRunT tb p w n₀ ann n s t
  | 0, _, _ => rfl
  | n + 1, s, t => by
    unfold topRunT
    show @Bool.rec (fun _ => Option SharedT) (@Bool.rec (fun _ => Option SharedT) none (@Option.rec (SharedT × Thread) (fun _ => Option SharedT) none (fun r => @Prod.rec SharedT Thread (fun _ => Option SharedT) (fun s' t' => topRunG stepOk (stepT (denote tb) p w) n₀ ann n s' t') r) (stepT (denote tb) p w s t)) (stepOk n₀ ann t)) (some s) (through t) = _
    cases through t with
    | true => rfl
    | false =>
      cases stepOk n₀ ann t with
      | false => rfl
      | true =>
        cases stepT (denote tb) p w s t with
        | none => rfl
        | some r => obtain ⟨s', t'⟩ := r; exact topRunG_of n s' t'
noncomputable abbrev qOk := @PySem.W.Fast.tw6613529449190102663
noncomputable abbrev qStep := @PySem.W.Fast.tw10156331382660048174
noncomputable abbrev qDen := @PySem.W.Fast.tw11892475500146522536
noncomputable abbrev qTab := @PySem.W.Fast.tw14364793385576792824
noncomputable abbrev qSeen := @PySem.W.Fast.tw4187177175401517315
theorem quickRun {p : Program} {w : World} {n₀ : Nat} {ann : Option Value} {n : Nat} {s : SharedT} {t : Thread} : topRunT treeTable p w n₀ ann n s t = topRunG qOk (qStep (qDen qTab) p w) n₀ ann n s t := by
  rw [← topRunG_of, PySem.W.Fast.te6613529449190102663, PySem.W.Fast.te10156331382660048174, PySem.W.Fast.te11892475500146522536, PySem.W.Fast.te14364793385576792824]
theorem quickSeen {q : Program} {loose mods : List Str} {Xt : Shared → Bool} {g0 : Bool} {s : Shared} : openSeen q loose mods Xt g0 s = qSeen q loose mods Xt g0 s := by
  rw [PySem.W.Fast.te4187177175401517315]
noncomputable def lookQ (p q : Program) (loose : List Str) (Xt : Shared → Bool) {α : Type} (Yf : Shared → α) (H : Heap) (s : Shared) :=
  ((staticsOk (importedModules p.main.body) H s.heap && namesBound p s.heap && gensDone s && laidKept H s.heap), qSeen q loose (importedModules p.main.body) Xt true s, Yf s)
theorem left_quick {p q : Program} {loose : List Str} {Xt : Shared → Bool} {α : Type} {Yf : Shared → α} {Ya : World → α} {N m₀ : Nat} {ann : Option Value}
    (e : opening p = plainProg p.main.scope.names) (hN : Nat.ble 600 N = true) (f : ∀ s, fenceModules? p s = some s)
    (tree : ∀ P, boot_heap P = absHeap (bootT P) m₀ (boot_heap P).life)
    (size : ∀ P, ((boot_heap P).isNs mainGlobals, (boot_heap P).objs.size, (boot_heap P).nsMap mainGlobals "__annotations__") = (true, m₀, ann))
    (run : ∀ (w : World) (os : OsState), (topRunG qOk (qStep (qDen qTab) p w) m₀ ann N ⟨bootT w.params, m₀, (boot_heap w.params).life, Array.mk [], boot_drawn, boot_toks, os⟩ (topStub p)).map (fun r => lookQ p q loose Xt Yf (boot_heap w.params) r.abs) =
      some (true, openGood q loose, Ya w)) : LeftO p q loose Xt Yf Ya N := by
  refine left_tree e hN f tree size fun w os => ?_
  rw [quickRun]
  have h := run w os
  unfold lookQ at h
  unfold lookAll
  simp only [quickSeen]
  exact h
/-- the looks, the written objects by the tree -/
noncomputable def lookH (p q : Program) (loose : List Str) (Xt : Shared → Bool) (as : List Addr) (H : Heap) (r : SharedT) :=
  ((staticsOk (importedModules p.main.body) H r.abs.heap && namesBound p r.abs.heap && gensDone r.abs && laidKept H r.abs.heap), qSeen q loose (importedModules p.main.body) Xt true r.abs,
    as.all (fun a => Nat.blt a r.n), as.map fun a => (r.tree.get a).bind alive)
theorem map_get {r : SharedT} : ∀ {as : List Addr} {os : List Obj}, as.all (fun a => Nat.blt a r.n) = true → as.map (fun a => (r.tree.get a).bind alive) = os.map some → as.map r.abs.heap.get? = os.map some
  | [], [], _, _ => rfl
  | [], _ :: _, _, h => by cases h
  | _ :: _, [], _, h => by cases h
  | a :: as, o :: os, hb, h => by
    rw [List.all_cons, Bool.and_eq_true] at hb
    rw [List.map_cons, List.map_cons, List.cons.injEq] at h
    have hlt : a < r.n := Nat.le_of_ble_eq_true hb.1
    obtain ⟨o', g, al⟩ := Option.bind_eq_some_iff.mp h.1
    rw [List.map_cons, List.map_cons, map_get hb.2 h.2]
    exact congrArg (· :: _) ((abs_get hlt g).trans al)
theorem left_hook {p q : Program} {loose : List Str} {Xt : Shared → Bool} {as : List Addr} {K : Params → Frag} {N m₀ : Nat} {ann : Option Value}
    (e : opening p = plainProg p.main.scope.names) (hN : Nat.ble 600 N = true) (f : ∀ s, fenceModules? p s = some s)
    (tree : ∀ P, boot_heap P = absHeap (bootT P) m₀ (boot_heap P).life)
    (size : ∀ P, ((boot_heap P).isNs mainGlobals, (boot_heap P).objs.size, (boot_heap P).nsMap mainGlobals "__annotations__") = (true, m₀, ann))
    (run : ∀ (w : World) (os : OsState), (topRunG qOk (qStep (qDen qTab) p w) m₀ ann N ⟨bootT w.params, m₀, (boot_heap w.params).life, Array.mk [], boot_drawn, boot_toks, os⟩ (topStub p)).map (fun r => lookH p q loose Xt as (boot_heap w.params) r) =
      some (true, openGood q loose, true, (K w.params).map fun p => some p.2)) : LeftO p q loose Xt (fun s => as.map s.heap.get?) (fun w => (K w.params).map fun p => some p.2) N := by
  refine left_quick e hN f tree size fun w os => ?_
  obtain ⟨r, e1, e2⟩ := Option.map_eq_some_iff.mp (run w os)
  rw [e1]
  unfold lookH at e2
  simp only [Prod.mk.injEq] at e2
  obtain ⟨l1, l2, l3, l4⟩ := e2
  have l5 : as.map r.abs.heap.get? = (K w.params).map fun p => some p.2 := by
    have h : ((K w.params).map fun p => some p.2) = ((K w.params).map fun p => p.2).map some := by rw [List.map_map]; rfl
    rw [h] at l4 ⊢
    exact map_get l3 l4
  show some (lookQ p q loose Xt (fun s => as.map s.heap.get?) (boot_heap w.params) r.abs) = _
  unfold lookQ
  rw [l1, l2]
  exact congrArg some (Prod.ext rfl (Prod.ext rfl l5))
theorem boot_tree (P : Params) : boot_heap P = absHeap (bootT P) 11 (boot_heap P).life := by kernel_rfl
theorem boot_size (P : Params) : ((boot_heap P).isNs mainGlobals, (boot_heap P).objs.size, (boot_heap P).nsMap mainGlobals "__annotations__") = (true, 11, some (.ref 6)) := by kernel_rfl
section
local macro_rules | `(tactic| o_head $H) => `(tactic| (
  refine holds_open (q := view) (loose := [Str.ofString "PolynomialRing", Str.ofString "PolynomialNTT"]) (Xt := fun s => xlAt view [] s && recOk (RowW.records (OpenRow.toRowW (OpenLaw.row PySem.Challenge.rw_yi0065_01))) s) (XP := XL view []) (Yf := Hook.obs $H) (Ya := Hook.val $H) (YP := Hook.says $H) (N := 6230) ?hl (Hook.of $H) (Hook.keeps $H) (fun s e => xl_of s (Bool.and_eq_true_iff.mp e).1) XL.keeps (by rfl) (by rfl) (by rfl) (fun s e => recFacts_of (Bool.and_eq_true_iff.mp e).2) (by rfl) (by first | assumption | decide +kernel) (by decide +kernel) ⟨rfl, rfl, rfl, rfl, rfl, by decide +kernel⟩ ?hw ?hc;
  (case hl => exact left_hook opens rfl fences boot_tree boot_size (fun w os => by kernel_rfl))))
set_option maxRecDepth 100000 in
set_option maxHeartbeats 8000000 in
open_top hd for PySem.Challenge.rw_yi0065_01
end
end Mine
end
section
open PySem PySem.W PyProof.Rows PySem.Calls
set_option maxRecDepth 100000
namespace Mine
theorem pow_kind : builtinKind "pow" = none := by decide +kernel
theorem pow_plain : plainId "pow" = true := by decide +kernel
theorem pow_entry : entryFor table "pow" = some Builtin.«pow» := entryFor_of_tree (by kernel_rfl)
theorem pow_args3 (a b c : Value) : argsOk "pow" ⟨[a, b, c], []⟩ := by unfold argsOk; kernel_rfl
theorem ipow_args3 (a b c : Value) : argsOk "int.__pow__" ⟨[a, b, c], []⟩ := by unfold argsOk; kernel_rfl

set_option maxHeartbeats 4000000 in
theorem gives_ipow {b e m : Int} {t u v : Tok} (hm : 1 < m) (he : 0 ≤ e) :
    Gives (Builtin.«int.__pow__» ⟨[.int b t, .int e u, .int m v], []⟩) (.int ((Builtin.powMod (b % (m.natAbs : Int)).toNat e.natAbs m.natAbs : Nat) : Int)) :=
  .of_wp fun M A E s Q h => by
    obtain ⟨hp, g, d, tk, os⟩ := s
    have h1 : (m == 0) = false := by simp; omega
    have h2 : (m.natAbs == 1) = false := by simp; omega
    have h3 : decide (e < 0) = false := by simp; omega
    have h4 : decide (m < 0) = false := by simp; omega
    wp_walk
    all_goals (rw [h4]; exact ⟨_, rfl, h⟩)
set_option maxHeartbeats 4000000 in
theorem gives_ipow_inv {t u v : Tok} :
    Gives (Builtin.«int.__pow__» ⟨[.int 128 t, .int (-1) u, .int 3329 v], []⟩) (.int 3303) :=
  .of_wp fun M A E s Q h => by
    obtain ⟨hp, g, d, tk, os⟩ := s
    wp_walk
    all_goals (refine ⟨_, rfl, ?_⟩)
    all_goals (have e : ∀ x : Int, x = 3303 → Q (.int x tk) { heap := hp, gens := g, drawn := d, toks := tk + 1, os := os } := fun x hx => hx ▸ h)
    all_goals exact e _ (by decide +kernel)
section
variable {prog : Program} {w : World} {A : Around} {E : Value → Shared → Prop} {s : Shared} {b e m : Int} {t u v : Tok} {Q : Value → Shared → Prop}
set_option maxHeartbeats 4000000 in
theorem call_pow3 (hm : 1 < m) (he : 0 ≤ e) (h : Q (.int ((Builtin.powMod (b % (m.natAbs : Int)).toNat e.natAbs m.natAbs : Nat) : Int) s.toks) { s with toks := s.toks + 1 }) :
    wpAny (model prog w) A (call (.builtin "pow") [.int b t, .int e u, .int m v]) Q E s := by
  refine call_function_entry pow_kind pow_plain pow_entry (pow_args3 _ _ _) ?_
  obtain ⟨hp, g, d, tk, os⟩ := s
  have hT : (⟨hp, g, d, tk, os⟩ : Shared).TypeIs (.int b t) "int" := rfl
  have f3 : typeLookup (Value.type "int") "__pow__" = pure (some (.builtin "int.__pow__")) := F.slot_int_pow.lookup
  have f4 := F.slot_int_pow.bind (.int b t)
  repeat (any_goals (first | assumption | ((with_reducible show wpAny _ _ (call (Value.builtin "int.__pow__") _ _) _ _ _); refine call_gives F.slot_int_pow hT F.entry_int_pow (ipow_args3 _ _ _) (gives_ipow hm he) ?_; dsimp only [Made.post]) | wp_step))
  all_goals first | exact ⟨_, rfl, h⟩ | exact h | trace_state
set_option maxHeartbeats 4000000 in
theorem call_pow_inv (h : Q (.int 3303 s.toks) { s with toks := s.toks + 1 }) :
    wpAny (model prog w) A (call (.builtin "pow") [.int 128 t, .int (-1) u, .int 3329 v]) Q E s := by
  refine call_function_entry pow_kind pow_plain pow_entry (pow_args3 _ _ _) ?_
  obtain ⟨hp, g, d, tk, os⟩ := s
  have hT : (⟨hp, g, d, tk, os⟩ : Shared).TypeIs (.int 128 t) "int" := rfl
  have f3 : typeLookup (Value.type "int") "__pow__" = pure (some (.builtin "int.__pow__")) := F.slot_int_pow.lookup
  have f4 := F.slot_int_pow.bind (.int 128 t)
  repeat (any_goals (first | assumption | ((with_reducible show wpAny _ _ (call (Value.builtin "int.__pow__") _ _) _ _ _); refine call_gives F.slot_int_pow hT F.entry_int_pow (ipow_args3 _ _ _) gives_ipow_inv ?_; dsimp only [Made.post]) | wp_step))
  all_goals first | exact ⟨_, rfl, h⟩ | exact h | trace_state
end
end Mine
end
section
open PySem PySem.W PyProof.Rows PySem.Calls
set_option maxRecDepth 100000
namespace Mine
theorem band_127 {k : Int} (h0 : 0 ≤ k) (h1 : k < 128) : Builtin.bitAnd k ((2 : Int) ^ (7 : Int).toNat - 1) = k := by
  have e : ∀ n : Nat, n < 128 → Builtin.bitAnd (n : Int) ((2 : Int) ^ (7 : Int).toNat - 1) = n := by decide +kernel
  obtain ⟨n, rfl⟩ := Int.eq_ofNat_of_zero_le h0
  exact e n (by omega)
section
variable {prog : Program} {w : World} {A : Around} {E : Value → Shared → Prop} {s : Shared} {k : Int} {t u : Tok} {Q : Value → Shared → Prop}
theorem and_127 (h0 : 0 ≤ k) (h1 : k < 128) (h : Q (.int k s.toks) { s with toks := s.toks + 1 }) :
    wpAny (model prog w) A (binaryOp .BitAnd (.int k t) (.int ((2 : Int) ^ (7 : Int).toNat - 1) u)) Q E s :=
  and_int (by rw [band_127 h0 h1]; exact h)
theorem bin_128 (h0 : 0 ≤ k) (h1 : k < 128) (h : Q (.str (baseText "0b" 2 k) s.toks) { s with toks := s.toks + 1 }) :
    wpAny (model prog w) A (call (.builtin "bin") [.int k t]) Q E s :=
  P.bin_of_int h (PySem.baseText_under (by decide) (by decide) (by omega))
end
end Mine
end
section
open PySem PySem.W PyProof.Rows PySem.Calls PySem.Builtin PySem.Builtin.Str
set_option maxRecDepth 100000
namespace Mine
noncomputable def revText (x : PySem.Str) : PySem.Str := ⟨((strSliceIndices none none (-1) x.length).filterMap (x.cps[·]?)).toArray⟩
section
variable {prog : Program} {w : World} {A : Around} {E : Value → Shared → Prop} {s : Shared} {value slice : PySem.Expr} {x : PySem.Str} {t : Tok} {h₀ : Heap} {L : Addr} {m : PySem.Str → Option Value} {news : List (Addr × Obj)} {Q : Value → Shared → Prop}
theorem slice_rev {u : Tok} (hF : Fr h₀ L s.heap m) (hN : News h₀ L s.heap news) (hsz : (revText x).length ≤ sizeLine) (h : ∀ h' t' k, Fr h₀ L h' m → News h₀ L h' news → Q (.str (revText x) t') { s with heap := h', toks := k })
    (hs : subscripted slice false (.str x t) (.ref s.heap.objs.size) = operate [.ref s.heap.objs.size, .str x t] (getItem (.str x t) (.ref s.heap.objs.size)) := by with_unfolding_all rfl)
    (ht : ∀ r, letTemporaryGo value (.str x t) r = pure () := by intro _; with_unfolding_all rfl) :
    wpAny (model prog w) A (subscriptTail value slice (.str x t) (.ref s.heap.objs.size)) Q E { s with heap := s.heap.push { cls := .type "slice", data := .fields #[.none, .none, .int (-1) u] } } := by
  refine tail_of_ItemOn ⟨"str", _, F.slot_str_getitem.lookup, typeIs_str _ _ _, wpAny_getItem_str_slice (l := none) (u := none) (st := some (-1, u)) ⟨_, Heap.get?_push_size _ rfl, rfl, rfl⟩ rfl ?_⟩ hs ht
  show (Made.str (revText x)).post _ _
  exact ⟨hsz, h _ _ _ (hF.push _) (hN.pushKeep _)⟩
end
/-- the text that `_br` reads, as the walk makes it -/
noncomputable def brText (k : Int) : PySem.Str := revText (Txt.zfill (Txt.slice (baseText "0b" 2 k) (some 2) none) 7)
noncomputable def brv (k : Int) : Int := (k / 64 % 2) + 2 * (k / 32 % 2) + 4 * (k / 16 % 2) + 8 * (k / 8 % 2) + 16 * (k / 4 % 2) + 32 * (k / 2 % 2) + 64 * (k % 2)
theorem base_cps {k : Int} (h0 : 0 ≤ k) : baseText "0b" 2 k = ⟨([48, 98] ++ (Nat.toDigits 2 k.natAbs).map Char.toNat).toArray⟩ := by
  apply str_eq_of_lists
  rw [baseText_nonneg h0]
  simp only [PySem.Str.cps_append, Array.toList_append, signs_ofString, String.toList_ofList]
  rfl
theorem br_len (n : Nat) (h : n < 128) : (brText n).length ≤ sizeLine := by
  unfold brText
  rw [base_cps (by omega), sizeLine_eq]
  have e : ∀ n : Nat, n < 128 → (revText (Txt.zfill (Txt.slice ⟨([48, 98] ++ (Nat.toDigits 2 n).map Char.toNat).toArray⟩ (some 2) none) 7)).length ≤ 16777216 := by decide +kernel
  exact e n h
noncomputable def brDigits (n : Nat) : List Nat := [48 + n % 2, 48 + n / 2 % 2, 48 + n / 4 % 2, 48 + n / 8 % 2, 48 + n / 16 % 2, 48 + n / 32 % 2, 48 + n / 64 % 2]
theorem br_text (n : Nat) (h : n < 128) : (brText n).cps.toList = brDigits n := by
  unfold brText
  rw [base_cps (by omega)]
  have e : ∀ n : Nat, n < 128 → (revText (Txt.zfill (Txt.slice ⟨([48, 98] ++ (Nat.toDigits 2 n).map Char.toNat).toArray⟩ (some 2) none) 7)).cps.toList = brDigits n := by decide +kernel
  exact e n h
end Mine
theorem Mine.br_len_int {k : Int} (h0 : 0 ≤ k) (h1 : k < 128) : (Mine.revText (Txt.zfill (Txt.slice (baseText "0b" 2 k) (some 2) none) 7)).length ≤ sizeLine := by
  obtain ⟨n, rfl⟩ := Int.eq_ofNat_of_zero_le h0
  exact Mine.br_len n (by omega)
end
section
open PySem PySem.W PyProof.Rows PySem.Calls PySem.Builtin PySem.Builtin.Str PySem.NumText
set_option maxRecDepth 100000
namespace Mine
theorem int2_type (a b : Value) : checkTypeCall "int" ⟨[a, b], []⟩ = pure () := by kernel_rfl
theorem int2_new (a b : Value) : checkBuiltinCall "int.__new__" ⟨[.type "int", a, b], []⟩ = pure () := by kernel_rfl
theorem br_small (n : Nat) : ∀ c ∈ brDigits n, c < 128 ∧ c ≠ 0 := by
  intro c hc
  simp only [brDigits, List.mem_cons, List.not_mem_nil, or_false] at hc
  omega
theorem br_all (n : Nat) (h : n < 128) : (brText n).cps.all (· < 128) = true := by
  rw [Array.all_eq_true_iff_forall_mem]
  intro c hc
  have := (br_small n c (by rw [← br_text n h]; exact Array.mem_toList_iff.mpr hc)).1
  simpa using this
theorem take_all (n : Nat) : (brDigits n).takeWhile (· != 0) = brDigits n := by
  have e : ∀ l : List Nat, (∀ c ∈ l, c ≠ 0) → l.takeWhile (· != 0) = l := by
    intro l
    induction l with
    | nil => intro _; rfl
    | cons a r ih =>
      intro h
      have h1 : (a != 0) = true := by simpa using h a (.head _)
      rw [List.takeWhile_cons, h1]
      simp only [if_true]
      rw [ih fun c hc => h c (.tail _ hc)]
  exact e _ fun c hc => (br_small n c hc).2
theorem br_read : (n : Nat) → n < 128 → (int_private% "readNumeral") 0 2 (brDigits n) = (int_private% "Numeral.value") (brv n)
  | 0, _ => rfl
  | 1, _ => rfl
  | 2, _ => rfl
  | 3, _ => rfl
  | 4, _ => rfl
  | 5, _ => rfl
  | 6, _ => rfl
  | 7, _ => rfl
  | 8, _ => rfl
  | 9, _ => rfl
  | 10, _ => rfl
  | 11, _ => rfl
  | 12, _ => rfl
  | 13, _ => rfl
  | 14, _ => rfl
  | 15, _ => rfl
  | 16, _ => rfl
  | 17, _ => rfl
  | 18, _ => rfl
  | 19, _ => rfl
  | 20, _ => rfl
  | 21, _ => rfl
  | 22, _ => rfl
  | 23, _ => rfl
  | 24, _ => rfl
  | 25, _ => rfl
  | 26, _ => rfl
  | 27, _ => rfl
  | 28, _ => rfl
  | 29, _ => rfl
  | 30, _ => rfl
  | 31, _ => rfl
  | 32, _ => rfl
  | 33, _ => rfl
  | 34, _ => rfl
  | 35, _ => rfl
  | 36, _ => rfl
  | 37, _ => rfl
  | 38, _ => rfl
  | 39, _ => rfl
  | 40, _ => rfl
  | 41, _ => rfl
  | 42, _ => rfl
  | 43, _ => rfl
  | 44, _ => rfl
  | 45, _ => rfl
  | 46, _ => rfl
  | 47, _ => rfl
  | 48, _ => rfl
  | 49, _ => rfl
  | 50, _ => rfl
  | 51, _ => rfl
  | 52, _ => rfl
  | 53, _ => rfl
  | 54, _ => rfl
  | 55, _ => rfl
  | 56, _ => rfl
  | 57, _ => rfl
  | 58, _ => rfl
  | 59, _ => rfl
  | 60, _ => rfl
  | 61, _ => rfl
  | 62, _ => rfl
  | 63, _ => rfl
  | 64, _ => rfl
  | 65, _ => rfl
  | 66, _ => rfl
  | 67, _ => rfl
  | 68, _ => rfl
  | 69, _ => rfl
  | 70, _ => rfl
  | 71, _ => rfl
  | 72, _ => rfl
  | 73, _ => rfl
  | 74, _ => rfl
  | 75, _ => rfl
  | 76, _ => rfl
  | 77, _ => rfl
  | 78, _ => rfl
  | 79, _ => rfl
  | 80, _ => rfl
  | 81, _ => rfl
  | 82, _ => rfl
  | 83, _ => rfl
  | 84, _ => rfl
  | 85, _ => rfl
  | 86, _ => rfl
  | 87, _ => rfl
  | 88, _ => rfl
  | 89, _ => rfl
  | 90, _ => rfl
  | 91, _ => rfl
  | 92, _ => rfl
  | 93, _ => rfl
  | 94, _ => rfl
  | 95, _ => rfl
  | 96, _ => rfl
  | 97, _ => rfl
  | 98, _ => rfl
  | 99, _ => rfl
  | 100, _ => rfl
  | 101, _ => rfl
  | 102, _ => rfl
  | 103, _ => rfl
  | 104, _ => rfl
  | 105, _ => rfl
  | 106, _ => rfl
  | 107, _ => rfl
  | 108, _ => rfl
  | 109, _ => rfl
  | 110, _ => rfl
  | 111, _ => rfl
  | 112, _ => rfl
  | 113, _ => rfl
  | 114, _ => rfl
  | 115, _ => rfl
  | 116, _ => rfl
  | 117, _ => rfl
  | 118, _ => rfl
  | 119, _ => rfl
  | 120, _ => rfl
  | 121, _ => rfl
  | 122, _ => rfl
  | 123, _ => rfl
  | 124, _ => rfl
  | 125, _ => rfl
  | 126, _ => rfl
  | 127, _ => rfl
  | n + 128, h => absurd h (by omega)
theorem wp_text2 {M : Model} {A : Around} {E : Value → Shared → Prop} {s : Shared} {Q : Value → Shared → Prop} {v : Value} {text : List Nat} {n : Int}
    (hs : (text.takeWhile (· != 0)).length ≤ 640) (hr : (int_private% "readNumeral") 0 2 (text.takeWhile (· != 0)) = (int_private% "Numeral.value") n)
    (ha : ((text.takeWhile (· != 0)).length == text.length) = true) (h : Q (.int n s.toks) { s with toks := s.toks + 1 }) :
    wpAny M A ((int_private% "intFromText") v text 2) Q E s := by
  obtain ⟨hp, g, d, tk, os⟩ := s
  repeat (any_goals (first
    | assumption
    | (with_reducible refine wpAny_ite_true (decide_eq_true hs) ?_)
    | (with_reducible refine wpAny_ite_true (decide_eq_true ha) ?_)
    | wp_step))
  all_goals (try rw [hr])
  all_goals (try dsimp only)
  repeat (any_goals (first
    | assumption
    | (with_reducible refine wpAny_ite_true (decide_eq_true hs) ?_)
    | (with_reducible refine wpAny_ite_true (decide_eq_true ha) ?_)
    | wp_step))
set_option maxHeartbeats 4000000 in
theorem gives_int2x {x : PySem.Str} {n : Int} {t u : Tok}
    (hk : PySem.Flt.Hid ((numSeenOf x).length ≤ 640 ∧ (int_private% "readNumeral") 0 2 (numSeenOf x) = (int_private% "Numeral.value") n ∧ ((numSeenOf x).length == (numTextOf x).length) = true)) :
    Gives (Builtin.«int.__new__» ⟨[.type "int", .str x t, .int 2 u], []⟩) (.int n) :=
  .of_wp fun M A E s Q h => by
    obtain ⟨hp, g, d, tk, os⟩ := s
    have f1 := F.conv_sub_int
    have f2 := F.madeHere_int
    have f6 : typeOf (.str x t) = pure (.type "str") := rfl
    repeat (any_goals (first
      | assumption
      | ((with_reducible show wpAny _ _ ((int_private% "intFromText") _ _ _) _ _ _); refine wp_text2 hk.out.1 hk.out.2.1 hk.out.2.2 ?_)
      | wp_step))
    all_goals first | exact ⟨_, rfl, h⟩ | trace_state
theorem br_hid {n : Nat} (hn : n < 128) : PySem.Flt.Hid ((numSeenOf (brText n)).length ≤ 640 ∧ (int_private% "readNumeral") 0 2 (numSeenOf (brText n)) = (int_private% "Numeral.value") (brv n) ∧ ((numSeenOf (brText n)).length == (numTextOf (brText n)).length) = true) := by
  have e : numTextOf (brText n) = brDigits n := by
    unfold numTextOf
    rw [if_pos (br_all n hn), br_text n hn]
  have e2 : numSeenOf (brText n) = brDigits n := by
    unfold numSeenOf
    rw [e, take_all]
  refine ⟨?_, ?_, ?_⟩
  · rw [e2]; show 7 ≤ 640; omega
  · rw [e2]; exact br_read n hn
  · rw [e2, e]; exact beq_self_eq_true _
section
variable {prog : Program} {w : World} {A : Around} {E : Value → Shared → Prop} {s : Shared} {k : Int} {t u : Tok} {Q : Value → Shared → Prop}
theorem call_int2 (h0 : 0 ≤ k) (h1 : k < 128) (h : Q (.int (brv k) s.toks) { s with toks := s.toks + 1 }) :
    wpAny (model prog w) A (call (.type "int") [.str (brText k) t, .int 2 u]) Q E s := by
  obtain ⟨n, rfl⟩ := Int.eq_ofNat_of_zero_le h0
  exact callType_new F.called_int F.newNe_int (int2_type _ _) (int2_new _ _) (fun obj => F.args_object_init_3 obj _ _) F.entry_int_new (gives_int2x (br_hid (by omega))).meets
    (show (Made.int (brv n)).post _ s from ⟨rfl, h⟩)
end
end Mine
end
section
open PySem PySem.W PyProof.Rows PySem.Calls
set_option maxRecDepth 100000
namespace Mine
noncomputable def pm (b e : Int) : Int := ((Builtin.powMod (b % 3329).toNat e.natAbs 3329 : Nat) : Int)
theorem brv_nonneg (k : Int) : 0 ≤ brv k := by unfold brv; omega
section
variable {prog : Program} {w : World} {A : Around} {E : Value → Shared → Prop} {s : Shared} {b e : Int} {t u v : Tok} {Q : Value → Shared → Prop}
theorem call_pow (he : 0 ≤ e) (h : Q (.int (pm b e) s.toks) { s with toks := s.toks + 1 }) :
    wpAny (model prog w) A (call (.builtin "pow") [.int b t, .int e u, .int 3329 v]) Q E s := call_pow3 (by decide) he h
end
section
variable {prog : Program} {w : World} {A : Around} {E : Value → Shared → Prop} {s : Shared} {h₀ h : Heap} {L D b : Addr} {m : Str → Option Value} {news news' : List (Addr × Obj)} {n n2 : Nat} {vs vs2 : List Value}
theorem iadd_list {Q : Value → Shared → Prop} (F : Fr h₀ L s.heap m) (N : News h₀ L s.heap news) (hb : (b, listOf vs2.toArray n2) ∈ news) (hne : vs2.length ≠ 0)
    (U : Upd D (listOf vs.toArray n) (listOf (vs ++ vs2).toArray (n + 1)) news news') (hz : vs.length + vs2.length ≤ 100000)
    (h : ∀ h', Fr h₀ L h' m → News h₀ L h' news' → Q (.ref D) { s with heap := h' }) : wpAny (model prog w) A (inplaceOp .Add (.ref D) (.ref b)) Q E s := by
  obtain ⟨pre, post, rfl, rfl, a, c⟩ := U.split
  have z := N (D, listOf vs.toArray n) (List.mem_append.mpr (.inr (.head _)))
  have zb := N _ hb
  have hi : typeLookup (.type "list") (dunderI "add") = pure (some (.builtin "list.__iadd__")) := PySem.F.slot_list_iadd.lookup
  have his : isSeqSlot (some (.builtin "list.__iadd__")) = true := by decide +kernel
  have hfi : fillsInplaceSlot (.type "list") "add" (Operator.Add == .Add) = pure false := by
    unfold fillsInplaceSlot
    show (typeLookup (.type "list") (dunderI "add") >>= fun fi => pure (fi.isSome && !isSeqSlot fi)) = pure false
    rw [hi, pure_bind, his]; rfl
  have hseq : seqSlot? (.type "list") (dunderI "add") = pure (some (.builtin "list.__iadd__")) := PySem.seqSlot_of hi his
  have ha : s.TypeIs (.ref D) "list" := ⟨_, z.1, rfl⟩
  have hb' : s.TypeIs (.ref b) "list" := ⟨_, zb.1, rfl⟩
  unfold inplaceOp
  refine wpAny_holding ?_
  refine wpAny_bind (wpAny_typeOf ha (wpAny_bind (wpAny_of_eq hfi ?_)))
  show wpAny _ A (if false = true then _ else _) Q E s
  rw [if_neg Bool.false_ne_true]
  refine wpAny_bind (wpAny_binaryOp1_none (nm := "add") ha hb' noFill_list_add ?_)
  refine wpAny_bind (wpAny_of_eq hseq ?_)
  refine wpAny_bind (wpAny_rule ?_)
  have hd : ¬(!vs.toArray.isEmpty && Builtin.List.listTooLong (vs.toArray.size + vs2.toArray.size)) = true := by
    have : Builtin.List.listTooLong (vs.toArray.size + vs2.toArray.size) = false := by
      simp [Builtin.List.listTooLong, sizeLine]; omega
    rw [this]; simp
  refine call_meets PySem.F.slot_list_iadd ha PySem.F.entry_list_iadd (PySem.F.args_list_iadd_2 _ _) (PySem.AutoSeq1.list___iadd___list_list_0 D vs.toArray n b vs2.toArray n2 hd (by simp [sizeLine_eq]; omega) (by simp [sizeLine_eq]; omega)) ⟨z.1, zb.1, h _ (F.change (Heap.SameBut.update ..) z.2.1 z.2.2) (kl_turn _ N a c ?_ ?_)⟩
  · simp
  · simp; intro e; exact hne (by simp [e])
end
end Mine
namespace Mine
noncomputable def rootStep (e : Int) : List Int := [e.fdiv 2, e.fdiv 2 + 128]
theorem one_int {h₀ h : Heap} {L D : Addr} {p q : Addr × Obj} {n : Nat} {a : Int} {t : Tok} {rest : List (Addr × Obj)} (uN : News h₀ L h (p :: q :: (D, listOf #[.int a t] n) :: rest)) : IntsAre [Value.int a t] [a] := .cons a t .nil
end Mine
end
section
open PySem PySem.W PyProof.Rows PySem.Calls PyProof.V PySem.Spec
set_option maxRecDepth 100000
namespace Mine
/-- a loop's letters: the list that it turns (items, ints, the count of its turns), and the rest -/
abbrev Sg (ρ : Type) := List Value × List Int × Nat × ρ
theorem upd_same {D : Addr} {o : Obj} {l l' : List (Addr × Obj)} (h : Upd D o o l l') : l = l' := by
  obtain ⟨pre, post, rfl, rfl, _, _⟩ := h.split
  rfl
theorem upd_adr {D : Addr} {o o' : Obj} {l l' : List (Addr × Obj)} (h : Upd D o o' l l') : l'.map (·.1) = l.map (·.1) := by
  obtain ⟨pre, post, rfl, rfl, _, _⟩ := h.split
  simp
section
variable {prog : Program} {w : World} {A : Around} {E : Value → Shared → Prop} {s : Shared} {env : Env} {h₀ : Heap} {x : Str} {body : List Stmt} {Q : Flow → Shared → Prop}
theorem fr_out {L : Addr} {h : Heap} {ps : List (Str × Value)} {stored : List Str} {m₀ m₁ : Str → Option Value} (h1 : ∀ p ∈ ps, m₁ p.1 = some p.2) (h2 : ∀ z, z ≠ x → (∀ p ∈ ps, z ≠ p.1) → stored.contains z = false → m₁ z = m₀ z)
    (F : Fr h₀ L h m₁) : Fr h₀ L h (kstB (fun z => if z = x then m₁ z else if stored.contains z then m₁ z else m₀ z) ps) := by
  have em : kstB (fun z => if z = x then m₁ z else if stored.contains z then m₁ z else m₀ z) ps = m₁ := by
    funext y
    refine kstB_eq h1 fun hn => ?_
    by_cases hx : y = x
    · rw [if_pos hx]
    · rw [if_neg hx]
      cases h3 : stored.contains y with
      | true => simp
      | false => simp only [Bool.false_eq_true, if_false]; exact (h2 y hx hn h3).symm
  rw [em]
  exact F

theorem kx_range {ρ : Type} {r D : Addr} {a₀ b₀ : Int} {t₀ u₀ v₀ : Tok} {n : Nat} {m₀ : Str → Option Value} {news : List (Addr × Obj)} {ws : List Value} {zs : List Int} {cnt : Nat} (y : Str)
    (ps : Addr → ρ → List (Str × Value)) (stored : List Str) (P : List Int → List Int → ρ → Prop) (r₀ : ρ) {Led : List Value → Nat → List (Addr × Obj)}
    (hh : A.handled = none) (hr : IsRange s.heap r a₀ b₀ 1 t₀ u₀ v₀) (hsmall : Builtin.Range.small a₀ b₀ 1 = true) (hn : Builtin.Range.rangeSize a₀ b₀ 1 = (n : Int)) (F : Fr h₀ env.locals s.heap m₀) (N : News h₀ env.locals s.heap news)
    (hy : m₀ y = some (.ref D)) (hU : ∀ us c, Upd D (listOf ws.toArray cnt) (listOf us.toArray c) news (Led us c)) (hi : IntsAre ws zs) (hk : ∀ p ∈ ps D r₀, m₀ p.1 = some p.2) (hp : P [] zs r₀)
    (turn : ∀ (us : List Value) (ns : List Int) (c : Nat) (r' : ρ) (pre : List Int) (k : Int) t (u : Str → Option Value) h tk own, k = a₀ + (pre.length : Int) → pre.length < n → OwnOff own (news.map (·.1)) → IntsAre us ns → P pre ns r' →
      Fr h₀ env.locals h (fun y => if y = x then some (.int k t) else kstB (fun z => if stored.contains z then u z else m₀ z) (ps D r') y) → News h₀ env.locals h (Led us c ++ own) →
      wpAny (model prog w) A (execs body env) (InvPostN h₀ env.locals (KstS (fun c : Sg ρ => Led c.1 c.2.2.1) (fun c => ps D c.2.2.2) (fun c => IntsAre c.1 c.2.1) x stored m₀ (fun pre c => P pre c.2.1 c.2.2.2) (pre ++ [k])) own (news.map (·.1)) { s with heap := h, toks := tk } Q) E { s with heap := h, toks := tk })
    (done : ∀ (us : List Value) (ns : List Int) (c : Nat) (r' : ρ) (u : Str → Option Value) h tk, IntsAre us ns → P (rangeKs a₀ n) ns r' → Fr h₀ env.locals h (kstB (fun z => if z = x then u z else if stored.contains z then u z else m₀ z) (ps D r')) → News h₀ env.locals h (Led us c) → Q .next { s with heap := h, toks := tk }) :
    wpAny (model prog w) A (pyIter (.ref r)) (fun it s₂ => LoopAtV prog w A h₀ env x body Q E it s₂) E s := by
  refine wpAny_pyIter_range hr hsmall ?_
  have W : Walks prog w A s.heap.objs.size [s.heap.objs.size] [s.heap.objs.size] n (fun i v => i < n ∧ ∃ t, v = .int (a₀ + i * 1) t)
      (fun i h => IsRangeIter h s.heap.objs.size (a₀ + (i : Nat) * 1) ((n : Int) - (i : Nat)) 1) := (Walks.range hh _ a₀ 1 n).bound
  have e0 : news = Led ws cnt := upd_same (hU ws cnt)
  refine loop_invN (fun i m nx => KstS (fun c : Sg ρ => Led c.1 c.2.2.1) (fun c => ps D c.2.2.2) (fun c => IntsAre c.1 c.2.1) x stored m₀ (fun pre c => P pre c.2.1 c.2.2.2) ((rangeKs a₀ n).take i) m nx) W ?_ ?_ ?_ ?_ (by show IsRangeIter _ _ _ _ _; rw [hn]; simpa using Heap.get?_push_size _ rfl) (F.push _) (fun p hp => ⟨Heap.get?_push_of_some _ (N p hp).1, (N p hp).2⟩)
    ⟨(ws, zs, cnt, r₀), e0, hi, hk, fun _ _ _ _ => rfl, by simpa using hp⟩ ?_ ?_
  · intro hm
    exact absurd F.ns.lt ((List.mem_singleton.mp hm) ▸ Nat.lt_irrefl _)
  · intro b hb
    rw [List.mem_singleton.mp hb]
    exact next_is_new F
  · intro p hp hI
    exact absurd (Heap.lt_size (N p hp).1) ((List.mem_singleton.mp hI) ▸ Nat.lt_irrefl _)
  · intro p hp hI
    exact absurd (Heap.lt_size (N p hp).1) ((List.mem_singleton.mp hI) ▸ Nat.lt_irrefl _)
  · rintro i v m₁ nx h tk own hi' ⟨_, t, rfl⟩ _ hoff ⟨c, rfl, hf', h1, h2, hp'⟩ F₁ N₁
    have e1 : a₀ + (i : Int) * 1 = a₀ + (i : Int) := by omega
    rw [e1] at F₁
    have hk' : (rangeKs a₀ n)[i]? = some (a₀ + (i : Int)) := by simp [rangeKs, hi']
    have hs : (rangeKs a₀ n).take (i + 1) = (rangeKs a₀ n).take i ++ [a₀ + (i : Int)] := by simp [List.take_add_one, hk']
    have hlen : ((rangeKs a₀ n).take i).length = i := by rw [List.length_take, rangeKs_length]; omega
    rw [hs]
    exact turn c.1 c.2.1 c.2.2.1 c.2.2.2 _ _ t m₁ h tk own (by rw [hlen]) (by rw [hlen]; exact hi') hoff hf' hp' (kst_fr h1 h2 F₁) N₁
  · rintro m₁ nx h tk ⟨c, rfl, hf', h1, h2, hp'⟩ F₁ N₁
    have hl : (rangeKs a₀ n).take n = rangeKs a₀ n := List.take_of_length_le (Nat.le_of_eq (rangeKs_length _ _))
    rw [hl] at hp'
    exact done c.1 c.2.1 c.2.2.1 c.2.2.2 m₁ h tk hf' hp' (fr_out h1 h2 F₁) N₁

theorem kx_listL {ρ : Type} {l D : Addr} {vs : List Value} {js : List Int} {nn : Nat} {m₀ : Str → Option Value} {news : List (Addr × Obj)} {ws : List Value} {zs : List Int} {cnt : Nat} (y : Str)
    (ps : Addr → ρ → List (Str × Value)) (stored : List Str) (P : List Int → List Int → ρ → Prop) (r₀ : ρ) {Led : List Value → Nat → List (Addr × Obj)}
    (hh : A.handled = none) (F : Fr h₀ env.locals s.heap m₀) (N : News h₀ env.locals s.heap news)
    (hy : m₀ y = some (.ref D)) (hU : ∀ us c, Upd D (listOf ws.toArray cnt) (listOf us.toArray c) news (Led us c)) (hl : ∀ us c, (l, listOf vs.toArray nn) ∈ Led us c) (hj : IntsAre vs js) (hi : IntsAre ws zs) (hk : ∀ p ∈ ps D r₀, m₀ p.1 = some p.2) (hp : P [] zs r₀)
    (turn : ∀ (us : List Value) (ns : List Int) (c : Nat) (r' : ρ) (pre post : List Int) (k : Int) t (u : Str → Option Value) h tk own, js = pre ++ k :: post → k ∈ js → OwnOff own (news.map (·.1)) → IntsAre us ns → P pre ns r' →
      Fr h₀ env.locals h (fun y => if y = x then some (.int k t) else kstB (fun z => if stored.contains z then u z else m₀ z) (ps D r') y) → News h₀ env.locals h (Led us c ++ own) →
      wpAny (model prog w) A (execs body env) (InvPostN h₀ env.locals (KstS (fun c : Sg ρ => Led c.1 c.2.2.1) (fun c => ps D c.2.2.2) (fun c => IntsAre c.1 c.2.1) x stored m₀ (fun pre c => P pre c.2.1 c.2.2.2) (pre ++ [k])) own (news.map (·.1)) { s with heap := h, toks := tk } Q) E { s with heap := h, toks := tk })
    (done : ∀ (us : List Value) (ns : List Int) (c : Nat) (r' : ρ) (u : Str → Option Value) h tk, IntsAre us ns → P js ns r' → Fr h₀ env.locals h (fun y => if y = x then u y else kstB (fun z => if stored.contains z then u z else m₀ z) (ps D r') y) → News h₀ env.locals h (Led us c) → Q .next { s with heap := h, toks := tk }) :
    wpAny (model prog w) A (pyIter (.ref l)) (fun it s₂ => LoopAtV prog w A h₀ env x body Q E it s₂) E s := by
  have e0 : news = Led ws cnt := upd_same (hU ws cnt)
  refine kst_listL (fun c : Sg ρ => Led c.1 c.2.2.1) (fun c => ps D c.2.2.2) (fun c => IntsAre c.1 c.2.1) stored (fun pre c => P pre c.2.1 c.2.2.2) (ws, zs, cnt, r₀) hh (fun c => hl c.1 c.2.2.1) hj F (e0 ▸ N) hi hk hp ?_ ?_
  · intro c pre post k t u h tk own hq hm hoff hf' hp' F₁ N₁
    have ea : (Led ws cnt).map (·.1) = news.map (·.1) := by rw [← e0]
    show wpAny _ _ _ (InvPostN _ _ _ own ((Led ws cnt).map (·.1)) _ _) _ _
    rw [ea]
    exact turn c.1 c.2.1 c.2.2.1 c.2.2.2 pre post k t u h tk own hq hm (ea ▸ hoff) hf' hp' F₁ N₁
  · intro c u h tk hf' hp' F₁ N₁
    exact done c.1 c.2.1 c.2.2.1 c.2.2.2 u h tk hf' hp' F₁ N₁
end
end Mine
namespace Mine
noncomputable def RootP (pre wide : List Int) (_ : Unit) : Prop := wide = pre.flatMap rootStep ∧ wide.length = 2 * pre.length
theorem root_start (u : Unit) : RootP [] [] u := ⟨rfl, rfl⟩
theorem root_state {pre ns : List Int} {k : Int} {u : Unit} (h : RootP pre ns u) : RootP (pre ++ [k]) (ns ++ [k.fdiv 2, k.fdiv 2 + 128]) u := by
  obtain ⟨h1, h2⟩ := h
  subst h1
  refine ⟨by simp [rootStep], ?_⟩
  rw [List.length_append, h2, List.length_append]; simp; omega
theorem root_room {us : List Value} {ns pre post js : List Int} {k : Int} {u : Unit} (h : RootP pre ns u) (hi : IntsAre us ns) (he : js = pre ++ k :: post) (hl : js.length ≤ 64) : us.length + 2 ≤ 100000 := by
  have h1 := hi.length
  have h2 := h.2
  have h3 := congrArg List.length he
  simp only [List.length_append, List.length_cons] at h3
  omega
theorem root_len {js ns : List Int} {u : Unit} {n : Nat} (h : RootP js ns u) (hl : js.length = n) : ns.length = 2 * n := by rw [h.2, hl]
theorem root_nn {js ns : List Int} {u : Unit} (h : RootP js ns u) (hn : ∀ e ∈ js, 0 ≤ e) : ∀ e ∈ ns, 0 ≤ e := by
  intro e he
  rw [h.1] at he
  obtain ⟨a, ha, hm⟩ := List.mem_flatMap.mp he
  have := hn a ha
  simp only [rootStep, List.mem_cons, List.not_mem_nil, or_false] at hm
  have hd : a.fdiv 2 = a / 2 := Int.fdiv_eq_ediv_of_nonneg _ (by decide)
  rcases hm with rfl | rfl <;> rw [hd] <;> omega
theorem nn_128 : ∀ e ∈ ([128] : List Int), 0 ≤ e := by decide
noncomputable def rootsE : List Int := ((((((([128].flatMap rootStep).flatMap rootStep).flatMap rootStep).flatMap rootStep).flatMap rootStep).flatMap rootStep).flatMap rootStep)
theorem root_chain {n1 n2 n3 n4 n5 n6 n7 : List Int} {u : Unit} (h7 : RootP n6 n7 u) (h6 : RootP n5 n6 u) (h5 : RootP n4 n5 u) (h4 : RootP n3 n4 u) (h3 : RootP n2 n3 u) (h2 : RootP n1 n2 u) (h1 : RootP [128] n1 u) : n7 = rootsE := by
  unfold rootsE
  rw [h7.1, h6.1, h5.1, h4.1, h3.1, h2.1, h1.1]
noncomputable def rootsL : List Int := rootsE.map fun e => pm 17 e
noncomputable def zetasL : List Int := (rangeKs 0 128).map fun k => pm 17 (brv k)
end Mine
namespace Mine
/-- what `_law_draw` gives -/
noncomputable def draw (s : List Int) (k : Int) : Int := if k < (s.length : Int) then s.getD k.toNat 0 else 62 + 11 * k + 23 * k * k
end Mine
namespace Mine
theorem of_mem {ns : List Int} {e : Int} (h : ∀ e ∈ ns, 0 ≤ e) (hm : e ∈ ns) : 0 ≤ e := h e hm
end Mine
namespace Mine
theorem of_mem' {ns : List Int} {e : Int} (hm : e ∈ ns) (h : ∀ e ∈ ns, 0 ≤ e) : 0 ≤ e := h e hm
end Mine
namespace Mine
theorem root_len1 {ns : List Int} {u : Unit} (h : RootP [128] ns u) : ns.length = 2 := h.2
end Mine
namespace Mine
theorem w_roots {ys : List Value} {ns : List Int} (h : IntsAre ys (ns.map (pm 17))) (e : ns = rootsE) : IntsAre ys rootsL := by
  subst e
  exact h
end Mine
end
section
open PySem PySem.W PyProof.Rows
/-! plain functions: what the walk computes -/
namespace Mine
/-- one butterfly of to_ntt at place j -/
noncomputable def bf (z l : Int) (C : List Int) (j : Int) : List Int :=
  let t := z * C.getD (j + l).toNat 0
  let C1 := C.set (j + l).toNat (C.getD j.toNat 0 - t)
  C1.set j.toNat (C1.getD j.toNat 0 + t)
end Mine
namespace Mine
noncomputable def blk (z l st : Int) (C : List Int) : List Int := (rangeKs st l.toNat).foldl (bf z l) C
/-- the inner while: blocks 0 .. b - 1 done -/
noncomputable def inner (zs : List Int) (l k0 : Int) : Nat → List Int → List Int
  | 0, C => C
  | b + 1, C => blk (zs.getD (k0 + b).toNat 0) l (2 * l * b) (inner zs l k0 b C)
/-- the outer while: layers 0 .. t - 1 done; layer t has length 2 ^ (7 - t) -/
noncomputable def layers (zs : List Int) : Nat → List Int → List Int
  | 0, C => C
  | t + 1, C => inner zs ((2 : Int) ^ (7 - t)) ((2 : Int) ^ t) (2 ^ t) (layers zs t C)
noncomputable def modAll (C : List Int) : List Int := C.map fun c => c % 3329
noncomputable def ntt (zs C : List Int) : List Int := modAll (layers zs 7 C)
theorem bf_length (z l : Int) (C : List Int) (j : Int) : (bf z l C j).length = C.length := by simp [bf]
theorem foldl_bf_length (z l : Int) (js : List Int) : ∀ C : List Int, (js.foldl (bf z l) C).length = C.length := by
  induction js with
  | nil => intro C; rfl
  | cons j r ih => intro C; rw [List.foldl_cons, ih, bf_length]
theorem blk_length (z l st : Int) (C : List Int) : (blk z l st C).length = C.length := foldl_bf_length _ _ _ _
theorem inner_length (zs : List Int) (l k0 : Int) : ∀ (b : Nat) (C : List Int), (inner zs l k0 b C).length = C.length
  | 0, _ => rfl
  | b + 1, C => by rw [inner, blk_length, inner_length]
theorem layers_length (zs : List Int) : ∀ (t : Nat) (C : List Int), (layers zs t C).length = C.length
  | 0, _ => rfl
  | t + 1, C => by rw [layers, inner_length, layers_length]
/-- one while's numbers: l and k ahead of the inner while, k and start at its turns -/
noncomputable def Side (l k0 k start : Int) : Prop := ∃ t b : Nat, t < 7 ∧ l = 2 ^ (7 - t) ∧ k0 = 2 ^ t ∧ b ≤ 2 ^ t ∧ k = k0 + b ∧ start = 2 * l * b
theorem Side.facts {l k0 k start : Int} (h : Side l k0 k start) : 2 ≤ l ∧ l ≤ 128 ∧ 1 ≤ k ∧ 0 ≤ start ∧ start ≤ 256 ∧ (start < 256 → k < 128 ∧ start + 2 * l ≤ 256) := by
  obtain ⟨t, b, ht, rfl, rfl, hb, rfl, rfl⟩ := h
  have : t = 0 ∨ t = 1 ∨ t = 2 ∨ t = 3 ∨ t = 4 ∨ t = 5 ∨ t = 6 := by omega
  rcases this with h | h | h | h | h | h | h <;> subst h <;> simp at * <;> omega
end Mine
namespace Mine
noncomputable def InnerP (zs : List Int) (l k0 : Int) (C0 : List Int) (k start : Int) (C : List Int) : Prop :=
  ∃ t b : Nat, t < 7 ∧ l = 2 ^ (7 - t) ∧ k0 = 2 ^ t ∧ b ≤ 2 ^ t ∧ k = k0 + b ∧ start = 2 * l * b ∧ C = inner zs l k0 b C0
noncomputable def SideP (l k start : Int) : Prop := 2 ≤ l ∧ l ≤ 128 ∧ 1 ≤ k ∧ 0 ≤ start ∧ start ≤ 256 ∧ (start < 256 → k < 128 ∧ start + 2 * l ≤ 256)
theorem InnerP.side {zs : List Int} {l k0 : Int} {C0 : List Int} {k start : Int} {C : List Int} (h : InnerP zs l k0 C0 k start C) : SideP l k start := by
  obtain ⟨t, b, h1, h2, h3, h4, h5, h6, _⟩ := h
  exact Side.facts ⟨t, b, h1, h2, h3, h4, h5, h6⟩
noncomputable def OuterP (zs A : List Int) (l k : Int) (C : List Int) : Prop := ∃ t : Nat, t ≤ 7 ∧ l = 2 ^ (7 - t) ∧ k = 2 ^ t ∧ C = layers zs t A
noncomputable def ForP (z l : Int) (C0 : List Int) (j0 : Int) (pre ns : List Int) (r : Int × Nat) : Prop := ns = pre.foldl (bf z l) C0 ∧ ns.length = 256 ∧ r.1 = pre.getLastD j0
theorem for_start {z l : Int} {C0 : List Int} {j0 : Int} {t : Nat} (h : C0.length = 256) : ForP z l C0 j0 [] C0 (j0, t) := ⟨rfl, h, rfl⟩
end Mine
namespace Mine
noncomputable def modStep (C : List Int) (j : Int) : List Int := C.set j.toNat ((C.getD j.toNat 0).fmod 3329)
noncomputable def ModP (C0 pre C : List Int) : Prop := C = pre.foldl modStep C0 ∧ C.length = 256
end Mine
namespace Mine
noncomputable def OuterQ (zs A : List Int) (l k : Int) (C : List Int) : Prop := OuterP zs A l k C ∧ C.length = 256
noncomputable def InnerQ (zs : List Int) (l k0 : Int) (C0 : List Int) (k start : Int) (C : List Int) : Prop :=
  InnerP zs l k0 C0 k start C ∧ (2 ≤ l ∧ l ≤ 128 ∧ 1 ≤ k ∧ 0 ≤ start ∧ start ≤ 256 ∧ (start < 256 → k < 128 ∧ start + 2 * l ≤ 256)) ∧ C.length = 256
theorem outer_start {zs A : List Int} (h : A.length = 256) : OuterQ zs A 128 1 A := ⟨⟨0, by decide, by decide, by decide, rfl⟩, h⟩
theorem inner_start {zs A C : List Int} {l k : Int} (h : OuterQ zs A l k C) (hl : 2 ≤ l) : InnerQ zs l k C k 0 C := by
  obtain ⟨⟨t, ht, h1, h2, _⟩, hlen⟩ := h
  have h7 : t < 7 := by
    rcases Nat.lt_or_ge t 7 with h | h
    · exact h
    · have e : t = 7 := by omega
      subst e
      simp at h1
      omega
  have hi : InnerP zs l k C k 0 C := ⟨t, 0, h7, h1, h2, Nat.zero_le _, by simp, by simp, rfl⟩
  exact ⟨hi, hi.side, hlen⟩
theorem for_state {z l : Int} {C0 : List Int} {j0 : Int} {pre ns : List Int} {r : Int × Nat} {k : Int} {t : Nat} (h : ForP z l C0 j0 pre ns r) : ForP z l C0 j0 (pre ++ [k]) (bf z l ns k) (k, t) := by
  obtain ⟨h1, h2, _⟩ := h
  refine ⟨?_, ?_, ?_⟩
  · rw [List.foldl_append, ← h1]; rfl
  · rw [bf_length, h2]
  · simp [List.getLastD_eq_getLast?]
theorem last_range {a j0 : Int} {n : Nat} (h : 0 < n) : (rangeKs a n).getLastD j0 = a + n - 1 := by
  obtain ⟨m, rfl⟩ : ∃ m, n = m + 1 := ⟨n - 1, by omega⟩
  unfold rangeKs
  rw [List.range_succ, List.map_append, List.map_singleton, List.getLastD_eq_getLast?, List.getLast?_concat]
  simp; omega
theorem full_block {t b : Nat} {l start : Int} (ht : t < 7) (hl : l = 2 ^ (7 - t)) (hb : b ≤ 2 ^ t) (hs : start = 2 * l * b) (h : ¬ start < 256) : b = 2 ^ t := by
  subst hl
  subst hs
  have q : t = 0 ∨ t = 1 ∨ t = 2 ∨ t = 3 ∨ t = 4 ∨ t = 5 ∨ t = 6 := by omega
  rcases q with q | q | q | q | q | q | q <;> subst q <;> simp at hb h ⊢ <;> omega
theorem some_block {t b : Nat} {l start : Int} (ht : t < 7) (hl : l = 2 ^ (7 - t)) (hb : b ≤ 2 ^ t) (hs : start = 2 * l * b) (h : start < 256) : b < 2 ^ t := by
  subst hl
  subst hs
  have q : t = 0 ∨ t = 1 ∨ t = 2 ∨ t = 3 ∨ t = 4 ∨ t = 5 ∨ t = 6 := by omega
  rcases q with q | q | q | q | q | q | q <;> subst q <;> simp at hb h ⊢ <;> omega
theorem inner_state {zs : List Int} {l k0 : Int} {C0 : List Int} {k start : Int} {C ns : List Int} {r : Int × Nat} (h : InnerQ zs l k0 C0 k start C) (hs : start < 256)
    (hf : ForP (zs.getD k.toNat 0) l C start (rangeKs start (start + l - start).toNat) ns r) : InnerQ zs l k0 C0 (k + 1) (l + (r.1 + 1)) ns := by
  obtain ⟨⟨t, b, h1, h2, h3, h4, h5, h6, h7⟩, hside, hlen⟩ := h
  obtain ⟨f1, f2, f3⟩ := hf
  have e : start + l - start = l := by omega
  rw [e] at f1 f3
  rw [last_range (by omega)] at f3
  have hb : b < 2 ^ t := some_block h1 h2 h4 h6 hs
  have hl0 : 0 ≤ l := by omega
  have hi : InnerP zs l k0 C0 (k + 1) (l + (r.1 + 1)) ns := by
    refine ⟨t, b + 1, h1, h2, h3, hb, by omega, ?_, ?_⟩
    · rw [f3, h6]
      have : ((l.toNat : Nat) : Int) = l := by omega
      rw [this]
      push_cast
      grind
    · rw [inner, ← h7, ← h5, ← h6]; exact f1
  exact ⟨hi, hi.side, f2⟩
theorem outer_state {zs A : List Int} {l k : Int} {C : List Int} {k' start' : Int} {C' : List Int} (h : OuterQ zs A l k C) (hi : InnerQ zs l k C k' start' C') (hs : ¬ start' < 256) : OuterQ zs A (l.fdiv (2 ^ (1 : Int).toNat)) k' C' := by
  obtain ⟨⟨t, ht, h1, h2, h3⟩, _⟩ := h
  obtain ⟨⟨t', b, i1, i2, i3, i4, i5, i6, i7⟩, hside, hlen⟩ := hi
  have et : t' = t := by
    have : ∀ a : Nat, a < 7 → ∀ b : Nat, b < 8 → (2 : Int) ^ a = 2 ^ b → a = b := by decide
    exact this t' i1 t (by omega) (by rw [← i3, ← h2])
  subst et
  refine ⟨⟨t' + 1, by omega, ?_, ?_, ?_⟩, hlen⟩
  · rw [h1]
    have : ∀ t : Nat, t < 7 → ((2 : Int) ^ (7 - t)).fdiv (2 ^ (1 : Int).toNat) = 2 ^ (7 - (t + 1)) := by decide
    exact this t' i1
  · have hb : b = 2 ^ t' := full_block i1 i2 i4 i6 hs
    subst hb
    rw [i5, i3]
    have : ∀ t : Nat, t < 7 → (2 : Int) ^ t + ((2 ^ t : Nat) : Int) = 2 ^ (t + 1) := by decide
    exact this t' i1
  · have hb : b = 2 ^ t' := full_block i1 i2 i4 i6 hs
    subst hb
    rw [i7, layers, ← h3, i2, i3]
theorem inner_less {zs : List Int} {l k0 : Int} {C0 : List Int} {k start : Int} {C ns : List Int} {r : Int × Nat} (h : InnerQ zs l k0 C0 k start C) (hs : start < 256)
    (hf : ForP (zs.getD k.toNat 0) l C start (rangeKs start (start + l - start).toNat) ns r) : (256 - (l + (r.1 + 1))).toNat < (256 - start).toNat := by
  obtain ⟨_, hside, _⟩ := h
  obtain ⟨_, _, f3⟩ := hf
  have e : start + l - start = l := by omega
  rw [e, last_range (by omega)] at f3
  omega
theorem outer_less {l : Int} (h : 2 ≤ l) : (l.fdiv (2 ^ (1 : Int).toNat)).toNat < l.toNat := by
  have : l.fdiv (2 ^ (1 : Int).toNat) = l / 2 := by rw [Int.fdiv_eq_ediv_of_nonneg _ (by decide)]; rfl
  rw [this]; omega
theorem mod_start {C0 : List Int} (h : C0.length = 256) : ModP C0 [] C0 := ⟨rfl, h⟩
theorem mod_state {C0 pre C : List Int} {j : Int} (h : ModP C0 pre C) : ModP C0 (pre ++ [j]) (C.set j.toNat ((C.getD j.toNat 0).fmod 3329)) := by
  obtain ⟨h1, h2⟩ := h
  refine ⟨?_, by rw [List.length_set, h2]⟩
  rw [List.foldl_append, ← h1]; rfl
end Mine
namespace Mine
theorem w_outer_start {zs A : List Int} (h : A.length = 256) : OuterP zs A 128 1 A ∧ A.length = 256 := outer_start h
theorem w_inner_start {zs A C : List Int} {l k : Int} (h : OuterP zs A l k C) (hl : 2 ≤ l) (hlen : C.length = 256) : InnerP zs l k C k 0 C ∧ (2 ≤ l ∧ l ≤ 128 ∧ 1 ≤ k ∧ (0 : Int) ≤ 0 ∧ (0 : Int) ≤ 256 ∧ ((0 : Int) < 256 → k < 128 ∧ 0 + 2 * l ≤ 256)) ∧ C.length = 256 :=
  inner_start ⟨h, hlen⟩ hl
theorem w_inner_state {zs : List Int} {l k0 : Int} {C0 : List Int} {k start : Int} {C ns : List Int} {r : Int × Nat} (h : InnerP zs l k0 C0 k start C) (hlen : C.length = 256) (hs : start < 256)
    (hf : ForP (zs.getD k.toNat 0) l C start (rangeKs start (start + l - start).toNat) ns r) :
    InnerP zs l k0 C0 (k + 1) (l + (r.1 + 1)) ns ∧ (2 ≤ l ∧ l ≤ 128 ∧ 1 ≤ k + 1 ∧ 0 ≤ l + (r.1 + 1) ∧ l + (r.1 + 1) ≤ 256 ∧ (l + (r.1 + 1) < 256 → k + 1 < 128 ∧ l + (r.1 + 1) + 2 * l ≤ 256)) ∧ ns.length = 256 :=
  inner_state ⟨h, h.side, hlen⟩ hs hf
theorem w_outer_state {zs A : List Int} {l k : Int} {C : List Int} {k' start' : Int} {C' : List Int} (h : OuterP zs A l k C) (hlen : C.length = 256) (hi : InnerP zs l k C k' start' C') (hlen' : C'.length = 256) (hs : ¬ start' < 256) :
    OuterP zs A (l.fdiv (2 ^ (1 : Int).toNat)) k' C' ∧ C'.length = 256 := outer_state ⟨h, hlen⟩ ⟨hi, hi.side, hlen'⟩ hs
theorem w_inner_less {zs : List Int} {l k0 : Int} {C0 : List Int} {k start : Int} {C ns : List Int} {r : Int × Nat} (h : InnerP zs l k0 C0 k start C) (hlen : C.length = 256) (hs : start < 256)
    (hf : ForP (zs.getD k.toNat 0) l C start (rangeKs start (start + l - start).toNat) ns r) : (256 - (l + (r.1 + 1))).toNat < (256 - start).toNat := inner_less ⟨h, h.side, hlen⟩ hs hf
theorem w_mod_start {C0 : List Int} (h : C0.length = 256) : ModP C0 [] C0 ∧ C0.length = 256 := ⟨mod_start h, h⟩
theorem w_mod_state {C0 pre C : List Int} {j : Int} (h : ModP C0 pre C) : ModP C0 (pre ++ [j]) (C.set j.toNat ((C.getD j.toNat 0).fmod 3329)) ∧ (C.set j.toNat ((C.getD j.toNat 0).fmod 3329)).length = 256 := ⟨mod_state h, (mod_state h).2⟩
end Mine
namespace Mine
theorem modStep_fold (C : List Int) : ∀ n : Nat, n ≤ C.length → (rangeKs 0 n).foldl modStep C = (C.take n).map (fun c => c % 3329) ++ C.drop n
  | 0, _ => by simp [rangeKs]
  | n + 1, h => by
    have ih := modStep_fold C n (by omega)
    have e : rangeKs 0 (n + 1) = rangeKs 0 n ++ [(n : Int)] := by simp [rangeKs, List.range_succ]
    have hn : n < C.length := by omega
    rw [e, List.foldl_append, ih]
    simp only [List.foldl_cons, List.foldl_nil, modStep, Int.toNat_natCast]
    have hl : ((C.take n).map fun c => c % 3329).length = n := by simp; omega
    rw [List.getD_eq_getElem?_getD, List.getElem?_append_right (by omega), hl, Nat.sub_self, List.getElem?_drop, Nat.add_zero, List.getElem?_eq_getElem hn, Option.getD_some,
      List.set_append_right _ _ (by omega), hl, Nat.sub_self, List.drop_eq_getElem_cons hn, List.set_cons_zero, List.take_succ_eq_append_getElem hn, List.map_append, List.append_assoc]
    simp [Int.fmod_eq_emod_of_nonneg]
theorem mod_all {C C' : List Int} {n : Nat} (hn : n = 256) (h : ModP C (rangeKs 0 n) C') (hlen : C.length = 256) : C' = modAll C := by
  subst hn
  have := h.1
  rw [modStep_fold C 256 (by omega)] at this
  rw [this, modAll, ← hlen, List.take_length, List.drop_length, List.append_nil]
theorem w_ntt {zs ns : List Int} {l k : Int} {C C' : List Int} (ho : OuterP zs ns l k C) (hl : ¬ 2 ≤ l) (hlen : C.length = 256) (hm : ModP C (rangeKs 0 (256 - 0 : Int).toNat) C') : C' = ntt zs ns := by
  obtain ⟨t, ht, h1, _, h3⟩ := ho
  have e : t = 7 := by
    have : ∀ t : Nat, t < 7 → (2 : Int) ≤ 2 ^ (7 - t) := by decide
    rcases Nat.lt_or_ge t 7 with q | q
    · exact absurd (h1 ▸ this t q) hl
    · omega
  subst e
  rw [mod_all rfl hm hlen, h3]; rfl
end Mine
namespace Mine
/-- the four numbers of one turn of _ntt_coefficient_multiplication -/
noncomputable def mulStep (zs A B : List Int) (i : Int) : List Int :=
  [(A.getD (4 * i + 0).toNat 0 * B.getD (4 * i + 0).toNat 0 + zs.getD (64 + i).toNat 0 * A.getD (4 * i + 1).toNat 0 * B.getD (4 * i + 1).toNat 0).fmod 3329,
   (A.getD (4 * i + 1).toNat 0 * B.getD (4 * i + 0).toNat 0 + A.getD (4 * i + 0).toNat 0 * B.getD (4 * i + 1).toNat 0).fmod 3329,
   (A.getD (4 * i + 2).toNat 0 * B.getD (4 * i + 2).toNat 0 + -zs.getD (64 + i).toNat 0 * A.getD (4 * i + 3).toNat 0 * B.getD (4 * i + 3).toNat 0).fmod 3329,
   (A.getD (4 * i + 3).toNat 0 * B.getD (4 * i + 2).toNat 0 + A.getD (4 * i + 2).toNat 0 * B.getD (4 * i + 3).toNat 0).fmod 3329]
noncomputable def mulL (zs A B : List Int) : List Int := (rangeKs 0 64).flatMap (mulStep zs A B)
noncomputable def MulP (zs A B : List Int) (pre ns : List Int) (_ : Unit) : Prop := ns = pre.flatMap (mulStep zs A B) ∧ ns.length = 4 * pre.length
theorem mul_start {zs A B : List Int} {u : Unit} : MulP zs A B [] [] u := ⟨rfl, rfl⟩
theorem mul_state {zs A B pre ns : List Int} {k : Int} {u : Unit} (h : MulP zs A B pre ns u) : MulP zs A B (pre ++ [k]) (ns ++ mulStep zs A B k) u := by
  obtain ⟨h1, h2⟩ := h
  refine ⟨by rw [List.flatMap_append, ← h1]; simp, ?_⟩
  rw [List.length_append, h2, List.length_append]; simp [mulStep]; omega
theorem mul_room {zs A B : List Int} {us : List Value} {ns pre : List Int} {u : Unit} {n : Nat} (h : MulP zs A B pre ns u) (hi : IntsAre us ns) (hl : pre.length < n) (hn : n ≤ 64) : us.length + 4 ≤ 100000 := by
  have h1 := hi.length
  have h2 := h.2
  omega
end Mine
namespace Mine
theorem mul_len {zs A B ns : List Int} {u : Unit} {a : Int} {n : Nat} (h : MulP zs A B (rangeKs a n) ns u) (hn : n = 64) : ns.length = 256 := by
  have := h.2
  rw [rangeKs_length] at this
  omega
theorem w_mul {zs A B ns : List Int} {u : Unit} {n : Nat} (h : MulP zs A B (rangeKs 0 n) ns u) (hn : n = 64) : ns = mulL zs A B := by
  subst hn
  exact h.1
end Mine
namespace Mine
/-- the law's plain sum -/
noncomputable def plainStep (f g : List Int) (spot : Int) (a j : Int) : Int :=
  if j ≤ spot then a + f.getD j.toNat 0 * g.getD (spot - j).toNat 0 else a - f.getD j.toNat 0 * g.getD (256 + spot - j).toNat 0
noncomputable def PlainP (f g : List Int) (spot : Int) (pre : List Int) (a : Int) : Prop := a = pre.foldl (plainStep f g spot) 0
theorem plain_start {f g : List Int} {spot : Int} : PlainP f g spot [] 0 := rfl
theorem plain_le {f g : List Int} {spot : Int} {pre : List Int} {a j : Int} (h : PlainP f g spot pre a) (hj : j ≤ spot) : PlainP f g spot (pre ++ [j]) (a + f.getD j.toNat 0 * g.getD (spot - j).toNat 0) := by
  unfold PlainP at *; rw [List.foldl_append, ← h]; simp [plainStep, hj]
theorem plain_gt {f g : List Int} {spot : Int} {pre : List Int} {a j : Int} (h : PlainP f g spot pre a) (hj : ¬ j ≤ spot) : PlainP f g spot (pre ++ [j]) (a - f.getD j.toNat 0 * g.getD (256 + spot - j).toNat 0) := by
  unfold PlainP at *; rw [List.foldl_append, ← h]; simp [plainStep, hj]
/-- the law's last sum -/
noncomputable def totStep (h roots : List Int) (spot : Int) (pw : Int → Int → Int) (a i : Int) : Int := a + h.getD (2 * i + spot.fmod 2).toNat 0 * pw (roots.getD i.toNat 0) (256 - spot.fdiv 2)
noncomputable def TotP (h roots : List Int) (spot : Int) (pw : Int → Int → Int) (pre : List Int) (a : Int) : Prop := a = pre.foldl (totStep h roots spot pw) 0
theorem tot_start {h roots : List Int} {spot : Int} {pw : Int → Int → Int} : TotP h roots spot pw [] 0 := rfl
theorem tot_state {h roots : List Int} {spot : Int} {pw : Int → Int → Int} {pre : List Int} {a i : Int} (q : TotP h roots spot pw pre a) : TotP h roots spot pw (pre ++ [i]) (a + h.getD (2 * i + spot.fmod 2).toNat 0 * pw (roots.getD i.toNat 0) (256 - spot.fdiv 2)) := by
  unfold TotP at *; rw [List.foldl_append, ← q]; rfl
end Mine
end
section
open PySem PySem.W PyProof.Rows PySem.Calls PyProof.V PySem.Spec
set_option maxRecDepth 100000
namespace Mine
section
variable {prog : Program} {w : World} {A : Around} {E : Value → Shared → Prop} {s : Shared} {env : Env} {h₀ : Heap} {body : List Stmt} {Q : Flow → Shared → Prop}
theorem ntt_range {r D : Addr} {a₀ b₀ : Int} {t₀ u₀ v₀ : Tok} {n : Nat} {m₀ : Str → Option Value} {news : List (Addr × Obj)} {ws : List Value} {zs : List Int} {cnt : Nat} {z l j0 : Int} {tz tl tj : Tok} {Led : List Value → Nat → List (Addr × Obj)}
    (hh : A.handled = none) (hr : IsRange s.heap r a₀ b₀ 1 t₀ u₀ v₀) (hsmall : Builtin.Range.small a₀ b₀ 1 = true) (hn : Builtin.Range.rangeSize a₀ b₀ 1 = (n : Int)) (F : Fr h₀ env.locals s.heap m₀) (N : News h₀ env.locals s.heap news)
    (hy : m₀ (Str.ofString "coeffs") = some (.ref D)) (hyz : m₀ (Str.ofString "zeta") = some (.int z tz)) (hyl : m₀ (Str.ofString "l") = some (.int l tl)) (hyj : m₀ (Str.ofString "j") = some (.int j0 tj))
    (hU : ∀ us c, Upd D (listOf ws.toArray cnt) (listOf us.toArray c) news (Led us c)) (hi : IntsAre ws zs) (hlen : zs.length = 256)
    (turn : ∀ (us : List Value) (ns : List Int) (c : Nat) (r' : Int × Tok) (pre : List Int) (k : Int) t (u : Str → Option Value) h tk own, k = a₀ + (pre.length : Int) → pre.length < n → OwnOff own (news.map (·.1)) → IntsAre us ns → ForP z l zs j0 pre ns r' →
      Fr h₀ env.locals h (fun y => if y = Str.ofString "j" then some (.int k t) else kstB (fun z => if ([Str.ofString "t"] : List Str).contains z then u z else m₀ z) [(Str.ofString "j", .int r'.1 r'.2)] y) → News h₀ env.locals h (Led us c ++ own) →
      wpAny (model prog w) A (execs body env) (InvPostN h₀ env.locals (KstS (fun c : Sg (Int × Tok) => Led c.1 c.2.2.1) (fun c => [(Str.ofString "j", .int c.2.2.2.1 c.2.2.2.2)]) (fun c => IntsAre c.1 c.2.1) (Str.ofString "j") [Str.ofString "t"] m₀ (fun pre c => ForP z l zs j0 pre c.2.1 c.2.2.2) (pre ++ [k])) own (news.map (·.1)) { s with heap := h, toks := tk } Q) E { s with heap := h, toks := tk })
    (done : ∀ (us : List Value) (ns : List Int) (c : Nat) (r' : Int × Tok) (u : Str → Option Value) h tk, IntsAre us ns → ForP z l zs j0 (rangeKs a₀ n) ns r' → Fr h₀ env.locals h (kstB (fun z => if z = Str.ofString "j" then u z else if ([Str.ofString "t"] : List Str).contains z then u z else m₀ z) [(Str.ofString "j", .int r'.1 r'.2)]) → News h₀ env.locals h (Led us c) → Q .next { s with heap := h, toks := tk }) :
    wpAny (model prog w) A (pyIter (.ref r)) (fun it s₂ => LoopAtV prog w A h₀ env (Str.ofString "j") body Q E it s₂) E s := by
  have _ := hyz
  have _ := hyl
  exact kx_range (Str.ofString "coeffs") (fun _ (r : Int × Tok) => [(Str.ofString "j", .int r.1 r.2)]) [Str.ofString "t"] (ForP z l zs j0) (j0, tj) hh hr hsmall hn F N hy hU hi (List.forall_mem_singleton.mpr hyj) (for_start hlen) turn done
end
end Mine
namespace Mine
theorem mulok_small {a b : Int} (h0 : 0 ≤ a) (h1 : a < 3329) : IntMulOk a b :=
  IntMulOk.of_left (Nat.le_trans (intBits_le_iff.mpr (show a.natAbs < 2 ^ 12 by omega)) (by decide))
section
variable {prog : Program} {w : World} {A : Around} {E : Value → Shared → Prop} {s : Shared} {b : Int} {t u : Tok} {Q : Value → Shared → Prop}
theorem mul_zeta {zs : List Int} {i : Nat} (hzb : ∀ i, 0 ≤ zs.getD i 0 ∧ zs.getD i 0 < 3329) (h : Q (.int (zs.getD i 0 * b) s.toks) { s with toks := s.toks + 1 }) :
    wpAny (model prog w) A (binaryOp .Mult (.int (zs.getD i 0) t) (.int b u)) Q E s := PyProof.Rows.mul_int h (mulok_small (hzb i).1 (hzb i).2)
end
end Mine
namespace Mine
section
variable {M : Model} {A : Around} {E : Value → Shared → Prop} {s : Shared} {K : Frag} {env : Env} {pos : Pos} {x C f : Addr} {ox : Obj} {od : Option Obj} {first : List Value} {Q : Value → Shared → Prop}
theorem inst_KW {e : PySem.Expr} {rest : List PySem.Expr} {kws : List Keyword} (uX : K.In s.heap) (uI : InstAt s.heap x ox C od) (hd : ox.data = .plain) (uhs : findIn K (.ref C) "__call__" = some (some (.ref f))) (hall : (backToKw pos (keywordEach kws env)).all (·.1.isSome) = true)
    (h : wpAny M A (spliced (backTo pos (starEach (e :: rest) env))) (fun vs s₁ => wpAny M A (evalAll ((backToKw pos (keywordEach kws env)).map (·.2)))
      (fun ks s₂ => kco_P K x C ox od s₂.heap ∧ wpAny M A (call (.ref x) (first ++ vs) (((backToKw pos (keywordEach kws env)).filterMap (·.1)).zip ks)) Q E s₂) E s₁) E s)
    (hplain : ((backTo pos (starEach (e :: rest) env)).any (·.1) || (backToKw pos (keywordEach kws env)).any (·.1.isNone)) = false := by rfl) (he : starEach (e :: rest) env = (false, eval e env) :: starEach rest env := by rfl) :
    wpAny M A (callWith pos (.ref x) first (backTo pos (starEach (e :: rest) env)) (backToKw pos (keywordEach kws env))) Q E s :=
  kco_callWith_of hplain hd (evalArgs_kw2 hall h he)
end
end Mine
namespace Mine
section
variable {prog : Program} {w : World} {A : Around} {E : Value → Shared → Prop} {s : Shared} {a b : Int} {t u : Tok} {Q : Value → Shared → Prop}
theorem mul_negz {zs : List Int} {i : Nat} (hzb : ∀ i, 0 ≤ zs.getD i 0 ∧ zs.getD i 0 < 3329) (h : Q (.int (-zs.getD i 0 * b) s.toks) { s with toks := s.toks + 1 }) :
    wpAny (model prog w) A (binaryOp .Mult (.int (-zs.getD i 0) t) (.int b u)) Q E s :=
  PyProof.Rows.mul_int h (IntMulOk.of_left (Nat.le_trans (intBits_le_iff.mpr (show (-zs.getD i 0).natAbs < 2 ^ 12 by have := hzb i; omega)) (by decide)))
theorem mul_rightz {zs : List Int} {i : Nat} (hzb : ∀ i, 0 ≤ zs.getD i 0 ∧ zs.getD i 0 < 3329) (h : Q (.int (a * zs.getD i 0) s.toks) { s with toks := s.toks + 1 }) :
    wpAny (model prog w) A (binaryOp .Mult (.int a t) (.int (zs.getD i 0) u)) Q E s :=
  PyProof.Rows.mul_int h (IntMulOk.of_right (Nat.le_trans (intBits_le_iff.mpr (show (zs.getD i 0).natAbs < 2 ^ 12 by have := hzb i; omega)) (by decide)))
end
end Mine
namespace Mine
section
variable {prog : Program} {w : World} {A : Around} {E : Value → Shared → Prop} {s : Shared} {env : Env} {h₀ : Heap} {body : List Stmt} {Q : Flow → Shared → Prop}
abbrev rNames : List Str := [Str.ofString "r0", Str.ofString "r1", Str.ofString "r2", Str.ofString "r3"]
theorem mul_range {r D : Addr} {a₀ b₀ : Int} {t₀ u₀ v₀ : Tok} {n : Nat} {m₀ : Str → Option Value} {news : List (Addr × Obj)} {cnt : Nat} {la lb lz : Addr} {av bv zv : List Value} {as bs zs : List Int} {ca cb cz : Nat} {Led : List Value → Nat → List (Addr × Obj)}
    (hh : A.handled = none) (hr : IsRange s.heap r a₀ b₀ 1 t₀ u₀ v₀) (hsmall : Builtin.Range.small a₀ b₀ 1 = true) (hn : Builtin.Range.rangeSize a₀ b₀ 1 = (n : Int)) (F : Fr h₀ env.locals s.heap m₀) (N : News h₀ env.locals s.heap news)
    (hy : m₀ (Str.ofString "new_coeffs") = some (.ref D)) (hya : m₀ (Str.ofString "f_coeffs") = some (.ref la)) (hyb : m₀ (Str.ofString "g_coeffs") = some (.ref lb)) (hyz : m₀ (Str.ofString "zetas") = some (.ref lz))
    (hma : (la, listOf av.toArray ca) ∈ news) (hmb : (lb, listOf bv.toArray cb) ∈ news) (hmz : (lz, listOf zv.toArray cz) ∈ news) (ha : IntsAre av as) (hb : IntsAre bv bs) (hz : IntsAre zv zs)
    (hU : ∀ us c, Upd D (listOf [].toArray cnt) (listOf us.toArray c) news (Led us c))
    (turn : ∀ (us : List Value) (ns : List Int) (c : Nat) (r' : Unit) (pre : List Int) (k : Int) t (u : Str → Option Value) h tk own, k = a₀ + (pre.length : Int) → pre.length < n → OwnOff own (news.map (·.1)) → IntsAre us ns → MulP zs as bs pre ns r' →
      Fr h₀ env.locals h (fun y => if y = Str.ofString "i" then some (.int k t) else kstB (fun z => if rNames.contains z then u z else m₀ z) [(Str.ofString "new_coeffs", .ref D)] y) → News h₀ env.locals h (Led us c ++ own) →
      wpAny (model prog w) A (execs body env) (InvPostN h₀ env.locals (KstS (fun c : Sg Unit => Led c.1 c.2.2.1) (fun _ => [(Str.ofString "new_coeffs", .ref D)]) (fun c => IntsAre c.1 c.2.1) (Str.ofString "i") rNames m₀ (fun pre c => MulP zs as bs pre c.2.1 c.2.2.2) (pre ++ [k])) own (news.map (·.1)) { s with heap := h, toks := tk } Q) E { s with heap := h, toks := tk })
    (done : ∀ (us : List Value) (ns : List Int) (c : Nat) (r' : Unit) (u : Str → Option Value) h tk, IntsAre us ns → MulP zs as bs (rangeKs a₀ n) ns r' → Fr h₀ env.locals h (kstB (fun z => if z = Str.ofString "i" then u z else if rNames.contains z then u z else m₀ z) [(Str.ofString "new_coeffs", .ref D)]) → News h₀ env.locals h (Led us c) → Q .next { s with heap := h, toks := tk }) :
    wpAny (model prog w) A (pyIter (.ref r)) (fun it s₂ => LoopAtV prog w A h₀ env (Str.ofString "i") body Q E it s₂) E s := by
  have _ := hya
  have _ := hyb
  have _ := hyz
  have _ := hma
  have _ := hmb
  have _ := hmz
  have _ := ha
  have _ := hb
  have _ := hz
  exact kx_range (Str.ofString "new_coeffs") (fun D (_ : Unit) => [(Str.ofString "new_coeffs", .ref D)]) rNames (MulP zs as bs) () hh hr hsmall hn F N hy hU .nil (List.forall_mem_singleton.mpr hy) mul_start turn done
end
end Mine
namespace Mine
theorem unr_end2 {h₀ : Heap} {L I : Addr} {it : Obj} {rest : (Str → Option Value) → List (Addr × Obj) → Prop} {s₁ : Shared} {h' : Heap} {tk : Nat} {m' : Str → Option Value} {p : Addr × Obj} {tl : List (Addr × Obj)}
    (F : Fr h₀ L h' m') (N : News h₀ L h' (p :: (I, it) :: tl)) (off : ∀ q ∈ p :: tl, q.1 ≠ I) (r : rest m' (p :: tl)) : UnrEnd h₀ L s₁ I it rest { s₁ with heap := h', toks := tk } :=
  UnrEnd.intro F N (p :: tl) (fun q hq => by
    rcases List.mem_cons.mp hq with rfl | hq
    · exact .tail _ (.head _)
    · rcases List.mem_cons.mp hq with rfl | hq
      · exact .head _
      · exact .tail _ (.tail _ hq)) off r
end Mine
namespace Mine
theorem off_last {a b c d : Prop} {D : Addr} {news : List (Addr × Obj)} (h : a ∧ b ∧ c ∧ d ∧ LCg.Off1 D news) : LCg.Off1 D news := h.2.2.2.2
theorem roots_off {h₀ h : Heap} {L D b1 b2 : Addr} {us : List Value} {c : Nat} {p1 p2 p3 : Addr × Obj} {o1 o2 : Obj} {v1 v2 : Option Value}
    (N : News h₀ L h [(D, listOf us.toArray c), p1, p2, p3, (b1, o1), (b2, o2)]) (h1 : o1.data = .cell v1) (h2 : o2.data = .cell v2) : @Ne Nat b1 D ∧ @Ne Nat b2 D := by
  have hD : h.get? D = some (listOf us.toArray c) := (N _ (List.Mem.head _)).1
  have hb1 : h.get? b1 = some o1 := (N (b1, o1) (by simp)).1
  have hb2 : h.get? b2 = some o2 := (N (b2, o2) (by simp)).1
  have no : ∀ v : Option Value, (listOf us.toArray c).data ≠ .cell v := fun v q => by
    change Data.seq _ _ = Data.cell v at q
    cases q
  constructor
  · intro e
    rw [e, hD] at hb1
    exact no v1 ((Option.some.inj hb1) ▸ h1)
  · intro e
    rw [e, hD] at hb2
    exact no v2 ((Option.some.inj hb2) ▸ h2)
end Mine
namespace Mine
theorem at_bits {F : List Int} (h : ∀ i, Builtin.Int.intBits (F.getD i 0) ≤ 2 ^ 20) (i : Nat) : Builtin.Int.intBits (F.getD i 0) ≤ 2 ^ 20 := h i
end Mine
end
section
open PySem PySem.W PyProof.Rows
set_option maxRecDepth 100000
namespace Mine
theorem getD_bound {l : List Int} (h : ∀ x ∈ l, 0 ≤ x ∧ x < 3329) (i : Nat) : 0 ≤ l.getD i 0 ∧ l.getD i 0 < 3329 := by
  rw [List.getD_eq_getElem?_getD]
  by_cases hi : i < l.length
  · rw [List.getElem?_eq_getElem hi]; exact h _ (List.getElem_mem hi)
  · rw [List.getElem?_eq_none (by omega)]; exact ⟨by decide, by decide⟩
theorem zetasL_mem : ∀ x ∈ zetasL, 0 ≤ x ∧ x < 3329 := by decide +kernel
theorem zetasL_bound (i : Nat) : 0 ≤ zetasL.getD i 0 ∧ zetasL.getD i 0 < 3329 := getD_bound zetasL_mem i
theorem zetasL_length : zetasL.length = 128 := by unfold zetasL; rw [List.length_map, rangeKs_length]
theorem rootsL_length : rootsL.length = 128 := by decide +kernel
theorem ntt_length {zs ns : List Int} (h : ns.length = 256) : (ntt zs ns).length = 256 := by unfold ntt modAll; rw [List.length_map, layers_length, h]
theorem ntt_bound (zs ns : List Int) (i : Nat) : 0 ≤ (ntt zs ns).getD i 0 ∧ (ntt zs ns).getD i 0 < 3329 := by
  refine getD_bound ?_ i
  intro x hx
  unfold ntt modAll at hx
  obtain ⟨c, _, rfl⟩ := List.mem_map.mp hx
  exact ⟨Int.emod_nonneg _ (by decide), Int.emod_lt_of_pos _ (by decide)⟩
theorem mulL_mem {zs A B : List Int} : ∀ x ∈ mulL zs A B, 0 ≤ x ∧ x < 3329 := by
  intro x hx
  unfold mulL at hx
  obtain ⟨k, _, hx⟩ := List.mem_flatMap.mp hx
  simp only [mulStep, List.mem_cons, List.not_mem_nil, or_false] at hx
  rcases hx with rfl | rfl | rfl | rfl <;> exact ⟨Int.fmod_nonneg_of_pos _ (by decide), Int.fmod_lt_of_pos _ (by decide)⟩
theorem mulL_bound {zs A B : List Int} (i : Nat) : 0 ≤ (mulL zs A B).getD i 0 ∧ (mulL zs A B).getD i 0 < 3329 := getD_bound mulL_mem i
theorem mulL_length {zs A B : List Int} : (mulL zs A B).length = 256 := mul_len (u := ()) ⟨rfl, by
  have : ∀ js : List Int, (js.flatMap (mulStep zs A B)).length = 4 * js.length := by
    intro js
    induction js with
    | nil => rfl
    | cons a r ih => rw [List.flatMap_cons, List.length_append, ih]; simp [mulStep]; omega
  exact this _⟩ rfl
theorem pow_room (x : Int) : 0 ≤ 256 - (x.fmod 256).fdiv 2 := by
  have h1 : x.fmod 256 < 256 := Int.fmod_lt_of_pos _ (by decide)
  have h2 : (x.fmod 256).fdiv 2 = (x.fmod 256) / 2 := Int.fdiv_eq_ediv_of_nonneg _ (by decide)
  omega
end Mine
namespace Mine
theorem cmp_back {Q : PySem.Value → PySem.Shared → Prop} {x : PySem.Addr} {s : PySem.Shared} (h : Q (PySem.Value.ref x) s) : PySem.W.CmpBack Q (PySem.Value.ref x) s := h
end Mine
namespace Mine
theorem len_of {us : List Value} {zs A B : List Int} (uh : IntsAre us (mulL zs A B)) : (mulL zs A B).length = 256 := mulL_length
theorem bound_of {us : List Value} {zs A B : List Int} (uh : IntsAre us (mulL zs A B)) : ∀ i, 0 ≤ (mulL zs A B).getD i 0 ∧ (mulL zs A B).getD i 0 < 3329 := mulL_bound
section
variable {prog : Program} {w : World} {A : PySem.Around} {E : Value → PySem.Shared → Prop} {s : PySem.Shared} {h₀ : Heap} {L l : Addr}
theorem len_256 {news : List (Addr × Obj)} {us : List Value} {ns : List Int} {c : Nat} {Q : Value → PySem.Shared → Prop} (N : News h₀ L s.heap news) (hm : (l, listOf us.toArray c) ∈ news) (hi : IntsAre us ns) (hl : ns.length = 256)
    (h : Q (.int 256 (s.toks + 1)) { s with toks := s.toks + 1 + 1 }) : PySem.wpAny (model prog w) A (PySem.call (.builtin "len") [.ref l]) Q E s :=
  kst_len (k := 256) N hm (hi.length.trans hl) (by decide) h
end
end Mine
end
section
open PySem PySem.W PyProof.Rows
namespace Mine
set_option maxRecDepth 100000 in
set_option maxHeartbeats 8000000 in
theorem draw_ct (w : World) (mean : ExcName → Option Value) (mg mb : Str → Option Value) (news : List (Addr × Obj)) (l : Addr) (vs : List Value) (ns : List Int) (k : Int) (t : Tok) :
    CbClaim PySem.Challenge.rw_yi0065_01.row.prog w (hd.heap_39 w.params) view (looseW view [Str.ofString "PolynomialRing", Str.ofString "PolynomialNTT"]) mean mg mb 435 news [(l, vs, ns)] (0 ≤ k ∧ k ≤ 1000) [.ref l, .int k t] (fun t => .int (draw ns k) t) := by
  k_with_none
  w_on
  k_with "tree" => simp only [Mine.draw]
  w_strict (k_fill
            (dsimp only [CbClaim, CbLists, CbRet])
            intros
            rename_i hret
            refine wpAny_call ?_
            k_dflt cell_enter
            (repeat' (first | (k_unfold; (try dsimp only)) | (k_end; kc_close) | walk1 | (dsimp only; walk1) | (leave1; walk_say "STEP leave1"; (try dsimp only)) | fail "no step"))
            all_goals cb_end hret)
theorem draw_use {w : World} {mean : ExcName → Option Value} {mg mb : Str → Option Value} {news : List (Addr × Obj)} {l : Addr} {vs : List Value} {ns : List Int} {k : Int} {t : Tok}
    {dp un : Nat} {gd : Option (List Code)} {cn : Str} {cs : Scope} {a : Addr} {ccd : Value} {cl : List (Str × Addr)} {outer : List Env} {A₀ : Around} {base h₀ : Heap} {L : Addr} {m : Str → Option Value} {s : Shared} {Q E : Value → Shared → Prop}
    (B : Below A₀ base outer h₀) (F : Fr h₀ L s.heap m) (X : (hd.heap_39 w.params).In h₀) (N : News h₀ L s.heap news) (T : Top view (looseW view [Str.ofString "PolynomialRing", Str.ofString "PolynomialNTT"]) mean mg mb h₀) (hk : cs.kind = .function)
    (hl : base.IsList l vs.toArray) (hi : IntsAre vs ns) (hn : ns.length < 2 ^ 62) (h0 : 0 ≤ k) (h1 : k ≤ 1000) (hdp : dp + 1 < recursionLimit) (hun : un + 8 < cLine)
    (hret : ∀ (t : Tok) (h' : Heap) (tk' : Nat), Fr h₀ L h' m → News h₀ L h' news → Q (.int (draw ns k) t) { s with heap := h', toks := tk' }) :
    wpAny (model PySem.Challenge.rw_yi0065_01.row.prog w) (ktrTop dp un gd cn cs L a ccd cl outer) (call (.ref 435) [.ref l, .int k t]) Q E s :=
  draw_ct w mean mg mb news l vs ns k t dp un gd cn cs a ccd cl outer A₀ base h₀ L m s Q E B F X N T hk hl hi hn ⟨h0, h1⟩ hdp hun hret
end Mine
namespace Mine
theorem fm_nonneg (x : Int) : 0 ≤ x.fmod 300 := Int.fmod_nonneg_of_pos x (by decide)
theorem f_nonneg {k : Int} (h : 0 ≤ k) : 0 ≤ 3 + k := by omega
theorem f_room {a k : Int} (h : k < 0 + (((if (256 : Int) < a then 256 else a) - 0).toNat : Int)) : 3 + k ≤ 1000 := by
  split at h <;> omega
theorem g_nonneg {x k : Int} (h : 0 ≤ k) : 0 ≤ 3 + (if 256 < x.fmod 300 then 256 else x.fmod 300) + k := by
  have := fm_nonneg x
  split <;> omega
theorem g_room {x a k : Int} (h : k < 0 + (((if (256 : Int) < a then 256 else a) - 0).toNat : Int)) : 3 + (if 256 < x.fmod 300 then 256 else x.fmod 300) + k ≤ 1000 := by
  split at h <;> split <;> omega
end Mine
end
section
open PySem PySem.W PyProof.Rows PySem.Calls
set_option maxRecDepth 100000
namespace Mine
theorem draw_bits {w : List Int} {k : Int} (hw : PyData.layable0 (.list (w.map .int)) = true) (h0 : 0 ≤ k) (h1 : k ≤ 1000) : Builtin.Int.intBits (draw w k) ≤ 2 ^ 20 := by
  unfold draw
  split
  · exact kbm_getD hw (by decide)
  · refine Nat.le_trans (intBits_le_iff.mpr (show (62 + 11 * k + 23 * k * k).natAbs < 2 ^ 64 from ?_)) (by decide)
    have h2 : 0 ≤ 23 * k * k := Int.mul_nonneg (by omega) h0
    have h3 : 23 * k * k ≤ 23000 * 1000 := by
      have a1 : 23 * k ≤ 23000 := by omega
      calc 23 * k * k ≤ 23000 * k := Int.mul_le_mul_of_nonneg_right a1 h0
        _ ≤ 23000 * 1000 := Int.mul_le_mul_of_nonneg_left h1 (by decide)
    omega
theorem fl_replicate (r : Nat) : (List.replicate r [(0 : Int)]).flatten = List.replicate r 0 := by
  induction r with
  | zero => rfl
  | succ r ih => rw [List.replicate_succ, List.flatten_cons, ih, List.replicate_succ]; rfl
theorem fg_facts {ws : List Value} {w : List Int} {g : Int → Int} {n r : Nat} (h : IntsAre ws (List.map (fun k => draw w (g k)) (rangeKs 0 n) ++ (List.replicate r [0]).flatten))
    (hw : PyData.layable0 (.list (w.map .int)) = true) (hn : n + r = 256) (hg : ∀ k : Int, 0 ≤ k → k < 256 → 0 ≤ g k ∧ g k ≤ 1000) :
    ∃ F : List Int, F.length = 256 ∧ (∀ i, Builtin.Int.intBits (F.getD i 0) ≤ 2 ^ 20) ∧ IntsAre ws F := by
  refine ⟨_, ?_, ?_, h⟩
  · rw [fl_replicate, List.length_append, List.length_map, rangeKs_length, List.length_replicate, hn]
  · intro i
    rw [fl_replicate, List.getD_eq_getElem?_getD]
    by_cases hi : i < n
    · rw [List.getElem?_append_left (by rw [List.length_map, rangeKs_length]; exact hi)]
      have e : (rangeKs 0 n)[i]? = some (0 + (i : Int)) := by simp [rangeKs, hi]
      rw [List.getElem?_map, e]
      have := hg (0 + (i : Int)) (by omega) (by omega)
      exact draw_bits hw this.1 this.2
    · rw [List.getElem?_append_right (by rw [List.length_map, rangeKs_length]; omega), List.length_map, rangeKs_length]
      by_cases hj : i - n < r
      · rw [List.getElem?_replicate, if_pos hj]; decide
      · rw [List.getElem?_replicate, if_neg hj]; decide
theorem min_sum {x : Int} : ((if 256 < x.fmod 300 then 256 else x.fmod 300) - 0).toNat + (256 - (if 256 < x.fmod 300 then 256 else x.fmod 300)).toNat = 256 := by
  have := fm_nonneg x
  split <;> omega
theorem f_facts {ws : List Value} {w : List Int} {x : Int} (h : IntsAre ws (List.map (fun k => draw w (3 + k)) (rangeKs 0 ((if 256 < x.fmod 300 then 256 else x.fmod 300) - 0).toNat) ++ (List.replicate (256 - (if 256 < x.fmod 300 then 256 else x.fmod 300)).toNat [0]).flatten))
    (hw : PyData.layable0 (.list (w.map .int)) = true) : ∃ F : List Int, F.length = 256 ∧ (∀ i, Builtin.Int.intBits (F.getD i 0) ≤ 2 ^ 20) ∧ IntsAre ws F :=
  fg_facts (g := fun k => 3 + k) h hw min_sum (fun k h0 h1 => by omega)
theorem g_facts {ws : List Value} {w : List Int} {x y : Int} (h : IntsAre ws (List.map (fun k => draw w (3 + (if 256 < y.fmod 300 then 256 else y.fmod 300) + k)) (rangeKs 0 ((if 256 < x.fmod 300 then 256 else x.fmod 300) - 0).toNat) ++ (List.replicate (256 - (if 256 < x.fmod 300 then 256 else x.fmod 300)).toNat [0]).flatten))
    (hw : PyData.layable0 (.list (w.map .int)) = true) : ∃ F : List Int, F.length = 256 ∧ (∀ i, Builtin.Int.intBits (F.getD i 0) ≤ 2 ^ 20) ∧ IntsAre ws F :=
  fg_facts (g := fun k => 3 + (if 256 < y.fmod 300 then 256 else y.fmod 300) + k) h hw min_sum (fun k h0 h1 => by have := fm_nonneg y; split <;> omega)
end Mine
end
section
open PySem PySem.W PyProof.Rows PySem.Calls
namespace Mine
local macro_rules | `(tactic| walk_at $s:str) => `(tactic| k_extra $s)
local macro_rules | `(tactic| kst_facts1) => `(tactic| exact IntsAre.append (by assumption) (.cons _ _ (.cons _ _ .nil)))
local macro_rules | `(tactic| k_room) => `(tactic| ktr_room)
local macro_rules | `(tactic| k_units) => `(tactic| ktr_units)
set_option maxRecDepth 100000 in
set_option maxHeartbeats 8000000 in
theorem ring_ct {w : World} {mean : ExcName → Option Value} {mg mb : Str → Option Value} {news : List (Addr × Obj)}
    {dp un : Nat} {gd : Option (List Code)} {cn : Str} {cs : Scope} {a : Addr} {ccd : Value} {cl : List (Str × Addr)} {outer : List Env} {A₀ : Around} {base h₀ : Heap} {L : Addr} {m : Str → Option Value} {s : Shared} {Q E : Value → Shared → Prop}
    (B : Below A₀ base outer h₀) (F : Fr h₀ L s.heap m) (X : (hd.heap_39 w.params).In h₀) (N : News h₀ L s.heap news)
    (T : Top view (looseW view [Str.ofString "PolynomialRing", Str.ofString "PolynomialNTT"]) mean mg mb h₀) (hk : cs.kind = .function)
    (hdp : dp + 9 < recursionLimit) (hun : un + 40 < cLine)
    (hret : ∀ (x d D : Addr) (h1 h2 h3 h4 : Int) (t1 t2 t3 t4 tq tn tf : Tok) (us : List Value) (c : Nat) (h' : Heap) (tk' : Nat), Fr h₀ L h' m →
      News h₀ L h' ((x, instObj 282 d) :: (d, dictOf [⟨h1, .str "q" t1, .int 3329 tq⟩, ⟨h2, .str "n" t2, .int 256 tn⟩, ⟨h3, .str "ntt_zetas" t3, .ref D⟩, ⟨h4, .str "ntt_f" t4, .int 3303 tf⟩] 4) :: (D, listOf us.toArray c) :: news) →
      (∀ p ∈ news, p.1 < d) → @LT.lt Nat _ d x → LCg.Off1 D news → @Ne Nat d D → @Ne Nat x D → IntsAre us zetasL → Q (.ref x) { s with heap := h', toks := tk' }) :
    wpAny (model PySem.Challenge.rw_yi0065_01.row.prog w) (ktrTop dp un gd cn cs L a ccd cl outer) (call (.ref 282) []) Q E s := by
  k_with_none
  k_with "getMethod ref" => (k_here; k_dflt (refine' kmu_sm (by k_asm) (by k_asm) (by k_inst) (by k_is) (by k_is) (by k_is) (by k_is) (by k_is) (by k_is) (by decide +kernel) (by k_get) (by k_is) (by k_handed) ?_; k_whole))
  k_with "getMethod ref" => (k_here; k_dflt (refine' method_inst (by k_asm) (by k_asm) (by k_inst) (by k_is) (by k_is) (by k_is) (by k_get) ?_; k_whole))
  k_with "binaryOp BitAnd int int" => (refine Mine.and_127 (by omega) (by omega) ?_)
  k_with "call builtin:bin" => (refine Mine.bin_128 (by omega) (by omega) ?_)
  k_with "subscriptTail Name Slice str ref" => ((with_reducible show wpAny _ _ (subscriptTail _ (PySem.Expr.Slice none none (some _) _) (Value.str _ _) (Value.ref _)) _ _ _); (with_reducible rename Fr _ _ _ _ => F'); (with_reducible rename News _ _ _ _ => N'); (refine Mine.slice_rev (s := ⟨_, _, _, _, _⟩) F' N' (Mine.br_len_int (by omega) (by omega)) ?_); intro h' _ _ F' N')
  k_with "call type:int" => (refine Mine.call_int2 (by omega) (by omega) ?_)
  k_with "call builtin:pow" => (first | refine Mine.call_pow_inv ?_ | refine Mine.call_pow (by first | exact Mine.brv_nonneg _ | exact Mine.of_mem' (by assumption) (by assumption) | omega) ?_)
  k_with "inplaceOp Add ref" => (k_here; (with_reducible show wpAny _ _ (inplaceOp Operator.Add (Value.ref _) (Value.ref _)) _ _ _); k_dflt (refine' Mine.iadd_list (by k_asm) (by k_asm) (by k_mem) (by (simp only [List.length_cons, List.length_nil]; decide)) (by k_upd) (by exact Mine.root_room (by assumption) (by assumption) (by assumption) (by first | omega | (simp only [List.length_cons, List.length_nil]; omega))) ?_); intro h' F' N'; (try k_sweep))
  k_with "state" => ((try dsimp only); exact Mine.root_state (by assumption))
  k_with "pyIter ref" => (k_of "e" => (k_dflt ((rename News _ _ _ _ => lN9); (try (have iL9 := Mine.one_int lN9)); (rename Fr _ _ _ _ => lF9); (with_unfolding_all refine' Mine.kx_listL (Str.ofString "wide") (fun D (_ : Unit) => [(Str.ofString "wide", Value.ref D)]) [] Mine.RootP () (by rfl) (by exact lF9) (by exact lN9) (by with_unfolding_all rfl) (by (intro us c; k_upd)) (by (intro us c; (try dsimp only); k_memK)) (by assumption) (by (first | assumption | exact .nil)) (by kst_all) (by exact Mine.root_start _) ?_ ?_); (intro kUs kNs kC kR kPre kPost kN kT kU kH kTk kOwn kEq kMem kOff kFacts kInv kFr kNews); (have kMark := kstMark); (try dsimp only [kstB] at kFr); (try dsimp only at kNews); (try dsimp only at kInv); (try simp only [List.nil_append, List.cons_append, List.append_nil] at kNews); (try dsimp only at kOff); (try simp only [List.map_cons, List.map_nil] at kOff); rotate_left; (intro kUs kNs kC kR kU kH kTk kFacts kInv kFr kNews); (first | have kLen := Mine.root_len1 kInv | have kLen := Mine.root_len kInv (by assumption)); (have kNn := Mine.root_nn kInv (by first | assumption | exact Mine.nn_128)); (have kMark := kstMark); (try dsimp only [kstB] at kFr); (try dsimp only at kNews); (try dsimp only at kInv); rotate_left; (all_goals (try clear lF9 lN9)); all_goals (try k_fold))))
  k_with "exec For Name Name cons nil" => (k_here; k_dflt ((rename Fr _ _ _ _ => lF'); (with_unfolding_all refine' For_invVF lF' (by exact rfl) (by exact rfl) ?_; k_whole)))
  w_on
  have kMark := kstMark
  revert X
  k_fill
  intro X
  w_strict (skip
            k_dflt (refine' call_cls ?k1 ?k2 ?k3 ?k4 ?k5 ?k6 ?_; (case k1 => k_asm); (case k2 => k_asm); (case k3 => k_asm); (case k4 => k_is); (case k5 => k_is); (case k6 => k_is); k_whole; intro x' d' h' F' N' l1 l2; (try k_lt l1); (try k_lt2 l2); (try k_sweep))
            (have m1 := l1)
            (have m2 := l2)
            k_dflt (refine' code_defC ?k1 ?k2 ?k3 ?k4 ?k5 ?kA ?kF ?kK ?k6 ?k7 ?k8 ?k9 ?kB ?kD ?_ ?c2 ?c3 ?c4; (case kA => exact rfl); (case kF => exact rfl); (case kK => exact hk); (case k1 => k_asm); (case k2 => k_asm); (case k3 => k_asm); (case k4 => k_asm); (case k5 => k_asm); (case k6 => k_is); (case k7 => k_is); (case k8 => k_room); (case k9 => first | exact BindsTo.of_eq rfl | exact binds_K (by k_in) rfl (by k_is) rfl rfl rfl); (case kB => exact rfl); (case kD => decide +kernel); (case c2 => exact rfl); (case c3 => exact rfl); (case c4 => exact rfl); k_whole; intro g' L' h' tk' cells' FG' F' N' Y' B' X' T' l1; (try k_lt l1); k_cells Y'; (try simp only [List.cons_append, List.nil_append] at N'); (try dsimp only); (try k_lift B'); (try k_fold))
            (have e1 : ∀ p ∈ news, p.1 < L' + 1 := fun p hp => Nat.lt_succ_of_lt (kst_ltOf l1.2.2 p hp))
            (have e2 : ∀ p ∈ news, p.1 < L' + 1 + 1 := fun p hp => Nat.lt_succ_of_lt (e1 p hp))
            (repeat' (first | (k_unfold; (try dsimp only)) | (k_end; kc_close) | walk1 | (dsimp only; walk1) | (leave1; walk_say "STEP leave1"; (try dsimp only)) | fail "no step"))
            refine' hret _ _ _ _ _ _ _ _ _ _ _ _ _ _ _ _ _ _ ?f ?n m1 m2 ?o1 ?o2 ?o3 ?i
            (case f => k_asm)
            (case n => (refine' cb_drop ?cbN ?cbS; (case cbN => assumption); (case cbS => kcj_all)))
            (case o1 => (exact Mine.off_last (by assumption)))
            (case o2 => omega)
            (case o3 => omega)
            (case i => assumption))
end Mine
end
section
open PySem PySem.W PyProof.Rows PySem.Calls
namespace Mine
local macro_rules | `(tactic| walk_at $s:str) => `(tactic| k_extra $s)
local macro_rules | `(tactic| kst_facts1) => `(tactic| exact IntsAre.append (by assumption) (.cons _ _ (.cons _ _ .nil)))
local macro_rules | `(tactic| k_room) => `(tactic| ktr_room)
local macro_rules | `(tactic| k_units) => `(tactic| ktr_units)
set_option maxRecDepth 100000 in
set_option maxHeartbeats 8000000 in
theorem roots_ct {w : World} {mean : ExcName → Option Value} {mg mb : Str → Option Value} {news : List (Addr × Obj)}
    {dp un : Nat} {gd : Option (List Code)} {cn : Str} {cs : Scope} {a : Addr} {ccd : Value} {cl : List (Str × Addr)} {outer : List Env} {A₀ : Around} {base h₀ : Heap} {L : Addr} {m : Str → Option Value} {s : Shared} {Q E : Value → Shared → Prop}
    (B : Below A₀ base outer h₀) (F : Fr h₀ L s.heap m) (X : (hd.heap_39 w.params).In h₀) (N : News h₀ L s.heap news)
    (T : Top view (looseW view [Str.ofString "PolynomialRing", Str.ofString "PolynomialNTT"]) mean mg mb h₀) (hk : cs.kind = .function)
    (hdp : dp + 9 < recursionLimit) (hun : un + 40 < cLine)
    (hret : ∀ (D : Addr) (us : List Value) (c : Nat) (h' : Heap) (tk' : Nat), Fr h₀ L h' m → News h₀ L h' ((D, listOf us.toArray c) :: news) → IntsAre us rootsL → Q (.ref D) { s with heap := h', toks := tk' }) :
    wpAny (model PySem.Challenge.rw_yi0065_01.row.prog w) (ktrTop dp un gd cn cs L a ccd cl outer) (call (.ref 440) []) Q E s := by
  k_with_none
  k_with "getMethod ref" => (k_here; k_dflt (refine' kmu_sm (by k_asm) (by k_asm) (by k_inst) (by k_is) (by k_is) (by k_is) (by k_is) (by k_is) (by k_is) (by decide +kernel) (by k_get) (by k_is) (by k_handed) ?_; k_whole))
  k_with "getMethod ref" => (k_here; k_dflt (refine' method_inst (by k_asm) (by k_asm) (by k_inst) (by k_is) (by k_is) (by k_is) (by k_get) ?_; k_whole))
  k_with "binaryOp BitAnd int int" => (refine Mine.and_127 (by omega) (by omega) ?_)
  k_with "call builtin:bin" => (refine Mine.bin_128 (by omega) (by omega) ?_)
  k_with "subscriptTail Name Slice str ref" => ((with_reducible show wpAny _ _ (subscriptTail _ (PySem.Expr.Slice none none (some _) _) (Value.str _ _) (Value.ref _)) _ _ _); (with_reducible rename Fr _ _ _ _ => F'); (with_reducible rename News _ _ _ _ => N'); (refine Mine.slice_rev (s := ⟨_, _, _, _, _⟩) F' N' (Mine.br_len_int (by omega) (by omega)) ?_); intro h' _ _ F' N')
  k_with "call type:int" => (refine Mine.call_int2 (by omega) (by omega) ?_)
  k_with "call builtin:pow" => (first | refine Mine.call_pow_inv ?_ | refine Mine.call_pow (by first | exact Mine.brv_nonneg _ | exact Mine.of_mem' (by assumption) (by assumption) | omega) ?_)
  k_with "inplaceOp Add ref" => (k_here; (with_reducible show wpAny _ _ (inplaceOp Operator.Add (Value.ref _) (Value.ref _)) _ _ _); k_dflt (refine' Mine.iadd_list (by k_asm) (by k_asm) (by k_mem) (by (simp only [List.length_cons, List.length_nil]; decide)) (by k_upd) (by exact Mine.root_room (by assumption) (by assumption) (by assumption) (by first | omega | (simp only [List.length_cons, List.length_nil]; omega))) ?_); intro h' F' N'; (try k_sweep))
  k_with "state" => ((try dsimp only); exact Mine.root_state (by assumption))
  k_with "pyIter ref" => (k_of "e" => (k_dflt ((rename News _ _ _ _ => lN9); (try (have iL9 := Mine.one_int lN9)); (rename Fr _ _ _ _ => lF9); (with_unfolding_all refine' Mine.kx_listL (Str.ofString "wide") (fun D (_ : Unit) => [(Str.ofString "wide", Value.ref D)]) [] Mine.RootP () (by rfl) (by exact lF9) (by exact lN9) (by with_unfolding_all rfl) (by (intro us c; k_upd)) (by (intro us c; (try dsimp only); k_memK)) (by assumption) (by (first | assumption | exact .nil)) (by kst_all) (by exact Mine.root_start _) ?_ ?_); (intro kUs kNs kC kR kPre kPost kN kT kU kH kTk kOwn kEq kMem kOff kFacts kInv kFr kNews); (have kMark := kstMark); (try dsimp only [kstB] at kFr); (try dsimp only at kNews); (try dsimp only at kInv); (try simp only [List.nil_append, List.cons_append, List.append_nil] at kNews); (try dsimp only at kOff); (try simp only [List.map_cons, List.map_nil] at kOff); rotate_left; (intro kUs kNs kC kR kU kH kTk kFacts kInv kFr kNews); (first | have kLen := Mine.root_len1 kInv | have kLen := Mine.root_len kInv (by assumption)); (have kNn := Mine.root_nn kInv (by first | assumption | exact Mine.nn_128)); (have kMark := kstMark); (try dsimp only [kstB] at kFr); (try dsimp only at kNews); (try dsimp only at kInv); rotate_left; (all_goals (try clear lF9 lN9)); all_goals (try k_fold))))
  k_with "exec For Name Name cons nil" => (k_here; k_dflt ((rename Fr _ _ _ _ => lF'); (with_unfolding_all refine' For_invVF lF' (by exact rfl) (by exact rfl) ?_; k_whole)))
  k_with "UnrEnd" => (k_dflt (((rename News _ _ _ _ => nE'); (refine' Mine.unr_end2 (by assumption) nE' (by k_all) ?_))))
  k_with "InvEndN" => ((rename News _ _ _ _ => nE'); (try simp only [List.push_toArray] at nE'); (refine' kst_end ⟨_, _, _, _⟩ (by assumption) nE' (by (first | kst_in | kst_inAny)) (by (first | (intro p hp; kst_mem) | kst_anyIn)) (by rfl) (by kst_facts) (by kst_all) (by kst_same) (by kst_p)))
  w_on
  have kMark := kstMark
  revert X
  k_fill
  intro X
  w_strict (skip
            refine wpAny_call ?_
            k_dflt cell_enter
            (repeat' (first | (k_unfold; (try dsimp only)) | (k_end; kc_close) | walk1 | (dsimp only; walk1) | (leave1; walk_say "STEP leave1"; (try dsimp only)) | fail "no step"))
            refine' hret _ _ _ _ _ ?f ?n ?i
            (case f => k_asm)
            (case n => (refine' cb_drop ?cbN ?cbS; (case cbN => assumption); (case cbS => kcj_all)))
            (case i => (exact Mine.w_roots (by assumption) (Mine.root_chain (by assumption) (by assumption) (by assumption) (by assumption) (by assumption) (by assumption) (by assumption)))))
end Mine
end
section
open PySem PySem.W PyProof.Rows PySem.Calls
namespace Mine
local macro_rules | `(tactic| walk_at $s:str) => `(tactic| k_extra $s)
local macro_rules | `(tactic| kst_facts1) => `(tactic| exact IntsAre.append (by assumption) (.cons _ _ (.cons _ _ .nil)))
local macro_rules | `(tactic| k_room) => `(tactic| ktr_room)
local macro_rules | `(tactic| k_units) => `(tactic| ktr_units)
set_option maxRecDepth 100000 in
set_option maxHeartbeats 8000000 in
theorem poly_ct {w : World} {mean : ExcName → Option Value} {mg mb : Str → Option Value} {rest : List (Addr × Obj)}
    {lc rg dr lz : Addr} {hr1 hr2 hr3 hr4 : Int} {tr1 tr2 tr3 tr4 tq tn tf : Tok} {cnt : Nat} {vs : List Value} {ns : List Int}
    {dp un : Nat} {gd : Option (List Code)} {cn : Str} {cs : Scope} {a : Addr} {ccd : Value} {cl : List (Str × Addr)} {outer : List Env} {A₀ : Around} {base h₀ : Heap} {L : Addr} {m : Str → Option Value} {s : Shared} {Q E : Value → Shared → Prop}
    (B : Below A₀ base outer h₀) (F : Fr h₀ L s.heap m) (X : (hd.heap_39 w.params).In h₀)
    (N : News h₀ L s.heap ((lc, listOf vs.toArray cnt) :: (rg, instObj 282 dr) ::
      (dr, dictOf [⟨hr1, .str "q" tr1, .int 3329 tq⟩, ⟨hr2, .str "n" tr2, .int 256 tn⟩, ⟨hr3, .str "ntt_zetas" tr3, .ref lz⟩, ⟨hr4, .str "ntt_f" tr4, .int 3303 tf⟩] 4) :: rest))
    (T : Top view (looseW view [Str.ofString "PolynomialRing", Str.ofString "PolynomialNTT"]) mean mg mb h₀) (hk : cs.kind = .function)
    (hdp : dp + 9 < recursionLimit) (hun : un + 40 < cLine) (hi : IntsAre vs ns) (hlen : ns.length = 256)
    (hret : ∀ (y dy : Addr) (k1 k2 : Int) (u1 u2 : Tok) (h' : Heap) (tk' : Nat), Fr h₀ L h' m →
      News h₀ L h' ((y, instObj 350 dy) :: (dy, dictOf [⟨k1, .str "parent" u1, .ref rg⟩, ⟨k2, .str "coeffs" u2, .ref lc⟩] 2) :: (lc, listOf vs.toArray cnt) :: (rg, instObj 282 dr) ::
      (dr, dictOf [⟨hr1, .str "q" tr1, .int 3329 tq⟩, ⟨hr2, .str "n" tr2, .int 256 tn⟩, ⟨hr3, .str "ntt_zetas" tr3, .ref lz⟩, ⟨hr4, .str "ntt_f" tr4, .int 3303 tf⟩] 4) :: rest) →
      (@LT.lt Nat _ lc dy ∧ @LT.lt Nat _ rg dy ∧ @LT.lt Nat _ dr dy ∧ AllLt dy rest) → @LT.lt Nat _ dy y → Q (.ref y) { s with heap := h', toks := tk' }) :
    wpAny (model PySem.Challenge.rw_yi0065_01.row.prog w) (ktrTop dp un gd cn cs L a ccd cl outer) (call (.ref rg) [.ref lc]) Q E s := by
  k_with_none
  k_with "getMethod ref" => (k_here; k_dflt (refine' kmu_sm (by k_asm) (by k_asm) (by k_inst) (by k_is) (by k_is) (by k_is) (by k_is) (by k_is) (by k_is) (by decide +kernel) (by k_get) (by k_is) (by k_handed) ?_; k_whole))
  k_with "getMethod ref" => (k_here; k_dflt (refine' method_inst (by k_asm) (by k_asm) (by k_inst) (by k_is) (by k_is) (by k_is) (by k_get) ?_; k_whole))
  k_with "binaryOp BitAnd int int" => (refine Mine.and_127 (by omega) (by omega) ?_)
  k_with "call builtin:bin" => (refine Mine.bin_128 (by omega) (by omega) ?_)
  k_with "subscriptTail Name Slice str ref" => ((with_reducible show wpAny _ _ (subscriptTail _ (PySem.Expr.Slice none none (some _) _) (Value.str _ _) (Value.ref _)) _ _ _); (with_reducible rename Fr _ _ _ _ => F'); (with_reducible rename News _ _ _ _ => N'); (refine Mine.slice_rev (s := ⟨_, _, _, _, _⟩) F' N' (Mine.br_len_int (by omega) (by omega)) ?_); intro h' _ _ F' N')
  k_with "call type:int" => (refine Mine.call_int2 (by omega) (by omega) ?_)
  k_with "call builtin:pow" => (first | refine Mine.call_pow_inv ?_ | refine Mine.call_pow (by first | exact Mine.brv_nonneg _ | exact Mine.of_mem' (by assumption) (by assumption) | omega) ?_)
  k_with "inplaceOp Add ref" => (k_here; (with_reducible show wpAny _ _ (inplaceOp Operator.Add (Value.ref _) (Value.ref _)) _ _ _); k_dflt (refine' Mine.iadd_list (by k_asm) (by k_asm) (by k_mem) (by (simp only [List.length_cons, List.length_nil]; decide)) (by k_upd) (by exact Mine.root_room (by assumption) (by assumption) (by assumption) (by first | omega | (simp only [List.length_cons, List.length_nil]; omega))) ?_); intro h' F' N'; (try k_sweep))
  k_with "state" => ((try dsimp only); exact Mine.root_state (by assumption))
  k_with "pyIter ref" => (k_of "e" => (k_dflt ((rename News _ _ _ _ => lN9); (try (have iL9 := Mine.one_int lN9)); (rename Fr _ _ _ _ => lF9); (with_unfolding_all refine' Mine.kx_listL (Str.ofString "wide") (fun D (_ : Unit) => [(Str.ofString "wide", Value.ref D)]) [] Mine.RootP () (by rfl) (by exact lF9) (by exact lN9) (by with_unfolding_all rfl) (by (intro us c; k_upd)) (by (intro us c; (try dsimp only); k_memK)) (by assumption) (by (first | assumption | exact .nil)) (by kst_all) (by exact Mine.root_start _) ?_ ?_); (intro kUs kNs kC kR kPre kPost kN kT kU kH kTk kOwn kEq kMem kOff kFacts kInv kFr kNews); (have kMark := kstMark); (try dsimp only [kstB] at kFr); (try dsimp only at kNews); (try dsimp only at kInv); (try simp only [List.nil_append, List.cons_append, List.append_nil] at kNews); (try dsimp only at kOff); (try simp only [List.map_cons, List.map_nil] at kOff); rotate_left; (intro kUs kNs kC kR kU kH kTk kFacts kInv kFr kNews); (first | have kLen := Mine.root_len1 kInv | have kLen := Mine.root_len kInv (by assumption)); (have kNn := Mine.root_nn kInv (by first | assumption | exact Mine.nn_128)); (have kMark := kstMark); (try dsimp only [kstB] at kFr); (try dsimp only at kNews); (try dsimp only at kInv); rotate_left; (all_goals (try clear lF9 lN9)); all_goals (try k_fold))))
  k_with "exec For Name Name cons nil" => (k_here; k_dflt ((rename Fr _ _ _ _ => lF'); (with_unfolding_all refine' For_invVF lF' (by exact rfl) (by exact rfl) ?_; k_whole)))
  w_on
  have kMark := kstMark
  revert X
  k_fill
  intro X
  w_strict (skip
            (refine wpAny_call ?_)
            (refine' kco_code ?k1 ?k2 ?k3 ?k4 ?k5 ?k6 ?_; (case k1 => k_in); (case k2 => k_inst); (case k3 => rfl); (case k4 => k_is); (case k5 => k_is); (case k6 => k_is); (try dsimp only))
            k_dflt (refine' code_def ?k1 ?k2 ?k3 ?k4 ?k5 ?kA ?kF ?kK ?k6 ?k7 ?k8 ?k9 ?kB ?_ ?c2 ?c3 ?c4 ?c5; (case kA => exact rfl); (case kF => exact rfl); (case kK => exact hk); (case k1 => k_asm); (case k2 => k_asm); (case k3 => k_asm); (case k4 => k_asm); (case k5 => k_asm); (case k6 => k_is); (case k7 => k_is); (case k8 => k_room); (case k9 => first | exact BindsTo.of_eq rfl | exact binds_K (by k_in) rfl (by k_is) rfl rfl rfl); (case c5 => decide); (case kB => exact locs rfl); (case c2 => exact rfl); (case c3 => exact rfl); (case c4 => exact rfl); k_whole; intro g' L' h' FG' F' N' B' X' T'; (try dsimp only); (try k_lift B'); (try k_fold))
            (repeat' (first | (k_unfold; (try dsimp only)) | (k_end; kc_close) | walk1 | (dsimp only; walk1) | (leave1; walk_say "STEP leave1"; (try dsimp only)) | fail "no step"))
            refine' hret _ _ _ _ _ _ _ _ ?f ?n ?l1 ?l2
            (case f => k_asm)
            (case n => (refine' cb_drop ?cbN ?cbS; (case cbN => assumption); (case cbS => kcj_all)))
            (case l1 => assumption)
            (case l2 => omega))
end Mine
end
section
open PySem PySem.W PyProof.Rows PySem.Calls
namespace Mine
local macro_rules | `(tactic| walk_at $s:str) => `(tactic| k_extra $s)
local macro_rules | `(tactic| kst_facts1) => `(tactic| exact IntsAre.append (by assumption) (.cons _ _ (.cons _ _ .nil)))
local macro_rules | `(tactic| k_room) => `(tactic| ktr_room)
local macro_rules | `(tactic| k_units) => `(tactic| ktr_units)
set_option maxRecDepth 100000 in
set_option maxHeartbeats 8000000 in
theorem ntt_ct {w : World} {mean : ExcName → Option Value} {mg mb : Str → Option Value} {rest : List (Addr × Obj)}
    {x dx lc rg dr lz : Addr} {hx1 hx2 hr1 hr2 hr3 hr4 : Int} {tx1 tx2 tr1 tr2 tr3 tr4 tq tn tf : Tok} {cnt cz : Nat} {vs zv : List Value} {ns zs : List Int}
    {dp un : Nat} {gd : Option (List Code)} {cn : Str} {cs : Scope} {a : Addr} {ccd : Value} {cl : List (Str × Addr)} {outer : List Env} {A₀ : Around} {base h₀ : Heap} {L : Addr} {m : Str → Option Value} {s : Shared} {Q E : Value → Shared → Prop}
    (B : Below A₀ base outer h₀) (F : Fr h₀ L s.heap m) (X : (hd.heap_39 w.params).In h₀)
    (N : News h₀ L s.heap ((x, instObj 350 dx) :: (dx, dictOf [⟨hx1, .str "parent" tx1, .ref rg⟩, ⟨hx2, .str "coeffs" tx2, .ref lc⟩] 2) :: (lc, listOf vs.toArray cnt) :: (rg, instObj 282 dr) ::
      (dr, dictOf [⟨hr1, .str "q" tr1, .int 3329 tq⟩, ⟨hr2, .str "n" tr2, .int 256 tn⟩, ⟨hr3, .str "ntt_zetas" tr3, .ref lz⟩, ⟨hr4, .str "ntt_f" tr4, .int 3303 tf⟩] 4) :: (lz, listOf zv.toArray cz) :: rest))
    (T : Top view (looseW view [Str.ofString "PolynomialRing", Str.ofString "PolynomialNTT"]) mean mg mb h₀) (hk : cs.kind = .function)
    (hdp : dp + 9 < recursionLimit) (hun : un + 40 < cLine)
    (hoff : OwnOff rest [lc]) (hne1 : @Ne Nat x lc) (hne2 : @Ne Nat dx lc) (hne3 : @Ne Nat rg lc) (hne4 : @Ne Nat dr lc) (hne5 : @Ne Nat lz lc)
    (hi : IntsAre vs ns) (hz : IntsAre zv zs) (hlen : ns.length = 256) (hzl : zs.length = 128) (hzb : ∀ i, 0 ≤ zs.getD i 0 ∧ zs.getD i 0 < 3329)
    (hret : ∀ (y dy : Addr) (k1 k2 : Int) (u1 u2 : Tok) (us : List Value) (c : Nat) (h' : Heap) (tk' : Nat), Fr h₀ L h' m →
      News h₀ L h' ((y, instObj 426 dy) :: (dy, dictOf [⟨k1, .str "parent" u1, .ref rg⟩, ⟨k2, .str "coeffs" u2, .ref lc⟩] 2) :: (x, instObj 350 dx) :: (dx, dictOf [⟨hx1, .str "parent" tx1, .ref rg⟩, ⟨hx2, .str "coeffs" tx2, .ref lc⟩] 2) :: (lc, listOf us.toArray c) :: (rg, instObj 282 dr) ::
      (dr, dictOf [⟨hr1, .str "q" tr1, .int 3329 tq⟩, ⟨hr2, .str "n" tr2, .int 256 tn⟩, ⟨hr3, .str "ntt_zetas" tr3, .ref lz⟩, ⟨hr4, .str "ntt_f" tr4, .int 3303 tf⟩] 4) :: (lz, listOf zv.toArray cz) :: rest) →
      IntsAre us (ntt zs ns) → Q (.ref y) { s with heap := h', toks := tk' }) :
    wpAny (model PySem.Challenge.rw_yi0065_01.row.prog w) (ktrTop dp un gd cn cs L a ccd cl outer) (call (.ref 340) [.ref x]) Q E s := by
  k_with_none
  k_with "getMethod ref" => (k_here; k_dflt (refine' kmu_sm (by k_asm) (by k_asm) (by k_inst) (by k_is) (by k_is) (by k_is) (by k_is) (by k_is) (by k_is) (by decide +kernel) (by k_get) (by k_is) (by k_handed) ?_; k_whole))
  k_with "getMethod ref" => (k_here; k_dflt (refine' method_inst (by k_asm) (by k_asm) (by k_inst) (by k_is) (by k_is) (by k_is) (by k_get) ?_; k_whole))
  k_with "binaryOp BitAnd int int" => (refine Mine.and_127 (by omega) (by omega) ?_)
  k_with "call builtin:bin" => (refine Mine.bin_128 (by omega) (by omega) ?_)
  k_with "subscriptTail Name Slice str ref" => ((with_reducible show wpAny _ _ (subscriptTail _ (PySem.Expr.Slice none none (some _) _) (Value.str _ _) (Value.ref _)) _ _ _); (with_reducible rename Fr _ _ _ _ => F'); (with_reducible rename News _ _ _ _ => N'); (refine Mine.slice_rev (s := ⟨_, _, _, _, _⟩) F' N' (Mine.br_len_int (by omega) (by omega)) ?_); intro h' _ _ F' N')
  k_with "call type:int" => (refine Mine.call_int2 (by omega) (by omega) ?_)
  k_with "call builtin:pow" => (first | refine Mine.call_pow_inv ?_ | refine Mine.call_pow (by first | exact Mine.brv_nonneg _ | exact Mine.of_mem' (by assumption) (by assumption) | omega) ?_)
  k_with "inplaceOp Add ref" => (k_here; (with_reducible show wpAny _ _ (inplaceOp Operator.Add (Value.ref _) (Value.ref _)) _ _ _); k_dflt (refine' Mine.iadd_list (by k_asm) (by k_asm) (by k_mem) (by (simp only [List.length_cons, List.length_nil]; decide)) (by k_upd) (by exact Mine.root_room (by assumption) (by assumption) (by assumption) (by first | omega | (simp only [List.length_cons, List.length_nil]; omega))) ?_); intro h' F' N'; (try k_sweep))
  k_with "state" => ((try dsimp only); exact Mine.root_state (by assumption))
  k_with "pyIter ref" => (k_of "e" => (k_dflt ((rename News _ _ _ _ => lN9); (try (have iL9 := Mine.one_int lN9)); (rename Fr _ _ _ _ => lF9); (with_unfolding_all refine' Mine.kx_listL (Str.ofString "wide") (fun D (_ : Unit) => [(Str.ofString "wide", Value.ref D)]) [] Mine.RootP () (by rfl) (by exact lF9) (by exact lN9) (by with_unfolding_all rfl) (by (intro us c; k_upd)) (by (intro us c; (try dsimp only); k_memK)) (by assumption) (by (first | assumption | exact .nil)) (by kst_all) (by exact Mine.root_start _) ?_ ?_); (intro kUs kNs kC kR kPre kPost kN kT kU kH kTk kOwn kEq kMem kOff kFacts kInv kFr kNews); (have kMark := kstMark); (try dsimp only [kstB] at kFr); (try dsimp only at kNews); (try dsimp only at kInv); (try simp only [List.nil_append, List.cons_append, List.append_nil] at kNews); (try dsimp only at kOff); (try simp only [List.map_cons, List.map_nil] at kOff); rotate_left; (intro kUs kNs kC kR kU kH kTk kFacts kInv kFr kNews); (first | have kLen := Mine.root_len1 kInv | have kLen := Mine.root_len kInv (by assumption)); (have kNn := Mine.root_nn kInv (by first | assumption | exact Mine.nn_128)); (have kMark := kstMark); (try dsimp only [kstB] at kFr); (try dsimp only at kNews); (try dsimp only at kInv); rotate_left; (all_goals (try clear lF9 lN9)); all_goals (try k_fold))))
  k_with "exec For Name Name cons nil" => (k_here; k_dflt ((rename Fr _ _ _ _ => lF'); (with_unfolding_all refine' For_invVF lF' (by exact rfl) (by exact rfl) ?_; k_whole)))
  k_with "exec While Compare" => (k_dflt (first | (k_while_given ["l", "k!", "coeffs!", "zetas"] (fun l k0 C0 zs _ k start C => Mine.InnerP zs l k0 C0 k start C ∧ (2 ≤ l ∧ l ≤ 128 ∧ 1 ≤ k ∧ 0 ≤ start ∧ start ≤ 256 ∧ (start < 256 → k < 128 ∧ start + 2 * l ≤ 256)) ∧ C.length = 256) (fun _ _ _ _ _ _ start _ => (256 - start).toNat) "k" "start" "coeffs") | (k_while_given ["coeffs!", "zetas"] (fun A zs _ l k C => Mine.OuterP zs A l k C ∧ C.length = 256) (fun _ _ _ l _ _ => l.toNat) "l" "k" "coeffs")))
  k_with "pyIter ref" => (k_of "j" => (k_dflt (((rename News _ _ _ _ => lN9); (rename Fr _ _ _ _ => lF9); (rename IsRange _ _ _ _ _ _ _ _ => rgX); (with_unfolding_all refine' Mine.ntt_range (by rfl) rgX (by (first | exact small_one (by omega) (by omega) (by omega) (by omega))) (by exact rangeSize_nat _ _) lF9 lN9 (by with_unfolding_all rfl) (by with_unfolding_all rfl) (by with_unfolding_all rfl) (by with_unfolding_all rfl) (by (intro us c; k_upd)) (by assumption) (by assumption) ?_ ?_); (intro kUs kNs kC kR kPre kN kT kU kH kTk kOwn kEq kLt kOff kFacts kInv kFr kNews); (have kMark := kstMark); (have kLen := kInv.2.1); (try dsimp only [kstB] at kFr); (try dsimp only at kNews); (try simp only [List.nil_append, List.cons_append, List.append_nil] at kNews); (try dsimp only at kOff); (try simp only [List.map_cons, List.map_nil] at kOff); rotate_left; (intro kUs kNs kC kR kU kH kTk kFacts kInv kFr kNews); (have kMark := kstMark); (have kLen := kInv.2.1); (try dsimp only [kstB] at kFr); (try dsimp only at kNews); rotate_left; (all_goals (try clear lF9 lN9)); all_goals (try k_fold)))))
  k_with "pyIter ref" => (k_of "j" => (k_dflt ((rename IsRange _ _ 0 256 _ _ _ _ => rgX); k_state_given ["coeffs!"] (fun C0 pre C => Mine.ModP C0 pre C ∧ C.length = 256) "coeffs")))
  k_with "state" => first | exact Mine.w_outer_start (by assumption) | exact Mine.w_inner_start (by assumption) (by assumption) (by assumption) | exact Mine.w_mod_start (by assumption) | exact Mine.w_mod_state (by assumption) | exact Mine.for_state (by assumption) | exact Mine.w_inner_state (by assumption) (by assumption) (by assumption) (by assumption) | exact Mine.w_outer_state (by assumption) (by assumption) (by assumption) (by assumption) (by assumption)
  k_with "measure" => first | exact Mine.w_inner_less (by assumption) (by assumption) (by assumption) (by assumption) | exact Mine.outer_less (by assumption)
  k_with "binaryOp Mult int int" => (refine Mine.mul_zeta (by assumption) ?_)
  k_with "InvEndN" => ((rename News _ _ _ _ => nE'); (try simp only [List.push_toArray] at nE'); (refine' kst_end ⟨_, _, _, _, _⟩ (by assumption) nE' (by (first | kst_in | kst_inAny)) (by (first | (intro p hp; kst_mem) | kst_anyIn)) (by rfl) (by kst_facts) (by kst_all) (by kst_same) (by kst_p)))
  k_with "callWith ref" => (k_here; k_dflt ((refine' Mine.inst_KW (by k_in) (by k_inst) (by rfl) (by k_is) (by exact rfl) ?_; k_whole)))
  k_with "call ref" => (k_here; kco_here; k_dflt ((refine wpAny_call ?_); (refine' kco_code (by k_in) (by k_inst) (by rfl) (by k_is) (by k_is) (by k_is) ?_); (try dsimp only); k_enter))
  w_on
  have kMark := kstMark
  revert X
  k_fill
  intro X
  w_strict (skip
            refine wpAny_call ?_
            k_dflt cell_enter
            (repeat' (first | (k_unfold; (try dsimp only)) | (k_end; kc_close) | walk1 | (dsimp only; walk1) | (leave1; walk_say "STEP leave1"; (try dsimp only)) | fail "no step"))
            refine' hret _ _ _ _ _ _ _ _ _ _ ?f ?n ?i
            (case f => k_asm)
            (case n => (refine' cb_drop ?cbN ?cbS; (case cbN => assumption); (case cbS => kcj_all)))
            (case i => (rw [← Mine.w_ntt (by assumption) (by assumption) (by assumption) (by assumption)]; assumption)))
end Mine
end
section
open PySem PySem.W PyProof.Rows PySem.Calls
namespace Mine
local macro_rules | `(tactic| walk_at $s:str) => `(tactic| k_extra $s)
local macro_rules | `(tactic| kst_facts1) => `(tactic| exact IntsAre.append (by assumption) (.cons _ _ (.cons _ _ .nil)))
local macro_rules | `(tactic| kst_facts1) => `(tactic| exact IntsAre.append (by assumption) (.cons _ _ (.cons _ _ (.cons _ _ (.cons _ _ .nil)))))
local macro_rules | `(tactic| k_room) => `(tactic| ktr_room)
local macro_rules | `(tactic| k_units) => `(tactic| ktr_units)
set_option maxRecDepth 100000 in
set_option maxHeartbeats 8000000 in
theorem mul_ct {w : World} {mean : ExcName → Option Value} {mg mb : Str → Option Value} {rest : List (Addr × Obj)}
    {x dx la y dy lb rg dr lz : Addr} {hx1 hx2 hy1 hy2 hr1 hr2 hr3 hr4 : Int} {tx1 tx2 ty1 ty2 tr1 tr2 tr3 tr4 tq tn tf : Tok} {ca cb cz : Nat} {av bv zv : List Value} {as bs zs : List Int}
    {dp un : Nat} {gd : Option (List Code)} {cn : Str} {cs : Scope} {a : Addr} {ccd : Value} {cl : List (Str × Addr)} {outer : List Env} {A₀ : Around} {base h₀ : Heap} {L : Addr} {m : Str → Option Value} {s : Shared} {Q E : Value → Shared → Prop}
    (B : Below A₀ base outer h₀) (F : Fr h₀ L s.heap m) (X : (hd.heap_39 w.params).In h₀)
    (N : News h₀ L s.heap ((x, instObj 426 dx) :: (dx, dictOf [⟨hx1, .str "parent" tx1, .ref rg⟩, ⟨hx2, .str "coeffs" tx2, .ref la⟩] 2) :: (la, listOf av.toArray ca) ::
      (y, instObj 426 dy) :: (dy, dictOf [⟨hy1, .str "parent" ty1, .ref rg⟩, ⟨hy2, .str "coeffs" ty2, .ref lb⟩] 2) :: (lb, listOf bv.toArray cb) :: (rg, instObj 282 dr) ::
      (dr, dictOf [⟨hr1, .str "q" tr1, .int 3329 tq⟩, ⟨hr2, .str "n" tr2, .int 256 tn⟩, ⟨hr3, .str "ntt_zetas" tr3, .ref lz⟩, ⟨hr4, .str "ntt_f" tr4, .int 3303 tf⟩] 4) :: (lz, listOf zv.toArray cz) :: rest))
    (T : Top view (looseW view [Str.ofString "PolynomialRing", Str.ofString "PolynomialNTT"]) mean mg mb h₀) (hk : cs.kind = .function)
    (hdp : dp + 9 < recursionLimit) (hun : un + 40 < cLine)
    (ha : IntsAre av as) (hb : IntsAre bv bs) (hz : IntsAre zv zs) (hal : as.length = 256) (hbl : bs.length = 256) (hzl : zs.length = 128)
    (hab : ∀ i, 0 ≤ as.getD i 0 ∧ as.getD i 0 < 3329) (hbb : ∀ i, 0 ≤ bs.getD i 0 ∧ bs.getD i 0 < 3329) (hzb : ∀ i, 0 ≤ zs.getD i 0 ∧ zs.getD i 0 < 3329)
    (hret : ∀ (p dp' lp : Addr) (k1 k2 : Int) (u1 u2 : Tok) (us : List Value) (c : Nat) (h' : Heap) (tk' : Nat), Fr h₀ L h' m →
      News h₀ L h' ((p, instObj 426 dp') :: (dp', dictOf [⟨k1, .str "parent" u1, .ref rg⟩, ⟨k2, .str "coeffs" u2, .ref lp⟩] 2) :: (lp, listOf us.toArray c) :: (rg, instObj 282 dr) ::
      (dr, dictOf [⟨hr1, .str "q" tr1, .int 3329 tq⟩, ⟨hr2, .str "n" tr2, .int 256 tn⟩, ⟨hr3, .str "ntt_zetas" tr3, .ref lz⟩, ⟨hr4, .str "ntt_f" tr4, .int 3303 tf⟩] 4) :: (lz, listOf zv.toArray cz) :: rest) →
      IntsAre us (mulL zs as bs) → Q (.ref p) { s with heap := h', toks := tk' }) :
    wpAny (model PySem.Challenge.rw_yi0065_01.row.prog w) (ktrTop dp un gd cn cs L a ccd cl outer) (call (.ref 423) [.ref x, .ref y]) Q E s := by
  k_with_none
  k_with "getMethod ref" => (k_here; k_dflt (refine' kmu_sm (by k_asm) (by k_asm) (by k_inst) (by k_is) (by k_is) (by k_is) (by k_is) (by k_is) (by k_is) (by decide +kernel) (by k_get) (by k_is) (by k_handed) ?_; k_whole))
  k_with "getMethod ref" => (k_here; k_dflt (refine' method_inst (by k_asm) (by k_asm) (by k_inst) (by k_is) (by k_is) (by k_is) (by k_get) ?_; k_whole))
  k_with "binaryOp BitAnd int int" => (refine Mine.and_127 (by omega) (by omega) ?_)
  k_with "call builtin:bin" => (refine Mine.bin_128 (by omega) (by omega) ?_)
  k_with "subscriptTail Name Slice str ref" => ((with_reducible show wpAny _ _ (subscriptTail _ (PySem.Expr.Slice none none (some _) _) (Value.str _ _) (Value.ref _)) _ _ _); (with_reducible rename Fr _ _ _ _ => F'); (with_reducible rename News _ _ _ _ => N'); (refine Mine.slice_rev (s := ⟨_, _, _, _, _⟩) F' N' (Mine.br_len_int (by omega) (by omega)) ?_); intro h' _ _ F' N')
  k_with "call type:int" => (refine Mine.call_int2 (by omega) (by omega) ?_)
  k_with "call builtin:pow" => (first | refine Mine.call_pow_inv ?_ | refine Mine.call_pow (by first | exact Mine.brv_nonneg _ | exact Mine.of_mem' (by assumption) (by assumption) | omega) ?_)
  k_with "inplaceOp Add ref" => (k_here; (with_reducible show wpAny _ _ (inplaceOp Operator.Add (Value.ref _) (Value.ref _)) _ _ _); k_dflt (refine' Mine.iadd_list (by k_asm) (by k_asm) (by k_mem) (by (simp only [List.length_cons, List.length_nil]; decide)) (by k_upd) (by exact Mine.root_room (by assumption) (by assumption) (by assumption) (by first | omega | (simp only [List.length_cons, List.length_nil]; omega))) ?_); intro h' F' N'; (try k_sweep))
  k_with "state" => ((try dsimp only); exact Mine.root_state (by assumption))
  k_with "pyIter ref" => (k_of "e" => (k_dflt ((rename News _ _ _ _ => lN9); (try (have iL9 := Mine.one_int lN9)); (rename Fr _ _ _ _ => lF9); (with_unfolding_all refine' Mine.kx_listL (Str.ofString "wide") (fun D (_ : Unit) => [(Str.ofString "wide", Value.ref D)]) [] Mine.RootP () (by rfl) (by exact lF9) (by exact lN9) (by with_unfolding_all rfl) (by (intro us c; k_upd)) (by (intro us c; (try dsimp only); k_memK)) (by assumption) (by (first | assumption | exact .nil)) (by kst_all) (by exact Mine.root_start _) ?_ ?_); (intro kUs kNs kC kR kPre kPost kN kT kU kH kTk kOwn kEq kMem kOff kFacts kInv kFr kNews); (have kMark := kstMark); (try dsimp only [kstB] at kFr); (try dsimp only at kNews); (try dsimp only at kInv); (try simp only [List.nil_append, List.cons_append, List.append_nil] at kNews); (try dsimp only at kOff); (try simp only [List.map_cons, List.map_nil] at kOff); rotate_left; (intro kUs kNs kC kR kU kH kTk kFacts kInv kFr kNews); (first | have kLen := Mine.root_len1 kInv | have kLen := Mine.root_len kInv (by assumption)); (have kNn := Mine.root_nn kInv (by first | assumption | exact Mine.nn_128)); (have kMark := kstMark); (try dsimp only [kstB] at kFr); (try dsimp only at kNews); (try dsimp only at kInv); rotate_left; (all_goals (try clear lF9 lN9)); all_goals (try k_fold))))
  k_with "exec For Name Name cons nil" => (k_here; k_dflt ((rename Fr _ _ _ _ => lF'); (with_unfolding_all refine' For_invVF lF' (by exact rfl) (by exact rfl) ?_; k_whole)))
  k_with "binaryOp Mult int int" => (refine Mine.mul_rightz (by assumption) ?_)
  k_with "binaryOp Mult int int" => (refine Mine.mul_negz (by assumption) ?_)
  k_with "binaryOp Mult int int" => (refine Mine.mul_zeta (by assumption) ?_)
  k_with "state" => exact Mine.mul_state (by assumption)
  k_with "inplaceOp Add ref" => (k_here; (with_reducible show wpAny _ _ (inplaceOp Operator.Add (Value.ref _) (Value.ref _)) _ _ _); k_dflt (refine' Mine.iadd_list (by k_asm) (by k_asm) (by k_mem) (by (simp only [List.length_cons, List.length_nil]; decide)) (by k_upd) (by exact Mine.mul_room (by assumption) (by assumption) (by assumption) (by decide)) ?_; k_whole); intro h' F' N'; (try k_sweep))
  k_with "pyIter ref" => (k_of "i" => (k_dflt (((rename News _ _ _ _ => lN9); (rename Fr _ _ _ _ => lF9); (rename IsRange _ _ _ _ _ _ _ _ => rgX); (with_unfolding_all refine' Mine.mul_range (by rfl) rgX (by decide) (by exact rangeSize_nat _ _) lF9 lN9 (by with_unfolding_all rfl) (by with_unfolding_all rfl) (by with_unfolding_all rfl) (by with_unfolding_all rfl) (by k_memK) (by k_memK) (by k_memK) (by assumption) (by assumption) (by assumption) (by (intro us c; k_upd)) ?_ ?_); (intro kUs kNs kC kR kPre kN kT kU kH kTk kOwn kEq kLt kOff kFacts kInv kFr kNews); (have kMark := kstMark); (try dsimp only [kstB] at kFr); (try dsimp only at kNews); (try simp only [List.nil_append, List.cons_append, List.append_nil] at kNews); (try dsimp only at kOff); (try simp only [List.map_cons, List.map_nil] at kOff); rotate_left; (intro kUs kNs kC kR kU kH kTk kFacts kInv kFr kNews); (have kMark := kstMark); (have kLen := Mine.mul_len kInv rfl); (try dsimp only [kstB] at kFr); (try dsimp only at kNews); rotate_left; (all_goals (try clear lF9 lN9)); all_goals (try k_fold)))))
  k_with "InvEndN" => ((rename News _ _ _ _ => nE'); (try simp only [List.push_toArray] at nE'); (refine' kst_end ⟨_, _, _, _⟩ (by assumption) nE' (by (first | kst_in | kst_inAny)) (by (first | (intro p hp; kst_mem) | kst_anyIn)) (by rfl) (by kst_facts) (by kst_all) (by kst_same) (by kst_p)))
  k_with "callWith ref" => (k_here; k_dflt ((refine' Mine.inst_KW (by k_in) (by k_inst) (by rfl) (by k_is) (by exact rfl) ?_; k_whole)))
  k_with "call ref" => (k_here; kco_here; k_dflt ((refine wpAny_call ?_); (refine' kco_code (by k_in) (by k_inst) (by rfl) (by k_is) (by k_is) (by k_is) ?_); (try dsimp only); k_enter))
  w_on
  have kMark := kstMark
  revert X
  k_fill
  intro X
  w_strict (skip
            refine wpAny_call ?_
            k_dflt (refine' code_defC ?k1 ?k2 ?k3 ?k4 ?k5 ?kA ?kF ?kK ?k6 ?k7 ?k8 ?k9 ?kB ?kD ?_ ?c2 ?c3 ?c4; (case kA => exact rfl); (case kF => exact rfl); (case kK => exact hk); (case k1 => k_asm); (case k2 => k_asm); (case k3 => k_asm); (case k4 => k_asm); (case k5 => k_asm); (case k6 => k_is); (case k7 => k_is); (case k8 => k_room); (case k9 => first | exact BindsTo.of_eq rfl | exact binds_K (by k_in) rfl (by k_is) rfl rfl rfl); (case kB => exact rfl); (case kD => decide +kernel); (case c2 => exact rfl); (case c3 => exact rfl); (case c4 => exact rfl); k_whole; intro g' L' h' tk' cells' FG' F' N' Y' B' X' T' l1; (try k_lt l1); k_cells Y'; (try simp only [List.cons_append, List.nil_append] at N'); (try dsimp only); (try k_lift B'); (try k_fold))
            (repeat' (first | (k_unfold; (try dsimp only)) | (k_end; kc_close) | walk1 | (dsimp only; walk1) | (leave1; walk_say "STEP leave1"; (try dsimp only)) | fail "no step"))
            refine' hret _ _ _ _ _ _ _ _ _ _ _ ?f ?n ?i
            (case f => k_asm)
            (case n => (refine' cb_drop ?cbN ?cbS; (case cbN => assumption); (case cbS => kcj_all)))
            (case i => (rw [← Mine.w_mul (by assumption) rfl]; assumption)))
end Mine
end
section
open PySem PySem.W PyProof.Rows PySem.Calls
set_option maxRecDepth 100000
namespace Mine
theorem upd_mem {D : Addr} {o o' : Obj} {l l' : List (Addr × Obj)} (h : Upd D o o' l l') : ∀ p ∈ l', p = (D, o') ∨ (p ∈ l ∧ p.1 ≠ D) := by
  obtain ⟨pre, post, rfl, rfl, ha, hb⟩ := h.split
  intro p hp
  rcases List.mem_append.mp hp with h1 | h1
  · exact .inr ⟨List.mem_append.mpr (.inl h1), ha p h1⟩
  · rcases List.mem_cons.mp h1 with rfl | h1
    · exact .inl rfl
    · exact .inr ⟨List.mem_append.mpr (.inr (.tail _ h1)), hb p h1⟩
theorem upd_here {D : Addr} {o o' : Obj} {l l' : List (Addr × Obj)} (h : Upd D o o' l l') : (D, o) ∈ l := by
  obtain ⟨pre, post, rfl, rfl, ha, hb⟩ := h.split
  exact List.mem_append.mpr (.inr (.head _))
theorem cls_ne {h₀ h : Heap} {L a b : Addr} {o o' : Obj} {news : List (Addr × Obj)} (N : News h₀ L h news) (ha : (a, o) ∈ news) (hb : (b, o') ∈ news) (hd : o.cls ≠ o'.cls) : @Ne Nat a b := by
  intro e
  have h1 := (N _ ha).1
  have h2 := (N _ hb).1
  have e' : a = b := e
  subst e'
  rw [h1] at h2
  exact hd (congrArg Obj.cls (Option.some.inj h2))

theorem ntt_use {w : World} {mean : ExcName → Option Value} {mg mb : Str → Option Value} {news : List (Addr × Obj)} {Led : List Value → Nat → List (Addr × Obj)}
    {x dx lc rg dr lz : Addr} {hx1 hx2 hr1 hr2 hr3 hr4 : Int} {tx1 tx2 tr1 tr2 tr3 tr4 tq tn tf : Tok} {cnt cz : Nat} {vs zv : List Value} {ns zs : List Int}
    {dp un : Nat} {gd : Option (List Code)} {cn : Str} {cs : Scope} {a : Addr} {ccd : Value} {cl : List (Str × Addr)} {outer : List Env} {A₀ : Around} {base h₀ : Heap} {L : Addr} {m : Str → Option Value} {s : Shared} {Q E : Value → Shared → Prop}
    (B : Below A₀ base outer h₀) (F : Fr h₀ L s.heap m) (X : (hd.heap_39 w.params).In h₀) (N : News h₀ L s.heap news)
    (mx : (x, instObj 350 dx) ∈ news) (mdx : (dx, dictOf [⟨hx1, .str "parent" tx1, .ref rg⟩, ⟨hx2, .str "coeffs" tx2, .ref lc⟩] 2) ∈ news)
    (hU : ∀ us c, Upd lc (listOf vs.toArray cnt) (listOf us.toArray c) news (Led us c)) (mrg : (rg, instObj 282 dr) ∈ news)
    (mdr : (dr, dictOf [⟨hr1, .str "q" tr1, .int 3329 tq⟩, ⟨hr2, .str "n" tr2, .int 256 tn⟩, ⟨hr3, .str "ntt_zetas" tr3, .ref lz⟩, ⟨hr4, .str "ntt_f" tr4, .int 3303 tf⟩] 4) ∈ news) (mlz : (lz, listOf zv.toArray cz) ∈ news)
    (T : Top view (looseW view [Str.ofString "PolynomialRing", Str.ofString "PolynomialNTT"]) mean mg mb h₀) (hk : cs.kind = .function)
    (hdp : dp + 9 < recursionLimit) (hun : un + 40 < cLine) (hne5 : @Ne Nat lz lc)
    (hi : IntsAre vs ns) (hz : IntsAre zv zs) (hlen : ns.length = 256) (hzl : zs.length = 128) (hzb : ∀ i, 0 ≤ zs.getD i 0 ∧ zs.getD i 0 < 3329)
    (hret : ∀ (y dy : Addr) (k1 k2 : Int) (u1 u2 : Tok) (us : List Value) (c : Nat) (h' : Heap) (tk' : Nat), Fr h₀ L h' m →
      News h₀ L h' ((y, instObj 426 dy) :: (dy, dictOf [⟨k1, .str "parent" u1, .ref rg⟩, ⟨k2, .str "coeffs" u2, .ref lc⟩] 2) :: Led us c) →
      IntsAre us (ntt zs ns) → Q (.ref y) { s with heap := h', toks := tk' }) :
    wpAny (model PySem.Challenge.rw_yi0065_01.row.prog w) (ktrTop dp un gd cn cs L a ccd cl outer) (call (.ref 340) [.ref x]) Q E s := by
  have mlc := upd_here (hU vs cnt)
  refine ntt_ct (hx1 := hx1) (hx2 := hx2) (hr1 := hr1) (hr2 := hr2) (hr3 := hr3) (hr4 := hr4) (tx1 := tx1) (tx2 := tx2) (tr1 := tr1) (tr2 := tr2) (tr3 := tr3) (tr4 := tr4) (tq := tq) (tn := tn) (tf := tf) (cz := cz) (rest := news.filter fun p => p.1 != lc) (lc := lc) (cnt := cnt) (vs := vs) B F X (fun p hp => N p ?_) T hk hdp hun ?_ (cls_ne N mx mlc ?_) (cls_ne N mdx mlc ?_) (cls_ne N mrg mlc ?_) (cls_ne N mdr mlc ?_) hne5 hi hz hlen hzl hzb ?_
  · simp only [List.mem_cons] at hp
    rcases hp with rfl | rfl | rfl | rfl | rfl | rfl | hp
    · exact mx
    · exact mdx
    · exact mlc
    · exact mrg
    · exact mdr
    · exact mlz
    · exact (List.mem_filter.mp hp).1
  · intro p hp b hb
    rw [List.mem_singleton.mp hb]
    simpa using (List.mem_filter.mp hp).2
  · intro q; cases q
  · intro q; change Value.type "dict" = Value.type "list" at q; exact absurd q (by decide)
  · intro q; cases q
  · intro q; change Value.type "dict" = Value.type "list" at q; exact absurd q (by decide)
  · intro y dy k1 k2 u1 u2 us c h' tk' F' N' I'
    refine hret y dy k1 k2 u1 u2 us c h' tk' F' (fun p hp => N' p ?_) I'
    simp only [List.mem_cons] at hp ⊢
    rcases hp with h1 | h1 | h1
    · exact .inl h1
    · exact .inr (.inl h1)
    · rcases upd_mem (hU us c) p h1 with h2 | ⟨h2, h3⟩
      · exact .inr (.inr (.inr (.inr (.inl h2))))
      · exact .inr (.inr (.inr (.inr (.inr (.inr (.inr (.inr (List.mem_filter.mpr ⟨h2, by simpa using h3⟩))))))))

theorem mul_use {w : World} {mean : ExcName → Option Value} {mg mb : Str → Option Value} {news : List (Addr × Obj)}
    {x dx la y dy lb rg dr lz : Addr} {hx1 hx2 hy1 hy2 hr1 hr2 hr3 hr4 : Int} {tx1 tx2 ty1 ty2 tr1 tr2 tr3 tr4 tq tn tf : Tok} {ca cb cz : Nat} {av bv zv : List Value} {as bs zs : List Int}
    {dp un : Nat} {gd : Option (List Code)} {cn : Str} {cs : Scope} {a : Addr} {ccd : Value} {cl : List (Str × Addr)} {outer : List Env} {A₀ : Around} {base h₀ : Heap} {L : Addr} {m : Str → Option Value} {s : Shared} {Q E : Value → Shared → Prop}
    (B : Below A₀ base outer h₀) (F : Fr h₀ L s.heap m) (X : (hd.heap_39 w.params).In h₀) (N : News h₀ L s.heap news)
    (mx : (x, instObj 426 dx) ∈ news) (mdx : (dx, dictOf [⟨hx1, .str "parent" tx1, .ref rg⟩, ⟨hx2, .str "coeffs" tx2, .ref la⟩] 2) ∈ news) (mla : (la, listOf av.toArray ca) ∈ news)
    (my : (y, instObj 426 dy) ∈ news) (mdy : (dy, dictOf [⟨hy1, .str "parent" ty1, .ref rg⟩, ⟨hy2, .str "coeffs" ty2, .ref lb⟩] 2) ∈ news) (mlb : (lb, listOf bv.toArray cb) ∈ news) (mrg : (rg, instObj 282 dr) ∈ news)
    (mdr : (dr, dictOf [⟨hr1, .str "q" tr1, .int 3329 tq⟩, ⟨hr2, .str "n" tr2, .int 256 tn⟩, ⟨hr3, .str "ntt_zetas" tr3, .ref lz⟩, ⟨hr4, .str "ntt_f" tr4, .int 3303 tf⟩] 4) ∈ news) (mlz : (lz, listOf zv.toArray cz) ∈ news)
    (T : Top view (looseW view [Str.ofString "PolynomialRing", Str.ofString "PolynomialNTT"]) mean mg mb h₀) (hk : cs.kind = .function)
    (hdp : dp + 9 < recursionLimit) (hun : un + 40 < cLine)
    (ha : IntsAre av as) (hb : IntsAre bv bs) (hz : IntsAre zv zs) (hal : as.length = 256) (hbl : bs.length = 256) (hzl : zs.length = 128)
    (hab : ∀ i, 0 ≤ as.getD i 0 ∧ as.getD i 0 < 3329) (hbb : ∀ i, 0 ≤ bs.getD i 0 ∧ bs.getD i 0 < 3329) (hzb : ∀ i, 0 ≤ zs.getD i 0 ∧ zs.getD i 0 < 3329)
    (hret : ∀ (p dp' lp : Addr) (k1 k2 : Int) (u1 u2 : Tok) (us : List Value) (c : Nat) (h' : Heap) (tk' : Nat), Fr h₀ L h' m →
      News h₀ L h' ((p, instObj 426 dp') :: (dp', dictOf [⟨k1, .str "parent" u1, .ref rg⟩, ⟨k2, .str "coeffs" u2, .ref lp⟩] 2) :: (lp, listOf us.toArray c) :: news) →
      IntsAre us (mulL zs as bs) → Q (.ref p) { s with heap := h', toks := tk' }) :
    wpAny (model PySem.Challenge.rw_yi0065_01.row.prog w) (ktrTop dp un gd cn cs L a ccd cl outer) (call (.ref 423) [.ref x, .ref y]) Q E s := by
  refine mul_ct (hx1 := hx1) (hx2 := hx2) (hy1 := hy1) (hy2 := hy2) (hr1 := hr1) (hr2 := hr2) (hr3 := hr3) (hr4 := hr4) (tx1 := tx1) (tx2 := tx2) (ty1 := ty1) (ty2 := ty2) (tr1 := tr1) (tr2 := tr2) (tr3 := tr3) (tr4 := tr4) (tq := tq) (tn := tn) (tf := tf) (ca := ca) (cb := cb) (cz := cz) (x := x) (dx := dx) (la := la) (y := y) (dy := dy) (lb := lb) (rg := rg) (dr := dr) (lz := lz) (rest := news) B F X (fun p hp => N p ?_) T hk hdp hun ha hb hz hal hbl hzl hab hbb hzb ?_
  · simp only [List.mem_cons] at hp
    rcases hp with rfl | rfl | rfl | rfl | rfl | rfl | rfl | rfl | rfl | hp
    · exact mx
    · exact mdx
    · exact mla
    · exact my
    · exact mdy
    · exact mlb
    · exact mrg
    · exact mdr
    · exact mlz
    · exact hp
  · intro p dp' lp k1 k2 u1 u2 us c h' tk' F' N' I'
    refine hret p dp' lp k1 k2 u1 u2 us c h' tk' F' (fun q hq => N' q ?_) I'
    simp only [List.mem_cons] at hq ⊢
    rcases hq with h1 | h1 | h1 | h1
    · exact .inl h1
    · exact .inr (.inl h1)
    · exact .inr (.inr (.inl h1))
    · exact .inr (.inr (.inr (.inr (.inr (.inr h1)))))
end Mine
namespace Mine
theorem poly_use {w : World} {mean : ExcName → Option Value} {mg mb : Str → Option Value} {news : List (Addr × Obj)}
    {lc rg dr lz : Addr} {hr1 hr2 hr3 hr4 : Int} {tr1 tr2 tr3 tr4 tq tn tf : Tok} {cnt : Nat} {vs : List Value} {ns : List Int}
    {dp un : Nat} {gd : Option (List Code)} {cn : Str} {cs : Scope} {a : Addr} {ccd : Value} {cl : List (Str × Addr)} {outer : List Env} {A₀ : Around} {base h₀ : Heap} {L : Addr} {m : Str → Option Value} {s : Shared} {Q E : Value → Shared → Prop}
    (B : Below A₀ base outer h₀) (F : Fr h₀ L s.heap m) (X : (hd.heap_39 w.params).In h₀) (N : News h₀ L s.heap news)
    (mlc : (lc, listOf vs.toArray cnt) ∈ news) (mrg : (rg, instObj 282 dr) ∈ news)
    (mdr : (dr, dictOf [⟨hr1, .str "q" tr1, .int 3329 tq⟩, ⟨hr2, .str "n" tr2, .int 256 tn⟩, ⟨hr3, .str "ntt_zetas" tr3, .ref lz⟩, ⟨hr4, .str "ntt_f" tr4, .int 3303 tf⟩] 4) ∈ news)
    (T : Top view (looseW view [Str.ofString "PolynomialRing", Str.ofString "PolynomialNTT"]) mean mg mb h₀) (hk : cs.kind = .function)
    (hdp : dp + 9 < recursionLimit) (hun : un + 40 < cLine) (hi : IntsAre vs ns) (hlen : ns.length = 256)
    (hret : ∀ (y dy : Addr) (k1 k2 : Int) (u1 u2 : Tok) (h' : Heap) (tk' : Nat), Fr h₀ L h' m →
      News h₀ L h' ((y, instObj 350 dy) :: (dy, dictOf [⟨k1, .str "parent" u1, .ref rg⟩, ⟨k2, .str "coeffs" u2, .ref lc⟩] 2) :: news) →
      AllLt dy news → @LT.lt Nat _ dy y → Q (.ref y) { s with heap := h', toks := tk' }) :
    wpAny (model PySem.Challenge.rw_yi0065_01.row.prog w) (ktrTop dp un gd cn cs L a ccd cl outer) (call (.ref rg) [.ref lc]) Q E s := by
  refine poly_ct (rest := news) (hr1 := hr1) (hr2 := hr2) (hr3 := hr3) (hr4 := hr4) (tr1 := tr1) (tr2 := tr2) (tr3 := tr3) (tr4 := tr4) (tq := tq) (tn := tn) (tf := tf) (lc := lc) (rg := rg) (dr := dr) (lz := lz) (cnt := cnt) (vs := vs) B F X (fun p hp => N p ?_) T hk hdp hun hi hlen ?_
  · simp only [List.mem_cons] at hp
    rcases hp with rfl | rfl | rfl | hp
    · exact mlc
    · exact mrg
    · exact mdr
    · exact hp
  · intro y dy k1 k2 u1 u2 h' tk' F' N' l1 l2
    refine hret y dy k1 k2 u1 u2 h' tk' F' (fun q hq => N' q ?_) l1.2.2.2 l2
    simp only [List.mem_cons] at hq ⊢
    rcases hq with h1 | h1 | h1
    · exact .inl h1
    · exact .inr (.inl h1)
    · exact .inr (.inr (.inr (.inr (.inr h1))))
end Mine
end
section
open PySem PySem.W PyProof.Rows PySem.Calls PyProof.V PySem.Spec
set_option maxRecDepth 100000
namespace Mine
section
variable {prog : Program} {w : World} {A A' : Around} {E E' : Value → Shared → Prop} {s s₁ u : Shared} {h₁ h₀ g : Heap} {c P L C : Addr} {ps : Array Value} {m m₂ : Str → Option Value}
/-- the generator's scope -/
abbrev gScope : Scope := { kind := .function, names := [(Str.ofString ".0", .local), (Str.ofString "c", .local)], isGenerator := true, isCoroutine := false }
/-- 0 <= c and c < 3329 -/
abbrev gElt (p0 p1 p2 p3 p4 p5 p6 : Pos) : PySem.Expr :=
  .BoolOp .And [.Compare (.Constant (.int 0) 0 p1) [.LtE] [.Name (Str.ofString "c") p2] p3, .Compare (.Name (Str.ofString "c") p4) [.Lt] [.Constant (.int 3329) 0 p5] p6] p0
theorem gen_elt {a : Int} {t : Tok} {cl : List (Str × Addr)} {code : Value} {env : Env} {p0 p1 p2 p3 p4 p5 p6 : Pos} (F : Fr g C u.heap m₂) (hv : m₂ (Str.ofString "c") = some (.int a t)) (h0 : 0 ≤ a) (h1 : a < 3329) :
    wpAny (model prog w) A' (eval (gElt p0 p1 p2 p3 p4 p5 p6) (genEnv gScope cl C code builtinsNs env)) (fun y s₃ => Carried y (.bool true) ∧ Keeps u s₃) E' u := by
  refine BoolOp_and (wpAny_Compare1 (wpAny_Constant_int (ldVarG F hv (PyProof.Rows.le_int ?_))))
  rw [decide_eq_true h0]
  refine wpAny_truthy_bool ?_
  rw [if_pos rfl]
  refine BoolOp_one (wpAny_Compare1 (ldVarG F hv (wpAny_Constant_int (PyProof.Rows.lt_int ?_))))
  rw [decide_eq_true h1]
  exact ⟨.bool _, _, _, rfl, fun _ _ e => e⟩
end
end Mine
namespace Mine
section
variable {prog : Program} {w : World} {A : Around} {E : Value → Shared → Prop} {s s₁ : Shared} {h₁ h₀ g : Heap} {c P L : Addr} {ps : Array Value} {m : Str → Option Value}
theorem getD_of_mem {ns : List Int} (hb : ∀ i, 0 ≤ ns.getD i 0 ∧ ns.getD i 0 < 3329) : ∀ x ∈ ns, 0 ≤ x ∧ x < 3329 := by
  intro x hx
  obtain ⟨i, hi, rfl⟩ := List.getElem_of_mem hx
  have := hb i
  rw [List.getD_eq_getElem?_getD, List.getElem?_eq_getElem hi] at this
  exact this
theorem gen_src {env : Env} {cl : List (Str × Addr)} {pos p0 p1 p2 p3 p4 p5 p6 : Pos} {Q : Value → Shared → Prop} {l : Addr} {vs : List Value} {ns : List Int} {cnt : Nat} {news : List (Addr × Obj)} {K : Frag} {p : Program} {loose : List Str} {mg mb : Str → Option Value}
    {NN : Nat} {defs : List DefItem} {consts : List (Str × PyData)} {objs : List (Str × (Obj → Prop))} {names : List Str}
    (B : Based h₁ h₀ c P ps) (F : Fr h₀ L s₁.heap m) (N : News h₀ L s₁.heap news) (hm : (l, listOf vs.toArray cnt) ∈ news) (hi : IntsAre vs ns) (hb : ∀ i, 0 ≤ ns.getD i 0 ∧ ns.getD i 0 < 3329) (G : AllBare s₁.gens)
    (T : TopRead p loose mg mb h₀) (X : K.In h₀) (hK : kb_classed K = true) (GL : Glob NN mg mb defs consts objs names h₀) (hobj : ∀ p ∈ objs, ∀ o, p.2 o → o.cls ≠ .none)
    (hQ : ∀ (g : Heap) (ps' : Array Value) (Kb a : Addr) (s₅ : Shared), Based h₁ g c P ps' → Fr g L s₅.heap m → News g L s₅.heap news → TopRead p loose mg mb g → K.In g → Glob NN mg mb defs consts objs names g → Below callerA g [] g →
      (∀ q ∈ news, q.1 ≤ Kb) → L ≤ Kb → AllBare s₅.gens → s₅.os = s₁.os → GenOnD prog w A Kb a ns (fun _ => true) (fun _ => .bool true) s₅ → Q (.ref a) s₅) :
    wpAny (model prog w) A (pyIter (.ref l)) (GenPost prog w A h₁ h₀ c P ps L m env gScope cl (Str.ofString "c") [] (gElt p0 p1 p2 p3 p4 p5 p6) pos Q) E s₁ := by
  have hx := getD_of_mem hb
  refine src_listD (K := ItemKind.int) (pz := fun _ => true) (d := fun _ => .bool true) B (News.isList N hm) (IntsAre.areOf hi) F G (T.nolimit.keeps F.keep) (Fr.kb1 F) (Fr.kb2 F) ?_ ?_ ?_
  · intro c' C A' E' a v u m₂ _ _ _ ha hv F' hm' _ hk
    exact wpAny_pure ⟨rfl, _, _, rfl, fun _ _ e => e⟩
  · intro c' C A' E' a v u m₂ _ _ _ ha hv _ F' hm' _ hk
    obtain ⟨t, rfl⟩ := ItemKind.int_is hv
    exact gen_elt F' hm' (hx a ha).1 (hx a ha).2
  · intro c' a s₅ B' F' G' hos hk X'
    refine hQ _ _ _ a s₅ B' F' (News.rebase N B hk) (LGe.top_regrown F' T B) (kb_in_regrown B X T.g hK) (Glob.regrown GL B hobj) (below_caller _) ?_ (Fr.kb1 F) G' hos X'
    intro q hq
    exact Nat.le_sub_one_of_lt (Heap.lt_size (N q hq).1)
theorem all_use {Kb a : Addr} {ns : List Int} {news : List (Addr × Obj)} {Q : Value → Shared → Prop} (F : Fr g L s.heap m) (N : News g L s.heap news) (hle : ∀ q ∈ news, q.1 ≤ Kb) (hL : L ≤ Kb) (G : AllBare s.gens)
    (X : GenOnD prog w A Kb a ns (fun _ => true) (fun _ => .bool true) s)
    (hQ : ∀ s', Fr g L s'.heap m → News g L s'.heap news → AllBare s'.gens → s'.os = s.os → Q (.bool true) s') : wpAny (model prog w) A (call (.builtin "all") [.ref a]) Q E s := by
  refine all_genD (q := fun _ => true) F G X hL fun s' F' G' hos hk => ?_
  have e : ((ns.filter fun _ => true).all fun _ => true) = true := by simp
  rw [e]
  exact hQ s' F' (News.kept N hle hk) G' hos
end
end Mine
end
section
open PySem PySem.W PyProof.Rows PySem.Calls
set_option maxRecDepth 100000
namespace Mine
theorem classed (P : Params) : kb_classed (hd.heap_39 P) = true := by kernel_rfl!
end Mine
namespace Mine
noncomputable def Same (a b : List Int) : Prop := a = b
theorem roots_pack {us : List Value} (I : IntsAre us rootsL) : ∃ R : List Int, Same R rootsL ∧ R.length = 128 ∧ IntsAre us R := ⟨rootsL, rfl, rootsL_length, I⟩
end Mine
end
section
open PySem PySem.W PyProof.Rows
set_option maxRecDepth 100000
namespace Mine
/-! finite sums of ints, and equality modulo 3329 -/
noncomputable def S : Nat → (Nat → Int) → Int
  | 0, _ => 0
  | n + 1, f => S n f + f n
theorem S_congr {n : Nat} {f g : Nat → Int} (h : ∀ i, i < n → f i = g i) : S n f = S n g := by
  induction n with
  | zero => rfl
  | succ n ih => rw [S, S, ih fun i hi => h i (by omega), h n (by omega)]
theorem S_add (n : Nat) (f g : Nat → Int) : S n (fun i => f i + g i) = S n f + S n g := by
  induction n with
  | zero => rfl
  | succ n ih => rw [S, S, S, ih]; omega
theorem S_mul (n : Nat) (c : Int) (f : Nat → Int) : S n (fun i => c * f i) = c * S n f := by
  induction n with
  | zero => simp [S]
  | succ n ih => rw [S, S, ih, Int.mul_add]
theorem S_mulr (n : Nat) (c : Int) (f : Nat → Int) : S n (fun i => f i * c) = S n f * c := by
  induction n with
  | zero => simp [S]
  | succ n ih => rw [S, S, ih, Int.add_mul]
theorem S_zero (n : Nat) : S n (fun _ => 0) = 0 := by
  induction n with
  | zero => rfl
  | succ n ih => rw [S, ih]; rfl
theorem S_swap (n m : Nat) (f : Nat → Nat → Int) : S n (fun i => S m (fun j => f i j)) = S m (fun j => S n (fun i => f i j)) := by
  induction n with
  | zero => simp only [S]; exact (S_zero m).symm
  | succ n ih => simp only [S]; rw [ih, ← S_add]
theorem S_split (n : Nat) (f : Nat → Int) : S (2 * n) f = S n (fun i => f (2 * i) + f (2 * i + 1)) := by
  induction n with
  | zero => rfl
  | succ n ih => rw [S, ← ih, show 2 * (n + 1) = 2 * n + 1 + 1 by omega, S, S]; omega
theorem S_one {n : Nat} {f : Nat → Int} {k : Nat} (hk : k < n) (h : ∀ i, i < n → i ≠ k → f i = 0) : S n f = f k := by
  induction n with
  | zero => omega
  | succ n ih =>
    rw [S]
    by_cases e : k = n
    · subst e
      rw [S_congr (g := fun _ => 0) fun i hi => h i (by omega) (by omega), S_zero]; omega
    · rw [ih (by omega) (fun i hi hn => h i (by omega) hn), h n (by omega) (by omega)]; omega
noncomputable def M (a b : Int) : Prop := a % 3329 = b % 3329
theorem M.refl (a : Int) : M a a := rfl
theorem M.of_eq {a b : Int} (h : a = b) : M a b := congrArg (· % 3329) h
theorem M.symm {a b : Int} (h : M a b) : M b a := Eq.symm h
theorem M.trans {a b c : Int} (h : M a b) (k : M b c) : M a c := Eq.trans h k
theorem M.add {a b c d : Int} (h : M a b) (k : M c d) : M (a + c) (b + d) := by
  unfold M at *
  omega
theorem M.sub {a b c d : Int} (h : M a b) (k : M c d) : M (a - c) (b - d) := by
  unfold M at *
  omega
theorem M.neg {a b : Int} (h : M a b) : M (-a) (-b) := by
  unfold M at *
  omega
theorem M.mul {a b c d : Int} (h : M a b) (k : M c d) : M (a * c) (b * d) := by
  unfold M at *
  rw [Int.mul_emod, h, k, ← Int.mul_emod]
theorem M.pow {a b : Int} (h : M a b) : ∀ n : Nat, M (a ^ n) (b ^ n)
  | 0 => M.of_eq (by rw [Int.pow_zero, Int.pow_zero])
  | n + 1 => by rw [Int.pow_succ, Int.pow_succ]; exact (M.pow h n).mul h
theorem M.S {n : Nat} {f g : Nat → Int} (h : ∀ i, i < n → M (f i) (g i)) : M (Mine.S n f) (Mine.S n g) := by
  induction n with
  | zero => rfl
  | succ n ih => exact (ih fun i hi => h i (by omega)).add (h n (by omega))
theorem M.mod (a : Int) : M (a % 3329) a := Int.emod_emod_of_dvd a (Int.dvd_refl _)
theorem M.fmod (a : Int) : M (a.fmod 3329) a := by
  rw [Int.fmod_eq_emod_of_nonneg _ (by decide)]; exact M.mod a
theorem M.fin {a b : Int} (h : M a b) : a.fmod 3329 = b.fmod 3329 := by
  rw [Int.fmod_eq_emod_of_nonneg _ (by decide), Int.fmod_eq_emod_of_nonneg _ (by decide)]; exact h
/-! the roots -/
noncomputable def zt (k : Nat) : Int := zetasL.getD k 0
noncomputable def rt (k : Nat) : Int := if k % 2 = 0 then zt (k / 2) else -zt (k / 2)
theorem zt_sq : ∀ k, k < 128 → 1 ≤ k → M (zt k * zt k) (rt k) := by unfold M; decide +kernel
theorem rt_roots : ∀ i, i < 128 → M (rt (128 + i)) (rootsL.getD i 0) := by unfold M; decide +kernel
theorem rt_one : M (rt 1) (-1) := by unfold M; decide +kernel
theorem rt_even (k : Nat) : rt (2 * k) = zt k := by
  unfold rt; rw [if_pos (by omega), show 2 * k / 2 = k by omega]
theorem rt_odd (k : Nat) : rt (2 * k + 1) = -zt k := by
  unfold rt; rw [if_neg (by omega), show (2 * k + 1) / 2 = k by omega]
theorem pow_two_mul (x : Int) (m : Nat) : x ^ (2 * m) = (x * x) ^ m := by
  rw [Int.pow_mul, show x ^ 2 = x * x by rw [Int.pow_succ, Int.pow_succ, Int.pow_zero, Int.one_mul]]
end Mine
end
section
open PySem PySem.W PyProof.Rows
set_option maxRecDepth 100000
namespace Mine
theorem rangeKs_succ (a : Int) (n : Nat) : rangeKs a (n + 1) = rangeKs a n ++ [a + (n : Int)] := by
  unfold rangeKs
  rw [List.range_succ, List.map_append, List.map_singleton]
theorem gset {C : List Int} {i : Nat} (h : i < C.length) (v : Int) (j : Nat) : (C.set i v).getD j 0 = if j = i then v else C.getD j 0 := by
  rw [List.getD_eq_getElem?_getD, List.getElem?_set]
  by_cases e : i = j
  · subst e; simp [h]
  · rw [if_neg e, if_neg (fun q => e q.symm), List.getD_eq_getElem?_getD]
theorem bf_get {z : Int} {n j : Nat} {C : List Int} (hn : 0 < n) (h : j + n < C.length) (i : Nat) :
    (bf z n C j).getD i 0 = if i = j then C.getD j 0 + z * C.getD (j + n) 0 else if i = j + n then C.getD j 0 - z * C.getD (j + n) 0 else C.getD i 0 := by
  have e1 : ((j : Int) + (n : Int)).toNat = j + n := by omega
  unfold bf
  simp only [e1, Int.toNat_natCast]
  rw [gset (by rw [List.length_set]; omega), gset h, gset h]
  rw [if_neg (show ¬ j = j + n by omega)]
/-- a part of a block -/
theorem fold_get {z : Int} {n st : Nat} {C : List Int} (h : st + 2 * n ≤ C.length) : ∀ p, p ≤ n → ∀ i,
    ((rangeKs st p).foldl (bf z n) C).getD i 0 = if st ≤ i ∧ i < st + p then C.getD i 0 + z * C.getD (i + n) 0 else if st + n ≤ i ∧ i < st + n + p then C.getD (i - n) 0 - z * C.getD i 0 else C.getD i 0
  | 0, _, i => by
    rw [if_neg (by omega), if_neg (by omega)]; simp [rangeKs]
  | p + 1, hp, i => by
    have ih := fold_get (z := z) h p (by omega)
    have hc : ((st : Int) + (p : Int)) = ((st + p : Nat) : Int) := by omega
    rw [rangeKs_succ, List.foldl_append, List.foldl_cons, List.foldl_nil, hc, bf_get (by omega) (by rw [foldl_bf_length]; omega), ih i, ih (st + p), ih (st + p + n)]
    rw [if_neg (show ¬(st ≤ st + p ∧ st + p < st + p) by omega), if_neg (show ¬(st + n ≤ st + p ∧ st + p < st + n + p) by omega), if_neg (show ¬(st ≤ st + p + n ∧ st + p + n < st + p) by omega), if_neg (show ¬(st + n ≤ st + p + n ∧ st + p + n < st + n + p) by omega)]
    by_cases h1 : i = st + p
    · subst h1
      rw [if_pos rfl, if_pos (by omega)]
    · rw [if_neg h1]
      by_cases h2 : i = st + p + n
      · subst h2
        rw [if_pos rfl, if_neg (by omega), if_pos (by omega), show st + p + n - n = st + p by omega]
      · rw [if_neg h2]
        by_cases h3 : st ≤ i ∧ i < st + p
        · rw [if_pos h3, if_pos (by omega)]
        · rw [if_neg h3, if_neg (show ¬(st ≤ i ∧ i < st + (p + 1)) by omega)]
          by_cases h4 : st + n ≤ i ∧ i < st + n + p
          · rw [if_pos h4, if_pos (by omega)]
          · rw [if_neg h4, if_neg (by omega)]
theorem blk_get {z : Int} {n st : Nat} {C : List Int} (h : st + 2 * n ≤ C.length) (i : Nat) :
    (blk z n st C).getD i 0 = if st ≤ i ∧ i < st + n then C.getD i 0 + z * C.getD (i + n) 0 else if st + n ≤ i ∧ i < st + n + n then C.getD (i - n) 0 - z * C.getD i 0 else C.getD i 0 := by
  unfold blk
  rw [Int.toNat_natCast]
  exact fold_get h n (Nat.le_refl n) i
theorem inner_get {zs : List Int} {n k0 : Nat} {C : List Int} : ∀ b, 2 * n * b ≤ C.length →
    (∀ c j, c < b → j < n → (inner zs n k0 b C).getD (2 * n * c + j) 0 = C.getD (2 * n * c + j) 0 + zs.getD (k0 + c) 0 * C.getD (2 * n * c + (n + j)) 0 ∧
      (inner zs n k0 b C).getD (2 * n * c + (n + j)) 0 = C.getD (2 * n * c + j) 0 - zs.getD (k0 + c) 0 * C.getD (2 * n * c + (n + j)) 0) ∧
    ∀ i, 2 * n * b ≤ i → (inner zs n k0 b C).getD i 0 = C.getD i 0
  | 0, _ => ⟨fun c j hc => by omega, fun i _ => rfl⟩
  | b + 1, hb => by
    have hs : 2 * n * (b + 1) = 2 * n * b + 2 * n := Nat.mul_succ _ _
    obtain ⟨i1, i2⟩ := inner_get (zs := zs) (n := n) (k0 := k0) (C := C) b (by omega)
    have hl : (inner zs n k0 b C).length = C.length := inner_length _ _ _ _ _
    have e1 : ((k0 : Int) + (b : Int)).toNat = k0 + b := by omega
    have e2 : (2 * (n : Int) * (b : Int)) = ((2 * n * b : Nat) : Int) := by push_cast; rfl
    have g := blk_get (z := zs.getD (k0 + b) 0) (n := n) (st := 2 * n * b) (C := inner zs n k0 b C) (by omega)
    unfold inner
    rw [e1, e2]
    refine ⟨fun c j hc hj => ?_, fun i hi => ?_⟩
    · by_cases h : c = b
      · subst h
        rw [g, g, if_pos (by omega), if_neg (by omega), if_pos (by omega), show 2 * n * c + (n + j) - n = 2 * n * c + j by omega, show 2 * n * c + j + n = 2 * n * c + (n + j) by omega,
          i2 (2 * n * c + j) (by omega), i2 (2 * n * c + (n + j)) (by omega)]
        exact ⟨rfl, rfl⟩
      · have hm : 2 * n * (c + 1) ≤ 2 * n * b := Nat.mul_le_mul_left _ (by omega)
        have hm' : 2 * n * (c + 1) = 2 * n * c + 2 * n := Nat.mul_succ _ _
        rw [g, g, if_neg (by omega), if_neg (by omega), if_neg (by omega), if_neg (by omega)]
        exact i1 c j (by omega) hj
    · rw [g, if_neg (by omega), if_neg (by omega), i2 _ (by omega)]
/-- the polynomial's sum at a node -/
noncomputable def nodeS (F : List Int) (t L j : Nat) (y : Int) : Int := S (2 ^ t) (fun m => F.getD (m * L + j) 0 * y ^ m)
theorem node_split {F : List Int} {t n j : Nat} {x y : Int} (h : M (x * x) y) : M (nodeS F (t + 1) n j x) (nodeS F t (2 * n) j y + x * nodeS F t (2 * n) (n + j) y) := by
  unfold nodeS
  rw [Nat.pow_succ, Nat.mul_comm, S_split, ← S_mul, ← S_add]
  refine M.S fun i _ => ?_
  have a1 : 2 * i * n + j = i * (2 * n) + j := by rw [Nat.mul_comm 2 i, Nat.mul_assoc]
  have a2 : (2 * i + 1) * n + j = i * (2 * n) + (n + j) := by rw [Nat.add_mul, Nat.mul_comm 2 i, Nat.mul_assoc]; omega
  rw [a1, a2, Int.pow_succ, pow_two_mul]
  refine ((M.refl _).mul (h.pow i)).add ?_
  have : F.getD (i * (2 * n) + (n + j)) 0 * ((x * x) ^ i * x) = x * (F.getD (i * (2 * n) + (n + j)) 0 * (x * x) ^ i) := by
    rw [← Int.mul_assoc, Int.mul_comm _ x]
  rw [this]
  exact (M.refl _).mul ((M.refl _).mul (h.pow i))
noncomputable def LayerOK (F A : List Int) (t : Nat) : Prop := ∀ b j, b < 2 ^ t → j < 2 ^ (8 - t) → M (A.getD (b * 2 ^ (8 - t) + j) 0) (nodeS F t (2 ^ (8 - t)) j (rt (2 ^ t + b)))
theorem layer_step {F A : List Int} {t : Nat} (ht : t < 7) (hl : A.length = 256) (h : LayerOK F A t) : LayerOK F (inner zetasL ((2 : Int) ^ (7 - t)) ((2 : Int) ^ t) (2 ^ t) A) (t + 1) := by
  intro b j hb hj
  have e8 : 2 ^ (8 - t) = 2 * 2 ^ (7 - t) := by rw [show 8 - t = 7 - t + 1 by omega, Nat.pow_succ, Nat.mul_comm]
  have e7 : 8 - (t + 1) = 7 - t := by omega
  have ep : 2 ^ (t + 1) = 2 * 2 ^ t := by rw [Nat.pow_succ, Nat.mul_comm]
  have et : 2 * 2 ^ (7 - t) * 2 ^ t = 256 := by
    rw [← e8, ← Nat.pow_add, show 8 - t + t = 8 by omega]
  have ht2 : 2 ^ t ≤ 64 := Nat.pow_le_pow_right (n := 2) (j := 6) (by decide) (by omega)
  have ht1 : 1 ≤ 2 ^ t := Nat.one_le_two_pow
  unfold LayerOK at h
  rw [e8] at h
  rw [e7] at hj ⊢
  rw [ep] at hb ⊢
  have c1 : ((2 : Int) ^ (7 - t)) = ((2 ^ (7 - t) : Nat) : Int) := by push_cast; rfl
  have c2 : ((2 : Int) ^ t) = ((2 ^ t : Nat) : Int) := by push_cast; rfl
  rw [c1, c2]
  obtain ⟨g, _⟩ := inner_get (zs := zetasL) (n := 2 ^ (7 - t)) (k0 := 2 ^ t) (C := A) (2 ^ t) (by omega)
  obtain ⟨n, hn⟩ : ∃ n, 2 ^ (7 - t) = n := ⟨_, rfl⟩
  obtain ⟨p, hp⟩ : ∃ p, 2 ^ t = p := ⟨_, rfl⟩
  rw [hn, hp] at h g
  rw [hn] at hj ⊢
  rw [hp] at hb ht1 ht2 ⊢
  obtain ⟨c, hc⟩ : ∃ c, b = 2 * c ∨ b = 2 * c + 1 := ⟨b / 2, by omega⟩
  have hcp : c < p := by omega
  have g1 := (g c j hcp hj).1
  have g2 := (g c j hcp hj).2
  have q1 := h c j hcp (by omega)
  have q2 := h c (n + j) hcp (by omega)
  have sq := zt_sq (p + c) (by omega) (by omega)
  have r1 : c * (2 * n) + j = 2 * n * c + j := by rw [Nat.mul_comm]
  have r2 : c * (2 * n) + (n + j) = 2 * n * c + (n + j) := by rw [Nat.mul_comm]
  rw [r1] at q1
  rw [r2] at q2
  rcases hc with rfl | rfl
  · have r3 : 2 * c * n + j = 2 * n * c + j := by rw [Nat.mul_right_comm]
    rw [r3, g1, show 2 * p + 2 * c = 2 * (p + c) by omega, rt_even]
    exact (q1.add ((M.refl _).mul q2)).trans (node_split sq).symm
  · have r3 : (2 * c + 1) * n + j = 2 * n * c + (n + j) := by rw [Nat.add_mul, Nat.mul_right_comm]; omega
    rw [r3, g2, show 2 * p + (2 * c + 1) = 2 * (p + c) + 1 by omega, rt_odd]
    have sq' : M (-zt (p + c) * -zt (p + c)) (rt (p + c)) := by rw [Int.neg_mul_neg]; exact sq
    refine M.trans (q1.sub ((M.refl _).mul q2)) (M.trans (M.of_eq ?_) (node_split sq').symm)
    rw [Int.neg_mul]; rfl
theorem layer_zero (F : List Int) : LayerOK F F 0 := by
  intro b j hb hj
  have : b = 0 := by omega
  subst this
  refine M.of_eq ?_
  simp [nodeS, S]
theorem layers_ok (F : List Int) (hl : F.length = 256) : ∀ t, t ≤ 7 → LayerOK F (layers zetasL t F) t
  | 0, _ => layer_zero F
  | t + 1, h => by
    unfold layers
    exact layer_step (by omega) (by rw [layers_length, hl]) (layers_ok F hl t (by omega))
/-- the transform: place 2 i + j is the sum over the even (odd) places at the root of i -/
theorem ntt_ok {F : List Int} (hl : F.length = 256) {i j : Nat} (hi : i < 128) (hj : j < 2) : M ((ntt zetasL F).getD (2 * i + j) 0) (S 128 (fun m => F.getD (2 * m + j) 0 * rt (128 + i) ^ m)) := by
  have h := layers_ok F hl 7 (by omega) i j hi hj
  have e : (ntt zetasL F).getD (2 * i + j) 0 = (layers zetasL 7 F).getD (2 * i + j) 0 % 3329 := by
    have hb : 2 * i + j < (layers zetasL 7 F).length := by rw [layers_length, hl]; omega
    unfold ntt modAll
    rw [List.getD_eq_getElem?_getD, List.getElem?_map, List.getElem?_eq_getElem hb, List.getD_eq_getElem?_getD, List.getElem?_eq_getElem hb]; rfl
  rw [e]
  refine (M.mod _).trans ?_
  have h' : M ((layers zetasL 7 F).getD (i * 2 + j) 0) (S 128 (fun m => F.getD (m * 2 + j) 0 * rt (128 + i) ^ m)) := h
  rw [Nat.mul_comm] at h'
  refine h'.trans (M.of_eq (S_congr fun m _ => ?_))
  rw [Nat.mul_comm m 2]
end Mine
end
section
open PySem PySem.W PyProof.Rows
set_option maxRecDepth 100000
namespace Mine
theorem flat4 {g : Int → List Int} (hg : ∀ k, (g k).length = 4) : ∀ n : Nat, ((rangeKs 0 n).flatMap g).length = 4 * n
  | 0 => rfl
  | n + 1 => by rw [rangeKs_succ, List.flatMap_append, List.length_append, flat4 hg n]; simp [hg]; omega
theorem flat4_get {g : Int → List Int} (hg : ∀ k, (g k).length = 4) : ∀ n i d : Nat, i < n → d < 4 → ((rangeKs 0 n).flatMap g).getD (4 * i + d) 0 = (g i).getD d 0
  | 0, i, d, hi, _ => absurd hi (by omega)
  | n + 1, i, d, hi, hd => by
    have hl := flat4 hg n
    rw [rangeKs_succ, List.flatMap_append, List.getD_eq_getElem?_getD]
    by_cases h : i = n
    · subst h
      rw [List.getElem?_append_right (by omega), hl, show 4 * i + d - 4 * i = d by omega, List.getD_eq_getElem?_getD]
      simp
    · rw [List.getElem?_append_left (by omega), ← List.getD_eq_getElem?_getD]
      exact flat4_get hg n i d (by omega) hd
theorem mul_even {A B : List Int} {i : Nat} (hi : i < 128) : M ((mulL zetasL A B).getD (2 * i) 0) (A.getD (2 * i) 0 * B.getD (2 * i) 0 + rt (128 + i) * (A.getD (2 * i + 1) 0 * B.getD (2 * i + 1) 0)) := by
  have g := flat4_get (g := mulStep zetasL A B) (fun _ => rfl) 64
  obtain ⟨c, hc⟩ : ∃ c, i = 2 * c ∨ i = 2 * c + 1 := ⟨i / 2, by omega⟩
  have n0 : (4 * (c : Int) + 0).toNat = 4 * c := by omega
  have n1 : (4 * (c : Int) + 1).toNat = 4 * c + 1 := by omega
  have n2 : (4 * (c : Int) + 2).toNat = 4 * c + 2 := by omega
  have n3 : (4 * (c : Int) + 3).toNat = 4 * c + 3 := by omega
  have n4 : (64 + (c : Int)).toNat = 64 + c := by omega
  rcases hc with rfl | rfl
  · have := g c 0 (by omega) (by omega)
    rw [show 2 * (2 * c) = 4 * c by omega, show 128 + 2 * c = 2 * (64 + c) by omega, rt_even]
    rw [Nat.add_zero] at this
    unfold mulL
    rw [this]
    show M ((_ : Int).fmod 3329) _
    rw [n0, n1, n4]
    refine (M.fmod _).trans (M.of_eq ?_)
    rw [Int.mul_assoc]; rfl
  · have := g c 2 (by omega) (by omega)
    rw [show 2 * (2 * c + 1) = 4 * c + 2 by omega, show 128 + (2 * c + 1) = 2 * (64 + c) + 1 by omega, rt_odd]
    unfold mulL
    rw [this]
    show M ((_ : Int).fmod 3329) _
    rw [n2, n3, n4]
    refine (M.fmod _).trans (M.of_eq ?_)
    rw [Int.mul_assoc]; rfl
theorem mul_odd {A B : List Int} {i : Nat} (hi : i < 128) : M ((mulL zetasL A B).getD (2 * i + 1) 0) (A.getD (2 * i + 1) 0 * B.getD (2 * i) 0 + A.getD (2 * i) 0 * B.getD (2 * i + 1) 0) := by
  have g := flat4_get (g := mulStep zetasL A B) (fun _ => rfl) 64
  obtain ⟨c, hc⟩ : ∃ c, i = 2 * c ∨ i = 2 * c + 1 := ⟨i / 2, by omega⟩
  have n0 : (4 * (c : Int) + 0).toNat = 4 * c := by omega
  have n1 : (4 * (c : Int) + 1).toNat = 4 * c + 1 := by omega
  have n2 : (4 * (c : Int) + 2).toNat = 4 * c + 2 := by omega
  have n3 : (4 * (c : Int) + 3).toNat = 4 * c + 3 := by omega
  rcases hc with rfl | rfl
  · have := g c 1 (by omega) (by omega)
    rw [show 2 * (2 * c) = 4 * c by omega]
    unfold mulL
    rw [this]
    show M ((_ : Int).fmod 3329) _
    rw [n0, n1]
    exact M.fmod _
  · have := g c 3 (by omega) (by omega)
    rw [show 2 * (2 * c + 1) = 4 * c + 2 by omega]
    unfold mulL
    rw [show 4 * c + 2 + 1 = 4 * c + 3 by omega, this]
    show M ((_ : Int).fmod 3329) _
    rw [n2, n3]
    exact M.fmod _
/-! power sums of the roots -/
noncomputable def W (t k : Nat) : Int := S (2 ^ t) (fun b => rt (2 ^ t + b) ^ k)
theorem neg_pow_odd (x : Int) (m : Nat) : (-x) ^ (2 * m + 1) = -x ^ (2 * m + 1) := by
  rw [Int.pow_succ, Int.pow_succ, pow_two_mul, pow_two_mul, Int.neg_mul_neg, Int.mul_neg]
theorem W_odd (t m : Nat) : W (t + 1) (2 * m + 1) = 0 := by
  unfold W
  rw [Nat.pow_succ, Nat.mul_comm, S_split, S_congr (g := fun _ => 0), S_zero]
  intro i _
  rw [show 2 * 2 ^ t + 2 * i = 2 * (2 ^ t + i) by omega, show 2 * 2 ^ t + (2 * i + 1) = 2 * (2 ^ t + i) + 1 by omega, rt_even, rt_odd, neg_pow_odd]
  omega
theorem W_even {t : Nat} (ht : t < 7) (m : Nat) : M (W (t + 1) (2 * m)) (2 * W t m) := by
  have ht2 : 2 ^ t ≤ 64 := Nat.pow_le_pow_right (n := 2) (j := 6) (by decide) (by omega)
  have ht1 : 1 ≤ 2 ^ t := Nat.one_le_two_pow
  unfold W
  rw [Nat.pow_succ, Nat.mul_comm (2 ^ t) 2, S_split, ← S_mul]
  refine M.S fun i hi => ?_
  rw [show 2 * 2 ^ t + 2 * i = 2 * (2 ^ t + i) by omega, show 2 * 2 ^ t + (2 * i + 1) = 2 * (2 ^ t + i) + 1 by omega, rt_even, rt_odd, pow_two_mul, pow_two_mul, Int.neg_mul_neg]
  have := (zt_sq (2 ^ t + i) (by omega) (by omega)).pow m
  refine (this.add this).trans (M.of_eq ?_)
  omega
theorem W_zero (k : Nat) : M (W 0 k) ((-1) ^ k) := by
  show M (S 1 _) _
  show M (0 + rt (1 + 0) ^ k) _
  rw [Int.zero_add, Nat.add_zero]
  exact rt_one.pow k
theorem W_off : ∀ t k, t ≤ 7 → k % 2 ^ t ≠ 0 → M (W t k) 0
  | 0, k, _, h => absurd (Nat.mod_one k) h
  | t + 1, k, ht, h => by
    obtain ⟨m, hm⟩ : ∃ m, k = 2 * m ∨ k = 2 * m + 1 := ⟨k / 2, by omega⟩
    rcases hm with rfl | rfl
    · refine (W_even (by omega) m).trans ?_
      have : m % 2 ^ t ≠ 0 := by
        intro q
        refine h ?_
        rw [Nat.pow_succ, Nat.mul_comm (2 ^ t) 2, Nat.mul_mod_mul_left, q]
      exact (M.mul (M.refl 2) (W_off t m (by omega) this)).trans (M.of_eq rfl)
    · exact M.of_eq (W_odd t m)
theorem W_on : ∀ t k, t ≤ 7 → M (W t (2 ^ t * k)) (2 ^ t * (-1) ^ k)
  | 0, k, _ => by
    rw [Nat.pow_zero, Nat.one_mul]
    exact (W_zero k).trans (M.of_eq (by rw [Int.pow_zero, Int.one_mul]))
  | t + 1, k, ht => by
    rw [Nat.pow_succ, Nat.mul_comm (2 ^ t) 2, Nat.mul_assoc]
    refine (W_even (by omega) _).trans ((M.mul (M.refl 2) (W_on t k (by omega))).trans (M.of_eq ?_))
    rw [Int.pow_succ, ← Int.mul_assoc, Int.mul_comm _ 2]
noncomputable def rr (i : Nat) : Int := rootsL.getD i 0
noncomputable def RS (k : Nat) : Int := S 128 (fun i => rr i ^ k)
theorem RS_W (k : Nat) : M (RS k) (W 7 k) := M.S fun i hi => ((rt_roots i hi).symm).pow k
theorem RS_off {k : Nat} (h : k % 128 ≠ 0) : M (RS k) 0 := (RS_W k).trans (W_off 7 k (by omega) h)
theorem RS_256 : M (RS 256) 128 := (RS_W _).trans ((W_on 7 2 (by omega)).trans (M.of_eq rfl))
theorem RS_384 : M (RS 384) (-128) := (RS_W _).trans ((W_on 7 3 (by omega)).trans (M.of_eq rfl))
/-- the other factor's number that stands with X ^ a (X ^ (a + 1) if c) at X ^ m -/
noncomputable def pick (V : Nat → Int) (m a c : Nat) : Int := if a + c ≤ m then V (m - (a + c)) else -V (128 + m - (a + c))
theorem pick_sum {V : Nat → Int} {m a c : Nat} (hm : m < 128) (ha : a < 128) (hc : c ≤ 1) : M (S 128 (fun b => V b * RS (a + b + c + (256 - m)))) (128 * pick V m a c) := by
  unfold pick
  by_cases h : a + c ≤ m
  · rw [if_pos h]
    have : M (S 128 (fun b => V b * RS (a + b + c + (256 - m)))) (S 128 (fun b => if b = m - (a + c) then 128 * V b else 0)) := by
      refine M.S fun b hb => ?_
      by_cases e : b = m - (a + c)
      · rw [if_pos e, show a + b + c + (256 - m) = 256 by omega, Int.mul_comm]
        exact RS_256.mul (M.refl _)
      · rw [if_neg e]
        exact ((M.refl _).mul (RS_off (by omega))).trans (M.of_eq (Int.mul_zero _))
    refine this.trans (M.of_eq ?_)
    rw [S_one (k := m - (a + c)) (by omega) (fun i _ q => if_neg q), if_pos rfl]
  · rw [if_neg h]
    have : M (S 128 (fun b => V b * RS (a + b + c + (256 - m)))) (S 128 (fun b => if b = 128 + m - (a + c) then 128 * -V b else 0)) := by
      refine M.S fun b hb => ?_
      by_cases e : b = 128 + m - (a + c)
      · rw [if_pos e, show a + b + c + (256 - m) = 384 by omega, Int.mul_comm]
        refine (RS_384.mul (M.refl _)).trans (M.of_eq ?_)
        omega
      · rw [if_neg e]
        exact ((M.refl _).mul (RS_off (by omega))).trans (M.of_eq (Int.mul_zero _))
    refine this.trans (M.of_eq ?_)
    rw [S_one (k := 128 + m - (a + c)) (by omega) (fun i _ q => if_neg q), if_pos rfl]
noncomputable def ev (U : Nat → Int) (i : Nat) : Int := S 128 (fun a => U a * rr i ^ a)
theorem conv {U V : Nat → Int} {m c : Nat} (hm : m < 128) (hc : c ≤ 1) :
    M (S 128 (fun i => ev U i * ev V i * rr i ^ c * rr i ^ (256 - m))) (128 * S 128 (fun a => U a * pick V m a c)) := by
  have e : S 128 (fun i => ev U i * ev V i * rr i ^ c * rr i ^ (256 - m)) = S 128 (fun a => U a * S 128 (fun b => V b * RS (a + b + c + (256 - m)))) := by
    have e1 : ∀ i, ev U i * ev V i * rr i ^ c * rr i ^ (256 - m) = S 128 (fun a => S 128 (fun b => U a * (V b * rr i ^ (a + b + c + (256 - m))))) := by
      intro i
      have e2 : ∀ a b, U a * (V b * rr i ^ (a + b + c + (256 - m))) = (U a * rr i ^ a) * ((V b * rr i ^ b) * (rr i ^ c * rr i ^ (256 - m))) := by
        intro a b
        rw [Int.pow_add, Int.pow_add, Int.pow_add]
        grind
      rw [S_congr (g := fun a => (U a * rr i ^ a) * (ev V i * (rr i ^ c * rr i ^ (256 - m))))]
      · rw [S_mulr]
        show _ = ev U i * _
        grind
      · intro a _
        rw [S_congr fun b _ => e2 a b, S_mul, S_mulr]; rfl
    rw [S_congr fun i _ => e1 i, S_swap]
    refine S_congr fun a _ => ?_
    rw [S_swap, ← S_mul]
    refine S_congr fun b _ => ?_
    rw [S_mul, S_mul]; rfl
  rw [e, ← S_mul]
  refine M.S fun a ha => ?_
  refine ((M.refl _).mul (pick_sum hm ha hc)).trans (M.of_eq ?_)
  grind
end Mine
end
section
open PySem PySem.W PyProof.Rows
set_option maxRecDepth 100000
namespace Mine
theorem pow_fold (b e m : Nat) : ∀ (n : Nat), (List.range n).reverse.foldl (fun p i => if e.testBit i then p * p % m * b % m else p * p % m) (b ^ (e / 2 ^ n) % m) = b ^ e % m
  | 0 => by simp
  | n + 1 => by
    rw [List.range_succ, List.reverse_append, List.reverse_singleton, List.singleton_append, List.foldl_cons]
    have hd : e / 2 ^ n = 2 * (e / 2 ^ (n + 1)) + (e.testBit n).toNat := by
      rw [Nat.toNat_testBit, Nat.pow_succ, ← Nat.div_div_eq_div_mul]; omega
    have hp : (if e.testBit n = true then b ^ (e / 2 ^ (n + 1)) % m * (b ^ (e / 2 ^ (n + 1)) % m) % m * b % m else b ^ (e / 2 ^ (n + 1)) % m * (b ^ (e / 2 ^ (n + 1)) % m) % m) = b ^ (e / 2 ^ n) % m := by
      rw [← Nat.mul_mod, ← Nat.pow_add, hd]
      cases e.testBit n with
      | true => rw [if_pos rfl, Nat.mod_mul_mod]; congr 1; rw [← Nat.pow_succ]; congr 1; simp; omega
      | false => rw [if_neg Bool.false_ne_true]; congr 2; simp; omega
    rw [hp]
    exact pow_fold b e m n
theorem powMod_eq (b e m : Nat) : Builtin.powMod b e m = b ^ e % m := by
  unfold Builtin.powMod
  have h := pow_fold b e m (Builtin.Int.intBits (e : Int))
  have hz : e / 2 ^ (Builtin.Int.intBits (e : Int)) = 0 := Nat.div_eq_of_lt (by simpa using intBits_le_iff.mp (Nat.le_refl (Builtin.Int.intBits (e : Int))))
  rw [hz, Nat.pow_zero] at h
  exact h
theorem pm_M (b : Int) {e : Int} (n : Nat) (he : e = n) : M (pm b e) (b ^ n) := by
  subst he
  unfold pm
  rw [powMod_eq, Int.natAbs_natCast]
  push_cast
  refine (M.mod _).trans ?_
  have hb : ((b % 3329).toNat : Int) = b % 3329 := Int.toNat_of_nonneg (Int.emod_nonneg _ (by decide))
  rw [hb]
  exact (M.mod b).pow n
theorem fold_S {g : Int → Int} {st : Int → Int → Int} (h : ∀ a i, st a i = a + g i) : ∀ n : Nat, (rangeKs 0 n).foldl st 0 = S n (fun i => g i)
  | 0 => rfl
  | n + 1 => by rw [rangeKs_succ, List.foldl_append, fold_S h n, List.foldl_cons, List.foldl_nil, h, Int.zero_add]; rfl
/-- a list's even (odd) places -/
noncomputable def pt (F : List Int) (d a : Nat) : Int := F.getD (2 * a + d) 0
theorem ntt_ev {F : List Int} (hl : F.length = 256) {i d : Nat} (hi : i < 128) (hd : d < 2) : M ((ntt zetasL F).getD (2 * i + d) 0) (ev (pt F d) i) :=
  (ntt_ok hl hi hd).trans (M.S fun m _ => (M.refl _).mul ((rt_roots i hi).pow m))
theorem prod_even {F G : List Int} (hF : F.length = 256) (hG : G.length = 256) {i : Nat} (hi : i < 128) :
    M ((mulL zetasL (ntt zetasL F) (ntt zetasL G)).getD (2 * i) 0) (ev (pt F 0) i * ev (pt G 0) i + ev (pt F 1) i * ev (pt G 1) i * rr i) := by
  refine (mul_even hi).trans (((ntt_ev hF hi (d := 0) (by omega)).mul (ntt_ev hG hi (d := 0) (by omega))).add ?_)
  refine ((rt_roots i hi).mul ((ntt_ev hF hi (d := 1) (by omega)).mul (ntt_ev hG hi (d := 1) (by omega)))).trans (M.of_eq ?_)
  rw [Int.mul_comm]; rfl
theorem prod_odd {F G : List Int} (hF : F.length = 256) (hG : G.length = 256) {i : Nat} (hi : i < 128) :
    M ((mulL zetasL (ntt zetasL F) (ntt zetasL G)).getD (2 * i + 1) 0) (ev (pt F 1) i * ev (pt G 0) i + ev (pt F 0) i * ev (pt G 1) i) :=
  (mul_odd hi).trans (((ntt_ev hF hi (d := 1) (by omega)).mul (ntt_ev hG hi (d := 0) (by omega))).add ((ntt_ev hF hi (d := 0) (by omega)).mul (ntt_ev hG hi (d := 1) (by omega))))
/-- the plain sum's turn -/
noncomputable def pl (F G : List Int) (spot j : Nat) : Int := if j ≤ spot then F.getD j 0 * G.getD (spot - j) 0 else -(F.getD j 0 * G.getD (256 + spot - j) 0)
theorem plain_S {F G : List Int} {spot : Nat} : (rangeKs 0 256).foldl (plainStep F G spot) 0 = S 256 (pl F G spot) := by
  rw [fold_S (g := fun j => if j ≤ (spot : Int) then F.getD j.toNat 0 * G.getD ((spot : Int) - j).toNat 0 else -(F.getD j.toNat 0 * G.getD (256 + (spot : Int) - j).toNat 0))]
  · refine S_congr fun j _ => ?_
    unfold pl
    have e1 : ((spot : Int) - (j : Int)).toNat = spot - j := by omega
    have e2 : (256 + (spot : Int) - (j : Int)).toNat = 256 + spot - j := by omega
    simp only [e1, e2, Int.toNat_natCast, Int.ofNat_le]
  · intro a j
    unfold plainStep
    split
    · rfl
    · rw [Int.sub_eq_add_neg]
theorem pl_even {F G : List Int} {m : Nat} (hm : m < 128) : S 256 (pl F G (2 * m)) = S 128 (fun a => pt F 0 a * pick (pt G 0) m a 0) + S 128 (fun a => pt F 1 a * pick (pt G 1) m a 1) := by
  rw [show 256 = 2 * 128 from rfl, S_split, ← S_add]
  refine S_congr fun a ha => ?_
  unfold pl pick pt
  congr 1
  · by_cases h : a ≤ m
    · rw [if_pos (by omega), if_pos (by omega), show 2 * m - 2 * a = 2 * (m - (a + 0)) + 0 by omega]; rfl
    · rw [if_neg (by omega), if_neg (by omega), show 256 + 2 * m - 2 * a = 2 * (128 + m - (a + 0)) + 0 by omega, Int.mul_neg]; rfl
  · by_cases h : a + 1 ≤ m
    · rw [if_pos (by omega), if_pos h, show 2 * m - (2 * a + 1) = 2 * (m - (a + 1)) + 1 by omega]
    · rw [if_neg (by omega), if_neg h, show 256 + 2 * m - (2 * a + 1) = 2 * (128 + m - (a + 1)) + 1 by omega, Int.mul_neg]
theorem pl_odd {F G : List Int} {m : Nat} (hm : m < 128) : S 256 (pl F G (2 * m + 1)) = S 128 (fun a => pt F 1 a * pick (pt G 0) m a 0) + S 128 (fun a => pt F 0 a * pick (pt G 1) m a 0) := by
  rw [show 256 = 2 * 128 from rfl, S_split, ← S_add]
  refine S_congr fun a ha => ?_
  rw [Int.add_comm]
  unfold pl pick pt
  congr 1
  · by_cases h : a ≤ m
    · rw [if_pos (by omega), if_pos (by omega), show 2 * m + 1 - (2 * a + 1) = 2 * (m - (a + 0)) + 0 by omega]
    · rw [if_neg (by omega), if_neg (by omega), show 256 + (2 * m + 1) - (2 * a + 1) = 2 * (128 + m - (a + 0)) + 0 by omega, Int.mul_neg]
  · by_cases h : a ≤ m
    · rw [if_pos (by omega), if_pos (by omega), show 2 * m + 1 - 2 * a = 2 * (m - (a + 0)) + 1 by omega]; rfl
    · rw [if_neg (by omega), if_neg (by omega), show 256 + (2 * m + 1) - 2 * a = 2 * (128 + m - (a + 0)) + 1 by omega, Int.mul_neg]; rfl
theorem law_nat {F G : List Int} (hF : F.length = 256) (hG : G.length = 256) {m d : Nat} (hm : m < 128) (hd : d < 2) :
    M (S 128 (fun i => (mulL zetasL (ntt zetasL F) (ntt zetasL G)).getD (2 * i + d) 0 * rr i ^ (256 - m))) (128 * S 256 (pl F G (2 * m + d))) := by
  have hd' : d = 0 ∨ d = 1 := by omega
  rcases hd' with rfl | rfl
  · have h1 := conv (U := pt F 0) (V := pt G 0) hm (c := 0) (by omega)
    have h2 := conv (U := pt F 1) (V := pt G 1) hm (c := 1) (by omega)
    rw [Nat.add_zero, pl_even hm, Int.mul_add]
    refine M.trans ?_ (h1.add h2)
    rw [← S_add]
    refine M.S fun i hi => ?_
    refine ((prod_even hF hG hi).mul (M.refl _)).trans (M.of_eq ?_)
    rw [Int.pow_zero, Int.pow_succ, Int.pow_zero, Int.add_mul]
    congr 1 <;> simp only [Int.mul_one, Int.one_mul]
  · have h1 := conv (U := pt F 1) (V := pt G 0) hm (c := 0) (by omega)
    have h2 := conv (U := pt F 0) (V := pt G 1) hm (c := 0) (by omega)
    rw [pl_odd hm, Int.mul_add]
    refine M.trans ?_ (h1.add h2)
    rw [← S_add]
    refine M.S fun i hi => ?_
    refine ((prod_odd hF hG hi).mul (M.refl _)).trans (M.of_eq ?_)
    rw [Int.pow_zero, Int.add_mul]
    congr 1 <;> simp only [Int.mul_one]
/-- the law: the last sum is 128 times the plain sum -/
theorem law_eq {F G : List Int} (hF : F.length = 256) (hG : G.length = 256) {sp tot plain : Int} {n k : Nat} (h0 : 0 ≤ sp) (h1 : sp < 256) (hn : n = 128) (hk : k = 256)
    (ht : TotP (mulL zetasL (ntt zetasL F) (ntt zetasL G)) rootsL sp pm (rangeKs 0 n) tot) (hp : PlainP F G sp (rangeKs 0 k) plain) : tot.fmod 3329 = (128 * plain).fmod 3329 := by
  subst hn hk
  obtain ⟨N, rfl⟩ := Int.eq_ofNat_of_zero_le h0
  obtain ⟨m, d, hN, hd⟩ : ∃ m d, N = 2 * m + d ∧ d < 2 := ⟨N / 2, N % 2, by omega, by omega⟩
  have hm : m < 128 := by omega
  unfold PlainP at hp
  unfold TotP at ht
  rw [plain_S] at hp
  rw [fold_S (st := totStep (mulL zetasL (ntt zetasL F) (ntt zetasL G)) rootsL N pm) (g := fun i => (mulL zetasL (ntt zetasL F) (ntt zetasL G)).getD (2 * i + ((N : Int)).fmod 2).toNat 0 * pm (rootsL.getD i.toNat 0) (256 - ((N : Int)).fdiv 2)) (by intro a i; rfl)] at ht
  subst hp ht
  have e1 : ((N : Int)).fmod 2 = d := by rw [Int.fmod_eq_emod_of_nonneg _ (by decide)]; omega
  have e2 : (256 - ((N : Int)).fdiv 2) = ((256 - m : Nat) : Int) := by rw [Int.fdiv_eq_ediv_of_nonneg _ (by decide)]; omega
  refine M.fin (M.trans (M.S fun i hi => ?_) (hN ▸ law_nat hF hG hm hd))
  have e3 : (2 * (i : Int) + ((N : Int)).fmod 2).toNat = 2 * i + d := by rw [e1]; omega
  rw [e3, Int.toNat_natCast]
  exact (M.refl _).mul (pm_M _ (256 - m) e2)
end Mine
end
section
open PySem PySem.W PyProof.Rows PySem.Calls
set_option maxRecDepth 100000
namespace Mine
theorem law_use {F G R : List Int} {x tot plain : Int} {n k : Nat} (ht : TotP (mulL zetasL (ntt zetasL F) (ntt zetasL G)) R (x.fmod 256) pm (rangeKs 0 n) tot) (hp : PlainP F G (x.fmod 256) (rangeKs 0 k) plain)
    (hR : Same R rootsL) (hF : F.length = 256) (hG : G.length = 256) (hn : n = 128) (hk : k = 256) : tot.fmod 3329 = (128 * plain).fmod 3329 := by
  have e : R = rootsL := hR
  subst e
  exact law_eq hF hG (Int.fmod_nonneg_of_pos _ (by decide)) (Int.fmod_lt_of_pos _ (by decide)) hn hk ht hp
section
variable {prog : Program} {w : World} {A : Around} {E : Value → PySem.Shared → Prop} {s : PySem.Shared} {a b : Int} {t u : Tok} {Q : Value → PySem.Shared → Prop}
theorem eq_true (e : a = b) (h : Q (.bool true) s) : PySem.wpAny (model prog w) A (compareOp .Eq (.int a t) (.int b u)) Q E s :=
  PyProof.Rows.eq_int (by rw [beq_iff_eq.mpr e]; exact h)
end
end Mine
end
section
open PySem PySem.W PyProof.Rows PySem.Calls
set_option maxRecDepth 100000
namespace Mine
theorem law_end {ns : List Int} {cl : Str → Option Addr} {mean : ExcName → Option Value} {s₁ s' : Shared} {h₀ : Heap} {cc P L : Addr} {ps : Array Value} {m : Str → Option Value}
    (B : Based s₁.heap h₀ cc P ps) (F : Fr h₀ L s'.heap m) (hg : AllBare s'.gens) (hos : s'.os = s₁.os) :
    GoodWG (RowW.claim (OpenRow.toRowW (OpenLaw.row PySem.Challenge.rw_yi0065_01))) cl mean [ofPy (.list (ns.map .int))] s₁ (.ok (.ret (.bool true))) s' :=
  goodWG_reads (d := .bool true) (as := []) B F hg (fun _ => rfl) (.bool _) (fun _ => ⟨List.nodup_nil, fun _ h => nomatch h⟩) (by kernel_rfl!) hos
end Mine
end
open PySem PySem.W PyProof.Rows PySem.Calls
local macro_rules | `(tactic| walk_at $s:str) => `(tactic| k_extra $s)
local macro_rules | `(tactic| kst_facts1) => `(tactic| exact IntsAre.append (by assumption) (.cons _ _ (.cons _ _ .nil)))
set_option maxRecDepth 100000 in
set_option maxHeartbeats 8000000 in
theorem PySem.Challenge.cw_yi0065_01_holds : PySem.Challenge.rw_yi0065_01.Holds :=
  Mine.hd (by
  k_with_none
  k_with "getMethod ref" => (k_here; k_dflt (refine' kmu_sm (by k_asm) (by k_asm) (by k_inst) (by k_is) (by k_is) (by k_is) (by k_is) (by k_is) (by k_is) (by decide +kernel) (by k_get) (by k_is) (by k_handed) ?_; k_whole))
  k_with "getMethod ref" => (k_here; k_dflt (refine' method_inst (by k_asm) (by k_asm) (by k_inst) (by k_is) (by k_is) (by k_is) (by k_get) ?_; k_whole))
  k_with "binaryOp BitAnd int int" => (refine Mine.and_127 (by omega) (by omega) ?_)
  k_with "call builtin:bin" => (refine Mine.bin_128 (by omega) (by omega) ?_)
  k_with "subscriptTail Name Slice str ref" => ((with_reducible show wpAny _ _ (subscriptTail _ (PySem.Expr.Slice none none (some _) _) (Value.str _ _) (Value.ref _)) _ _ _); (with_reducible rename Fr _ _ _ _ => F'); (with_reducible rename News _ _ _ _ => N'); (refine Mine.slice_rev (s := ⟨_, _, _, _, _⟩) F' N' (Mine.br_len_int (by omega) (by omega)) ?_); intro h' _ _ F' N')
  k_with "call type:int" => (refine Mine.call_int2 (by omega) (by omega) ?_)
  k_with "call builtin:pow" => (first | refine Mine.call_pow_inv ?_ | refine Mine.call_pow (by first | exact Mine.brv_nonneg _ | exact Mine.of_mem' (by assumption) (by assumption) | omega) ?_)
  k_with "inplaceOp Add ref" => (k_here; (with_reducible show wpAny _ _ (inplaceOp Operator.Add (Value.ref _) (Value.ref _)) _ _ _); k_dflt (refine' Mine.iadd_list (by k_asm) (by k_asm) (by k_mem) (by (simp only [List.length_cons, List.length_nil]; decide)) (by k_upd) (by exact Mine.root_room (by assumption) (by assumption) (by assumption) (by first | omega | (simp only [List.length_cons, List.length_nil]; omega))) ?_); intro h' F' N'; (try k_sweep))
  k_with "state" => ((try dsimp only); exact Mine.root_state (by assumption))
  k_with "pyIter ref" => (k_of "e" => (k_dflt ((rename News _ _ _ _ => lN9); (try (have iL9 := Mine.one_int lN9)); (rename Fr _ _ _ _ => lF9); (with_unfolding_all refine' Mine.kx_listL (Str.ofString "wide") (fun D (_ : Unit) => [(Str.ofString "wide", Value.ref D)]) [] Mine.RootP () (by rfl) (by exact lF9) (by exact lN9) (by with_unfolding_all rfl) (by (intro us c; k_upd)) (by (intro us c; (try dsimp only); k_memK)) (by assumption) (by (first | assumption | exact .nil)) (by kst_all) (by exact Mine.root_start _) ?_ ?_); (intro kUs kNs kC kR kPre kPost kN kT kU kH kTk kOwn kEq kMem kOff kFacts kInv kFr kNews); (have kMark := kstMark); (try dsimp only [kstB] at kFr); (try dsimp only at kNews); (try dsimp only at kInv); (try simp only [List.nil_append, List.cons_append, List.append_nil] at kNews); (try dsimp only at kOff); (try simp only [List.map_cons, List.map_nil] at kOff); rotate_left; (intro kUs kNs kC kR kU kH kTk kFacts kInv kFr kNews); (first | have kLen := Mine.root_len1 kInv | have kLen := Mine.root_len kInv (by assumption)); (have kNn := Mine.root_nn kInv (by first | assumption | exact Mine.nn_128)); (have kMark := kstMark); (try dsimp only [kstB] at kFr); (try dsimp only at kNews); (try dsimp only at kInv); rotate_left; (all_goals (try clear lF9 lN9)); all_goals (try k_fold))))
  k_with "exec For Name Name cons nil" => (k_here; k_dflt ((rename Fr _ _ _ _ => lF'); (with_unfolding_all refine' For_invVF lF' (by exact rfl) (by exact rfl) ?_; k_whole)))
  k_with "call ref" => (k_dflt ((with_reducible show wpAny _ _ (call (Value.ref 435) _ _) _ _ _); refine' Mine.draw_use (by k_asm) (by k_asm) (by k_asm) (by k_asm) (by k_asm) (by first | exact rfl | assumption) (by k_asm) (by l_ints) (by l_fit) (by first | decide | exact Mine.f_nonneg (by assumption) | exact Mine.g_nonneg (by assumption)) (by first | decide | exact Mine.f_room (by assumption) | exact Mine.g_room (by assumption)) (by ktr_room) (by ktr_units) ?_; (intro t9 h9 tk9 F9 N9); (try dsimp only); (try k_fold)))
  k_with "call ref" => (k_dflt ((with_reducible show wpAny _ _ (call (Value.ref 282) _ _) _ _ _); (refine' Mine.ring_ct (by k_asm) (by k_asm) (by k_asm) (by k_asm) (by k_asm) (by first | exact rfl | assumption) (by ktr_room) (by ktr_units) ?_; (intro x9 d9 D9 e1 e2 e3 e4 t1 t2 t3 t4 tq tn tf us9 c9 h9 tk9 F9 N9 m1 m2 o1 o2 o3 I9); (try k_lt m1); (try dsimp only [LCg.Off1] at o1); (try dsimp only); (try k_fold))))
  k_with "call ref" => (k_dflt ((with_reducible show wpAny _ _ (call (Value.ref 440) _ _) _ _ _); (refine' Mine.roots_ct (by k_asm) (by k_asm) (by k_asm) (by k_asm) (by k_asm) (by first | exact rfl | assumption) (by ktr_room) (by ktr_units) ?_; (intro D9 us9 c9 h9 tk9 F9 N9 I8); (obtain ⟨R9, sR9, lR9, I9⟩ := Mine.roots_pack I8); (clear I8); (have dC := Mine.roots_off N9 (by assumption) (by assumption)); (try dsimp only); (try k_fold))))
  k_with "state" => first | exact Mine.plain_start | exact Mine.plain_le (by assumption) (by assumption) | exact Mine.plain_gt (by assumption) (by assumption)
  k_with "binaryOp Mult int int" => (k_dflt ((refine' mul_int ?_ (IntMulOk.of_bits (by exact Mine.at_bits (by assumption) _) (by exact Mine.at_bits (by assumption) _)))))
  k_with "pyIter ref" => (k_of "j" => (k_dflt (((rename IntsAre _ (List.map _ _ ++ _) => hG); (have hGf := Mine.g_facts hG (by lay_of)); (clear hG); (obtain ⟨gF, gLen, gBits, gInts⟩ := hGf); (rename IntsAre _ (List.map _ _ ++ _) => hF); (have hFf := Mine.f_facts hF (by lay_of)); (clear hF); (obtain ⟨fF, fLen, fBits, fInts⟩ := hFf); k_state_given ["f", "g", "spot"] (fun f g spot pre plain => Mine.PlainP f g spot pre plain) "plain"))))
  k_with "call ref" => (k_dflt ((with_reducible show wpAny _ _ (call (Value.ref 340) _ _) _ _ _); (refine' Mine.ntt_use (by k_asm) (by k_asm) (by k_asm) (by k_asm) (by k_memK) (by k_memK) (by (intro us c; k_upd)) (by k_memK) (by k_memK) (by k_memK) (by k_asm) (by first | exact rfl | assumption) (by ktr_room) (by ktr_units) (by omega) (by assumption) (by assumption) (by assumption) (by exact Mine.zetasL_length) (by exact Mine.zetasL_bound) ?_; (intro y9 dy9 k1 k2 u1 u2 us9 c9 h9 tk9 F9 N9 I9); (try dsimp only at N9); (try dsimp only); (try k_fold))))
  k_with "call ref" => (k_dflt ((with_reducible show wpAny _ _ (call (Value.ref 423) _ _) _ _ _); (refine' Mine.mul_use (by k_asm) (by k_asm) (by k_asm) (by k_asm) (by k_memK) (by k_memK) (by k_memK) (by k_memK) (by k_memK) (by k_memK) (by k_memK) (by k_memK) (by k_memK) (by k_asm) (by first | exact rfl | assumption) (by ktr_room) (by ktr_units) (by assumption) (by assumption) (by assumption) (by exact Mine.ntt_length (by assumption)) (by exact Mine.ntt_length (by assumption)) (by exact Mine.zetasL_length) (by exact Mine.ntt_bound _ _) (by exact Mine.ntt_bound _ _) (by exact Mine.zetasL_bound) ?_; (intro p9 dp9 lp9 k1 k2 u1 u2 us9 c9 h9 tk9 F9 N9 I9); (have bM := Mine.bound_of I9); (have lM := Mine.len_of I9); (try dsimp only at N9); (try dsimp only [CmpBack]); (try dsimp only); (try k_fold))))
  k_with "callWith ref" => (k_here; k_dflt ((first | (refine' callWith_K0 (by k_in) (by k_is) ?_; k_whole) | (refine' callWith_K (by k_asm) (by k_is) ?_; k_whole))))
  k_with "callWith ref" => (k_here; kco_here; k_dflt (refine' kco_callWith (by k_in) (by k_inst) (by rfl) (by k_is) ?_; k_whole))
  k_with "call ref" => (k_here; kco_here; k_dflt ((refine' Mine.poly_use (by k_asm) (by k_asm) (by k_asm) (by k_asm) (by k_memK) (by k_memK) (by k_memK) (by k_asm) (by first | exact rfl | assumption) (by ktr_room) (by ktr_units) (by assumption) (by assumption) ?_; (intro y9 dy9 k1 k2 u1 u2 h9 tk9 F9 N9 l1 l2); (try dsimp only [AllLt] at l1); (try dsimp only); (try k_fold))))
  k_with "state" => first | exact Mine.tot_start | exact Mine.tot_state (by assumption)
  k_with "binaryOp Mult int int" => (refine Mine.mul_zeta (by assumption) ?_)
  k_with "call builtin:pow" => (refine Mine.call_pow (Mine.pow_room _) ?_)
  k_with "pyIter ref" => (k_of "i" => (k_dflt ((k_state_given ["product.coeffs", "roots", "spot"] (fun h r sp pre tot => Mine.TotP h r sp Mine.pm pre tot) "total"))))
  k_with "CmpBack" => (refine Mine.cmp_back ?_)
  k_with "call builtin:len" => (k_dflt ((refine' Mine.len_256 (by k_asm) (by k_memK) (by assumption) (by assumption) ?_; k_whole)))
  k_with "pyIter ref" => ((with_reducible show wpAny _ _ (pyIter _) (GenPost _ _ _ _ _ _ _ _ _ _ _ _ _ _ _ _ _ _) _ _); k_dflt ((refine' Mine.gen_src (by assumption) (by assumption) (by assumption) (by k_memK) (by assumption) (by assumption) (by exact AllBare.of_eq (by assumption)) (by lge_topk) (by assumption) (by exact Mine.classed _) (by assumption) (by nofun) ?_; (intro g9 ps9 Kb9 a9 s9 B9 F9 N9 T9 X9 GL9 K9 le9 lt9 G9 os9 GE9); (try dsimp only))))
  k_with "call builtin:all" => (k_dflt ((refine' Mine.all_use (by assumption) (by assumption) (by assumption) (by assumption) (by assumption) (by assumption) ?_; (intro s8 F8 N8 G8 os8); (try dsimp only); (try k_fold))))
  k_with "compareOp Eq int int" => (k_dflt ((refine' Mine.eq_true (by exact Mine.law_use (by assumption) (by assumption) (by assumption) (by assumption) (by assumption) (by rfl) (by rfl)) ?_)))
  w_on
  w_strict (lge_go0
            (all_goals try k_fold)
            (have kMark := kstMark)
            (repeat' (first | (k_unfold; (try dsimp only)) | (lge_end; exact Mine.law_end (by assumption) (by assumption) (by assumption) (by row_os)) | (lge_end; wrow_closeG) | walk1 | (dsimp only; walk1) | (leave1; walk_say "STEP leave1"; (try dsimp only)) | wrow_closeG | fail "no step"))
            all_goals w_report))
