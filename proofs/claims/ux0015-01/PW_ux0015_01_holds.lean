import PyProof.Rows.All
import Wide.All
import OpenK.AllK
import Wide.FinOn
import PyProof.GenComp
import PyProof.GenObj
import PyProof.EnumMake
import PyProof.ForAppend
import KE.KEqText
import PyProof.LetGo
import PySem.Challenge.RW_ux0015_01
open PySem PySem.W PySem.Calls PyProof.Rows
set_option Elab.async false
set_option linter.all false
set_option compiler.extract_closed false
namespace Mine
section
theorem left_boot {p q : Program} {loose : List Str} {Xt : Shared → Bool} {α : Type} {Yf : Shared → α} {Ya : World → α} {N : Nat} {g0 : Bool} (e : opening p = plainProg p.main.scope.names) (hN : Nat.ble 600 N = true) (f : ∀ s, fenceModules? p s = some s)
    (h : ∀ (w : World) (os : OsState), (topFrom treeTable p w N ⟨boot_heap w.params, Array.mk [], boot_drawn, boot_toks, os⟩).map (fun s => (openSeen q loose (importedModules p.main.body) Xt g0 s, Yf s)) = some (openGood q loose, Ya w)) : LeftO p q loose Xt Yf Ya N g0 := fun w => by
  obtain ⟨⟨hp, gs, d, k, os⟩, a, b⟩ := Option.map_eq_some_iff.mp (boot_open e hN f w)
  obtain ⟨rfl, rfl, rfl, rfl⟩ : hp = boot_heap w.params ∧ gs = Array.mk [] ∧ d = boot_drawn ∧ k = boot_toks := by simpa only [Prod.mk.injEq] using b
  unfold openEnds
  rw [a]
  exact h w os
abbrev kep : List Nat := [1, 2, 3, 10, 11, 13, 14, 15, 16]
abbrev vw : Program := view PySem.Challenge.pw_ux0015_01 kep
def loo : List Str := [Str.ofString "insort_right", Str.ofString "bisect_right", Str.ofString "insort_left", Str.ofString "bisect_left"]
set_option maxRecDepth 100000 in
set_option maxHeartbeats 8000000 in
theorem early (h : PySem.Challenge.rw_ux0015_01.row.wellSaid = true → PySem.Challenge.rw_ux0015_01.row.Holds) : PySem.Challenge.rw_ux0015_01.Holds := by
  o_law
  exact h (by assumption)
local macro_rules | `(tactic| o_law) => `(tactic| refine early fun said => ?_)
local macro_rules | `(tactic| o_head $H) => `(tactic| (
  refine holds_open (q := vw) (loose := loo) (Xt := fun s => xlAt vw [] s && recOk (RowW.records (OpenRow.toRowW (OpenLaw.row PySem.Challenge.rw_ux0015_01))) s) (XP := XL vw []) (Yf := Hook.obs $H) (Ya := Hook.val $H) (YP := Hook.says $H) (N := 1766) ?hl (Hook.of $H) (Hook.keeps $H) (fun s e => xl_of s (Bool.and_eq_true_iff.mp e).1) XL.keeps (by rfl) (by rfl) (by rfl) (fun s e => recFacts_of (Bool.and_eq_true_iff.mp e).2) (by rfl) (by assumption) (by decide +kernel) ⟨rfl, rfl, rfl, rfl, rfl, by decide +kernel⟩ ?hw ?hc
  case hl => exact left_boot (p := PySem.Challenge.pw_ux0015_01) (q := view PySem.Challenge.pw_ux0015_01 kep) (Xt := fun s => xlAt (view PySem.Challenge.pw_ux0015_01 kep) [] s && recOk (RowW.records (OpenRow.toRowW (OpenLaw.row PySem.Challenge.rw_ux0015_01))) s) rfl rfl (fun _ => rfl) (fun w os => by
    unfold topFrom
    rw [PySem.W.Fast.te10908583325241329957, PySem.W.Fast.te14082659384304107361, PySem.W.Fast.te4187177175401517315]
    kernel_rfl)))
set_option maxRecDepth 100000 in
set_option maxHeartbeats 8000000 in
open_top hd for PySem.Challenge.rw_ux0015_01
end
set_option maxRecDepth 100000
set_option maxHeartbeats 4000000
section
noncomputable abbrev HP := Mine.hd.heap_1

structure Base (w : World) (h : Heap) : Prop where
  K : (HP w.params).In h
  T : ∃ p loose mg mb, TopRead p loose mg mb h

abbrev Ext (h h' : Heap) : Prop := ∀ b o, h.get? b = some o → h'.get? b = some o

theorem Base.keeps {w : World} {h h' : Heap} (b : Base w h) (k : Ext h h') : Base w h' :=
  ⟨b.K.keeps k, let ⟨p, l, mg, mb, t⟩ := b.T; ⟨p, l, mg, mb, t.keeps k⟩⟩
theorem Base.nolimit {w : World} {h : Heap} (b : Base w h) : h.NoLimit := let ⟨_, _, _, _, t⟩ := b.T; t.nolimit

section
variable {M : Model} {A : Around} {E : Value → Shared → Prop} {s : Shared} {w : World} {env : Env} {x : Str} {pos : Pos} {v : Value} {Q : Value → Shared → Prop} {h₀ : Heap} {L : Addr} {m : Str → Option Value}

/-- a global of the module, by the written heap -/
theorem nameG (b : Base w s.heap) (e : nsIn (HP w.params) mainGlobals x = some (some v)) (h : Q v s) (hk : env.scope.kind = .function) (hx : env.kindOf x = some .globalImplicit) (hg : env.globals = mainGlobals)
    (hd : (x == ("__debug__" : Str)) = false := by decide) : wpAny M A (eval (.Name x pos) env) Q E s := by
  obtain ⟨p, l, mg, mb, T⟩ := b.T
  exact Calls.Name_function_global hk hx (Calls.loadGlobal_global (hg ▸ T.g) (mg_of b.K T.g e) h) hd
/-- a builtin -/
theorem nameB (b : Base w s.heap) (e : nsIn (HP w.params) mainGlobals x = some none) (hv : bootBuiltins x = some v) (h : Q v s) (hk : env.scope.kind = .function) (hx : env.kindOf x = some .globalImplicit) (hg : env.globals = mainGlobals) (hb : env.builtins = builtinsNs)
    (hn : x ≠ "__name__" := by decide) (hd : (x == ("__debug__" : Str)) = false := by decide) : wpAny M A (eval (.Name x pos) env) Q E s := by
  obtain ⟨p, l, mg, mb, T⟩ := b.T
  exact Calls.Name_function_global hk hx (Calls.loadGlobal_builtin (hg ▸ T.g) (mg_none_of b.K T.g e) (hb ▸ T.b) ((T.builtins x hn).trans hv) h) hd
end

section
variable (P : Params)
theorem g_len : nsIn (HP P) mainGlobals (Str.ofString "len") = some none := by rfl
theorem g_range : nsIn (HP P) mainGlobals (Str.ofString "range") = some none := by rfl
theorem g_abs : nsIn (HP P) mainGlobals (Str.ofString "abs") = some none := by rfl
theorem g_str : nsIn (HP P) mainGlobals (Str.ofString "str") = some none := by rfl
theorem g_list : nsIn (HP P) mainGlobals (Str.ofString "list") = some none := by rfl
theorem g_enumerate : nsIn (HP P) mainGlobals (Str.ofString "enumerate") = some none := by rfl
theorem g_error_reply : nsIn (HP P) mainGlobals (Str.ofString "error_reply") = some (some (.ref 37)) := by rfl
theorem g_parse257 : nsIn (HP P) mainGlobals (Str.ofString "parse257") = some (some (.ref 46)) := by rfl
theorem g_insort_right : nsIn (HP P) mainGlobals (Str.ofString "insort_right") = some (some (.ref 55)) := by rfl
theorem g_bisect_right : nsIn (HP P) mainGlobals (Str.ofString "bisect_right") = some (some (.ref 64)) := by rfl
theorem g_insort_left : nsIn (HP P) mainGlobals (Str.ofString "insort_left") = some (some (.ref 73)) := by rfl
theorem g_bisect_left : nsIn (HP P) mainGlobals (Str.ofString "bisect_left") = some (some (.ref 82)) := by rfl
theorem g_iter_escaped : nsIn (HP P) mainGlobals (Str.ofString "_iter_escaped_chars") = some (some (.ref 89)) := by rfl
theorem g_strip : nsIn (HP P) mainGlobals (Str.ofString "_strip_quoted_realnames") = some (some (.ref 96)) := by rfl
theorem g_law_product : nsIn (HP P) mainGlobals (Str.ofString "_law_product") = some (some (.ref 103)) := by rfl
theorem g_law_name : nsIn (HP P) mainGlobals (Str.ofString "_law_name") = some (some (.ref 108)) := by rfl
theorem g_law_refused : nsIn (HP P) mainGlobals (Str.ofString "_law_refused") = some (some (.ref 115)) := by rfl
end
theorem b_len : bootBuiltins (Str.ofString "len") = some (.builtin "len") := by boot_by_name
theorem b_range : bootBuiltins (Str.ofString "range") = some (.type "range") := by boot_by_name
theorem b_abs : bootBuiltins (Str.ofString "abs") = some (.builtin "abs") := by boot_by_name
theorem b_str : bootBuiltins (Str.ofString "str") = some (.type "str") := by boot_by_name
theorem b_list : bootBuiltins (Str.ofString "list") = some (.type "list") := by boot_by_name
theorem b_enumerate : bootBuiltins (Str.ofString "enumerate") = some (.type "enumerate") := by boot_by_name
end
section
/-- what an object of the call's own is: a list of ints, of texts, of values; an iterator over a list, a range -/
inductive LV where
  | il (l : List Int)
  | sl (l : List Str)
  | vl (l : List Value)
  | it (ax : Addr) (i : Nat)
  | rt (x left step : Int)
  | rg (a b : Int)

def Holds (h : Heap) (a : Addr) : LV → Prop
  | .il ns => ∃ vs, h.PlainList a vs.toArray ∧ IntsAre vs ns
  | .sl xs => ∃ vs, h.PlainList a vs.toArray ∧ StrsAre vs xs
  | .vl us => h.PlainList a us.toArray
  | .it ax i => h.IsListIter a ax i
  | .rt x n c => IsRangeIter h a x n c
  | .rg x y => ∃ t u v, IsRange h a x y 1 t u v

theorem Holds.at {h h' : Heap} {a : Addr} {v : LV} (x : Holds h a v) (k : ∀ o, h.get? a = some o → h'.get? a = some o) : Holds h' a v := by
  cases v with
  | il ns => obtain ⟨vs, p, i⟩ := x; exact ⟨vs, p.at k, i⟩
  | sl ns => obtain ⟨vs, p, i⟩ := x; exact ⟨vs, p.at k, i⟩
  | vl us => exact Heap.PlainList.at x k
  | it ax i => obtain ⟨o, e, r⟩ := x; exact ⟨o, k o e, r⟩
  | rt a b c => exact k _ x
  | rg a b => obtain ⟨t, u, v, e⟩ := x; exact ⟨t, u, v, k _ e⟩
theorem Holds.ext {h h' : Heap} {a : Addr} {v : LV} (x : Holds h a v) (k : Ext h h') : Holds h' a v := x.at fun o e => k _ o e
def noDC : Data → Bool
  | .dict .. | .cell .. => false
  | _ => true
theorem Holds.some {h : Heap} {a : Addr} {v : LV} (x : Holds h a v) : ∃ o, h.get? a = some o ∧ noDC o.data = true := by
  cases v with
  | il ns => obtain ⟨vs, ⟨n, e⟩, i⟩ := x; exact ⟨_, e, rfl⟩
  | sl ns => obtain ⟨vs, ⟨n, e⟩, i⟩ := x; exact ⟨_, e, rfl⟩
  | vl us => obtain ⟨n, e⟩ := x; exact ⟨_, e, rfl⟩
  | it ax i => obtain ⟨o, e, _, d⟩ := x; exact ⟨o, e, by rw [d]; rfl⟩
  | rt a b c => exact ⟨_, x, rfl⟩
  | rg a b => obtain ⟨t, u, v, e⟩ := x; exact ⟨_, e, rfl⟩

/-- a frame as its code sees it: old things kept, names, lists -/
structure Vw (w : World) (h₀ : Heap) (env : Env) (m : Str → Option Value) (led : List (Addr × LV)) (h : Heap) : Prop where
  base : Base w h₀
  keep : Ext h₀ h
  ns : ∃ ml, h.Ns env.locals ml ∧ ∀ x, env.kindOf x = some .local → ml x = m x
  cell : ∀ x c, env.cells.lookup x = some c → h.IsCell c (m x)
  lst : ∀ p ∈ led, Holds h p.1 p.2

/-- a frame that may be written -/
structure Fm (w : World) (h₀ : Heap) (env : Env) (m : Str → Option Value) (led : List (Addr × LV)) (h : Heap) : Prop where
  toVw : Vw w h₀ env m led h
  lap : led.Pairwise fun p q => p.1 ≠ q.1
  newL : h₀.get? env.locals = none
  newC : ∀ x c, (x, c) ∈ env.cells → h₀.get? c = none
  cap : env.cells.Pairwise fun p q => p.2 ≠ q.2
  newA : ∀ p ∈ led, h₀.get? p.1 = none

/-- the same frame, at other names and lists -/
abbrev Fm.E {w : World} {h₀ h : Heap} {env : Env} {m : Str → Option Value} {led : List (Addr × LV)} (_ : Fm w h₀ env m led h) (m' : Str → Option Value) (led' : List (Addr × LV)) (h' : Heap) : Prop := Fm w h₀ env m' led' h'

section
variable {w : World} {h₀ h h' : Heap} {env : Env} {m : Str → Option Value} {led led' : List (Addr × LV)}

theorem Vw.ext (F : Vw w h₀ env m led h) (k : Ext h h') : Vw w h₀ env m led h' :=
  ⟨F.base, fun b o e => k b o (F.keep b o e), let ⟨ml, n, q⟩ := F.ns; ⟨ml, n.keeps k, q⟩, fun x c hc => (F.cell x c hc).keeps k, fun p hp => (F.lst p hp).ext k⟩
theorem Fm.ext (F : Fm w h₀ env m led h) (k : Ext h h') : Fm w h₀ env m led h' := ⟨F.toVw.ext k, F.lap, F.newL, F.newC, F.cap, F.newA⟩
theorem Vw.bs (F : Vw w h₀ env m led h) : Base w h := F.base.keeps F.keep
theorem Fm.bs (F : Fm w h₀ env m led h) : Base w h := F.toVw.bs

theorem none_of_ext {a : Addr} (k : Ext h₀ h) (e : h.get? a = none) : h₀.get? a = none := by
  cases q : h₀.get? a with
  | none => rfl
  | some o => rw [k a o q] at e; cases e

/-- a new list comes onto the ledger -/
theorem Fm.push {l : Addr} {v : LV} (F : Fm w h₀ env m led h) (k : Ext h h') (hn : h.get? l = none) (hv : Holds h' l v) : Fm w h₀ env m ((l, v) :: led) h' :=
  have G := F.ext k
  ⟨⟨G.toVw.base, G.toVw.keep, G.toVw.ns, G.toVw.cell, fun p hp => by
      rcases List.mem_cons.mp hp with rfl | hp
      · exact hv
      · exact G.toVw.lst p hp⟩,
    List.pairwise_cons.mpr ⟨fun p hp e => (by
      obtain ⟨o, ho, _⟩ := (F.toVw.lst p hp).some
      have e' : l = p.1 := e
      rw [e', ho] at hn; cases hn), F.lap⟩, F.newL, F.newC, F.cap, fun p hp => by
      rcases List.mem_cons.mp hp with rfl | hp
      · exact none_of_ext F.toVw.keep hn
      · exact F.newA p hp⟩

/-- a list is lost (its object may have changed) -/
theorem Fm.lose {l : Addr} {v : LV} (F : Fm w h₀ env m ((l, v) :: led) h) (k : ∀ b o, b ≠ l → h.get? b = some o → h'.get? b = some o) : Fm w h₀ env m led h' := by
  obtain ⟨ol, hol, hdl⟩ := (F.toVw.lst _ (.head _)).some
  refine ⟨⟨F.toVw.base, fun b o e => k b o (fun q => by rw [q] at e; rw [show h₀.get? l = none from F.newA _ (.head _)] at e; cases e) (F.toVw.keep b o e), ?_, fun x c hc => ?_, fun p hp => ?_⟩,
    (List.pairwise_cons.mp F.lap).2, F.newL, F.newC, F.cap, fun p hp => F.newA p (.tail _ hp)⟩
  · obtain ⟨ml, hn, hq⟩ := F.toVw.ns
    refine ⟨ml, hn.at' fun o e => k _ o (fun q => ?_) e, hq⟩
    obtain ⟨o, es, ep, ho, hd, _⟩ := hn
    rw [q, hol] at ho; cases ho; rw [hd] at hdl; cases hdl
  · obtain ⟨o, ho, hd⟩ := F.toVw.cell x c hc
    exact ⟨o, k c o (fun q => by rw [q, hol] at ho; cases ho; rw [hd] at hdl; cases hdl) ho, hd⟩
  · exact (F.toVw.lst p (.tail _ hp)).at fun o e => k _ o (fun q => (List.pairwise_cons.mp F.lap).1 p hp q.symm) e

/-- forget lists -/
theorem Fm.drop (F : Fm w h₀ env m led h) (hs : led'.Sublist led) : Fm w h₀ env m led' h :=
  ⟨⟨F.toVw.base, F.toVw.keep, F.toVw.ns, F.toVw.cell, fun p hp => F.toVw.lst p (hs.subset hp)⟩, F.lap.sublist hs, F.newL, F.newC, F.cap, fun p hp => F.newA p (hs.subset hp)⟩

inductive LUpd (a : Addr) (v' : LV) : List (Addr × LV) → List (Addr × LV) → Prop
  | head {v r} : LUpd a v' ((a, v) :: r) ((a, v') :: r)
  | tail {p r r'} : LUpd a v' r r' → LUpd a v' (p :: r) (p :: r')
theorem LUpd.mem {a : Addr} {v' : LV} : ∀ {l l' : List (Addr × LV)}, LUpd a v' l l' → ∃ v, (a, v) ∈ l
  | _, _, .head => ⟨_, .head _⟩
  | _, _, .tail r => let ⟨v, h⟩ := r.mem; ⟨v, .tail _ h⟩
theorem LUpd.keys {a : Addr} {v' : LV} : ∀ {l l' : List (Addr × LV)}, LUpd a v' l l' → l'.map (·.1) = l.map (·.1)
  | _, _, .head => rfl
  | _, _, .tail r => by rw [List.map_cons, List.map_cons, r.keys]
theorem LUpd.other {a : Addr} {v' : LV} : ∀ {l l' : List (Addr × LV)}, LUpd a v' l l' → (l.Pairwise fun p q => p.1 ≠ q.1) → ∀ p ∈ l', p = (a, v') ∨ (p ∈ l ∧ p.1 ≠ a)
  | _, _, .head, hp, p, hm => by
    rcases List.mem_cons.mp hm with rfl | hm
    · exact .inl rfl
    · exact .inr ⟨.tail _ hm, fun e => (List.pairwise_cons.mp hp).1 p hm e.symm⟩
  | _, _, .tail (p := q) r, hp, p, hm => by
    rcases List.mem_cons.mp hm with rfl | hm
    · obtain ⟨v, hv⟩ := r.mem
      exact .inr ⟨.head _, fun e => (List.pairwise_cons.mp hp).1 _ hv e⟩
    · rcases r.other (List.pairwise_cons.mp hp).2 p hm with h | ⟨h1, h2⟩
      · exact .inl h
      · exact .inr ⟨.tail _ h1, h2⟩

theorem pairwise_keys : ∀ {l l' : List (Addr × LV)}, l'.map (·.1) = l.map (·.1) → (l.Pairwise fun p q => p.1 ≠ q.1) → l'.Pairwise fun p q => p.1 ≠ q.1 := by
  intro l l' e h
  have h1 : (l.map (·.1)).Pairwise (· ≠ ·) := List.pairwise_map.mpr h
  rw [← e] at h1
  exact List.pairwise_map.mp h1

/-- one of the call's own lists turns -/
theorem Fm.set {a : Addr} {v' : LV} (F : Fm w h₀ env m led h) (U : LUpd a v' led led') (k : ∀ b o, b ≠ a → h.get? b = some o → h'.get? b = some o) (hv : Holds h' a v') : Fm w h₀ env m led' h' := by
  obtain ⟨v, hm⟩ := U.mem
  obtain ⟨oa, hoa, hda⟩ := (F.toVw.lst _ hm).some
  have hold := F.newA _ hm
  refine ⟨⟨F.toVw.base, fun b o e => k b o (fun q => by rw [q] at e; rw [show h₀.get? a = none from hold] at e; cases e) (F.toVw.keep b o e), ?_, fun x c hc => ?_, fun p hp => ?_⟩,
    pairwise_keys U.keys F.lap, F.newL, F.newC, F.cap, fun p hp => ?_⟩
  · obtain ⟨ml, hn, hq⟩ := F.toVw.ns
    refine ⟨ml, hn.at' fun o e => k _ o (fun q => ?_) e, hq⟩
    obtain ⟨o, es, ep, ho, hd, _⟩ := hn
    rw [q, hoa] at ho; cases ho; rw [hd] at hda; cases hda
  · obtain ⟨o, ho, hd⟩ := F.toVw.cell x c hc
    exact ⟨o, k c o (fun q => by rw [q, hoa] at ho; cases ho; rw [hd] at hda; cases hda) ho, hd⟩
  · rcases U.other F.lap p hp with rfl | ⟨h1, h2⟩
    · exact hv
    · exact (F.toVw.lst p h1).at fun o e => k _ o h2 e
  · rcases U.other F.lap p hp with rfl | ⟨h1, h2⟩
    · exact hold
    · exact F.newA p h1

/-- a name's new value -/
def upd (m : Str → Option Value) (x : Str) (v : Value) : Str → Option Value := fun y => if y = x then some v else m y

theorem Fm.storeL {x : Str} {v : Value} {ml' : Str → Option Value} (F : Fm w h₀ env m led h) (hc : env.cells.lookup x = none) (hs : Heap.SameBut env.locals h h')
    (hn : h'.Ns env.locals ml') (hq : ∀ ml, h.Ns env.locals ml → ∀ y, ml' y = if y = x then some v else ml y) : Fm w h₀ env (upd m x v) led h' := by
  obtain ⟨ml, hn₀, hq₀⟩ := F.toVw.ns
  have hoth : ∀ b o, b ≠ env.locals → h.get? b = some o → h'.get? b = some o := fun b o hb e => (hs.2 b hb).trans e
  refine ⟨⟨F.toVw.base, fun b o e => hoth b o (fun q => by rw [q, F.newL] at e; cases e) (F.toVw.keep b o e), ⟨ml', hn, fun y hy => ?_⟩, fun y c hy => ?_, fun p hp => ?_⟩, F.lap, F.newL, F.newC, F.cap, F.newA⟩
  · rw [hq ml hn₀ y]; unfold upd; split
    · rfl
    · exact hq₀ y hy
  · have hne : y ≠ x := fun q => by rw [q, hc] at hy; cases hy
    obtain ⟨o, ho, hd⟩ := F.toVw.cell y c hy
    refine ⟨o, hoth c o (fun q => ?_) ho, by unfold upd; rw [if_neg hne]; exact hd⟩
    obtain ⟨o', es, ep, ho', hd', _⟩ := hn₀
    rw [q, ho'] at ho; cases ho; rw [hd'] at hd; cases hd
  · refine (F.toVw.lst p hp).at fun o e => hoth _ o (fun q => ?_) e
    obtain ⟨o1, e1, d1⟩ := (F.toVw.lst p hp).some
    obtain ⟨o', es, ep, ho', hd', _⟩ := hn₀
    rw [q, ho'] at e1; cases e1; rw [hd'] at d1; cases d1

theorem Fm.storeC {x : Str} {c : Addr} {v : Value} (F : Fm w h₀ env m led h) (hx : env.kindOf x ≠ some .local) (hc : env.cells.lookup x = some c) (hs : Heap.SameBut c h h') (hv : h'.IsCell c (some v)) : Fm w h₀ env (upd m x v) led h' := by
  have hoth : ∀ b o, b ≠ c → h.get? b = some o → h'.get? b = some o := fun b o hb e => (hs.2 b hb).trans e
  obtain ⟨oc, hoc, hdc⟩ := F.toVw.cell x c hc
  have hmem := mem_of_lookup hc
  refine ⟨⟨F.toVw.base, fun b o e => hoth b o (fun q => by rw [q, F.newC x c hmem] at e; cases e) (F.toVw.keep b o e), ?_, fun y c' hy => ?_, fun p hp => ?_⟩, F.lap, F.newL, F.newC, F.cap, F.newA⟩
  · obtain ⟨ml, hn, hq⟩ := F.toVw.ns
    refine ⟨ml, hn.at' fun o e => hoth _ o (fun q => ?_) e, fun y hy => ?_⟩
    · obtain ⟨o', es, ep, ho', hd', _⟩ := hn
      rw [q, hoc] at ho'; cases ho'; rw [hdc] at hd'; cases hd'
    · have : y ≠ x := fun q => hx (q ▸ hy)
      unfold upd; rw [if_neg this]; exact hq y hy
  · by_cases hyx : y = x
    · subst hyx
      rw [hc] at hy; cases hy
      unfold upd; rw [if_pos rfl]; exact hv
    · obtain ⟨o, ho, hd⟩ := F.toVw.cell y c' hy
      refine ⟨o, hoth c' o (fun q => hyx (name_of_addr F.cap (q ▸ mem_of_lookup hy) hmem)) ho, by unfold upd; rw [if_neg hyx]; exact hd⟩
  · refine (F.toVw.lst p hp).at fun o e => hoth _ o (fun q => ?_) e
    obtain ⟨o1, e1, d1⟩ := (F.toVw.lst p hp).some
    rw [q, hoc] at e1; cases e1; rw [hdc] at d1; cases d1
end

section
variable {M : Model} {A : Around} {E : Value → Shared → Prop} {s : Shared} {w : World} {h₀ : Heap} {env : Env} {m : Str → Option Value} {led : List (Addr × LV)} {x : Str} {pos : Pos} {v : Value}

/-- how a frame finds a name: its dict, or a cell -/
inductive Kd (env : Env) (x : Str) : Prop
  | loc : env.kindOf x = some .local → Kd env x
  | cel (c : Addr) : env.kindOf x = some .cell → env.cells.lookup x = some c → Kd env x
  | fre (c : Addr) : env.kindOf x = some .free → env.cells.lookup x = some c → (x == ("__classdict__" : Str)) = false → Kd env x

theorem Vw.load {Q : Value → Shared → Prop} (F : Vw w h₀ env m led s.heap) (kd : Kd env x) (hk : env.scope.kind = .function) (hv : m x = some v) (h : Q v s) : wpAny M A (loadName env x) Q E s := by
  obtain ⟨ml, hn, hq⟩ := F.ns
  cases kd with
  | loc hl => exact wpAny_loadName_local hk hl hn ((hq x hl).trans hv) h
  | cel c hl hc => exact wpAny_loadName_cell hk hl hc (hv ▸ F.cell x c hc) h
  | fre c hl hc hd => exact wpAny_loadName_free hk hl hc (hv ▸ F.cell x c hc) h hd
theorem Vw.name {Q : Value → Shared → Prop} (F : Vw w h₀ env m led s.heap) (kd : Kd env x) (hk : env.scope.kind = .function) (hv : m x = some v) (h : Q v s) (hd : (x == ("__debug__" : Str)) = false) :
    wpAny M A (eval (.Name x pos) env) Q E s := wpAny_Name (F.load kd hk hv h) hd

theorem Fm.store {Q : Unit → Shared → Prop} (F : Fm w h₀ env m led s.heap) (kd : Kd env x) (hk : env.scope.kind = .function) (hc : env.kindOf x = some .local → env.cells.lookup x = none) (hf : env.kindOf x ≠ some .free)
    (h : ∀ h' tk, Fm w h₀ env (upd m x v) led h' → Q () { s with heap := h', toks := tk }) : wpAny M A (storeName env x v) Q E s := by
  cases kd with
  | loc hl =>
    obtain ⟨ml, hn, hq⟩ := F.toVw.ns
    refine wpAny_storeName_local hl hn (fun h' hn' hs' => h h' _ (F.storeL (hc hl) hs' hn' fun ml' hn₂ y => ?_)) (by rw [hk]; rfl)
    have : ml' = ml := by
      obtain ⟨o, es, ep, ho, hd, _, hf⟩ := hn
      obtain ⟨o', es', ep', ho', hd', _, hf'⟩ := hn₂
      rw [ho] at ho'; cases ho'; rw [hd] at hd'; cases hd'
      funext z; rw [← hf, ← hf']
    rw [this]
  | cel c hl hcc =>
    refine wpAny_storeName_cell hk hl hcc (F.toVw.cell x c hcc) fun h' hv' hs' => ?_
    exact h h' s.toks (F.storeC (by rw [hl]; decide) hcc hs' hv')
  | fre c hl hcc hd => exact absurd hl hf
end

theorem get_none_of_ge {h : Heap} {a : Addr} (e : h.objs.size ≤ a) : h.get? a = none := by
  cases q : h.get? a with
  | none => rfl
  | some o => exact absurd (Heap.lt_size q) (Nat.not_lt.mpr e)

/-- a plain call's frame -/
theorem Fm.enter {w : World} {h h₁ : Heap} {fd : FuncData} {a : Addr} {m : Str → Option Value} (b : Base w h) (hn : h₁.Ns h.objs.size m) (hk : Ext h h₁) (hc : fd.closure = []) :
    Fm w h (callEnv fd h.objs.size a) m [] h₁ :=
  have e : (callEnv fd h.objs.size a).cells = [] := hc
  ⟨⟨b, hk, ⟨m, hn, fun _ _ => rfl⟩, (by rw [e]; intro _ _ q; cases q), fun _ hp => nomatch hp⟩, .nil, get_none_of_ge (Nat.le_refl _), (by rw [e]; intro _ _ q; cases q), (by rw [e]; exact .nil), fun _ hp => nomatch hp⟩

section
variable {prog : Program} {w : World} {A : Around} {s : Shared} {R : Result → Shared → Prop}
theorem enter_fm {a : Addr} {o : Obj} {fd : FuncData} {body : List Stmt} {args : Args} {binds : List (Str × Value)} (b : Base w s.heap)
    (hroom : A.depth < recursionLimit) (ho : (HP w.params).lookup a = some o) (hd : o.data = .func fd) (hcd : codeIn (HP w.params) fd.code fd.qualname = true) (hb : fd.body = .stmts body)
    (hbind : BindsTo s fd args binds) (hcl : fd.closure = []) (hco : fd.scope.isCoroutine = false) (hgen : fd.scope.isGenerator = false) (hk : fd.scope.kind = .function)
    (hcell : (fd.scope.names.all fun x => x.2 != .cell) = true) (hloc : (binds.all fun x => decide (fd.scope.names.lookup x.1 = some .local)) = true)
    (h : ∀ h₁ tk, Fm w s.heap (callEnv fd s.heap.objs.size a) (fun x => binds.reverse.lookup x) [] h₁ →
      wpAny (model prog w) (A.deeper (callEnv fd s.heap.objs.size a)) (execs body (callEnv fd s.heap.objs.size a)) (fun f s' => R (.ok (.ret (match f with | .ret v => v | _ => .none))) s') (fun _ _ => False) { s with heap := h₁, toks := tk }) :
    codeAny (model prog w) A (.call (.ref a) args) R s :=
  codeAny_call_def hroom (b.K _ _ ho) hd b.nolimit (codeRec_of b.K hcd) hb hbind (fun x hx => by simpa using List.all_eq_true.mp hcell x hx) (fun x hx => of_decide_eq_true (List.all_eq_true.mp hloc x hx))
    (fun h₁ hn hk₁ => wpAny_mono (h h₁ _ (Fm.enter b hn hk₁ hcl)) (fun _ _ x => x) fun _ _ x => x.elim) hco hgen hk
end
end
section
section
variable {prog : Program} {w : World} {A : Around} {E : Value → Shared → Prop} {s : Shared} {l : Addr} {Q : Value → Shared → Prop}

theorem Holds.asInts {h : Heap} {xs : List Int} (x : Holds h l (.il xs)) : ∃ vs, h.IsList l vs.toArray ∧ IntsAre vs xs := let ⟨vs, p, i⟩ := x; ⟨vs, p.isList, i⟩
theorem Holds.asStrs {h : Heap} {xs : List Str} (x : Holds h l (.sl xs)) : ∃ vs, h.IsList l vs.toArray ∧ StrsAre vs xs := let ⟨vs, p, i⟩ := x; ⟨vs, p.isList, i⟩

theorem len_ints {xs : List Int} (hl : Holds s.heap l (.il xs)) (hz : xs.length < 2 ^ 62) (h : ∀ t tk, Q (.int xs.length t) { s with toks := tk }) : wpAny (model prog w) A (call (.builtin "len") [.ref l]) Q E s := by
  obtain ⟨vs, p, i⟩ := hl.asInts
  have e : vs.toArray.size = xs.length := by rw [List.size_toArray]; exact IntsAre.length i
  refine Calls.call_len_list p (by rw [e]; (first | lia | omega)) ?_
  rw [e]; exact h _ _
theorem len_strs {xs : List Str} (hl : Holds s.heap l (.sl xs)) (hz : xs.length < 2 ^ 62) (h : ∀ t tk, Q (.int xs.length t) { s with toks := tk }) : wpAny (model prog w) A (call (.builtin "len") [.ref l]) Q E s := by
  obtain ⟨vs, p, i⟩ := hl.asStrs
  have e : vs.toArray.size = xs.length := by rw [List.size_toArray]; exact StrsAre.length i
  refine Calls.call_len_list p (by rw [e]; (first | lia | omega)) ?_
  rw [e]; exact h _ _

theorem item_ints {value slice : Expr} {xs : List Int} {k : Int} {u : Tok} (hl : Holds s.heap l (.il xs)) (h0 : 0 ≤ k) (h1 : k < xs.length) (hz : xs.length < 2 ^ 62) (h : ∀ t, Q (.int (xs.getD k.toNat 0) t) s)
    (hs : subscripted slice false (.ref l) (.int k u) = operate [.ref l, .int k u] (getItem (.ref l) (.int k u))) (hg : ∀ r, letTemporaryGo value (.ref l) r = pure ()) :
    wpAny (model prog w) A (subscriptTail value slice (.ref l) (.int k u)) Q E s := by
  obtain ⟨vs, p, i⟩ := hl.asInts
  exact item_list_ints p i h0 h1 (by (first | lia | omega)) h hs hg

theorem floordiv_pos {a b : Int} {t u : Tok} (hb : 0 < b) (hs : b < 1073741824) (h : ∀ t' tk, Q (.int (a / b) t') { s with toks := tk }) : wpAny (model prog w) A (binaryOp .FloorDiv (.int a t) (.int b u)) Q E s :=
  floordiv_int (by (first | lia | omega)) (by rw [Int.fdiv_eq_ediv_of_nonneg _ (by (first | lia | omega))]; exact h _ _) (.inl (PyProof.noPylong_small (by (first | lia | omega))))

theorem IntsAre.insert {vs : List Value} {xs : List Int} (i : IntsAre vs xs) (k : Nat) (x : Int) (t : Tok) : IntsAre (vs.take k ++ .int x t :: vs.drop k) (xs.take k ++ x :: xs.drop k) :=
  IntsAre.append (IntsAre.take i k) (.cons x t (IntsAre.drop i k))

theorem insert_ints {xs : List Int} {k : Nat} {z x : Int} {t u : Tok} (hzk : z = k) (hl : Holds s.heap l (.il xs)) (hk : k ≤ xs.length) (hz : xs.length ≤ 1000000)
    (h : ∀ h' tk, (∀ b o, b ≠ l → s.heap.get? b = some o → h'.get? b = some o) → Holds h' l (.il (xs.take k ++ x :: xs.drop k)) → Q .none { s with heap := h', toks := tk }) :
    wpAny (model prog w) A (call (.builtin "list.insert") [.ref l, .int z u, .int x t]) Q E s := by
  obtain ⟨vs, ⟨n, p⟩, i⟩ := hl
  have e : vs.length = xs.length := IntsAre.length i
  have hz' : vs.toArray.size ≤ sizeLine := by rw [List.size_toArray, e, sizeLine_eq]; (first | lia | omega)
  have hf : Builtin.List.listFitsIndex z = true := by
    unfold Builtin.List.listFitsIndex
    rw [Bool.and_eq_true, decide_eq_true_eq, decide_eq_true_eq]
    (first | lia | omega)
  refine call_meets PySem.F.slot_list_insert ⟨_, p, rfl⟩ PySem.F.entry_list_insert (PySem.F.args_list_insert_3 _ _ _)
    (PySem.AutoSeq1.list_insert_list_int_val_1 l _ n z u (.int x t) (by rw [hf]; decide) hz') ⟨p, ?_⟩
  refine h _ _ (fun b o hb e' => (Heap.get?_update_other _ _ (Ne.symm hb)).trans e') ⟨vs.take k ++ .int x t :: vs.drop k, ?_, IntsAre.insert i k x t⟩
  have q := PySem.IsL.update p (fun xs : Array Value => have k' := if z < 0 then (z + (xs.size : Int)).toNat else min z.toNat xs.size; (xs.extract 0 k').push (.int x t) ++ xs.extract k')
  have e2 : (if z < 0 then (z + (vs.toArray.size : Int)).toNat else min z.toNat vs.toArray.size) = k := by
    rw [if_neg (by (first | lia | omega)), List.size_toArray]; (first | lia | omega)
  dsimp only at q
  rw [e2, kl_ins_eq] at q
  exact ⟨_, q⟩
theorem getMethod_list {name : Str} {id : String} {pl : Sem Bool} {v : LV} {Q : Value × List Value → Shared → Prop} (slot : Slot "list" name id)
    (hty : typeOf (.builtin id) = pure (.type "method_descriptor")) (hl : Holds s.heap l v) (hv : (match v with | .il _ | .sl _ | .vl _ => true | _ => false) = true) (h : Q (.builtin id, [.ref l]) s) : wpAny (model prog w) A (getMethod (.ref l) name pl) Q E s := by
  have key : ∀ vs : List Value, s.heap.PlainList l vs.toArray → wpAny (model prog w) A (getMethod (.ref l) name pl) Q E s := by
    rintro vs ⟨n, p⟩
    exact getMethod_list_of slot hty (Heap.PlainList.isList ⟨n, p⟩) ⟨_, p, rfl⟩ h
  cases v with
  | il _ => obtain ⟨vs, p, _⟩ := hl; exact key vs p
  | sl _ => obtain ⟨vs, p, _⟩ := hl; exact key vs p
  | vl _ => exact key _ hl
  | _ => cases hv
theorem getM_append {pl : Sem Bool} {v : LV} {Q : Value × List Value → Shared → Prop}
    (hl : Holds s.heap l v) (hv : (match v with | .il _ | .sl _ | .vl _ => true | _ => false) = true) (h : Q (.builtin "list.append", [.ref l]) s) : wpAny (model prog w) A (getMethod (.ref l) (Str.ofString "append") pl) Q E s :=
  getMethod_list PySem.F.slot_list_append PySem.F.type_list_append hl hv h
theorem getM_insert {pl : Sem Bool} {v : LV} {Q : Value × List Value → Shared → Prop}
    (hl : Holds s.heap l v) (hv : (match v with | .il _ | .sl _ | .vl _ => true | _ => false) = true) (h : Q (.builtin "list.insert", [.ref l]) s) : wpAny (model prog w) A (getMethod (.ref l) (Str.ofString "insert") pl) Q E s :=
  getMethod_list PySem.F.slot_list_insert PySem.F.type_list_insert hl hv h
end
end
local macro_rules | `(tactic| walk_at "m:vw") => `(tactic| first | assumption | exact Fm.toVw (by assumption))
local macro_rules | `(tactic| walk_at "m:kd") => `(tactic| k_dflt first | exact Kd.loc rfl | exact Kd.cel _ rfl rfl | exact Kd.fre _ rfl rfl rfl)
local macro_rules | `(tactic| walk_at "m:nofree") => `(tactic| k_dflt first | exact fun e => nomatch (show some NameKind.local = some NameKind.free from e) | exact fun e => nomatch (show some NameKind.cell = some NameKind.free from e))
local macro_rules | `(tactic| walk_at "m:nocell") => `(tactic| k_dflt first | exact fun _ => rfl | exact fun e => nomatch (show some NameKind.cell = some NameKind.local from e))
local macro_rules | `(tactic| walk_at "m:gn") => `(tactic| first | (with_reducible first | exact g_parse257 _ | exact g_insort_right _ | exact g_bisect_right _ | exact g_insort_left _ | exact g_bisect_left _ | exact g_iter_escaped _ | exact g_strip _ | exact g_law_product _ | exact g_law_name _ | exact g_law_refused _ | exact g_error_reply _) | (k_dflt first | exact g_parse257 _ | exact g_insort_right _ | exact g_bisect_right _ | exact g_insort_left _ | exact g_bisect_left _ | exact g_iter_escaped _ | exact g_strip _ | exact g_law_product _ | exact g_law_name _ | exact g_law_refused _ | exact g_error_reply _))
local macro_rules | `(tactic| walk_at "m:bn") => `(tactic| first | (with_reducible first | exact g_len _ | exact g_range _ | exact g_abs _ | exact g_str _ | exact g_list _ | exact g_enumerate _) | (k_dflt first | exact g_len _ | exact g_range _ | exact g_abs _ | exact g_str _ | exact g_list _ | exact g_enumerate _))
local macro_rules | `(tactic| walk_at "m:bv") => `(tactic| first | (with_reducible first | exact b_len | exact b_range | exact b_abs | exact b_str | exact b_list | exact b_enumerate) | (k_dflt first | exact b_len | exact b_range | exact b_abs | exact b_str | exact b_list | exact b_enumerate))
local macro_rules | `(tactic| walk_at "m:mem") => `(tactic| first | exact List.Mem.head _ | (refine' List.Mem.tail _ ?_; walk_at "m:mem"))
local macro_rules | `(tactic| walk_at "m:hold") => `(tactic| first | (with_reducible assumption) | exact Vw.lst (by walk_at "m:vw") (_, _) (by walk_at "m:mem") | exact Holds.ext (by with_reducible assumption) (Vw.keep (by walk_at "m:vw")) | exact Holds.ext (by with_reducible assumption) (by assumption) | assumption)
local macro_rules | `(tactic| walk_at "eval Name") => `(tactic| (refine' nameB (Vw.bs (by walk_at "m:vw")) ?e ?v ?_ ?k ?x ?g ?b; (case e => walk_at "m:bn"); (case v => walk_at "m:bv"); (case k => k_dflt exact rfl); (case x => k_dflt exact rfl); (case g => k_dflt exact rfl); (case b => k_dflt exact rfl)))
local macro_rules | `(tactic| walk_at "eval Name") => `(tactic| (refine' nameG (Vw.bs (by walk_at "m:vw")) ?e ?_ ?k ?x ?g; (case e => walk_at "m:gn"); (case k => k_dflt exact rfl); (case x => k_dflt exact rfl); (case g => k_dflt exact rfl)))
local macro_rules | `(tactic| walk_at "eval Name") => `(tactic| (refine' Vw.name ?F ?kd ?hk ?hv ?_ ?hd; (case F => walk_at "m:vw"); (case kd => walk_at "m:kd"); (case hk => k_dflt exact rfl); (case hv => k_dflt first | exact rfl | assumption); (case hd => k_dflt decide)))
local macro_rules | `(tactic| walk_at "loadName") => `(tactic| (refine' Vw.load ?F ?kd ?hk ?hv ?_; (case F => walk_at "m:vw"); (case kd => walk_at "m:kd"); (case hk => k_dflt exact rfl); (case hv => k_dflt first | exact rfl | assumption)))
local macro_rules | `(tactic| walk_at "storeName") => `(tactic| ((rename Fm _ _ _ _ _ _ => kF); refine' Fm.store kF ?kd ?hk ?hc ?hf ?_; (case kd => walk_at "m:kd"); (case hk => k_dflt exact rfl); (case hc => walk_at "m:nocell"); (case hf => walk_at "m:nofree"); clear kF; intro h' tk' F'))
local macro_rules | `(tactic| walk_at "exec Assign") => `(tactic| (refine' wpAny_Assign_Name ?_ ?hs; (case hs => k_dflt exact rfl)))
local macro_rules | `(tactic| walk_at "eval Call") => `(tactic| (refine' Call_ ?_ ?he; (case he => k_dflt exact rfl)))
local macro_rules | `(tactic| walk_at "callWith") => `(tactic| (refine' callWith_builtin1 ?_ ?he ?hp; (case he => k_dflt exact rfl); (case hp => k_dflt exact rfl)))
local macro_rules | `(tactic| walk_at "spliced") => `(tactic| (refine' spliced_more ?_ ?he; (case he => k_dflt exact rfl)))
local macro_rules | `(tactic| walk_at "spliced") => `(tactic| (refine' spliced_none ?_))
local macro_rules | `(tactic| walk_at "eval Subscript") => `(tactic| refine Subscript_ ?_)
local macro_rules | `(tactic| walk_at "m:size") => `(tactic| first | assumption | omega | (simp only [List.length_map, List.length_range, List.length_cons, List.length_nil, List.length_append, List.length_take, List.length_drop] at *; omega))
local macro_rules | `(tactic| walk_at "call builtin:len") => `(tactic| ((first | refine' len_ints ?hl ?hz ?_ | refine' len_strs ?hl ?hz ?_); (case hl => walk_at "m:hold"); (case hz => walk_at "m:size"); intro t' tk'))
local macro_rules | `(tactic| walk_at "m:idx") => `(tactic| first | assumption | omega | (simp only [List.length_cons, List.length_nil]; omega) | fail "m:idx: an index")
local macro_rules | `(tactic| walk_at "subscriptTail") => `(tactic| ((with_reducible show wpAny _ _ (subscriptTail _ _ (Value.ref _) (Value.int _ _)) _ _ _); (refine' item_ints ?hl ?h0 ?h1 ?hz ?_ ?hs ?hg; (case hl => walk_at "m:hold"); (case h0 => walk_at "m:idx"); (case h1 => walk_at "m:idx"); (case hz => walk_at "m:size"); (case hs => with_unfolding_all rfl); (case hg => intro _; with_unfolding_all rfl); intro t')))
local macro_rules | `(tactic| walk_at "binaryOp FloorDiv int int") => `(tactic| (refine' floordiv_pos ?h0 ?h1 ?_; (case h0 => first | decide | omega); (case h1 => first | decide | omega); intro t' tk'))
local macro_rules | `(tactic| walk_at "m:one") => `(tactic| first | ((with_reducible show wpAny _ _ _ _ _ _); walk1) | ((with_reducible show ite _ _ _); walk1))
local macro_rules | `(tactic| walk_at "m:go") => `(tactic| repeat' (first | walk_at "m:one" | (dsimp only; walk_at "m:one")))
local macro_rules | `(tactic| walk_at "eval Call Attribute") => `(tactic| (refine' MethodCall_ ?_ ?he; (case he => k_dflt exact rfl)))
local macro_rules | `(tactic| walk_at "callWith") => `(tactic| (refine' callWith_method1 ?_ ?he ?hp; (case he => k_dflt exact rfl); (case hp => k_dflt exact rfl)))
local macro_rules | `(tactic| walk_at "callWith ref") => `(tactic| (refine' callWith_K (K := HP _) ?X ?hk ?_ ?he ?hp; (case X => exact Base.K (Vw.bs (by walk_at "m:vw"))); (case hk => k_dflt exact rfl); (case he => k_dflt exact rfl); (case hp => k_dflt exact rfl)))
local macro_rules | `(tactic| walk_at "exec Expr") => `(tactic| (refine' wpAny_Expr ?_ ?hi ?hs; (case hi => k_dflt exact rfl); (case hs => k_dflt exact rfl)))
local macro_rules | `(tactic| walk_at "m:slot") => `(tactic| first | exact PySem.F.slot_list_insert | exact PySem.F.slot_list_append)
local macro_rules | `(tactic| walk_at "m:mdes") => `(tactic| first | exact PySem.F.type_list_insert | exact PySem.F.type_list_append)
local macro_rules | `(tactic| walk_at "getMethod ref") => `(tactic| ((first | refine' getM_append ?hl ?hv ?_ | refine' getM_insert ?hl ?hv ?_); (case hl => k_dflt walk_at "m:hold"); (case hv => k_dflt exact rfl)))
local macro_rules | `(tactic| walk_at "m:one") => `(tactic| ((with_reducible show Frag.In _ _ ∧ _); refine ⟨Base.K (Vw.bs (by walk_at "m:vw")), ?_⟩))
local macro_rules | `(tactic| walk_at "m:ext") => `(tactic| (rename Ext _ _ => kE; rename Fm _ _ _ _ _ _ => kF; replace kF := Fm.ext kF kE; clear kE))
local macro_rules | `(tactic| walk_at "m:room") => `(tactic| first | assumption | (show _ + _ < _; omega) | omega)
local macro_rules | `(tactic| walk_at "m:sz") => `(tactic| first | assumption | omega | (simp only [List.length_append, List.length_cons, List.length_nil, List.length_replicate, List.length_drop, List.length_take, List.length_map]; omega))
local macro_rules | `(tactic| walk_at "m:cut") => `(tactic| first | (simp only [List.drop_succ_cons, List.drop_zero, List.take_succ_cons, List.take_zero, List.take_nil, List.drop_nil, Nat.reduceSub]; exact rfl) | exact rfl)
local macro_rules | `(tactic| walk_at "m:ints") => `(tactic| repeat (first | exact IntsAre.nil | refine IntsAre.cons _ _ ?_))
local macro_rules | `(tactic| walk_at "m:subL") => `(tactic| ((case ha => k_dflt walk_at "m:hold"); (case hz => k_dflt walk_at "m:size"); (case hs => with_unfolding_all rfl); (case ht => intro _; with_unfolding_all rfl)))
local macro_rules | `(tactic| walk_at "m:strs") => `(tactic| repeat (first | exact StrsAre.nil | refine StrsAre.cons _ _ ?_))
section
theorem calm_M3 : True := by
  w_top off
  trivial
theorem sorted_getD {xs : List Int} (hs : xs.Pairwise (· ≤ ·)) {i j : Nat} (hij : i ≤ j) (hj : j < xs.length) : xs.getD i 0 ≤ xs.getD j 0 := by
  rcases Nat.lt_or_eq_of_le hij with h | rfl
  · have hi : i < xs.length := by (first | lia | omega)
    have := List.pairwise_iff_getElem.mp hs i j hi hj h
    rw [List.getD_eq_getElem?_getD, List.getD_eq_getElem?_getD, List.getElem?_eq_getElem hi, List.getElem?_eq_getElem hj]
    exact this
  · exact Int.le_refl _
noncomputable def fdOf (P : Params) (a : Addr) : FuncData := match (HP P).lookup a with | some ⟨_, _, .func fd, _⟩ => fd | _ => default

theorem bl_call {prog : Program} {w : World} {A : Around} {s : Shared} {R : Result → Shared → Prop} {l : Addr} {xs : List Int} {x : Int} {t t0 : Tok} {args : Args}
    (hb : ∀ S, peek (HP w.params) S (bindArgs (fdOf w.params 82) args) = some [(Str.ofString "a", .ref l), (Str.ofString "x", .int x t), (Str.ofString "lo", .int 0 t0), (Str.ofString "hi", .none), (Str.ofString "key", .none)])
    (b : Base w s.heap) (hroom : A.depth < recursionLimit) (hl : Holds s.heap l (.il xs)) (hz : xs.length < 2 ^ 62) (hs : xs.Pairwise (· ≤ ·))
    (hR : ∀ (k : Nat) t' h' tk, k ≤ xs.length → (∀ i, i < k → xs.getD i 0 < x) → (∀ i, k ≤ i → i < xs.length → x ≤ xs.getD i 0) → Ext s.heap h' → R (.ok (.ret (.int k t'))) { s with heap := h', toks := tk }) :
    codeAny (model prog w) A (.call (.ref 82) args) R s := by
  refine' enter_fm (binds := [(Str.ofString "a", .ref l), (Str.ofString "x", .int x t), (Str.ofString "lo", .int 0 t0), (Str.ofString "hi", .none), (Str.ofString "key", .none)]) b hroom ?ho ?hd ?hcd ?hb ?bi ?hcl ?c2 ?c3 ?c4 ?hcell ?hloc (fun h₁ tk₁ F => ?_)
  case ho => exact rfl
  case hd => exact rfl
  case hcd => exact rfl
  case hb => exact rfl
  case bi => exact kp_binds b.K hb
  case hcl => exact rfl
  case c2 => exact rfl
  case c3 => exact rfl
  case c4 => exact rfl
  case hcell => exact rfl
  case hloc => exact rfl
  walk_at "m:go"
  refine wpAny_While ?_
  refine' codeAny_whileLoop (fun n s' => ∃ h' tk m' lo hi t1 t2, s' = { s with heap := h', toks := tk } ∧ Fm w s.heap ?env m' [] h' ∧ m' (Str.ofString "a") = some (.ref l) ∧ m' (Str.ofString "x") = some (.int x t) ∧
    m' (Str.ofString "lo") = some (.int lo t1) ∧ m' (Str.ofString "hi") = some (.int hi t2) ∧ 0 ≤ lo ∧ lo ≤ hi ∧ hi ≤ xs.length ∧ (∀ i : Nat, (i : Int) < lo → xs.getD i 0 < x) ∧ (∀ i : Nat, hi ≤ i → i < xs.length → x ≤ xs.getD i 0) ∧ n = (hi - lo).toNat) ?turn (xs.length - 0 : Int).toNat ?init
  case init => exact ⟨_, _, _, _, _, _, _, rfl, by assumption, rfl, rfl, rfl, rfl, Int.le_refl _, by (first | lia | omega), Int.le_refl _, by intro i hi; (first | lia | omega), by intro i h1 h2; (first | lia | omega), rfl⟩
  case turn =>
    rintro n s' ⟨h', tk, m', lo, hi, t1, t2, rfl, F, ha, hx, hlo, hhi, h0, h1, h2, h3, h4, rfl⟩
    walk_at "m:go"
    · rename Fm _ _ _ _ _ _ => G
      refine ⟨(hi - ((lo + hi) / 2 + 1)).toNat, by (first | lia | omega), _, _, _, _, _, _, _, rfl, G, ha, hx, rfl, hhi, by (first | lia | omega), by (first | lia | omega), by (first | lia | omega), fun i h5 => ?_, h4, rfl⟩
      refine Int.lt_of_le_of_lt (sorted_getD hs (j := ((lo + hi) / 2).toNat) (by (first | lia | omega)) (by (first | lia | omega))) (by assumption)
    · rename Fm _ _ _ _ _ _ => G
      refine ⟨((lo + hi) / 2 - lo).toNat, by (first | lia | omega), _, _, _, _, _, _, _, rfl, G, ha, hx, hlo, rfl, by (first | lia | omega), by (first | lia | omega), by (first | lia | omega), h3, fun i h5 h6 => ?_, rfl⟩
      exact Int.le_trans (Int.not_lt.mp (by assumption)) (sorted_getD hs (i := ((lo + hi) / 2).toNat) (by (first | lia | omega)) (by (first | lia | omega)))
    · dsimp only
      obtain ⟨k, rfl⟩ := Int.eq_ofNat_of_zero_le h0
      exact hR k _ _ _ (by (first | lia | omega)) (fun i hi => h3 i (by (first | lia | omega))) (fun i h5 h6 => h4 i (by (first | lia | omega)) h6) F.toVw.keep

theorem br_call {prog : Program} {w : World} {A : Around} {s : Shared} {R : Result → Shared → Prop} {l : Addr} {xs : List Int} {x : Int} {t t0 : Tok} {args : Args}
    (hb : ∀ S, peek (HP w.params) S (bindArgs (fdOf w.params 64) args) = some [(Str.ofString "a", .ref l), (Str.ofString "x", .int x t), (Str.ofString "lo", .int 0 t0), (Str.ofString "hi", .none), (Str.ofString "key", .none)])
    (b : Base w s.heap) (hroom : A.depth < recursionLimit) (hl : Holds s.heap l (.il xs)) (hz : xs.length < 2 ^ 62) (hs : xs.Pairwise (· ≤ ·))
    (hR : ∀ (k : Nat) t' h' tk, k ≤ xs.length → (∀ i, i < k → xs.getD i 0 ≤ x) → (∀ i, k ≤ i → i < xs.length → x < xs.getD i 0) → Ext s.heap h' → R (.ok (.ret (.int k t'))) { s with heap := h', toks := tk }) :
    codeAny (model prog w) A (.call (.ref 64) args) R s := by
  refine' enter_fm (binds := [(Str.ofString "a", .ref l), (Str.ofString "x", .int x t), (Str.ofString "lo", .int 0 t0), (Str.ofString "hi", .none), (Str.ofString "key", .none)]) b hroom ?ho ?hd ?hcd ?hb ?bi ?hcl ?c2 ?c3 ?c4 ?hcell ?hloc (fun h₁ tk₁ F => ?_)
  case ho => exact rfl
  case hd => exact rfl
  case hcd => exact rfl
  case hb => exact rfl
  case bi => exact kp_binds b.K hb
  case hcl => exact rfl
  case c2 => exact rfl
  case c3 => exact rfl
  case c4 => exact rfl
  case hcell => exact rfl
  case hloc => exact rfl
  walk_at "m:go"
  refine wpAny_While ?_
  refine' codeAny_whileLoop (fun n s' => ∃ h' tk m' lo hi t1 t2, s' = { s with heap := h', toks := tk } ∧ Fm w s.heap ?env m' [] h' ∧ m' (Str.ofString "a") = some (.ref l) ∧ m' (Str.ofString "x") = some (.int x t) ∧
    m' (Str.ofString "lo") = some (.int lo t1) ∧ m' (Str.ofString "hi") = some (.int hi t2) ∧ 0 ≤ lo ∧ lo ≤ hi ∧ hi ≤ xs.length ∧ (∀ i : Nat, (i : Int) < lo → xs.getD i 0 ≤ x) ∧ (∀ i : Nat, hi ≤ i → i < xs.length → x < xs.getD i 0) ∧ n = (hi - lo).toNat) ?turn (xs.length - 0 : Int).toNat ?init
  case init => exact ⟨_, _, _, _, _, _, _, rfl, by assumption, rfl, rfl, rfl, rfl, Int.le_refl _, by (first | lia | omega), Int.le_refl _, by intro i hi; (first | lia | omega), by intro i h1 h2; (first | lia | omega), rfl⟩
  case turn =>
    rintro n s' ⟨h', tk, m', lo, hi, t1, t2, rfl, F, ha, hx, hlo, hhi, h0, h1, h2, h3, h4, rfl⟩
    walk_at "m:go"
    · rename Fm _ _ _ _ _ _ => G
      refine ⟨((lo + hi) / 2 - lo).toNat, by (first | lia | omega), _, _, _, _, _, _, _, rfl, G, ha, hx, hlo, rfl, by (first | lia | omega), by (first | lia | omega), by (first | lia | omega), h3, fun i h5 h6 => ?_, rfl⟩
      exact Int.lt_of_lt_of_le (by assumption) (sorted_getD hs (i := ((lo + hi) / 2).toNat) (by (first | lia | omega)) (by (first | lia | omega)))
    · rename Fm _ _ _ _ _ _ => G
      refine ⟨(hi - ((lo + hi) / 2 + 1)).toNat, by (first | lia | omega), _, _, _, _, _, _, _, rfl, G, ha, hx, rfl, hhi, by (first | lia | omega), by (first | lia | omega), by (first | lia | omega), fun i h5 => ?_, h4, rfl⟩
      refine Int.le_trans (sorted_getD hs (j := ((lo + hi) / 2).toNat) (by (first | lia | omega)) (by (first | lia | omega))) (Int.not_lt.mp (by assumption))
    · dsimp only
      obtain ⟨k, rfl⟩ := Int.eq_ofNat_of_zero_le h0
      exact hR k _ _ _ (by (first | lia | omega)) (fun i hi => h3 i (by (first | lia | omega))) (fun i h5 h6 => h4 i (by (first | lia | omega)) h6) F.toVw.keep

theorem bl_bind2 {w : World} {l : Addr} {x : Int} {t : Tok} : ∀ S, peek (HP w.params) S (bindArgs (fdOf w.params 82) ⟨[.ref l, .int x t], []⟩) = some [(Str.ofString "a", .ref l), (Str.ofString "x", .int x t), (Str.ofString "lo", .int 0 278), (Str.ofString "hi", .none), (Str.ofString "key", .none)] := fun _ => by kernel_rfl
theorem bl_bind4 {w : World} {l : Addr} {x : Int} {t t0 : Tok} : ∀ S, peek (HP w.params) S (bindArgs (fdOf w.params 82) ⟨[.ref l, .int x t, .int 0 t0, .none], []⟩) = some [(Str.ofString "a", .ref l), (Str.ofString "x", .int x t), (Str.ofString "lo", .int 0 t0), (Str.ofString "hi", .none), (Str.ofString "key", .none)] := fun _ => by kernel_rfl
theorem br_bind2 {w : World} {l : Addr} {x : Int} {t : Tok} : ∀ S, peek (HP w.params) S (bindArgs (fdOf w.params 64) ⟨[.ref l, .int x t], []⟩) = some [(Str.ofString "a", .ref l), (Str.ofString "x", .int x t), (Str.ofString "lo", .int 0 251), (Str.ofString "hi", .none), (Str.ofString "key", .none)] := fun _ => by kernel_rfl
theorem br_bind4 {w : World} {l : Addr} {x : Int} {t t0 : Tok} : ∀ S, peek (HP w.params) S (bindArgs (fdOf w.params 64) ⟨[.ref l, .int x t, .int 0 t0, .none], []⟩) = some [(Str.ofString "a", .ref l), (Str.ofString "x", .int x t), (Str.ofString "lo", .int 0 t0), (Str.ofString "hi", .none), (Str.ofString "key", .none)] := fun _ => by kernel_rfl
end
section
theorem calm_M4 : True := by
  w_top off
  trivial
local macro_rules | `(tactic| walk_at "m:pad") => `(tactic| skip)
local macro_rules | `(tactic| walk_at "call ref") => `(tactic| (refine wpAny_call ?_; refine' br_call ?hb ?bs ?room ?hl ?hz ?hs ?_; (case hb => k_dflt exact br_bind4); (case bs => exact Vw.bs (by walk_at "m:vw")); (case room => walk_at "m:room"); (case hl => walk_at "m:hold"); (case hz => first | assumption | omega); (case hs => assumption); intro k' t' h' tk' hk1 hk2 hk3 kE; walk_at "m:ext"))

theorem ir_call {prog : Program} {w : World} {A : Around} {s : Shared} {R : Result → Shared → Prop} {l : Addr} {xs : List Int} {x : Int} {t : Tok}
    (b : Base w s.heap) (hroom : A.depth + 1 < recursionLimit) (hl : Holds s.heap l (.il xs)) (hz : xs.length ≤ 1000000) (hs : xs.Pairwise (· ≤ ·))
    (hR : ∀ (k : Nat) h' tk, k ≤ xs.length → (∀ i, i < k → xs.getD i 0 ≤ x) → (∀ i, k ≤ i → i < xs.length → x < xs.getD i 0) → (∀ b o, b ≠ l → s.heap.get? b = some o → h'.get? b = some o) →
      Holds h' l (.il (xs.take k ++ x :: xs.drop k)) → R (.ok (.ret .none)) { s with heap := h', toks := tk }) :
    codeAny (model prog w) A (.call (.ref 55) ⟨[.ref l, .int x t], []⟩) R s := by
  refine' enter_fm (binds := [(Str.ofString "a", .ref l), (Str.ofString "x", .int x t), (Str.ofString "lo", .int 0 238), (Str.ofString "hi", .none), (Str.ofString "key", .none)]) b ?hroom ?ho ?hd ?hcd ?hb ?bi ?hcl ?c2 ?c3 ?c4 ?hcell ?hloc (fun h₁ tk₁ F => ?_)
  case ho => exact rfl
  case hd => exact rfl
  case hcd => exact rfl
  case hb => exact rfl
  case bi => exact kp_binds b.K (fun S => by kernel_rfl)
  case hcl => exact rfl
  case c2 => exact rfl
  case c3 => exact rfl
  case c4 => exact rfl
  case hcell => exact rfl
  case hloc => exact rfl
  case hroom => omega
  walk_at "m:go"
  rename Fm _ _ _ _ _ _ => G
  refine insert_ints rfl (Holds.ext hl G.toVw.keep) (by assumption) hz fun h' tk ho hh => ?_
  walk_at "m:go"
  exact hR _ _ _ (by assumption) (by assumption) (by assumption) (fun b o hb e => ho b o hb (G.toVw.keep b o e)) hh

local macro_rules | `(tactic| walk_at "call ref") => `(tactic| (refine wpAny_call ?_; refine' bl_call ?hb ?bs ?room ?hl ?hz ?hs ?_; (case hb => k_dflt exact bl_bind4); (case bs => exact Vw.bs (by walk_at "m:vw")); (case room => walk_at "m:room"); (case hl => walk_at "m:hold"); (case hz => first | assumption | omega); (case hs => assumption); intro k' t' h' tk' hk1 hk2 hk3 kE; walk_at "m:ext"))

theorem il_call {prog : Program} {w : World} {A : Around} {s : Shared} {R : Result → Shared → Prop} {l : Addr} {xs : List Int} {x : Int} {t : Tok}
    (b : Base w s.heap) (hroom : A.depth + 1 < recursionLimit) (hl : Holds s.heap l (.il xs)) (hz : xs.length ≤ 1000000) (hs : xs.Pairwise (· ≤ ·))
    (hR : ∀ (k : Nat) h' tk, k ≤ xs.length → (∀ i, i < k → xs.getD i 0 < x) → (∀ i, k ≤ i → i < xs.length → x ≤ xs.getD i 0) → (∀ b o, b ≠ l → s.heap.get? b = some o → h'.get? b = some o) →
      Holds h' l (.il (xs.take k ++ x :: xs.drop k)) → R (.ok (.ret .none)) { s with heap := h', toks := tk }) :
    codeAny (model prog w) A (.call (.ref 73) ⟨[.ref l, .int x t], []⟩) R s := by
  refine' enter_fm (binds := [(Str.ofString "a", .ref l), (Str.ofString "x", .int x t), (Str.ofString "lo", .int 0 265), (Str.ofString "hi", .none), (Str.ofString "key", .none)]) b ?hroom ?ho ?hd ?hcd ?hb ?bi ?hcl ?c2 ?c3 ?c4 ?hcell ?hloc (fun h₁ tk₁ F => ?_)
  case ho => exact rfl
  case hd => exact rfl
  case hcd => exact rfl
  case hb => exact rfl
  case bi => exact kp_binds b.K (fun S => by kernel_rfl)
  case hcl => exact rfl
  case c2 => exact rfl
  case c3 => exact rfl
  case c4 => exact rfl
  case hcell => exact rfl
  case hloc => exact rfl
  case hroom => omega
  walk_at "m:go"
  rename Fm _ _ _ _ _ _ => G
  refine insert_ints rfl (Holds.ext hl G.toVw.keep) (by assumption) hz fun h' tk ho hh => ?_
  walk_at "m:go"
  exact hR _ _ _ (by assumption) (by assumption) (by assumption) (fun b o hb e => ho b o hb (G.toVw.keep b o e)) hh
end
section
section
variable {prog : Program} {w : World} {A : Around} {E : Value → Shared → Prop} {s : Shared} {l : Addr} {Q : Value → Shared → Prop} {h₀ : Heap} {env : Env} {m : Str → Option Value} {led : List (Addr × LV)}

theorem get_none_size (h : Heap) : h.get? h.objs.size = none := get_none_of_ge (Nat.le_refl _)
theorem ext_push (h : Heap) (o : Obj) : Ext h (h.push o) := fun _ _ e => Heap.get?_push_of_some _ e

theorem range1_F {n : Int} {t : Tok} (F : Fm w h₀ env m led s.heap) (h : ∀ r h' tk, Fm w h₀ env m ((r, .rg 0 n) :: led) h' → Q (.ref r) { s with heap := h', toks := tk }) :
    wpAny (model prog w) A (call (.type "range") [.int n t]) Q E s :=
  call_range_1 (h _ _ _ (F.push (ext_push _ _) (get_none_size _) ⟨_, _, _, Heap.get?_push_size _ rfl⟩))
theorem range2_F {a b : Int} {t u : Tok} (F : Fm w h₀ env m led s.heap) (h : ∀ r h' tk, Fm w h₀ env m ((r, .rg a b) :: led) h' → Q (.ref r) { s with heap := h', toks := tk }) :
    wpAny (model prog w) A (call (.type "range") [.int a t, .int b u]) Q E s :=
  call_range_2 (h _ _ _ (F.push (ext_push _ _) (get_none_size _) ⟨_, _, _, Heap.get?_push_size _ rfl⟩))

theorem iterL_F (F : Fm w h₀ env m led s.heap) (hl : ∃ its, s.heap.IsList l its) (h : ∀ I h' tk, Fm w h₀ env m ((I, .it l 0) :: led) h' → Q (.ref I) { s with heap := h', toks := tk }) :
    wpAny (model prog w) A (pyIter (.ref l)) Q E s := by
  obtain ⟨its, hl⟩ := hl
  exact wpAny_pyIter_list hl (h _ _ _ (F.push (ext_push _ _) (get_none_size _) ⟨_, Heap.get?_push_size _ rfl, rfl, rfl⟩))

theorem small_of {a b : Int} (ha : -(2 ^ 40) < a) (ha2 : a < 2 ^ 40) (hb : -(2 ^ 40) < b) (hb2 : b < 2 ^ 40) : Builtin.Range.small a b 1 = true ∧ (a ≤ b → Builtin.Range.rangeSize a b 1 = b - a) := by
  constructor
  · unfold Builtin.Range.small Builtin.Range.rangeSize
    simp only [show (1 : Int) > 0 from by decide, if_true, Int.ediv_one]
    unfold Builtin.Range.rangeFitsLong
    split <;> simp only [Bool.and_eq_true, Bool.or_eq_true, decide_eq_true_eq, beq_iff_eq] <;> (first | lia | omega)
  · intro h
    unfold Builtin.Range.rangeSize
    simp only [show (1 : Int) > 0 from by decide, if_true, Int.ediv_one]
    split <;> (first | lia | omega)

theorem iterR_F {r : Addr} {a b : Int} (F : Fm w h₀ env m led s.heap) (hr : Holds s.heap r (.rg a b)) (ha : -(2 ^ 40) < a) (ha2 : a < 2 ^ 40) (hb2 : b < 2 ^ 40) (hab : a ≤ b)
    (h : ∀ I h' tk, Fm w h₀ env m ((I, .rt a (b - a) 1) :: led) h' → Q (.ref I) { s with heap := h', toks := tk }) :
    wpAny (model prog w) A (pyIter (.ref r)) Q E s := by
  obtain ⟨t, u, v, hr⟩ := hr
  obtain ⟨h1, h2⟩ := small_of ha ha2 (b := b) (by (first | lia | omega)) hb2
  refine wpAny_pyIter_range hr h1 (h _ _ _ (F.push (ext_push _ _) (get_none_size _) ?_))
  rw [h2 hab]
  exact Heap.get?_push_size _ rfl
end

section
variable {prog : Program} {w : World} {A : Around} {E : Value → Shared → Prop} {R : Result → Shared → Prop} {s : Shared} {l I : Addr} {h₀ : Heap} {env : Env} {m : Str → Option Value} {led : List (Addr × LV)}
  {x : Str} {px : Pos} {body : List Stmt}

/-- the end of a turn: the invariant of the next, or a way out -/
def Turned (w : World) (h₀ : Heap) (env : Env) (s : Shared) (J : (Str → Option Value) → List (Addr × LV) → Prop) (I : Addr) (v : LV) (R : Result → Shared → Prop) (f : Flow) (s₃ : Shared) : Prop := match f with
  | .next | .cont => ∃ m₂ led₂ h₂ tk₂, s₃ = { s with heap := h₂, toks := tk₂ } ∧ J m₂ led₂ ∧ Fm w h₀ env m₂ ((I, v) :: led₂) h₂
  | .brk => R (.ok .next) s₃
  | .ret v => R (.ok (.ret v)) s₃

theorem loop_list {xs : List Value} (hh : A.handled = none) (F : Fm w h₀ env m ((I, .it l 0) :: led) s.heap) (J : Nat → (Str → Option Value) → List (Addr × LV) → Prop)
    (hk : env.scope.kind = .function) (hx : env.kindOf x = some .local) (hc : env.cells.lookup x = none)
    (hold : ∀ i m' led' h', J i m' led' → Fm w h₀ env m' ((I, .it l i) :: led') h' → h'.IsList l xs.toArray)
    (h0 : J 0 m led)
    (turn : ∀ i v m' led' h' tk, xs[i]? = some v → J i m' led' → Fm w h₀ env (upd m' x v) ((I, .it l (i + 1)) :: led') h' →
      wpAny (model prog w) A (execs body env) (Turned w h₀ env s (J (i + 1)) I (.it l (i + 1)) R) (fun _ _ => False) { s with heap := h', toks := tk })
    (fin : ∀ m' led' h' tk, J xs.length m' led' → Fm w h₀ env m' led' h' → R (.ok .next) { s with heap := h', toks := tk }) :
    codeAny (model prog w) A (.forLoop (.Name x px) (.ref I) body [] env) R s := by
  refine codeAny_forLoop (fun k s' => ∃ i m' led' h' tk, s' = { s with heap := h', toks := tk } ∧ i ≤ xs.length ∧ J i m' led' ∧ Fm w h₀ env m' ((I, .it l i) :: led') h' ∧ k = xs.length - i) ?_ xs.length
    ⟨0, m, led, s.heap, s.toks, rfl, Nat.zero_le _, h0, F, rfl⟩
  rintro k s' ⟨i, m', led', h', tk, rfl, hi, hJ, F', rfl⟩
  have hl := hold i m' led' h' hJ F'
  have hit : h'.IsListIter I l i := F'.toVw.lst _ (.head _)
  cases hv : xs[i]? with
  | none =>
    have hlen : xs.length ≤ i := by simpa using hv
    have e : i = xs.length := by (first | lia | omega)
    subst e
    refine wpAny_pyNext_list_end hh hit hl (by simp) fun h₁ he₁ => wpAny_execs_nil ?_
    exact fin m' led' h₁ tk hJ (F'.lose he₁)
  | some v =>
    have hlt : i < xs.length := (List.getElem?_eq_some_iff.mp hv).1
    refine wpAny_pyNext_list_item hit hl (x := v) (by simpa using hv) fun h₁ hit₁ hs₁ => ?_
    have F₁ : Fm w h₀ env m' ((I, .it l (i + 1)) :: led') h₁ := F'.set .head (fun b o hb e => hs₁.extBut b o hb e) hit₁
    refine wpAny_assign_Name (F₁.store (s := { s with heap := h₁, toks := tk }) (.loc hx) hk (fun _ => hc) (by rw [hx]; decide) fun h₂ tk₂ F₂ => ?_)
    refine wpAny_mono (turn i v m' led' h₂ tk₂ hv hJ F₂) (fun f s₃ h₃ => ?_) fun _ _ e => e.elim
    cases f with
    | next => obtain ⟨m₂, led₂, h₂, tk₂, rfl, hJ₂, F₃⟩ := h₃; exact ⟨xs.length - (i + 1), by (first | lia | omega), i + 1, m₂, led₂, h₂, tk₂, rfl, hlt, hJ₂, F₃, rfl⟩
    | cont => obtain ⟨m₂, led₂, h₂, tk₂, rfl, hJ₂, F₃⟩ := h₃; exact ⟨xs.length - (i + 1), by (first | lia | omega), i + 1, m₂, led₂, h₂, tk₂, rfl, hlt, hJ₂, F₃, rfl⟩
    | brk => exact h₃
    | ret v => exact h₃

theorem loop_range {a : Int} {n : Nat} {z : Int} (hz : z = n) (hh : A.handled = none) (F : Fm w h₀ env m ((I, .rt a z 1) :: led) s.heap) (J : Nat → (Str → Option Value) → List (Addr × LV) → Prop)
    (hk : env.scope.kind = .function) (hx : env.kindOf x = some .local) (hc : env.cells.lookup x = none)
    (h0 : J 0 m led)
    (turn : ∀ i t m' led' h' tk, i < n → J i m' led' → Fm w h₀ env (upd m' x (.int (a + i) t)) ((I, .rt (a + (i + 1 : Nat)) (n - (i + 1 : Nat)) 1) :: led') h' →
      wpAny (model prog w) A (execs body env) (Turned w h₀ env s (J (i + 1)) I (.rt (a + (i + 1 : Nat)) (n - (i + 1 : Nat)) 1) R) (fun _ _ => False) { s with heap := h', toks := tk })
    (fin : ∀ m' led' h' tk, J n m' led' → Fm w h₀ env m' led' h' → R (.ok .next) { s with heap := h', toks := tk }) :
    codeAny (model prog w) A (.forLoop (.Name x px) (.ref I) body [] env) R s := by
  subst hz
  refine codeAny_forLoop (fun k s' => ∃ i m' led' h' tk, s' = { s with heap := h', toks := tk } ∧ i ≤ n ∧ J i m' led' ∧ Fm w h₀ env m' ((I, .rt (a + (i : Nat)) (n - (i : Nat)) 1) :: led') h' ∧ k = n - i) ?_ n
    ⟨0, m, led, s.heap, s.toks, rfl, Nat.zero_le _, h0, by simpa using F, rfl⟩
  rintro k s' ⟨i, m', led', h', tk, rfl, hi, hJ, F', rfl⟩
  have hit : IsRangeIter h' I (a + (i : Nat)) (n - (i : Nat)) 1 := F'.toVw.lst _ (.head _)
  rcases Nat.lt_or_eq_of_le hi with hlt | rfl
  · refine wpAny_pyNext_range_item hit (by (first | lia | omega)) fun h₁ hit₁ hs₁ => ?_
    have F₁ : Fm w h₀ env m' ((I, .rt (a + (i + 1 : Nat)) (n - (i + 1 : Nat)) 1) :: led') h₁ := F'.set .head (fun b o hb e => hs₁.extBut b o hb e) (by
      have e1 : a + ((i + 1 : Nat) : Int) = a + (i : Int) + 1 := by push_cast; (first | lia | omega)
      have e2 : (n : Int) - ((i + 1 : Nat) : Int) = (n : Int) - (i : Int) - 1 := by push_cast; (first | lia | omega)
      show IsRangeIter h₁ I _ _ _
      rw [e1, e2]; exact hit₁)
    refine wpAny_assign_Name (F₁.store (s := { s with heap := h₁, toks := tk + 1 }) (.loc hx) hk (fun _ => hc) (by rw [hx]; decide) fun h₂ tk₂ F₂ => ?_)
    refine wpAny_mono (turn i _ m' led' h₂ tk₂ hlt hJ F₂) (fun f s₃ h₃ => ?_) fun _ _ e => e.elim
    cases f with
    | next => obtain ⟨m₂, led₂, h₂, tk₂, rfl, hJ₂, F₃⟩ := h₃; exact ⟨n - (i + 1), by (first | lia | omega), i + 1, m₂, led₂, h₂, tk₂, rfl, hlt, hJ₂, F₃, rfl⟩
    | cont => obtain ⟨m₂, led₂, h₂, tk₂, rfl, hJ₂, F₃⟩ := h₃; exact ⟨n - (i + 1), by (first | lia | omega), i + 1, m₂, led₂, h₂, tk₂, rfl, hlt, hJ₂, F₃, rfl⟩
    | brk => exact h₃
    | ret v => exact h₃
  · refine wpAny_pyNext_range_end hh hit (by (first | lia | omega)) fun h₁ he₁ => wpAny_execs_nil ?_
    exact fin m' led' h₁ tk hJ (F'.lose he₁)
end

section
variable {prog : Program} {w : World} {A : Around} {E : Value → Shared → Prop} {s : Shared} {Q : Value → Shared → Prop}
theorem mulok_r {a b : Int} (h : b.natAbs < 2 ^ 62) : IntMulOk a b := .of_right (intBits_le_64 (by (first | lia | omega)) (by (first | lia | omega)))
theorem bits_le {a : Int} (h : a.natAbs < 2 ^ 4096) : Builtin.Int.intBits a ≤ 2 ^ 20 := by
  unfold Builtin.Int.intBits
  split
  · exact Nat.zero_le _
  · rcases Nat.eq_zero_or_pos a.natAbs with h0 | hp
    · rw [h0]; decide
    · have := (Nat.log2_lt (Nat.ne_of_gt hp)).mpr h
      have e : (2 : Nat) ^ 20 = 1048576 := by decide
      (first | lia | omega)
theorem mulok_b {a b : Int} (ha : a.natAbs < 2 ^ 4096) (hb : b.natAbs < 2 ^ 4096) : IntMulOk a b := .of_bits (bits_le ha) (bits_le hb)
end
end
local macro_rules | `(tactic| walk_at "call type:range") => `(tactic| ((rename Fm _ _ _ _ _ _ => kF); (first | refine range1_F kF ?_ | refine range2_F kF ?_); clear kF; intro r' h' tk' F'))
local macro_rules | `(tactic| walk_at "inplaceOp Mult int int") => `(tactic| (refine' imul_int ?_ ?hm; (case hm => first | exact mulok_r (by assumption) | exact mulok_r (by omega) | exact mulok_b (by assumption) (by assumption))))
local macro_rules | `(tactic| walk_at "binaryOp Mult int int") => `(tactic| (refine' mul_int ?_ ?hm; (case hm => first | exact mulok_r (by assumption) | exact mulok_r (by omega) | exact mulok_b (by assumption) (by assumption))))
section
theorem calm_M6 : True := by
  w_top off
  trivial
local macro_rules | `(tactic| walk_at "m:pad") => `(tactic| skip)
def prodZ (xs : List Int) (p : Int) : Int := xs.foldl (fun a x => a * (x - p)) 1

theorem prodZ_succ {xs : List Int} {p n : Int} {i : Nat} (h : xs[i]? = some n) : prodZ (xs.take (i + 1)) p = prodZ (xs.take i) p * (n - p) := by
  unfold prodZ
  rw [List.take_add_one, h, List.foldl_append]
  rfl

theorem lp_call {prog : Program} {w : World} {A : Around} {s : Shared} {R : Result → Shared → Prop} {l : Addr} {xs : List Int} {p : Int} {t : Tok}
    (b : Base w s.heap) (hh : A.handled = none) (hroom : A.depth < recursionLimit) (hl : Holds s.heap l (.il xs)) (hb : ∀ x ∈ xs, (x - p).natAbs < 2 ^ 62)
    (hR : ∀ t' h' tk, Ext s.heap h' → R (.ok (.ret (.int (prodZ xs p) t'))) { s with heap := h', toks := tk }) :
    codeAny (model prog w) A (.call (.ref 103) ⟨[.ref l, .int p t], []⟩) R s := by
  refine' enter_fm (binds := [(Str.ofString "points", .ref l), (Str.ofString "place", .int p t)]) b hroom ?ho ?hd ?hcd ?hb ?bi ?hcl ?c2 ?c3 ?c4 ?hcell ?hloc (fun h₁ tk₁ F => ?_)
  case ho => exact rfl
  case hd => exact rfl
  case hcd => exact rfl
  case hb => exact rfl
  case bi => exact kp_binds b.K (fun S => by kernel_rfl)
  case hcl => exact rfl
  case c2 => exact rfl
  case c3 => exact rfl
  case c4 => exact rfl
  case hcell => exact rfl
  case hloc => exact rfl
  walk_at "m:go"
  refine wpAny_For ?_
  walk_at "m:go"
  rename Fm _ _ _ _ _ _ => G
  refine iterL_F G (let ⟨vs, p, _⟩ := (hl.ext G.toVw.keep).asInts; ⟨_, p⟩) fun I h' tk G' => ?_
  obtain ⟨vs, hvs, hi⟩ := hl.asInts
  refine' loop_list (xs := vs) hh G' (fun i m led => led = [] ∧ m (Str.ofString "place") = some (.int p t) ∧ ∃ u, m (Str.ofString "product") = some (.int (prodZ (xs.take i) p) u)) ?k ?x ?c ?hold ?h0 ?turn ?fin
  case k => exact rfl
  case x => exact rfl
  case c => exact rfl
  case hold => intro i m' led' h' _ F'; exact hvs.at fun o e => F'.toVw.keep _ o e
  case h0 => exact ⟨rfl, rfl, _, rfl⟩
  case turn =>
    rintro i v m' led' h' tk hv ⟨rfl, hp, u, hu⟩ F'
    obtain ⟨n, t', rfl, hn⟩ := IntsAre.at hi i v hv
    have hb' := hb n (List.mem_of_getElem? hn)
    walk_at "m:go"
    rename Fm _ _ _ _ _ _ => G2
    refine ⟨_, _, _, _, rfl, ?_, G2⟩
    refine ⟨rfl, hp, ?_⟩
    rw [prodZ_succ hn]
    exact ⟨_, rfl⟩
  case fin =>
    rintro m' led' h' tk ⟨rfl, hp, u, hu⟩ F'
    rw [List.take_of_length_le (by rw [IntsAre.length hi]; exact Nat.le_refl _)] at hu
    walk_at "m:go"
    exact hR _ _ _ F'.toVw.keep
end
section
/-- a text by its signs -/
def T (cs : List Nat) : Str := ⟨cs.toArray⟩
theorem T_len (cs : List Nat) : (T cs).length = cs.length := by show cs.toArray.size = _; simp
theorem T_append (a b : List Nat) : T a ++ T b = T (a ++ b) := by
  show Str.mk (a.toArray ++ b.toArray) = Str.mk _
  simp
theorem T_cps (a : List Nat) : (T a).cps.toList = a := rfl
theorem T_inj {a b : List Nat} (h : T a = T b) : a = b := by rw [← T_cps a, h, T_cps]
theorem T_beq (a b : List Nat) : (T a == T b) = (a == b) := by
  rw [Bool.eq_iff_iff, beq_iff_eq, beq_iff_eq]
  exact ⟨T_inj, fun h => by rw [h]⟩
theorem T_bne (a b : List Nat) : (T a != T b) = (a != b) := by unfold bne; rw [T_beq]

/-- what a name holds: an int, a text, an object -/
def VI (m : Str → Option Value) (x : Str) (k : Int) : Prop := ∃ t, m x = some (.int k t)
def VS (m : Str → Option Value) (x : Str) (cs : List Nat) : Prop := ∃ t, m x = some (.str (T cs) t)

theorem VS.of {m : Str → Option Value} {x : Str} {cs ds : List Nat} {t : Tok} (h : m x = some (.str (T cs) t)) (e : cs = ds) : VS m x ds := ⟨t, by rw [h, e]⟩
theorem VI.of {m : Str → Option Value} {x : Str} {k j : Int} {t : Tok} (h : m x = some (.int k t)) (e : k = j) : VI m x j := ⟨t, by rw [h, e]⟩

theorem k_257 : Str.ofString "257" = T [50, 53, 55] := by decide +kernel
theorem k_157 : Str.ofString "157" = T [49, 53, 55] := by decide +kernel
theorem k_247 : Str.ofString "247" = T [50, 52, 55] := by decide +kernel
theorem k_252 : Str.ofString "252" = T [50, 53, 50] := by decide +kernel
theorem k_sq : Str.ofString " \"" = T [32, 34] := by decide +kernel
theorem k_q : Str.ofString "\"" = T [34] := by decide +kernel
theorem k_qq : Str.ofString "\"\"" = T [34, 34] := by decide +kernel
theorem k_e : Str.ofString "" = T [] := by decide +kernel
theorem k_bs : Str.ofString "\\" = T [92] := by decide +kernel
theorem k_bsbs : Str.ofString "\\\\" = T [92, 92] := by decide +kernel
theorem k_bsq : Str.ofString "\\\"" = T [92, 34] := by decide +kernel
theorem k_257sq : Str.ofString "257 \"" = T [50, 53, 55, 32, 34] := by decide +kernel
theorem k_257s : Str.ofString "257 " = T [50, 53, 55, 32] := by decide +kernel
theorem k_257u : Str.ofString "257_" = T [50, 53, 55, 95] := by decide +kernel
theorem k_ah : Str.ofString "abcdefgh" = T [97, 98, 99, 100, 101, 102, 103, 104] := by decide +kernel

theorem keptFm {w : World} {h₀ : Heap} {env : Env} {m : Str → Option Value} {led : List (Addr × LV)} : KeptH (Fm w h₀ env m led) := fun h ob F => F.ext (ext_push h ob)
theorem keptVw {w : World} {h₀ : Heap} {env : Env} {m : Str → Option Value} {led : List (Addr × LV)} : KeptH (Vw w h₀ env m led) := fun h ob F => F.ext (ext_push h ob)

section
variable {M : Model} {A : Around} {E : Value → Shared → Prop} {s : Shared} {env : Env} {Q : Value → Shared → Prop}
theorem const_T {lit : String} {cs : List Nat} {k : Nat} {pos : Pos} (e : Str.ofString lit = T cs) (h : Q (.str (T cs) s.toks) { s with toks := s.toks + 1 }) :
    wpAny M A (eval (.Constant (.str (Str.ofString lit)) k pos) env) Q E s := by rw [e]; exact Calls.Constant_str h
end
section
variable {prog : Program} {w : World} {A : Around} {E : Value → Shared → Prop} {s : Shared} {Q : Value → Shared → Prop} {value slice : Expr} {cs ds : List Nat} {t u : Tok} {P : Heap → Prop}

theorem add_T (hz : cs.length + ds.length ≤ 1000000) (h : ∀ t' tk, Q (.str (T (cs ++ ds)) t') { s with toks := tk }) : wpAny (model prog w) A (binaryOp .Add (.str (T cs) t) (.str (T ds) u)) Q E s :=
  SB.add (fun t' k => by rw [T_append]; exact h _ _) (by rw [T_len, T_len, sizeLine_eq]; (first | lia | omega))
theorem ne_T (h : Q (.bool (cs != ds)) s) : wpAny (model prog w) A (compareOp .NotEq (.str (T cs) t) (.str (T ds) u)) Q E s := ne_str (by rw [T_bne]; exact h)
theorem eq_T (h : Q (.bool (cs == ds)) s) : wpAny (model prog w) A (compareOp .Eq (.str (T cs) t) (.str (T ds) u)) Q E s := eq_str (by rw [T_beq]; exact h)
theorem len_T (hz : cs.length ≤ 1000000) (h : ∀ t' tk, Q (.int cs.length t') { s with toks := tk }) : wpAny (model prog w) A (call (.builtin "len") [.str (T cs) t]) Q E s :=
  len_str (by rw [T_len]; (first | lia | omega)) (by rw [T_len]; exact h _ _)
theorem item_T {i : Int} (h0 : 0 ≤ i) (h1 : i < cs.length) (hz : cs.length ≤ 1000000) (h : ∀ t' tk, Q (.str (T [cs.getD i.toNat 0]) t') { s with toks := tk })
    (hs : subscripted slice false (.str (T cs) t) (.int i u) = operate [.str (T cs) t, .int i u] (getItem (.str (T cs) t) (.int i u)))
    (ht : ∀ r, letTemporaryGo value (.str (T cs) t) r = pure ()) :
    wpAny (model prog w) A (subscriptTail value slice (.str (T cs) t) (.int i u)) Q E s := by
  refine item_str (by unfold fitsSsize; rw [decide_eq_false (by (first | lia | omega)), decide_eq_false (by (first | lia | omega))]; rfl) (by rw [T_len]; (first | lia | omega)) (by rw [T_len]; exact h1) (fun _ => ?_) hs ht
  have e : Txt.item (T cs) i = T [cs.getD i.toNat 0] := by
    refine item_meets h0 ?_
    have hlt : i.toNat < cs.length := by (first | lia | omega)
    show cs.toArray[i.toNat]? = _
    simp [hlt]
  rw [e]; exact h _ _

theorem slice_T {i j : Nat} (hij : i ≤ j) (hj : j ≤ cs.length) : Txt.slice (T cs) (some i) (some j) = T ((cs.drop i).take (j - i)) := by
  have := StrLaws.sliceText_plain (x := T cs) (i := i) (j := j) ⟨by (first | lia | omega), by (first | lia | omega), by rw [T_cps]; (first | lia | omega)⟩
  refine Eq.trans (show Txt.slice (T cs) (some (i : Int)) (some (j : Int)) = StrLaws.sliceText (T cs) (some (i : Int)) (some (j : Int)) from rfl) (this.trans ?_)
  have e2 : ((j : Int) - (i : Int)).toNat = j - i := by (first | lia | omega)
  rw [T_cps, e2]; rfl
theorem slice_T_to {j : Nat} (hj : j ≤ cs.length) : Txt.slice (T cs) none (some j) = T (cs.take j) := by
  have := StrLaws.sliceText_to (x := T cs) (j := j) ⟨by (first | lia | omega), by rw [T_cps]; (first | lia | omega)⟩
  refine Eq.trans (show Txt.slice (T cs) none (some (j : Int)) = StrLaws.sliceText (T cs) none (some (j : Int)) from rfl) (this.trans ?_)
  have e2 : ((j : Int) - 0).toNat = j := by (first | lia | omega)
  rw [T_cps, e2]; rfl
theorem slice_T_from {i : Nat} (hi : i ≤ cs.length) : Txt.slice (T cs) (some i) none = T (cs.drop i) := by
  have := StrLaws.sliceText_from (x := T cs) (i := i) ⟨by (first | lia | omega), by rw [T_cps]; (first | lia | omega)⟩
  refine Eq.trans (show Txt.slice (T cs) (some (i : Int)) none = StrLaws.sliceText (T cs) (some (i : Int)) none from rfl) (this.trans ?_)
  rw [T_cps, List.take_of_length_le (by rw [List.length_drop]; (first | lia | omega))]
  rfl

theorem sub_T_ss {i j : Nat} {ki kj : Int} {ui uj : Tok} {out : List Nat} (hki : ki = i) (hkj : kj = j) (hij : i ≤ j) (hj : j ≤ cs.length) (hz : cs.length ≤ 1000000) (ho : (cs.drop i).take (j - i) = out) (hk : KeptH P) (hP : P s.heap) (h : ∀ h' t' tk, P h' → Q (.str (T out) t') { s with heap := h', toks := tk })
    (hs : subscripted slice false (.str (T cs) t) (.ref s.heap.objs.size) = operate [.ref s.heap.objs.size, .str (T cs) t] (getItem (.str (T cs) t) (.ref s.heap.objs.size)))
    (ht : ∀ r, letTemporaryGo value (.str (T cs) t) r = pure ()) :
    wpAny (model prog w) A (subscriptTail value slice (.str (T cs) t) (.ref s.heap.objs.size)) Q E { s with heap := s.heap.push { cls := .type "slice", data := .fields #[.int ki ui, .int kj uj, .none] } } := by
  subst hki hkj ho
  exact tail_of_ItemOn (SBH.sliceItem_ss hk hP (fun h' t' k hp => by rw [slice_T hij hj]; exact h _ _ _ hp) (by rw [T_len, sizeLine_eq]; (first | lia | omega))) hs ht
theorem sub_T_ns {j : Nat} {kj : Int} {uj : Tok} {out : List Nat} (hkj : kj = j) (hj : j ≤ cs.length) (hz : cs.length ≤ 1000000) (ho : cs.take j = out) (hk : KeptH P) (hP : P s.heap) (h : ∀ h' t' tk, P h' → Q (.str (T out) t') { s with heap := h', toks := tk })
    (hs : subscripted slice false (.str (T cs) t) (.ref s.heap.objs.size) = operate [.ref s.heap.objs.size, .str (T cs) t] (getItem (.str (T cs) t) (.ref s.heap.objs.size)))
    (ht : ∀ r, letTemporaryGo value (.str (T cs) t) r = pure ()) :
    wpAny (model prog w) A (subscriptTail value slice (.str (T cs) t) (.ref s.heap.objs.size)) Q E { s with heap := s.heap.push { cls := .type "slice", data := .fields #[.none, .int kj uj, .none] } } := by
  subst hkj ho
  exact tail_of_ItemOn (SBH.sliceItem_ns hk hP (fun h' t' k hp => by rw [slice_T_to hj]; exact h _ _ _ hp) (by rw [T_len, sizeLine_eq]; (first | lia | omega))) hs ht
theorem sub_T_sn {i : Nat} {ki : Int} {ui : Tok} {out : List Nat} (hki : ki = i) (hi : i ≤ cs.length) (hz : cs.length ≤ 1000000) (ho : cs.drop i = out) (hk : KeptH P) (hP : P s.heap) (h : ∀ h' t' tk, P h' → Q (.str (T out) t') { s with heap := h', toks := tk })
    (hs : subscripted slice false (.str (T cs) t) (.ref s.heap.objs.size) = operate [.ref s.heap.objs.size, .str (T cs) t] (getItem (.str (T cs) t) (.ref s.heap.objs.size)))
    (ht : ∀ r, letTemporaryGo value (.str (T cs) t) r = pure ()) :
    wpAny (model prog w) A (subscriptTail value slice (.str (T cs) t) (.ref s.heap.objs.size)) Q E { s with heap := s.heap.push { cls := .type "slice", data := .fields #[.int ki ui, .none, .none] } } := by
  subst hki ho
  exact tail_of_ItemOn (SBH.sliceItem_sn hk hP (fun h' t' k hp => by rw [slice_T_from hi]; exact h _ _ _ hp) (by rw [T_len, sizeLine_eq]; (first | lia | omega))) hs ht
end
end
local macro_rules | `(tactic| walk_at "eval Constant str") => `(tactic| (refine' const_T ?e ?_; (case e => first | exact k_q | exact k_e | exact k_257 | exact k_sq | exact k_qq | exact k_bs | exact k_bsbs | exact k_bsq | exact k_257sq | exact k_257s | exact k_257u | exact k_ah | exact k_157 | exact k_247 | exact k_252)))
local macro_rules | `(tactic| walk_at "binaryOp Add str str") => `(tactic| (refine' add_T ?hz ?_; (case hz => walk_at "m:sz"); intro t' tk'))
local macro_rules | `(tactic| walk_at "compareOp NotEq str str") => `(tactic| refine ne_T ?_)
local macro_rules | `(tactic| walk_at "compareOp Eq str str") => `(tactic| refine eq_T ?_)
local macro_rules | `(tactic| walk_at "call builtin:len") => `(tactic| (refine' len_T ?hz ?_; (case hz => walk_at "m:sz"); intro t' tk'))
local macro_rules | `(tactic| walk_at "subscriptTail") => `(tactic| ((with_reducible show wpAny _ _ (subscriptTail _ _ (Value.str _ _) (Value.int _ _)) _ _ _); (refine' item_T ?h0 ?h1 ?hz ?_ ?hs ?ht; (case h0 => walk_at "m:idx"); (case h1 => walk_at "m:idx"); (case hz => walk_at "m:sz"); (case hs => with_unfolding_all rfl); (case ht => intro _; with_unfolding_all rfl); intro t' tk')))
local macro_rules | `(tactic| walk_at "subscriptTail") => `(tactic| ((with_reducible show wpAny _ _ (subscriptTail _ _ (Value.str _ _) (Value.ref _)) _ _ _); ((rename Fm _ _ _ _ _ _ => kF); refine' sub_T_ss ?hki ?hkj ?hij ?hj ?hz ?ho keptFm kF ?_ ?hs ?ht; (case hki => k_dflt exact rfl); (case hkj => k_dflt exact rfl); (case hij => walk_at "m:sz"); (case hj => walk_at "m:sz"); (case hz => walk_at "m:sz"); (case ho => walk_at "m:cut"); (case hs => with_unfolding_all rfl); (case ht => intro _; with_unfolding_all rfl); clear kF; intro h' t' tk' F')))
local macro_rules | `(tactic| walk_at "subscriptTail") => `(tactic| ((with_reducible show wpAny _ _ (subscriptTail _ _ (Value.str _ _) (Value.ref _)) _ _ _); ((rename Fm _ _ _ _ _ _ => kF); refine' sub_T_ns ?hkj ?hj ?hz ?ho keptFm kF ?_ ?hs ?ht; (case hkj => k_dflt exact rfl); (case hj => walk_at "m:sz"); (case hz => walk_at "m:sz"); (case ho => walk_at "m:cut"); (case hs => with_unfolding_all rfl); (case ht => intro _; with_unfolding_all rfl); clear kF; intro h' t' tk' F')))
local macro_rules | `(tactic| walk_at "subscriptTail") => `(tactic| ((with_reducible show wpAny _ _ (subscriptTail _ _ (Value.str _ _) (Value.ref _)) _ _ _); ((rename Fm _ _ _ _ _ _ => kF); refine' sub_T_sn ?hki ?hi ?hz ?ho keptFm kF ?_ ?hs ?ht; (case hki => k_dflt exact rfl); (case hi => walk_at "m:sz"); (case hz => walk_at "m:sz"); (case ho => walk_at "m:cut"); (case hs => with_unfolding_all rfl); (case ht => intro _; with_unfolding_all rfl); clear kF; intro h' t' tk' F')))
section
theorem calm_M7 : True := by
  w_top off
  trivial
/-- what parse257 tells of what stands behind the opening mark -/
def p257 : List Nat → List Nat
  | [] => []
  | [c] => if c = 34 then [] else [c]
  | c :: d :: r => if c = 34 then (if d = 34 then 34 :: p257 r else []) else c :: p257 (d :: r)

theorem pq_at {k c : Nat} {cs : List Nat} (h5 : 5 ≤ k) (h : ([(50 :: 53 :: 55 :: 32 :: 34 :: cs).getD (k : Int).toNat 0] == [c]) = true) : cs.getD (k - 5) 0 = c := by
  obtain ⟨j, rfl⟩ : ∃ j, k = j + 5 := ⟨k - 5, by (first | lia | omega)⟩
  have e : ((j + 5 : Nat) : Int).toNat = j + 5 := by (first | lia | omega)
  rw [e] at h
  simpa using h
theorem pq_at4 {k c : Nat} {cs : List Nat} (h5 : 5 ≤ k) (h : ([(50 :: 53 :: 55 :: 32 :: 34 :: cs).getD (k : Int).toNat 0] == [c]) = false) : cs.getD (k - 5) 0 ≠ c := by
  obtain ⟨j, rfl⟩ : ∃ j, k = j + 5 := ⟨k - 5, by (first | lia | omega)⟩
  have e : ((j + 5 : Nat) : Int).toNat = j + 5 := by (first | lia | omega)
  rw [e] at h
  simpa using h
theorem pq_at2 {k c : Nat} {cs : List Nat} (h5 : 5 ≤ k) (h : ([(50 :: 53 :: 55 :: 32 :: 34 :: cs).getD ((k : Int) + 1).toNat 0] != [c]) = true) : cs.getD (k - 5 + 1) 0 ≠ c := by
  obtain ⟨j, rfl⟩ : ∃ j, k = j + 5 := ⟨k - 5, by (first | lia | omega)⟩
  have e : (((j + 5 : Nat) : Int) + 1).toNat = j + 1 + 5 := by (first | lia | omega)
  rw [e] at h
  simpa using h
theorem pq_at3 {k c : Nat} {cs : List Nat} (h5 : 5 ≤ k) (h : ([(50 :: 53 :: 55 :: 32 :: 34 :: cs).getD ((k : Int) + 1).toNat 0] != [c]) = false) : cs.getD (k - 5 + 1) 0 = c := by
  obtain ⟨j, rfl⟩ : ∃ j, k = j + 5 := ⟨k - 5, by (first | lia | omega)⟩
  have e : (((j + 5 : Nat) : Int) + 1).toNat = j + 1 + 5 := by (first | lia | omega)
  rw [e] at h
  simpa using h
theorem pq_val {k : Nat} {cs : List Nat} (h5 : 5 ≤ k) : (50 :: 53 :: 55 :: 32 :: 34 :: cs).getD (k : Int).toNat 0 = cs.getD (k - 5) 0 := by
  obtain ⟨j, rfl⟩ : ∃ j, k = j + 5 := ⟨k - 5, by (first | lia | omega)⟩
  have e : ((j + 5 : Nat) : Int).toNat = j + 5 := by (first | lia | omega)
  rw [e]
  simp
theorem drop_at {cs : List Nat} {j : Nat} (hj : j < cs.length) : cs.drop j = cs.getD j 0 :: cs.drop (j + 1) := by
  rw [List.drop_eq_getElem_cons hj, List.getD_eq_getElem?_getD, List.getElem?_eq_getElem hj]; rfl
theorem pq_end {cs : List Nat} {j : Nat} (hj : j < cs.length) (h : cs.getD j 0 = 34) (h2 : cs.length ≤ j + 1 ∨ cs.getD (j + 1) 0 ≠ 34) : p257 (cs.drop j) = [] := by
  rw [drop_at hj, h]
  rcases Nat.lt_or_ge (j + 1) cs.length with h3 | h3
  · have h4 := h2.resolve_left (by (first | lia | omega))
    rw [drop_at h3]
    generalize cs.getD (j + 1) 0 = c at h4
    simp [p257, h4]
  · rw [List.drop_of_length_le h3]; rfl
theorem pq_two {cs : List Nat} {j : Nat} (hj : j < cs.length) (hj2 : j + 1 < cs.length) (h : cs.getD j 0 = 34) (h2 : cs.getD (j + 1) 0 = 34) : p257 (cs.drop j) = 34 :: p257 (cs.drop (j + 2)) := by
  rw [drop_at hj, h, drop_at hj2, h2]; simp [p257]
theorem pq_one {cs : List Nat} {j : Nat} (hj : j < cs.length) (h : cs.getD j 0 ≠ 34) : p257 (cs.drop j) = cs.getD j 0 :: p257 (cs.drop (j + 1)) := by
  rw [drop_at hj]
  generalize cs.getD j 0 = c at h
  cases cs.drop (j + 1) <;> simp [p257, h]

theorem p_call {prog : Program} {w : World} {A : Around} {s : Shared} {R : Result → Shared → Prop} {cs : List Nat} {t : Tok} 
    (b : Base w s.heap) (hh : A.handled = none) (hroom : A.depth < recursionLimit) (hz : cs.length < 10000)
    (hR : ∀ t' h' tk, Ext s.heap h' → R (.ok (.ret (.str (T (p257 cs)) t'))) { s with heap := h', toks := tk }) :
    codeAny (model prog w) A (.call (.ref 46) ⟨[.str (T (50 :: 53 :: 55 :: 32 :: 34 :: cs)) t], []⟩) R s := by
  refine' enter_fm (binds := [(Str.ofString "resp", .str (T (50 :: 53 :: 55 :: 32 :: 34 :: cs)) t)]) b hroom ?ho ?hd ?hcd ?hb ?bi ?hcl ?c2 ?c3 ?c4 ?hcell ?hloc (fun h₁ tk₁ F => ?_)
  case ho => exact rfl
  case hd => exact rfl
  case hcd => exact rfl
  case hb => exact rfl
  case bi => exact kp_binds b.K (fun S => by kernel_rfl)
  case hcl => exact rfl
  case c2 => exact rfl
  case c3 => exact rfl
  case c4 => exact rfl
  case hcell => exact rfl
  case hloc => exact rfl
  walk_at "m:go"
  refine wpAny_While ?_
  rename Fm _ _ _ _ _ _ => G
  refine' codeAny_whileLoop (fun n s' => ∃ h' tk m' k acc, s' = { s with heap := h', toks := tk } ∧ G.E m' [] h' ∧ m' "resp" = some (.str (T (50 :: 53 :: 55 :: 32 :: 34 :: cs)) t) ∧
    VI m' "i" (k : Nat) ∧ VI m' "n" (50 :: 53 :: 55 :: 32 :: 34 :: cs).length ∧ VS m' "dirname" acc ∧
    5 ≤ k ∧ k ≤ cs.length + 5 ∧ acc ++ p257 (cs.drop (k - 5)) = p257 cs ∧ acc.length + 5 ≤ k ∧ n = cs.length + 5 - k) ?turn cs.length ?init
  case init =>
    refine ⟨_, _, _, 5, [], rfl, G, ?_⟩
    exact ⟨rfl, ⟨_, rfl⟩, ⟨_, rfl⟩, ⟨_, rfl⟩, Nat.le_refl _, Nat.le_add_left _ _, by simp, by simp, by (first | lia | omega)⟩
  case turn =>
    rintro n s' ⟨h', tk, m', k, acc, rfl, F, hresp, ⟨ti, hi⟩, ⟨tn, hn⟩, ⟨td, hd⟩, h5, hk, hacc, hal, rfl⟩
    have hlen : (50 :: 53 :: 55 :: 32 :: 34 :: cs).length = cs.length + 5 := rfl
    walk_at "m:go"
    · walk_at "m:go"
      rename Fm _ _ _ _ _ _ => G2
      have e := pq_end (cs := cs) (j := k - 5) (by (first | lia | omega)) (pq_at h5 (by assumption)) (.inl (by (first | lia | omega)))
      rw [e, List.append_nil] at hacc
      rw [hacc]
      exact hR _ _ _ G2.toVw.keep
    · walk_at "m:go"
      rename Fm _ _ _ _ _ _ => G2
      have e := pq_end (cs := cs) (j := k - 5) (by (first | lia | omega)) (pq_at h5 (by assumption)) (.inr (pq_at2 h5 (by assumption)))
      rw [e, List.append_nil] at hacc
      rw [hacc]
      exact hR _ _ _ G2.toVw.keep
    · rename Fm _ _ _ _ _ _ => G2
      have hq := pq_at h5 (by assumption)
      have e := pq_two (cs := cs) (j := k - 5) (by (first | lia | omega)) (by (first | lia | omega)) hq (pq_at3 h5 (by assumption))
      rw [e] at hacc
      refine ⟨cs.length + 5 - (k + 2), by (first | lia | omega), _, _, _, k + 2, acc ++ [34], rfl, G2, ?_⟩
      refine ⟨hresp, .of rfl (by (first | lia | omega)), ⟨_, hn⟩, .of rfl (by rw [pq_val h5, hq]), by (first | lia | omega), by (first | lia | omega), ?_, by simp; (first | lia | omega), rfl⟩
      · rw [show k + 2 - 5 = k - 5 + 2 from by (first | lia | omega), List.append_assoc]; exact hacc
    · rename Fm _ _ _ _ _ _ => G2
      have e := pq_one (cs := cs) (j := k - 5) (by (first | lia | omega)) (pq_at4 h5 (by assumption))
      rw [e] at hacc
      refine ⟨cs.length + 5 - (k + 1), by (first | lia | omega), _, _, _, k + 1, acc ++ [cs.getD (k - 5) 0], rfl, G2, ?_⟩
      refine ⟨hresp, .of rfl (by (first | lia | omega)), ⟨_, hn⟩, .of rfl (by rw [pq_val h5]), by (first | lia | omega), by (first | lia | omega), ?_, by simp; (first | lia | omega), rfl⟩
      · rw [show k + 1 - 5 = k - 5 + 1 from by (first | lia | omega), List.append_assoc]; exact hacc
    · walk_at "m:go"
      rename Fm _ _ _ _ _ _ => G2
      rw [List.drop_of_length_le (by (first | lia | omega)), show p257 [] = [] from rfl, List.append_nil] at hacc
      rw [hacc]
      exact hR _ _ _ G2.toVw.keep

theorem p_call2 {prog : Program} {w : World} {A : Around} {s : Shared} {R : Result → Shared → Prop} {a c : Nat} {cs : List Nat} {t : Tok} 
    (b : Base w s.heap) (hh : A.handled = none) (hroom : A.depth < recursionLimit) (hz : cs.length < 10000) (hac : ([a, c] != [32, 34]) = true)
    (hR : ∀ t' h' tk, Ext s.heap h' → R (.ok (.ret (.str (T []) t'))) { s with heap := h', toks := tk }) :
    codeAny (model prog w) A (.call (.ref 46) ⟨[.str (T (50 :: 53 :: 55 :: a :: c :: cs)) t], []⟩) R s := by
  refine' enter_fm (binds := [(Str.ofString "resp", .str (T (50 :: 53 :: 55 :: a :: c :: cs)) t)]) b hroom ?ho ?hd ?hcd ?hb ?bi ?hcl ?c2 ?c3 ?c4 ?hcell ?hloc (fun h₁ tk₁ F => ?_)
  case ho => exact rfl
  case hd => exact rfl
  case hcd => exact rfl
  case hb => exact rfl
  case bi => exact kp_binds b.K (fun S => by kernel_rfl)
  case hcl => exact rfl
  case c2 => exact rfl
  case c3 => exact rfl
  case c4 => exact rfl
  case hcell => exact rfl
  case hloc => exact rfl
  walk_at "m:go"
  · rename Fm _ _ _ _ _ _ => G2
    walk_at "m:go"
    exact hR _ _ _ G2.toVw.keep
  all_goals (exfalso; simp_all; done)
end
section
/-- names inside a comprehension: its own, and those of the frame around -/
def inM (env' : Env) (m₃ m : Str → Option Value) : Str → Option Value := fun y => if env'.kindOf y = some .local then m₃ y else m y
theorem inM_local {env' : Env} {m₃ m : Str → Option Value} {x : Str} {v : Value} (hx : env'.kindOf x = some .local) (h : m₃ x = some v) : inM env' m₃ m x = some v := by
  unfold inM; rw [if_pos hx]; exact h

section
variable {w : World} {h₀ h₂ h₃ : Heap} {env : Env} {m m₃ : Str → Option Value} {led : List (Addr × LV)} {I C : Addr} {it : LV} {scope : Scope} {cl : List (Str × Addr)}
theorem comp_vw (F : Fm w h₀ env m ((I, it) :: led) h₂) (hn : h₃.Ns C m₃) (hk : ∀ b o, b ∉ [I] → h₂.get? b = some o → h₃.get? b = some o)
    (hcl : ∀ x c, cl.lookup x = some c → env.cells.lookup x = some c ∧ (compEnvC scope cl C env).kindOf x ≠ some .local) :
    Vw w h₃ (compEnvC scope cl C env) (inM (compEnvC scope cl C env) m₃ m) led h₃ ∧ Ext h₀ h₃ := by
  obtain ⟨oI, hoI, hdI⟩ := (F.toVw.lst _ (.head _)).some
  have kp : Ext h₀ h₃ := fun b o e => hk b o (fun q => by
    rw [List.mem_singleton.mp q] at e; rw [show h₀.get? I = none from F.newA _ (.head _)] at e; cases e) (F.toVw.keep b o e)
  refine ⟨⟨F.toVw.base.keeps kp, fun _ _ e => e, ⟨m₃, hn, fun x hx => ?_⟩, fun x c hc => ?_, fun q hq => ?_⟩, kp⟩
  · unfold inM; rw [if_pos hx]
  · obtain ⟨h1, h2⟩ := hcl x c hc
    obtain ⟨o, ho, hd⟩ := F.toVw.cell x c h1
    unfold inM; rw [if_neg h2]
    exact ⟨o, hk c o (fun q => by rw [List.mem_singleton.mp q, hoI] at ho; cases ho; rw [hd] at hdI; cases hdI) ho, hd⟩
  · exact (F.toVw.lst q (.tail _ hq)).at fun o e => hk _ o (fun z => (List.pairwise_cons.mp F.lap).1 q hq (List.mem_singleton.mp z).symm) e
end

theorem Paired.of_idx {α : Type} {K : α → Value → Prop} : ∀ {as : List α} {vs : List Value}, vs.length = as.length → (∀ (j : Nat) v, vs[j]? = some v → ∃ a, as[j]? = some a ∧ K a v) → Paired K as vs
  | [], [], _, _ => .nil
  | [], _ :: _, h, _ => by simp at h
  | _ :: _, [], h, _ => by simp at h
  | a :: as, v :: vs, h, hP => by
    obtain ⟨a', e, hK⟩ := hP 0 v rfl
    cases e
    exact .cons hK (Paired.of_idx (by simpa using h) fun j v hj => hP (j + 1) v hj)

theorem paired_filter {α : Type} {K : α → Value → Prop} (hinj : ∀ a a' v, K a v → K a' v → a = a') {pz : α → Bool} {p : Value → Bool} (hp : ∀ a v, K a v → p v = pz a) {G : α → Value → Prop} :
    ∀ {as : List α} {vs ys : List Value}, Paired K as vs → Paired (fun v y => ∃ a, K a v ∧ G a y) (vs.filter p) ys → Paired G (as.filter pz) ys
  | _, _, ys, .nil, h => by cases h; exact .nil
  | a :: as, v :: vs, ys, .cons hK t, h => by
    have e := hp a v hK
    rw [List.filter_cons] at h ⊢
    cases hz : pz a with
    | false =>
      rw [hz] at e
      rw [e] at h
      simpa using paired_filter hinj hp t (by simpa using h)
    | true =>
      rw [hz] at e
      rw [e] at h
      simp only [if_true] at h ⊢
      cases h with
      | cons h1 h2 =>
        obtain ⟨a', hK', hG⟩ := h1
        rw [← hinj a a' v hK hK'] at hG
        exact .cons hG (paired_filter hinj hp t h2)

/-- what the walk of a comprehension asks of the iterator -/
def CompGoal (prog : Program) (w : World) (A : Around) (env : Env) (scope : Scope) (cl : List (Str × Addr)) (x : Str) (ifs : List Expr) (elt : Expr) (it : Value) (s₂ : Shared) (Q : Value → Shared → Prop) : Prop :=
  ∃ p F I fp wr n P St, it = .ref I ∧ Walks prog w A I fp wr n P St ∧ n ≤ sizeLine ∧ St 0 s₂.heap ∧ (∀ b ∈ fp, b < s₂.heap.objs.size) ∧
      QuietOnC prog w A env scope cl x ifs elt wr P p F s₂ ∧
      (∀ D h' tk ys (vs : List Value), s₂.heap.get? D = none → h'.IsList D ys → h'.PlainList D ys → vs.length = n → (∀ j v, vs[j]? = some v → P j v) → Paired F (vs.filter p) ys.toList →
        (∀ b o, b ∉ wr → s₂.heap.get? b = some o → h'.get? b = some o) → Q (.ref D) { s₂ with heap := h', toks := tk })

section
variable {prog : Program} {w : World} {A : Around} {s₂ : Shared} {h₀ : Heap} {env : Env} {m : Str → Option Value} {led : List (Addr × LV)} {I : Addr} {it : LV} {scope : Scope} {cl : List (Str × Addr)} {x : Str}
  {ifs : List Expr} {elt : Expr} {Q : Value → Shared → Prop}

/-- what a comprehension's source must show: for items a of as, the tests say pz a, the element is G a -/
structure CompOk (prog : Program) (w : World) (A : Around) (h₀ : Heap) (env : Env) (m : Str → Option Value) (led : List (Addr × LV)) (scope : Scope) (cl : List (Str × Addr)) (x : Str) (ifs : List Expr) (elt : Expr)
    {α : Type} (K : α → Value → Prop) (as : List α) (pz : α → Bool) (G : α → Value → Prop) : Prop where
  tests : ∀ C a v s₃ m₃ E', a ∈ as → K a v → Vw w s₃.heap (compEnvC scope cl C env) (inM (compEnvC scope cl C env) m₃ m) led s₃.heap → Ext h₀ s₃.heap → inM (compEnvC scope cl C env) m₃ m x = some v →
    wpAny (model prog w) A (forIn ifs true fun c r => if r = true then do let ok ← isTrue c (compEnvC scope cl C env) (eval c (compEnvC scope cl C env)); pure (ForInStep.yield ok) else pure (ForInStep.yield r))
      (fun ok s₄ => ok = pz a ∧ Keeps s₃ s₄) E' s₃
  elt : ∀ C a v s₃ m₃ E', a ∈ as → pz a = true → K a v → Vw w s₃.heap (compEnvC scope cl C env) (inM (compEnvC scope cl C env) m₃ m) led s₃.heap → Ext h₀ s₃.heap → inM (compEnvC scope cl C env) m₃ m x = some v →
    wpAny (model prog w) A (eval elt (compEnvC scope cl C env)) (fun y s₄ => G a y ∧ Keeps s₃ s₄) E' s₃

theorem comp_F {α : Type} {K : α → Value → Prop} (hinj : ∀ a a' v, K a v → K a' v → a = a') {as : List α} {pz : α → Bool} {p : Value → Bool} (hp : ∀ a v, K a v → p v = pz a) {G : α → Value → Prop}
    (F : Fm w h₀ env m ((I, it) :: led) s₂.heap) {fp : List Addr} {n : Nat} {P : Nat → Value → Prop} {St : Nat → Heap → Prop}
    (W : Walks prog w A I fp [I] n P St) (hn : n = as.length) (hz : n ≤ 1000000) (hst : St 0 s₂.heap) (hfp : ∀ b ∈ fp, b < s₂.heap.objs.size) (hP : ∀ j v, P j v → ∃ a, as[j]? = some a ∧ K a v)
    (hx : ∀ C, (compEnvC scope cl C env).kindOf x = some .local)
    (hcl : ∀ C x c, cl.lookup x = some c → env.cells.lookup x = some c ∧ (compEnvC scope cl C env).kindOf x ≠ some .local)
    (ok : CompOk prog w A h₀ env m led scope cl x ifs elt K as pz G)
    (fin : ∀ D h' tk ys, Fm w h₀ env m ((D, .vl ys) :: led) h' → Paired G (as.filter pz) ys → Q (.ref D) { s₂ with heap := h', toks := tk }) :
    CompGoal prog w A env scope cl x ifs elt (.ref I) s₂ Q := by
  refine ⟨p, fun v y => ∃ a, K a v ∧ G a y, I, fp, [I], n, P, St, rfl, W, by rw [sizeLine_eq]; (first | lia | omega), hst, hfp, ⟨fun C i v s₃ m₃ E' hC hPv hns hm hk htk => ?_, fun C i v s₃ m₃ E' hC hPv hpv hns hm hk htk => ?_⟩, fun D h' tk ys vs hD hl hpl hlen hPv hF hk => ?_⟩
  · obtain ⟨a, ha, hK⟩ := hP i v hPv
    refine wpAny_mono (ok.tests C a v s₃ m₃ E' (List.mem_of_getElem? ha) hK (comp_vw F hns hk (hcl C)).1 (comp_vw F hns hk (hcl C)).2 (inM_local (hx C) hm)) (fun okb s₄ h => ?_) fun _ _ e => e
    exact ⟨h.1.trans (hp a v hK).symm, h.2⟩
  · obtain ⟨a, ha, hK⟩ := hP i v hPv
    refine wpAny_mono (ok.elt C a v s₃ m₃ E' (List.mem_of_getElem? ha) ((hp a v hK).symm.trans hpv) hK (comp_vw F hns hk (hcl C)).1 (comp_vw F hns hk (hcl C)).2 (inM_local (hx C) hm)) (fun y s₄ h => ?_) fun _ _ e => e
    exact ⟨⟨a, hK, h.1⟩, h.2⟩
  · refine fin D h' tk ys.toList ?_ (paired_filter hinj hp (Paired.of_idx (hlen.trans hn) fun j v hj => hP j v (hPv j v hj)) hF)
    have F₁ : Fm w h₀ env m led h' := F.lose fun b o hb e => hk b o (by simpa using hb) e
    obtain ⟨oI, hoI, _⟩ := (F.toVw.lst _ (.head _)).some
    refine ⟨⟨F₁.toVw.base, F₁.toVw.keep, F₁.toVw.ns, F₁.toVw.cell, fun q hq => ?_⟩, List.pairwise_cons.mpr ⟨fun q hq e => ?_, F₁.lap⟩, F₁.newL, F₁.newC, F₁.cap, fun q hq => ?_⟩
    · rcases List.mem_cons.mp hq with rfl | hq
      · show h'.PlainList D ys.toList.toArray
        rw [Array.toArray_toList]; exact hpl
      · exact F₁.toVw.lst q hq
    · obtain ⟨o, ho, _⟩ := (F.toVw.lst q (.tail _ hq)).some
      have e' : D = q.1 := e
      rw [← e', hD] at ho; cases ho
    · rcases List.mem_cons.mp hq with rfl | hq
      · exact none_of_ext F.toVw.keep hD
      · exact F₁.newA q hq

def KI (a : Int) (v : Value) : Prop := ∃ t, v = .int a t
def KS (a : List Nat) (v : Value) : Prop := ∃ t, v = .str (T a) t
theorem KI.inj (a a' : Int) (v : Value) (h : KI a v) (h' : KI a' v) : a = a' := by obtain ⟨t, rfl⟩ := h; obtain ⟨t', e⟩ := h'; cases e; rfl
theorem KS.inj (a a' : List Nat) (v : Value) (h : KS a v) (h' : KS a' v) : a = a' := by obtain ⟨t, rfl⟩ := h; obtain ⟨t', e⟩ := h'; exact T_inj (by injection e)
def pI (pz : Int → Bool) : Value → Bool
  | .int k _ => pz k
  | _ => false
def pS (pz : List Nat → Bool) : Value → Bool
  | .str x _ => pz x.cps.toList
  | _ => false
theorem pI_ok {pz : Int → Bool} (a : Int) (v : Value) (h : KI a v) : pI pz v = pz a := by obtain ⟨t, rfl⟩ := h; rfl
theorem pS_ok {pz : List Nat → Bool} (a : List Nat) (v : Value) (h : KS a v) : pS pz v = pz a := by obtain ⟨t, rfl⟩ := h; rfl
/-- the ints of a range -/
def rng (a : Int) (n : Nat) : List Int := (List.range n).map fun i : Nat => a + (i : Int)

theorem compR_F {a z : Int} {n : Nat} (hz : z = n) (hn : n ≤ 1000000) (hh : A.handled = none) {pz : Int → Bool} {G : Int → Value → Prop}
    (F : Fm w h₀ env m ((I, .rt a z 1) :: led) s₂.heap) (hx : ∀ C, (compEnvC scope cl C env).kindOf x = some .local)
    (hcl : ∀ C x c, cl.lookup x = some c → env.cells.lookup x = some c ∧ (compEnvC scope cl C env).kindOf x ≠ some .local)
    (ok : CompOk prog w A h₀ env m led scope cl x ifs elt KI (rng a n) pz G)
    (fin : ∀ D h' tk ys, Fm w h₀ env m ((D, .vl ys) :: led) h' → Paired G ((rng a n).filter pz) ys → Q (.ref D) { s₂ with heap := h', toks := tk }) :
    CompGoal prog w A env scope cl x ifs elt (.ref I) s₂ Q := by
  subst hz
  obtain ⟨oI, hoI, _⟩ := (F.toVw.lst _ (.head _)).some
  -- the walk ends at n: an item is told below it
  let W := Walks.range (prog := prog) (w := w) (A := A) hh I a 1 n
  have W' : Walks prog w A I [I] [I] n (fun i v => i < n ∧ ∃ t, v = .int (a + i * 1) t) (fun i h => IsRangeIter h I (a + (i : Nat) * 1) ((n : Int) - (i : Nat)) 1) :=
    ⟨W.sub, W.frame, fun i s Q E hi st hQ => W.item i s Q E hi st fun v h' tk hP => hQ v h' tk ⟨hi, hP⟩, W.done, W.self⟩
  refine comp_F KI.inj pI_ok F W' (by simp [rng]) hn ?_ (fun b hb => by rw [List.mem_singleton.mp hb]; exact Heap.lt_size hoI) (fun j v hv => ?_) hx hcl ok fin
  · have : IsRangeIter s₂.heap I a n 1 := F.toVw.lst _ (.head _)
    simpa using this
  · obtain ⟨hj, t, rfl⟩ := hv
    refine ⟨a + (j : Int), ?_, t, by rw [Int.mul_one]⟩
    unfold rng
    rw [List.getElem?_map, List.getElem?_range hj]; rfl

theorem compL_F {α : Type} {K : α → Value → Prop} (hinj : ∀ a a' v, K a v → K a' v → a = a') {pz : α → Bool} {p : Value → Bool} (hp : ∀ a v, K a v → p v = pz a) {G : α → Value → Prop} {l : Addr} {as : List α} {vs : List Value}
    (hl : s₂.heap.IsList l vs.toArray) (hvs : Paired K as vs) (hn : as.length ≤ 1000000) (hh : A.handled = none)
    (F : Fm w h₀ env m ((I, .it l 0) :: led) s₂.heap) (hx : ∀ C, (compEnvC scope cl C env).kindOf x = some .local)
    (hcl : ∀ C x c, cl.lookup x = some c → env.cells.lookup x = some c ∧ (compEnvC scope cl C env).kindOf x ≠ some .local)
    (ok : CompOk prog w A h₀ env m led scope cl x ifs elt K as pz G)
    (fin : ∀ D h' tk ys, Fm w h₀ env m ((D, .vl ys) :: led) h' → Paired G (as.filter pz) ys → Q (.ref D) { s₂ with heap := h', toks := tk }) :
    CompGoal prog w A env scope cl x ifs elt (.ref I) s₂ Q := by
  obtain ⟨oI, hoI, _⟩ := (F.toVw.lst _ (.head _)).some
  obtain ⟨ol, hol, hcl', nl, hdl⟩ := id hl
  have hne : l ≠ I := by
    rintro rfl
    obtain ⟨o, ho, hc, hd⟩ : s₂.heap.IsListIter l l 0 := F.toVw.lst _ (.head _)
    rw [hol] at ho; cases ho; rw [hcl'] at hc; exact absurd hc (by decide)
  have hlen : vs.toArray.size = as.length := by rw [List.size_toArray]; exact (Paired.length hvs).symm
  refine comp_F hinj hp F (Walks.list (prog := prog) (w := w) hh I l hne vs.toArray) hlen (by rw [hlen]; exact hn) ⟨F.toVw.lst _ (.head _), hl⟩ (fun b hb => ?_) (fun j v hv => ?_) hx hcl ok fin
  · rcases List.mem_cons.mp hb with rfl | hb
    · exact Heap.lt_size hoI
    · rw [List.mem_singleton.mp hb]; exact Heap.lt_size hol
  · have key : ∀ {as : List α} {vs : List Value} (j : Nat) (v : Value), Paired K as vs → vs[j]? = some v → ∃ a, as[j]? = some a ∧ K a v := by
      intro as vs j v h
      induction h generalizing j with
      | nil => intro e; simp at e
      | cons h1 h2 ih =>
        intro e
        cases j with
        | zero => cases e; exact ⟨_, rfl, h1⟩
        | succ j => exact ih j (by simpa using e)
    exact key j v hvs (by simpa using hv)

theorem ints_paired : ∀ {vs : List Value} {ns : List Int}, IntsAre vs ns → Paired KI ns vs
  | _, _, .nil => .nil
  | _, _, .cons n t r => .cons ⟨t, rfl⟩ (ints_paired r)
theorem paired_ints' : ∀ {α : Type} {G : α → Value → Prop} {f : α → Int} {as : List α} {ys : List Value}, (∀ a ∈ as, ∀ y, G a y → KI (f a) y) → Paired G as ys → IntsAre ys (as.map f)
  | _, _, _, _, _, _, .nil => .nil
  | _, G, f, a :: as, y :: ys, h, .cons h1 h2 => by
    obtain ⟨t, rfl⟩ := h a (.head _) y h1
    exact .cons _ t (paired_ints' (fun a' ha' => h a' (.tail _ ha')) h2)
theorem paired_strs' : ∀ {α : Type} {G : α → Value → Prop} {f : α → List Nat} {as : List α} {ys : List Value}, (∀ a ∈ as, ∀ y, G a y → KS (f a) y) → Paired G as ys → StrsAre ys (as.map fun a => T (f a))
  | _, _, _, _, _, _, .nil => .nil
  | _, G, f, a :: as, y :: ys, h, .cons h1 h2 => by
    obtain ⟨t, rfl⟩ := h a (.head _) y h1
    exact .cons _ t (paired_strs' (fun a' ha' => h a' (.tail _ ha')) h2)
end

theorem cellsFrom_kind : ∀ (names : List (Str × NameKind)) (n : Nat) (acc : List (Str × Addr)) (x : Str) (c : Addr), (x, c) ∈ cellsFrom n names acc → (x, c) ∈ acc ∨ (x, NameKind.cell) ∈ names
  | [], _, _, _, _, h => .inl h
  | (y, k) :: r, n, acc, x, c, h => by
    unfold cellsFrom at h
    split at h
    · rename_i hk
      rcases cellsFrom_kind r (n + 1) ((y, n) :: acc) x c h with h | h
      · rcases List.mem_cons.mp h with e | h
        · cases e; exact .inr (by rw [← beq_iff_eq.mp hk]; exact .head _)
        · exact .inl h
      · exact .inr (.tail _ h)
    · rcases cellsFrom_kind r n acc x c h with h | h
      · exact .inl h
      · exact .inr (.tail _ h)

/-- the names of a frame with cells, at its start -/
def mC (env : Env) (binds : List (Str × Value)) : Str → Option Value := fun y => if env.kindOf y = some .local then bindL env.kindOf binds (fun _ => none) y else bindC env.kindOf binds (fun _ => none) y

section
variable {prog : Program} {w : World} {A : Around} {s : Shared} {R : Result → Shared → Prop}
theorem enter_fmC' {a : Addr} {o : Obj} {fd : FuncData} {body : List Stmt} {vals : List Value} {binds : List (Str × Value)} {E : Value → Shared → Prop} (b : Base w s.heap)
    (hroom : A.depth < recursionLimit) (ho : (HP w.params).lookup a = some o) (hd : o.data = .func fd) (hcd : codeIn (HP w.params) fd.code fd.qualname = true) (hb : fd.body = .stmts body)
    (hbind : bindArgs fd ⟨vals, []⟩ = pure binds) (hcl : fd.closure = []) (hco : fd.scope.isCoroutine = false) (hgen : fd.scope.isGenerator = false) (hk : fd.scope.kind = .function)
    (hkind : (binds.all fun y => fd.scope.names.lookup y.1 == some .local || fd.scope.names.lookup y.1 == some .cell) = true)
    (hsep : (fd.scope.names.all fun y => y.2 != .cell || fd.scope.names.lookup y.1 == some .cell) = true)
    (h : ∀ h₁ tk, Fm w s.heap (callEnvC fd s.heap.objs.size a) (mC (callEnvC fd s.heap.objs.size a) binds) [] h₁ →
      wpAny (model prog w) (A.deeper (callEnvC fd s.heap.objs.size a)) (execs body (callEnvC fd s.heap.objs.size a)) (fun f s' => R (.ok (.ret (match f with | .ret v => v | _ => .none))) s') (fun _ _ => False) { s with heap := h₁, toks := tk }) :
    codeAny (model prog w) A (.call (.ref a) ⟨vals, []⟩) R s := by
  refine codeAny_call_cells hroom (b.K _ _ ho) hd b.nolimit (codeRec_of b.K hcd) hb hbind hcl (kindsX hkind _) (fun s₁ x => ?_) hco hgen hk
  obtain ⟨h₁, tk, rfl⟩ := x.toInCall.same
  refine wpAny_mono (h h₁ tk ⟨⟨b, x.toInCall.keep, ⟨_, x.toInCall.ns, fun y hy => by unfold mC; rw [if_pos hy]⟩, fun y c hc => ?_, fun _ hp => nomatch hp⟩, .nil, get_none_of_ge (Nat.le_refl _), fun y c hm => ?_, x.apart, fun _ hp => nomatch hp⟩)
    (fun _ _ z => z) fun _ _ z => z.elim
  · have hm := mem_of_lookup hc
    have hne : (callEnvC fd s.heap.objs.size a).kindOf y ≠ some .local := by
      rcases cellsFrom_kind _ _ _ _ _ hm with h' | h'
      · cases h'
      · have := List.all_eq_true.mp hsep _ h'
        simp at this
        show fd.scope.names.lookup y ≠ _
        rw [this]; decide
    unfold mC; rw [if_neg hne]
    exact x.cell y c hc
  · have := x.above y c hm
    exact get_none_of_ge (Nat.le_of_lt (Nat.lt_of_le_of_lt x.toInCall.fresh this))
end
end
section
open PySem.Builtin PySem.Builtin.Str
theorem T_of {x : Str} {cs : List Nat} (h : x.cps.toList = cs) : x = T cs := by subst h; exact PySem.Str.ext' (by simp [T])

theorem mul_one_T (c n : Nat) : Txt.mul (T [c]) (n : Int) = T (List.replicate n c) := T_of (by
  have := mul_one_list c (n : Int)
  rwa [Int.toNat_natCast] at this)

theorem mulOk_one (c n : Nat) (hn : n ≤ 100000) : MulOk (T [c]) (n : Int) := by
  refine ⟨?_, fun h1 h2 => ?_, fun h1 h2 => ?_⟩
  · rw [Bool.or_eq_false_iff]; exact ⟨decide_eq_false (by (first | lia | omega)), decide_eq_false (by (first | lia | omega))⟩
  · have hpos : (0 : Int) < n := by (first | lia | omega)
    have : (1 : Int) ≤ (2 ^ 63 - 1) / (n : Int) := by
      rw [Int.le_ediv_iff_mul_le hpos]; (first | lia | omega)
    have e : ((T [c]).length : Int) = 1 := by rw [T_len]; rfl
    (first | lia | omega)
  · rw [T_len, Int.toNat_natCast]
    unfold tooLong sizeLine
    have e : (2 : Nat) ^ 24 = 16777216 := by decide
    exact decide_eq_false (by rw [e]; show ¬ 1 * n > _; (first | lia | omega))

theorem count_join (c : Nat) : ∀ (p : Str) (parts : List Str), (∀ q ∈ p :: parts, c ∉ q.cps.toList) → (Str.join ⟨#[c]⟩ (p :: parts)).cps.toList.count c = parts.length
  | p, [], h => List.count_eq_zero.mpr (h p (.head _))
  | p, q :: r, h => by
    have ih := count_join c q r fun a ha => h a (List.mem_cons_of_mem _ ha)
    show (p ++ ⟨#[c]⟩ ++ Str.join ⟨#[c]⟩ (q :: r)).cps.toList.count c = _
    simp only [Str.cps_append, Array.toList_append, List.count_append]
    rw [ih, List.count_eq_zero.mpr (h p (.head _))]
    simp
    (first | lia | omega)

theorem chain_of_tight {s sub : Str} {hi : Nat} : ∀ {a : Nat} {cuts : List Nat} {f : Nat}, StrLaws.ChainG s sub hi a cuts f → StrLaws.ChainTo s sub hi a cuts f
  | a, [], f, h => h
  | a, c :: r, f, h => ⟨h.1, h.2.1, chain_of_tight h.2.2.2⟩

theorem parts_length (x : Str) (w : Nat) : ∀ (cuts : List Nat) (a : Nat), (StrLaws.partsFrom x w a cuts).length = cuts.length + 1
  | [], _ => rfl
  | c :: r, a => by show (StrLaws.partsFrom x w (c + w) r).length + 1 = _; rw [parts_length x w r]; rfl

theorem count_T (cs : List Nat) (c : Nat) : Txt.count (T cs) (T [c]) = (cs.count c : Nat) := by
  obtain ⟨f, h, hn⟩ := StrLaws.occ_tight (T cs) (T [c]) (by rw [T_len]; exact Nat.le_refl _)
  have hj := StrLaws.join_partsFrom (T cs) (T [c]) _ 0 f (chain_of_tight h)
  have hf := StrLaws.parts_free (T cs) c _ 0 f h hn
  have hl := parts_length (T cs) (T [c]).length (occurrences (T cs) (T [c]) 0 (T cs).length ((T cs).length + 1)) 0
  unfold Txt.count
  obtain ⟨p, r, hp⟩ := StrLaws.partsFrom_ne (T cs) (T [c]).length 0 (occurrences (T cs) (T [c]) 0 (T cs).length ((T cs).length + 1))
  rw [hp] at hj hl
  have hf' : ∀ q ∈ p :: r, c ∉ q.cps.toList := by rw [← hp]; exact hf
  have h1 := count_join c p r hf'
  rw [show (⟨#[c]⟩ : Str) = T [c] from rfl, hj, StrLaws.sub_whole] at h1
  rw [T_cps] at h1
  rw [h1]
  simp only [List.length_cons] at hl
  have : r.length = (occurrences (T cs) (T [c]) 0 (T cs).length ((T cs).length + 1)).length := by (first | lia | omega)
  rw [this]

theorem startswith_T (cs ds : List Nat) : Txt.startswith (T cs) (T ds) = ds.isPrefixOf cs := by
  unfold Txt.startswith
  rw [StrLaws.subAt_eq, T_len, T_len, T_cps, T_cps, List.drop_zero, Bool.eq_iff_iff]
  simp only [Bool.and_eq_true, decide_eq_true_eq, beq_iff_eq, List.isPrefixOf_iff_prefix]
  constructor
  · rintro ⟨h1, h2⟩
    exact List.prefix_iff_eq_take.mpr h2.symm
  · intro h
    exact ⟨by have := h.length_le; (first | lia | omega), (List.prefix_iff_eq_take.mp h).symm⟩

def dblq : List Nat → List Nat
  | [] => []
  | c :: r => if c = 34 then 34 :: 34 :: dblq r else c :: dblq r
theorem dblq_eq : ∀ cs, StrLaws.dbl 34 cs = dblq cs
  | [] => rfl
  | c :: r => by
    show (if c = 34 then c :: c :: StrLaws.dbl 34 r else c :: StrLaws.dbl 34 r) = if c = 34 then 34 :: 34 :: dblq r else c :: dblq r
    rw [dblq_eq r]
    split
    · rename_i h; rw [h]
    · rfl
theorem replace_T (cs : List Nat) : Txt.replace (T cs) (T [34]) (T [34, 34]) = T (dblq cs) := T_of (by
  rw [show T [34] = (⟨#[34]⟩ : Str) from rfl, show T [34, 34] = (⟨#[34, 34]⟩ : Str) from rfl, StrLaws.replace_double, T_cps, dblq_eq])

theorem dblq_length : ∀ cs, (dblq cs).length ≤ 2 * cs.length
  | [] => Nat.le_refl _
  | c :: r => by
    have := dblq_length r
    unfold dblq
    split <;> simp only [List.length_cons] <;> (first | lia | omega)

theorem contains_T (cs : List Nat) (c : Nat) : Txt.contains (T cs) (T [c]) = decide (c ∈ cs) := by
  unfold Txt.contains
  exact StrLaws.found_one (T cs) c

theorem strs_values : ∀ {vs : List Value} {xs : List Str}, StrsAre vs xs → ∃ l, vs = strValues l ∧ l.map (·.1) = xs
  | _, _, .nil => ⟨[], rfl, rfl⟩
  | _, _, .cons y t r => by
    obtain ⟨l, h1, h2⟩ := strs_values r
    exact ⟨(y, t) :: l, by rw [h1]; rfl, by rw [← h2]; rfl⟩

theorem join_T_eq : ∀ css : List (List Nat), Str.join (T []) (css.map T) = T css.flatten
  | [] => rfl
  | [a] => by simp [Str.join]
  | a :: b :: r => by
    have ih := join_T_eq (b :: r)
    show T a ++ T [] ++ Str.join (T []) ((b :: r).map T) = _
    rw [ih, T_append, T_append]; simp

section
variable {prog : Program} {w : World} {A : Around} {E : Value → Shared → Prop} {s : Shared} {Q : Value → Shared → Prop} {cs ds : List Nat} {t u v : Tok}

theorem mul_T {c n : Nat} {z : Int} (hz : z = n) (hn : n ≤ 100000) (h : ∀ t' tk, Q (.str (T (List.replicate n c)) t') { s with toks := tk }) : wpAny (model prog w) A (binaryOp .Mult (.str (T [c]) t) (.int z u)) Q E s := by
  subst hz
  exact SB.mul (mulOk_one c n hn) fun t' k => by rw [mul_one_T]; exact h _ _
theorem count1_T {c : Nat} (h : ∀ t' tk, Q (.int (cs.count c : Nat) t') { s with toks := tk }) : wpAny (model prog w) A (call (.builtin "str.count") [.str (T cs) t, .str (T [c]) u]) Q E s :=
  SC.count (by rw [count_T]; exact h _ _)
theorem starts_T (h : Q (.bool (ds.isPrefixOf cs)) s) : wpAny (model prog w) A (call (.builtin "str.startswith") [.str (T cs) t, .str (T ds) u]) Q E s :=
  SC.startswith (by rw [startswith_T]; exact h)
theorem replaceq_T (hu : u ≠ 0) (hv : v ≠ 0) (huv : u ≠ v) (hz : cs.length ≤ 1000000) (h : ∀ t' tk, Q (.str (T (dblq cs)) t') { s with toks := tk }) :
    wpAny (model prog w) A (call (.builtin "str.replace") [.str (T cs) t, .str (T [34]) u, .str (T [34, 34]) v]) Q E s :=
  SC.replace hu hv huv (by rw [T_beq]; decide) (by rw [T_len, T_len]; simp only [List.length_cons, List.length_nil]; (first | lia | omega)) fun t' k => by rw [replace_T]; exact h _ _
theorem in_T {c : Nat} (h : Q (.bool (decide (c ∈ cs))) s) : wpAny (model prog w) A (compareOp .In (.str (T [c]) u) (.str (T cs) t)) Q E s := SB.contains (by rw [contains_T]; exact h)
theorem notin_T {c : Nat} (h : Q (.bool (!decide (c ∈ cs))) s) : wpAny (model prog w) A (compareOp .NotIn (.str (T [c]) u) (.str (T cs) t)) Q E s := SB.notContains (by rw [contains_T]; exact h)
theorem join_T {D : Addr} {vs : List Value} {css : List (List Nat)} (hl : s.heap.IsList D vs.toArray) (hs : StrsAre vs (css.map T)) (hz : css.flatten.length ≤ 1000000)
    (h : ∀ t' tk, Q (.str (T css.flatten) t') { s with toks := tk }) : wpAny (model prog w) A (call (.builtin "str.join") [.str (T []) t, .ref D]) Q E s := by
  obtain ⟨l, rfl, hx⟩ := strs_values hs
  refine SC.join hl hx ?_ fun t' k => by
    have e : Txt.join (T []) (css.map T) = T css.flatten := by
      unfold Txt.join; rw [StrLaws.glued_eq_join, join_T_eq]
    rw [e]; exact h _ _
  unfold JoinOk
  rw [StrLaws.joinTotal, T_len]
  have e : ((css.map T).map (·.length)).sum = css.flatten.length := by
    rw [List.length_flatten, List.map_map]
    refine congrArg List.sum (List.map_congr_left fun a _ => T_len a)
  rw [e]
  unfold tooLong sizeLine
  have e2 : (2 : Nat) ^ 24 = 16777216 := by decide
  rw [e2, decide_eq_false (by simp only [List.length_nil]; (first | lia | omega))]; rfl
end
end
section
inductive ClOk (env : Env) (scope : Scope) : List (Str × Addr) → Prop
  | nil : ClOk env scope []
  | cons {x c r} : env.cells.lookup x = some c → (∀ C cl, (compEnvC scope cl C env).kindOf x ≠ some .local) → ClOk env scope r → ClOk env scope ((x, c) :: r)
theorem ClOk.ok {env : Env} {scope : Scope} {cl0 : List (Str × Addr)} : ∀ {cl : List (Str × Addr)}, ClOk env scope cl → ∀ C x c, cl.lookup x = some c → env.cells.lookup x = some c ∧ (compEnvC scope cl0 C env).kindOf x ≠ some .local
  | _, .nil, _, _, _, h => nomatch h
  | _, .cons (x := y) (c := d) h1 h2 h3, C, x, c, h => by
    rw [List.lookup_cons] at h
    cases e : x == y with
    | true => rw [e] at h; cases h; rw [beq_iff_eq.mp e]; exact ⟨h1, h2 C cl0⟩
    | false => rw [e] at h; exact h3.ok C x c h

section
variable {prog : Program} {w : World} {A : Around} {E : Value → Shared → Prop} {env : Env}
theorem ListComp_M {s : Shared} {elt iter : Expr} {x : Str} {px : Pos} {ifs : List Expr} {scope : Scope} {cl : List (Str × Addr)} {pos : Pos} {Q : Value → Shared → Prop}
    (hclos : closureFor scope env = pure cl) (hcell : (scope.names.all fun y => y.2 != .cell) = true) (hkind : scope.kind = .function)
    (hnames : (scope.names.all fun y => y.2 != .local || scope.names.lookup y.1 == some .local) = true) (hx : scope.names.lookup x = some .local)
    (h : wpAny (model prog w) A (eval iter env) (fun xv s₁ => wpAny (model prog w) A (pyIter xv) (fun it s₂ => CompGoal prog w A env scope cl x ifs elt it s₂ Q) E s₁) E s)
    (hs : ∀ x, foldedSetIterable iter env x = pure x) :
    wpAny (model prog w) A (eval (.ListComp elt [⟨.Name x px, iter, ifs, 0⟩] scope pos) env) Q E s := by
  rw [eval_ListComp]
  refine wpAny_comprehension_free (use := none) rfl hs hclos hkind (fun y hy e => by simpa [e] using List.all_eq_true.mp hnames y hy) (wpAny_mono h (fun xv s₁ h₁ => wpAny_mono h₁ (fun it s₂ h₂ => ?_) fun _ _ e => e) fun _ _ e => e)
  obtain ⟨p, F, I, fp, wr, n, P, St, rfl, W, hsz, hst, hfp, hq, hQ⟩ := h₂
  refine comp_block_walkC (RR := fun acc C => compPost (model prog w) A E none Q acc C) W hsz p F (fun y hy => by simpa using List.all_eq_true.mp hcell y hy) hkind hx hst hfp hq ?_
  intro D C h' tk m' ys vs hD hC hDC hn hl hpl hlen hP hF hk
  exact ⟨m', hn, fun h'' hs'' => hQ D h'' tk ys vs hD (hl.extBut hs''.extBut hDC) (hpl.extBut hs''.extBut hDC) hlen hP hF fun b o hbf e => hs''.extBut b o (by rintro rfl; rw [hC] at e; cases e) (hk b o hbf e)⟩

theorem tests_nil {s : Shared} {Q : Bool → Shared → Prop} (h : Q true s) (c : Expr → Bool → Sem (ForInStep Bool)) : wpAny (model prog w) A (forIn ([] : List Expr) true c) Q E s := by
  rw [List.forIn_nil]; exact wpAny_pure h
theorem Keeps.rfl' (s : Shared) : Keeps s s := ⟨s.heap, s.toks, rfl, fun _ _ e => e⟩
end
theorem iterR_H {prog : Program} {w : World} {A : Around} {E : Value → Shared → Prop} {s : Shared} {Q : Value → Shared → Prop} {h₀ : Heap} {env : Env} {m : Str → Option Value} {led : List (Addr × LV)} {r : Addr} {a b : Int}
    (F : Fm w h₀ env m ((r, .rg a b) :: led) s.heap) (ha : -(2 ^ 40) < a) (ha2 : a < 2 ^ 40) (hb2 : b < 2 ^ 40) (hab : a ≤ b)
    (h : ∀ I h' tk, Fm w h₀ env m ((I, .rt a (b - a) 1) :: led) h' → Q (.ref I) { s with heap := h', toks := tk }) :
    wpAny (model prog w) A (pyIter (.ref r)) Q E s :=
  iterR_F F (F.toVw.lst (_, _) (.head _)) ha ha2 hb2 hab fun I h' tk F' => h I h' tk (F'.drop (.cons₂ _ (.cons _ (.refl _))))
theorem ite_t {x : Bool} {a b : Prop} (h : x = true) (k : a) : if x = true then a else b := by rw [if_pos h]; exact k
theorem ite_f {x : Bool} {a b : Prop} (h : x = false) (k : b) : if x = true then a else b := by rw [h, if_neg Bool.false_ne_true]; exact k
theorem filter_true {α : Type} (l : List α) : l.filter (fun _ => true) = l := by simp
end
local macro_rules | `(tactic| walk_at "binaryOp Mult str int") => `(tactic| (refine' mul_T ?hz ?hn ?_; (case hz => first | assumption | rfl | omega); (case hn => walk_at "m:sz"); intro t' tk'))
local macro_rules | `(tactic| walk_at "call builtin:str.count") => `(tactic| (refine' count1_T ?_; intro t' tk'))
local macro_rules | `(tactic| walk_at "call builtin:str.startswith") => `(tactic| refine' starts_T ?_)
local macro_rules | `(tactic| walk_at "compareOp In str str") => `(tactic| refine' in_T ?_)
local macro_rules | `(tactic| walk_at "compareOp NotIn str str") => `(tactic| refine' notin_T ?_)
local macro_rules | `(tactic| walk_at "m:clok") => `(tactic| repeat (first | exact ClOk.nil | refine ClOk.cons rfl (fun _ _ e => nomatch (show some NameKind.cell = some NameKind.local from e)) ?_ | refine ClOk.cons rfl (fun _ _ e => nomatch (show some NameKind.free = some NameKind.local from e)) ?_))
local macro_rules | `(tactic| walk_at "eval ListComp") => `(tactic| (refine' ListComp_M ?hclos ?hcell ?hkind ?hnames ?hx ?mn ?hs; (case hclos => exact rfl); (case hcell => exact rfl); (case hkind => exact rfl); (case hnames => exact rfl); (case hx => exact rfl); (case hs => exact fun _ => rfl); (case' mn => skip)))
local macro_rules | `(tactic| walk_at "m:iterR") => `(tactic| ((rename Fm _ _ _ _ _ _ => kF); refine iterR_H kF ?h1 ?h2 ?h3 ?h4 ?_; (case h1 => omega); (case h2 => omega); (case h3 => omega); (case h4 => omega); clear kF; intro I' h' tk' F'))
local macro_rules | `(tactic| walk_at "m:one") => `(tactic| ((with_reducible show ite _ _ _); (first | refine ite_t (by assumption) ?_ | refine ite_f (by assumption) ?_)))
section
theorem calm_M10 : True := by
  w_top off
  trivial
def ah : List Nat := [97, 98, 99, 100, 101, 102, 103, 104]
/-- the pieces of a name -/
def nmE (rs : List Int) (i : Int) : List Nat := List.replicate (rs.getD i.toNat 0).toNat 34 ++ [ah.getD i.toNat 0]
def nmOf (rs : List Int) (tail : Nat) : List Nat := ((rng 0 rs.length).map (nmE rs)).flatten ++ List.replicate tail 34

theorem getD_mem {xs : List Int} {d : Int} {i : Nat} (h : i < xs.length) : xs.getD i d ∈ xs := by
  rw [List.getD_eq_getElem?_getD, List.getElem?_eq_getElem h]
  exact List.getElem_mem h

theorem mem_rng {a : Int} {n : Nat} {i : Int} (h : i ∈ rng a n) : a ≤ i ∧ i < a + n := by
  unfold rng at h
  obtain ⟨k, hk, rfl⟩ := List.mem_map.mp h
  have := List.mem_range.mp hk
  (first | lia | omega)

theorem flat_len {α : Type} {f : α → List Nat} {k : Nat} : ∀ l : List α, (∀ a ∈ l, (f a).length ≤ k) → (l.map f).flatten.length ≤ l.length * k
  | [], _ => by simp
  | a :: r, h => by
    have h1 := flat_len r fun b hb => h b (.tail _ hb)
    have h2 := h a (.head _)
    simp only [List.map_cons, List.flatten_cons, List.length_append, List.length_cons, Nat.succ_mul] at *
    (first | lia | omega)
theorem rng_len (a : Int) (n : Nat) : (rng a n).length = n := by simp [rng]
theorem nm_len (rs : List Int) (hb : ∀ r ∈ rs, 0 ≤ r ∧ r ≤ 1000) (hn : rs.length ≤ 8) : ((rng 0 rs.length).map (nmE rs)).flatten.length ≤ 8008 := by
  have h := flat_len (f := nmE rs) (k := 1001) (rng 0 rs.length) fun a ha => by
    have hr := mem_rng ha
    have hg := hb _ (getD_mem (d := 0) (show a.toNat < rs.length by (first | lia | omega)))
    unfold nmE
    simp only [List.length_append, List.length_replicate, List.length_cons, List.length_nil]
    (first | lia | omega)
  rw [rng_len] at h
  (first | lia | omega)

theorem ln_call {prog : Program} {w : World} {A : Around} {s : Shared} {R : Result → Shared → Prop} {l : Addr} {rs : List Int} {tail : Nat} {z : Int} {t : Tok} (hzt : z = tail)
    (b : Base w s.heap) (hh : A.handled = none) (hroom : A.depth < recursionLimit) (hl : Holds s.heap l (.il rs)) (hn : rs.length ≤ 8) (hb : ∀ r ∈ rs, 0 ≤ r ∧ r ≤ 1000) (ht : tail ≤ 1000)
    (hR : ∀ t' h' tk, Ext s.heap h' → R (.ok (.ret (.str (T (nmOf rs tail)) t'))) { s with heap := h', toks := tk }) :
    codeAny (model prog w) A (.call (.ref 108) ⟨[.ref l, .int z t], []⟩) R s := by
  subst hzt
  refine' enter_fmC' (binds := [(Str.ofString "runs", .ref l), (Str.ofString "tail", .int tail t)]) b hroom ?ho ?hd ?hcd ?hb ?bi ?hcl ?c2 ?c3 ?c4 ?hkind ?hsep (E := fun _ _ => False) (fun h₁ tk₁ F => ?_)
  case ho => exact rfl
  case hd => exact rfl
  case hcd => exact rfl
  case hb => exact rfl
  case bi => exact rfl
  case hcl => exact rfl
  case c2 => exact rfl
  case c3 => exact rfl
  case c4 => exact rfl
  case hkind => exact rfl
  case hsep => exact rfl
  walk_at "m:go"
  walk_at "m:iterR"
  rename Fm _ _ _ _ _ _ => G2
  refine compR_F (n := rs.length) (pz := fun _ => true) (G := fun a y => KS (nmE rs a) y) (by (first | lia | omega)) (by (first | lia | omega)) hh G2 (fun _ => rfl) (ClOk.ok (by walk_at "m:clok")) ⟨?te, ?el⟩ ?fin
  case te =>
    intro C a v s₃ m₃ E' ha hK V kx hm
    exact tests_nil ⟨rfl, Keeps.rfl' _⟩ _
  case el =>
    intro C a v s₃ m₃ E' ha hp hK V kx hm
    obtain ⟨ta, rfl⟩ := hK
    have hr := mem_rng ha
    have hg := getD_mem (d := 0) (show a.toNat < rs.length by (first | lia | omega))
    have hg := hb _ hg
    have hv : rs.getD a.toNat 0 = ((rs.getD a.toNat 0).toNat : Int) := by (first | lia | omega)
    have hah : ah.length = 8 := rfl
    walk_at "m:go"
    exact ⟨⟨_, rfl⟩, _, _, rfl, fun _ _ e => e⟩
  case fin =>
    intro D h'' tk'' ys G3 hP
    rw [filter_true] at hP
    have hS := paired_strs' (f := nmE rs) (fun a _ y h => h) hP
    rw [show (List.map (fun a => T (nmE rs a)) (rng 0 rs.length)) = ((rng 0 rs.length).map (nmE rs)).map T from by rw [List.map_map]; rfl] at hS
    have hlen := nm_len rs hb hn
    walk_at "m:go"
    refine join_T (css := (rng 0 rs.length).map (nmE rs)) (Heap.PlainList.isList (G3.toVw.lst (_, _) (.head _))) hS (by (first | lia | omega)) fun t' tk' => ?_
    walk_at "m:go"
    exact hR _ _ _ G3.toVw.keep
end
section
open PySem.Builtin PySem.Builtin.Str PySem.Builtin.BaseException PySem.Builtin.Exceptions
/-- an exception of the program's own class, its arguments a tuple -/
structure OwnExc (h : Heap) (e C t0 : Addr) (items : List Value) : Prop where
  obj : ∃ o vs, h.get? e = some o ∧ o.cls = .ref C ∧ o.data = .fields vs ∧ vs[0]? = some (.ref t0)
  tup : h.TupAt t0 items

section
variable {prog : Program} {w : World} {A : Around} {E : Value → Shared → Prop} {s : Shared} {e t0 C : Addr} {K : Frag}
theorem oe_args {M : Model} {items : List Value} {Q : Value × List Value → Shared → Prop} (x : OwnExc s.heap e C t0 items) (hq : Q (.ref t0, items) s) : wpAny M A (bexcArgs (.ref e)) Q E s := by
  obtain ⟨⟨o, vs, ho, _, hd, h0⟩, ⟨ot, k, hto, _, htd⟩⟩ := x
  unfold bexcArgs
  refine wpAny_bind (wpAny_field ho hd h0 (wpAny_bind (wpAny_seqItems hto htd ?_)))
  have : items.toArray.toList = items := by simp
  show wpAny M A (pure (Value.ref t0, items.toArray.toList)) Q E s
  rw [this]; exact wpAny_pure hq
theorem oe_entry {m : Str} {tk : Tok} {Q : Fin → Shared → Prop} (x : OwnExc s.heap e C t0 [.str m tk]) (hq : Q (.done (.ret (.str m tk))) s) :
    wpAny (model prog w) A (Builtin.«BaseException.__str__» ⟨[.ref e], []⟩) Q E s := by
  unfold Builtin.«BaseException.__str__»
  repeat (first | with_reducible refine oe_args x ?_ | wp_step)
  exact hq
theorem oe_type {M : Model} {items : List Value} (x : OwnExc s.heap e C t0 items) : Looks M s.heap (typeOf (.ref e)) (.ref C) := by
  obtain ⟨⟨o, vs, ho, hc, hd, h0⟩, _⟩ := x
  exact hc ▸ (Looks.ld ho).andThen .now
theorem oe_check {M : Model} {items : List Value} {Q : Unit → Shared → Prop} (x : OwnExc s.heap e C t0 items) (X : K.In s.heap) (hsub : subIn K (.ref C) (.type "BaseException") = some true) (hq : Q () s) :
    wpAny M A (checkBuiltinCall "BaseException.__str__" ⟨[.ref e], []⟩) Q E s := by
  have hk : builtinKind "BaseException.__str__" = some .slot := by decide +kernel
  have hsplit : splitId "BaseException.__str__" = some ("BaseException", "__str__") := by decide +kernel
  have ha := PySem.F.args_bexc_str (.ref e)
  simp only [checkBuiltinCall, hk, hsplit]
  refine wpAny_bind ?_
  unfold isInstance
  refine wpAny_bind ((oe_type x).here ((looks_subIn X hsub).here ?_))
  simp only [Bool.not_true, Bool.false_eq_true, if_false]
  unfold argsOk at ha
  cases hsig : Manifest.signature? "BaseException.__str__" with
  | none => exact wpAny_pure hq
  | some sg =>
    rw [hsig] at ha
    simp only at ha ⊢
    rw [ha]; exact wpAny_pure hq
theorem oe_call {m : Str} {tk : Tok} {Q : Value → Shared → Prop} (x : OwnExc s.heap e C t0 [.str m tk]) (X : K.In s.heap) (hsub : subIn K (.ref C) (.type "BaseException") = some true) (hq : Q (.str m tk) s) :
    wpAny (model prog w) A (call (.builtin "BaseException.__str__") [.ref e]) Q E s :=
  wpAny_call (codeAny_call_builtin (by decide +kernel) PySem.F.entry_bexc_str (oe_check x X hsub (oe_entry x hq)))
theorem oe_special {m : Str} {tk : Tok} {Q : Option Value → Shared → Prop} (x : OwnExc s.heap e C t0 [.str m tk]) (X : K.In s.heap) (hsub : subIn K (.ref C) (.type "BaseException") = some true)
    (hs : findIn K (.ref C) "__str__" = some (some (.builtin "BaseException.__str__"))) (hq : Q (some (.str m tk)) s) : wpAny (model prog w) A (callSpecial? (.ref e) "__str__") Q E s :=
  wpAny_bind (wpAny_bind ((oe_type x).here ((looks_findIn X hs).here (wpAny_holding (wpAny_bind ((Looks.of_pure (PySem.F.excStr_Exception.str.bind _)).here (wpAny_bind (oe_call x X hsub (wpAny_pure hq)))))))))
theorem oe_strOf {m : Str} {tk : Tok} {Q : Value → Shared → Prop} (hu : A.units < cLine) (x : OwnExc s.heap e C t0 [.str m tk]) (X : K.In s.heap) (hsub : subIn K (.ref C) (.type "BaseException") = some true)
    (hs : findIn K (.ref C) "__str__" = some (some (.builtin "BaseException.__str__"))) (hq : Q (.str m tk) s) : wpAny (model prog w) A (PySem.Builtin.Str.strOf (.ref e)) Q E s := by
  unfold PySem.Builtin.Str.strOf
  rw [show isExactStr (.ref e) = false from rfl]
  refine wpAny_bind (m := cRoomFor _ _) (wpAny_cRoomFor hu ?_)
  exact wpAny_bind (m := callSpecial? (.ref e) (Str.ofString "__str__")) (oe_special x X hsub hs (wpAny_pure hq))
theorem oe_str {m : Str} {tk : Tok} {Q : Value → Shared → Prop} (hu : A.in1.in1.units < cLine) (x : OwnExc s.heap e C t0 [.str m tk]) (X : K.In s.heap) (hsub : subIn K (.ref C) (.type "BaseException") = some true)
    (hs : findIn K (.ref C) "__str__" = some (some (.builtin "BaseException.__str__"))) (hq : Q (.str m tk) s) : wpAny (model prog w) A (call (.type "str") [.ref e]) Q E s := by
  refine callType_codes (T := "str") (Bi := Builtin.«object.__init__») (Q₁ := fun r s₁ => ∃ y u, r = .str y u ∧ Q r s₁) PySem.F.called_str (PySem.F.typeCall_str_1 _) PySem.F.entry_object_init ?_ ?_
  · refine codeAny_of_tree ?_
    show wpAny _ A.in1.in1 (do checkBuiltinCall "str.__new__" ⟨[.type "str", .ref e], []⟩; again (.builtin "str.__new__" ⟨[.type "str", .ref e], []⟩)) _ _ s
    refine wpAny_bind (wpAny_of_eq (PySem.F.newCall_str_1 _) (wpAny_pure ⟨plainId_quiet (by decide +kernel) _, codeAny_builtin PySem.F.entry_str_new ?_⟩))
    rw [Around.under_plainId (by decide +kernel) _]
    rw [str_new_tree]
    refine wpAny_bind (wpAny_pure ?_)
    refine wpAny_bind (wpAny_of_eq isSubtype_str_str ?_)
    exact wpAny_bind (wpAny_mono (oe_strOf hu x X hsub hs (Q := fun r s₁ => ∃ y u, r = .str y u ∧ Q r s₁) ⟨_, _, rfl, hq⟩) (fun r s₁ hr => wpAny_pure hr) fun _ _ y => y)
  · rintro obj s₁ ⟨y, u, rfl, hq⟩
    exact ⟨typeIs_str _ _ _, PySem.F.args_object_init_2 _ _, object_init_meets PySem.F.called_str.init.lookup PySem.F.called_str.made (by decide) prog w A.in1 _ s₁ ⟨typeIs_str _ _ _, rfl, hq⟩⟩
end
end
section
theorem calm_M11 : True := by
  w_top off
  trivial
local macro_rules | `(tactic| walk_at "m:pad") => `(tactic| skip)
section
variable {prog : Program} {w : World} {A : Around} {s : Shared} {R : Result → Shared → Prop}
/-- as enter_fm; what the body raises leaves the frame -/
theorem enter_fmR {a : Addr} {o : Obj} {fd : FuncData} {body : List Stmt} {args : Args} {binds : List (Str × Value)} (b : Base w s.heap)
    (hroom : A.depth < recursionLimit) (ho : (HP w.params).lookup a = some o) (hd : o.data = .func fd) (hcd : codeIn (HP w.params) fd.code fd.qualname = true) (hb : fd.body = .stmts body)
    (hbind : BindsTo s fd args binds) (hcl : fd.closure = []) (hco : fd.scope.isCoroutine = false) (hgen : fd.scope.isGenerator = false) (hk : fd.scope.kind = .function)
    (hcell : (fd.scope.names.all fun x => x.2 != .cell) = true) (hloc : (binds.all fun x => decide (fd.scope.names.lookup x.1 = some .local)) = true)
    (h : ∀ h₁ tk, Fm w s.heap (callEnv fd s.heap.objs.size a) (fun x => binds.reverse.lookup x) [] h₁ →
      wpAny (model prog w) (A.deeper (callEnv fd s.heap.objs.size a)) (execs body (callEnv fd s.heap.objs.size a)) (fun f s' => R (.ok (.ret (match f with | .ret v => v | _ => .none))) s')
        (fun e s' => wpAny (model prog w) (A.deeper (callEnv fd s.heap.objs.size a)) (leaving (callEnv fd s.heap.objs.size a) e) (fun _ s'' => R (.error e) s'') (fun e' s'' => R (.error e') s'') s') { s with heap := h₁, toks := tk }) :
    codeAny (model prog w) A (.call (.ref a) args) R s :=
  codeAny_call_def hroom (b.K _ _ ho) hd b.nolimit (codeRec_of b.K hcd) hb hbind (fun x hx => by simpa using List.all_eq_true.mp hcell x hx) (fun x hx => of_decide_eq_true (List.all_eq_true.mp hloc x hx))
    (fun h₁ hn hk₁ => h h₁ _ (Fm.enter b hn hk₁ hcl)) hco hgen hk
end

theorem own_reply {w : World} {h : Heap} (b : Base w h) : ∃ mg, h.Ns mainGlobals mg ∧ OwnCls "error_reply" 37 [.type "Exception", .type "BaseException", .type "object"] "Exception.__new__" mg h := by
  obtain ⟨p, loose, mg, mb, T⟩ := b.T
  exact ⟨mg, T.g, own_of_in b.K T (g_error_reply _) (by kernel_rfl)⟩

theorem p_raise {prog : Program} {w : World} {A : Around} {s : Shared} {R : Result → Shared → Prop} {x y z : Nat} {cs : List Nat} {tr : Tok} {base : Heap} {outer : List Env}
    (b : Base w s.heap) (hh : A.handled = none) (hroom : A.depth < recursionLimit) (hz : cs.length < 10000) (K : Below A base outer s.heap) (hne : ([x, y, z] != [50, 53, 55]) = true)
    (hR : ∀ h' tk e t, RaisedS base s.heap outer e (.ref 37) t [.str (T (x :: y :: z :: cs)) tr] [] h' → s.heap.UpToSlots h' → R (.error (.ref e)) { s with heap := h', toks := tk }) :
    codeAny (model prog w) A (.call (.ref 46) ⟨[.str (T (x :: y :: z :: cs)) tr], []⟩) R s := by
  refine' enter_fmR (binds := [(Str.ofString "resp", .str (T (x :: y :: z :: cs)) tr)]) b hroom ?ho ?hd ?hcd ?hb ?bi ?hcl ?c2 ?c3 ?c4 ?hcell ?hloc (fun h₁ tk₁ F => ?_)
  case ho => exact rfl
  case hd => exact rfl
  case hcd => exact rfl
  case hb => exact rfl
  case bi => exact kp_binds b.K (fun S => by kernel_rfl)
  case hcl => exact rfl
  case c2 => exact rfl
  case c3 => exact rfl
  case c4 => exact rfl
  case hcell => exact rfl
  case hloc => exact rfl
  walk_at "m:go"
  · rename Fm _ _ _ _ _ _ => G2
    obtain ⟨mg, hg, O⟩ := own_reply b
    obtain ⟨ml, hn, _⟩ := G2.toVw.ns
    have F2 : Fr s.heap s.heap.objs.size _ ml := ⟨hn, G2.toVw.keep, Nat.le_refl _⟩
    refine Raise_own F2 hg O PySem.F.excBase_Exception hh ?_ rfl rfl rfl rfl (by decide)
    walk_at "m:go"
    refine ⟨by rw [sizeLine_eq]; exact Nat.le_of_ble_eq_true rfl, G2.toVw.keep, fun h' e hx => ?_⟩
    exact leave_raiseS K hx F2 News.nil (fun h'' t R1 R2 U => hR _ _ _ _ R1 U) rfl
end
section
theorem calm_M12 : True := by
  w_top off
  trivial
theorem Fm.again {w : World} {g h h₀ h₂ : Heap} {env : Env} {m m₂ : Str → Option Value} {led : List (Addr × LV)} (_ : Fm w h₀ env m₂ led h₂) (b : Base w g) (F : Fr g env.locals h m) (e : env.cells = []) : Fm w g env m [] h :=
  ⟨⟨b, F.keep, ⟨m, F.ns, fun _ _ => rfl⟩, (by rw [e]; intro _ _ q; cases q), fun _ hp => nomatch hp⟩, .nil, kts_self F, (by rw [e]; intro _ _ q; cases q), (by rw [e]; exact .nil), fun _ hp => nomatch hp⟩

theorem own_got {h : Heap} {g : Heap} {L e t C : Addr} {vs : List Value} {news : List (Addr × Obj)} (N : News g L h news) (G : Got news e t (.ref C) vs) : OwnExc h e C t vs := by
  obtain ⟨oe, ot, ws, nt, h1, h2, h3, h4, h5, h6, h7⟩ := G
  exact ⟨⟨oe, ws, N.get h1, h3, h4, h5⟩, ⟨ot, nt, N.get h2, h6, h7⟩⟩

theorem lr_call {prog : Program} {w : World} {A : Around} {s : Shared} {R : Result → Shared → Prop} {x y z : Nat} {cs : List Nat} {tr : Tok} {base : Heap} {outer : List Env}
    {p : Program} {loose : List Str} {mean : ExcName → Option Value} {mg mb : Str → Option Value}
    (b : Base w s.heap) (hh : A.handled = none) (hroom : A.depth + 1 < recursionLimit) (hu : A.units + 5 < cLine) (hz : cs.length < 10000) (K : Below A base outer s.heap) (XB : (HP w.params).In base) (TB : Top p loose mean mg mb base)
    (D : KtsDicts (outer.filterMap (·.frame)) s.heap) (hne : ([x, y, z] != [50, 53, 55]) = true)
    (hR : ∀ h' tk, (∀ b o, s.heap.get? b = some o → b ∉ outer.filterMap (·.frame) → h'.get? b = some o) → (∀ b o, s.heap.get? b = some o → b ∈ outer.filterMap (·.frame) → ∃ sl, h'.get? b = some { o with slots := sl }) →
      R (.ok (.ret (.bool true))) { s with heap := h', toks := tk }) :
    codeAny (model prog w) A (.call (.ref 115) ⟨[.str (T (x :: y :: z :: cs)) tr], []⟩) R s := by
  refine' enter_fm (binds := [(Str.ofString "reply", .str (T (x :: y :: z :: cs)) tr)]) b ?hroom ?ho ?hd ?hcd ?hb ?bi ?hcl ?c2 ?c3 ?c4 ?hcell ?hloc (fun h₁ tk₁ F => ?_)
  case hroom => omega
  case ho => exact rfl
  case hd => exact rfl
  case hcd => exact rfl
  case hb => exact rfl
  case bi => exact kp_binds b.K (fun S => by kernel_rfl)
  case hcl => exact rfl
  case c2 => exact rfl
  case c3 => exact rfl
  case c4 => exact rfl
  case hcell => exact rfl
  case hloc => exact rfl
  walk_at "m:go"
  refine wpAny_Try_except ?_
  walk_at "m:go"
  rename Fm _ _ _ _ _ _ => G2
  obtain ⟨ml, hn, hq⟩ := G2.toVw.ns
  have F2 : Fr s.heap s.heap.objs.size _ ml := ⟨hn, G2.toVw.keep, Nat.le_refl _⟩
  refine wpAny_call ?_
  refine p_raise G2.bs hh hroom hz (K.push F2 rfl) hne fun h' tk e t R1 U => ?_
  dsimp only
  refine caught_SOB (g₀ := s.heap) R1 F2 K U XB TB D KtsTurn.refl (g_error_reply _) (by kernel_rfl) (fun h₅ g₅ news₅ tk₅ T5 F5 N5 Got5 _ K5 X5 P5 D5 => ?_)
  have b5 : Base w g₅ := ⟨X5, _, _, _, _, topRead_of P5⟩
  have G5 := G2.again b5 F5 rfl
  have oe := own_got N5 Got5
  have hrep : (if (Str.ofString "reply") = (Str.ofString "caught") then some (Value.ref e) else ml (Str.ofString "reply")) = some (.str (T (x :: y :: z :: cs)) tr) := by
    rw [if_neg (by decide)]; exact hq _ rfl
  walk_at "m:go"
  refine oe_str (by simp only [units_in1, Around.mark_units, units_deeper]; omega) oe (X5.keeps F5.keep) (by kernel_rfl) (by kernel_rfl) ?_
  walk_at "m:go"
  rename Fr _ _ _ _ => F6
  have e : (x :: y :: z :: cs == x :: y :: z :: cs) = true := by simp
  rw [e]
  refine hR _ _ (fun b o ho hb => F6.keep b o (T5.other b o ho hb)) (fun b o ho hb => ?_)
  obtain ⟨sl, hs⟩ := T5.frame b o ho hb
  exact ⟨sl, F6.keep b _ hs⟩
end
section
section
variable {M : Model} {A : Around} {R : GenEnd} {Y : Protocol} {n : Nat} {s₀ : Shared} {c : Code} {fs : List Frame} {s : Shared} {env : Env}
  {K : Flow → Sem Fin} {H : Value → Sem Fin} {gd : Bool → Bool} {lv : List Value → List Value}
theorem seg_If {test : Expr} {body orelse : List Stmt} {pos : Pos}
    (h : wpAny M (A.over c fs) (isTrue test env (eval test env)) (fun b s' => Seg M A R Y n s₀ c ((if b = true then execs body env else execs orelse env).wrap K H gd lv) fs s') (fun x s' => Seg M A R Y n s₀ c (H x) fs s') s) :
    Seg M A R Y n s₀ c ((exec (.If test body orelse pos) env).wrap K H gd lv) fs s := by
  rw [exec_If]
  exact seg_bind_wrap (wpAny_standAt (seg_bind_wrap h))
theorem seg_For {target iter : Expr} {body orelse : List Stmt} {pos : Pos}
    (h : wpAny M (A.over c fs) (eval iter env) (fun xv s₁ => wpAny M (A.over c fs) (pyIter xv) (fun it s₂ => ∀ p, Seg M A R Y n s₀ (.forLoop target it body orelse env) (M.den (.forLoop target it body orelse env))
      (.ret (fun r => ((match r with | .ok f => (.pure f : Sem Flow) | .error e => .raise e).onRaise fun (x : Value) => do
        if (← field x 1) == Value.none then unsupported "frame.own-activation:exception-without-traceback"
        setFlight x env.frame).wrap K H gd lv) none (gd false) (lv []) c p [] :: fs) s₂) (fun x s' => Seg M A R Y n s₀ c (H x) fs s') s₁) (fun x s' => Seg M A R Y n s₀ c (H x) fs s') s)
    (hs : ∀ x, foldedSetIterable iter env x = pure x) :
    Seg M A R Y n s₀ c ((exec (.For target iter body orelse pos) env).wrap K H gd lv) fs s := by
  rw [exec_For]
  refine seg_bind_wrap (wpAny_standAt ?_)
  refine seg_bind_wrap (wpAny_mono h (fun xv s₁ h₁ => ?_) fun _ _ y => y)
  refine seg_bind_wrap (wpAny_of_eq (hs xv) ?_)
  refine seg_bind_wrap (wpAny_standAt ?_)
  refine seg_bind_wrap (wpAny_holding (wpAny_mono h₁ (fun it s₂ h₂ => ?_) fun _ _ y => y))
  exact seg_call h₂
end

section
variable {prog : Program} {w : World} {A : Around} {R : GenEnd} {Y : Protocol} {n : Nat} {s₀ : Shared} {fs : List Frame} {s : Shared} {env : Env}
theorem seg_forLoop {target : Expr} {it : Value} {body orelse : List Stmt}
    (h : wpAny (model prog w) (A.over (.forLoop target it body orelse env) fs) (pyNext it) (fun r s' => match r with
        | none => Seg (model prog w) A R Y n s₀ (.forLoop target it body orelse env) (.pure (.again (.block orelse env))) fs s'
        | some v => wpAny (model prog w) (A.over (.forLoop target it body orelse env) fs) (letOwnedTupleGo target it v) (fun _ s₂ => wpAny (model prog w) (A.over (.forLoop target it body orelse env) fs) (assign target env v) (fun _ s₃ =>
            Seg (model prog w) A R Y n s₀ (.forLoop target it body orelse env) ((execs body env).wrap (fun f => match f with
            | .next | .cont => .pure (.again (.forLoop target it body orelse env))
            | .brk => .pure (.done .next)
            | .ret v => .pure (.done (.ret v))) (fun e => (do noteFrame e env; theTreesLotGoes e : Sem Unit).wrap (fun _ => .raise e) .raise id id) id id) fs s₃) (fun _ _ => False) s₂) (fun _ _ => False) s')
      (fun _ _ => False) s) :
    Seg (model prog w) A R Y n s₀ (.forLoop target it body orelse env) ((model prog w).den (.forLoop target it body orelse env)) fs s := by
  show Seg _ A R Y n s₀ _ ((forTurn target it body orelse env).onRaise (fun x => do noteFrame x env; theTreesLotGoes x)) fs s
  rw [Sem.onRaise_eq_wrap]
  unfold forTurn
  refine seg_bind_wrap (wpAny_standAt ?_)
  refine seg_bind_wrap (wpAny_onRaise (wpAny_mono h (fun r s₁ h₁ => ?_) fun _ _ y => y.elim))
  cases r with
  | none => exact h₁
  | some v =>
    refine seg_bind_wrap (wpAny_mono h₁ (fun _ s₂ h₂ => ?_) fun _ _ y => y.elim)
    refine seg_bind_wrap (wpAny_mono h₂ (fun _ s₃ h₃ => ?_) fun _ _ y => y.elim)
    rw [Sem.bind_eq_wrap', Sem.wrap_wrap]
    rw [Sem.wrap_congr (execs body env) _ _ (K' := fun f => match f with
            | .next | .cont => .pure (.again (.forLoop target it body orelse env))
            | .brk => .pure (.done .next)
            | .ret v => .pure (.done (.ret v))) (H' := (fun e => (do noteFrame e env; theTreesLotGoes e : Sem Unit).wrap (fun _ => .raise e) .raise id id))
        (fun f => by cases f <;> rfl)
        (fun e => by first | exact Sem.bind_eq_wrap _ _ | (show (do noteFrame e env; theTreesLotGoes e : Sem Unit).bind (fun _ => .raise e) = _; rw [Sem.bind_eq_wrap]))]
    exact h₃
theorem seg_block_nil {k h g l c₁ p₁ kp} (hk : Seg (model prog w) A R Y n s₀ c₁ (k (.ok .next)) fs s) :
    Seg (model prog w) A R Y n s₀ (.block [] env) ((model prog w).den (.block [] env)) (.ret k h g l c₁ p₁ kp :: fs) s := seg_leaf (.ok .next) hk
end

/-- what the generator yields, at sign i -/
def escs : Bool → Nat → List Nat → List (Nat × List Nat)
  | true, i, [] => [(i - 1, [92])]
  | false, _, [] => []
  | true, i, c :: r => (i, [92, c]) :: escs false (i + 1) r
  | false, i, c :: r => if c = 92 then escs true (i + 1) r else (i, [c]) :: escs false (i + 1) r

/-- the generator's own addresses -/
def GOut (L S : Nat) (b : Addr) : Prop := b = L ∨ S ≤ b
def GConf (L S : Nat) (s₀ s₁ : Shared) : Prop := ∃ h tk, s₁ = { s₀ with heap := h, toks := tk } ∧ (∀ b o, ¬ GOut L S b → s₀.heap.get? b = some o → h.get? b = some o)
theorem GConf.refl {L S : Nat} (s : Shared) : GConf L S s s := ⟨s.heap, s.toks, rfl, fun _ _ _ e => e⟩
theorem GConf.step {L S : Nat} {s₀ s : Shared} (x : GConf L S s₀ s) {h : Heap} {tk : Nat} (k : ∀ b o, ¬ GOut L S b → s.heap.get? b = some o → h.get? b = some o) : GConf L S s₀ { s with heap := h, toks := tk } := by
  obtain ⟨h₁, tk₁, rfl, hk⟩ := x
  exact ⟨h, tk, rfl, fun b o n e => k b o n (hk b o n e)⟩

/-- the generator's frame, raw -/
structure GF (w : World) (hB h₀ : Heap) (S : Nat) (env : Env) (m : Str → Option Value) (h : Heap) : Prop where
  base : Base w hB
  keep : Ext hB h
  ns : h.Ns env.locals m
  old : ∀ b o, ¬ GOut env.locals S b → h₀.get? b = some o → h.get? b = some o
  new : hB.get? env.locals = none
  cl : env.cells = []
section
variable {w : World} {hB h₀ h h' : Heap} {S : Nat} {env : Env} {m : Str → Option Value}
abbrev GF.I (_ : GF w hB h₀ S env m h) (h₀' : Heap) (m' : Str → Option Value) (h' : Heap) : Prop := GF w hB h₀' S env m' h'
theorem GF.vw (F : GF w hB h₀ S env m h) : Vw w hB env m [] h :=
  ⟨F.base, F.keep, ⟨m, F.ns, fun _ _ => rfl⟩, (by rw [F.cl]; intro _ _ q; cases q), fun _ hp => nomatch hp⟩
theorem GF.ext (F : GF w hB h₀ S env m h) (k : Ext h h') : GF w hB h₀ S env m h' :=
  ⟨F.base, fun b o e => k b o (F.keep b o e), F.ns.keeps k, fun b o n e => k b o (F.old b o n e), F.new, F.cl⟩
/-- what lies outside turns -/
theorem GF.turn (F : GF w hB h₀ S env m h) {wr : List Addr} (hw : ∀ b ∈ wr, GOut env.locals S b ∧ b ≠ env.locals ∧ hB.get? b = none) (k : ∀ b o, b ∉ wr → h.get? b = some o → h'.get? b = some o) : GF w hB h₀ S env m h' :=
  ⟨F.base, fun b o e => k b o (fun q => by rw [(hw b q).2.2] at e; cases e) (F.keep b o e), F.ns.at' fun o e => k _ o (fun q => (hw _ q).2.1 rfl) e,
    fun b o n e => k b o (fun q => n (hw b q).1) (F.old b o n e), F.new, F.cl⟩
theorem GF.store {M : Model} {A : Around} {E : Value → Shared → Prop} {s : Shared} {x : Str} {v : Value} {Q : Unit → Shared → Prop} (F : GF w hB h₀ S env m s.heap) (hl : env.kindOf x = some .local) (hk : env.scope.kind = .function)
    (h : ∀ h', GF w hB h₀ S env (upd m x v) h' → h'.objs.size = s.heap.objs.size → (∀ b o, b ≠ env.locals → s.heap.get? b = some o → h'.get? b = some o) → Q () { s with heap := h', toks := s.toks + 1 }) : wpAny M A (storeName env x v) Q E s := by
  refine wpAny_storeName_local hl F.ns (fun h' hn hs => ?_) (by rw [hk]; rfl)
  have k : ∀ b o, b ≠ env.locals → s.heap.get? b = some o → h'.get? b = some o := fun b o hb e => (hs.2 b hb).trans e
  exact h h' ⟨F.base, fun b o e => k b o (fun q => by rw [q, F.new] at e; cases e) (F.keep b o e), hn, fun b o n e => k b o (fun q => n (.inl q)) (F.old b o n e), F.new, F.cl⟩ hs.1 k
theorem GF.resume {s'' : Heap} (F : GF w hB h₀ S env m h) (k : ∀ b o, GOut env.locals S b → h.get? b = some o → s''.get? b = some o) (kB : Ext hB s'') : GF w hB s'' S env m s'' :=
  ⟨F.base, kB, F.ns.at' fun o e => k _ o (.inl rfl) e, fun _ _ _ e => e, F.new, F.cl⟩
theorem GF.conf {s₀ : Shared} {tk : Nat} {h : Heap} (F : GF w hB s₀.heap S env m h) : GConf env.locals S s₀ { s₀ with heap := h, toks := tk } := ⟨h, tk, rfl, F.old⟩
end

def gProto (hB : Heap) (L S : Nat) (items : List (Nat × List Nat)) : Protocol := fun n s₀ v s' kap =>
  (∃ x a t u, items[items.length - 1 - n]? = some x ∧ v = .ref a ∧ s'.heap.IsTuple a #[.int (x.1 : Nat) t, .str (T x.2) u]) ∧ GConf L S s₀ s' ∧
    ∀ s'' : Shared, (∀ b o, GOut L S b → s'.heap.get? b = some o → s''.heap.get? b = some o) → Ext hB s''.heap → kap (.send .none) s''
def gEnd (L S : Nat) : GenEnd := fun n s₀ r s₁ => r = .ok (.ret .none) ∧ (n = 0 ∧ GConf L S s₀ s₁)
end
section
theorem calm_M14 : True := by
  w_top off
  trivial
local macro_rules | `(tactic| walk_at "m:pad") => `(tactic| skip)
local macro_rules | `(tactic| walk_at "m:vw") => `(tactic| first | assumption | exact Fm.toVw (by assumption) | exact GF.vw (by assumption))
local macro_rules | `(tactic| walk_at "storeName") => `(tactic| ((rename GF _ _ _ _ _ _ _ => kF); refine GF.store kF ?hl ?hk ?_; (case hl => k_dflt exact rfl); (case hk => k_dflt exact rfl); clear kF; intro h' F' sz' kp'))
theorem escs_at {items pre rem : List (Nat × List Nat)} {x : Nat × List Nat} (h : items = pre ++ x :: rem) : items[items.length - 1 - rem.length]? = some x := by
  subst h
  have : (pre ++ x :: rem).length - 1 - rem.length = pre.length := by simp
  rw [this, List.getElem?_append_right (Nat.le_refl _), Nat.sub_self]; rfl

theorem seg_scan {prog : Program} {w : World} {A : Around} {R : GenEnd} {Y : Protocol} {fs : List Frame} {c : Code} (cs : List Nat) (Inv : Nat → Bool → Shared → Shared → Prop)
    (fin : ∀ esc s₀ s, Inv cs.length esc s₀ s → Seg (model prog w) A R Y (escs esc cs.length []).length s₀ c ((model prog w).den c) fs s)
    (turn : ∀ i x esc s₀ s, cs[i]? = some x → Inv i esc s₀ s → (∀ esc' s₀' s', Inv (i + 1) esc' s₀' s' → Seg (model prog w) A R Y (escs esc' (i + 1) (cs.drop (i + 1))).length s₀' c ((model prog w).den c) fs s') →
      Seg (model prog w) A R Y (escs esc i (x :: cs.drop (i + 1))).length s₀ c ((model prog w).den c) fs s) :
    ∀ (k i : Nat) esc s₀ s, cs.length - i = k → i ≤ cs.length → Inv i esc s₀ s → Seg (model prog w) A R Y (escs esc i (cs.drop i)).length s₀ c ((model prog w).den c) fs s
  | 0, i, esc, s₀, s, hk, hi, h => by
    have e : i = cs.length := by omega
    subst e
    rw [List.drop_of_length_le (Nat.le_refl _)]
    exact fin esc s₀ s h
  | k + 1, i, esc, s₀, s, hk, hi, h => by
    have hlt : i < cs.length := by omega
    rw [List.drop_eq_getElem_cons hlt]
    exact turn i _ esc s₀ s (List.getElem?_eq_getElem hlt) h fun esc' s₀' s' h' => seg_scan cs Inv fin turn k (i + 1) esc' s₀' s' (by omega) hlt h'

/-- an enumeration of a text -/
def EnumOk (prog : Program) (w : World) (e it : Addr) (cs : List Nat) (St : Nat → Heap → Prop) (Mid : Nat → Addr → Heap → Prop) : Prop :=
  ∃ Pt, (∀ A : Around, A.handled = none → WalksT prog w A e (e :: [it]) [e, it] cs.length Pt St Mid) ∧ ∀ i vals, Pt i vals → ∃ t u c, cs[i]? = some c ∧ vals = #[.int (i : Nat) t, .str (T [c]) u]

theorem enum_make {prog : Program} {w : World} {A : Around} {E : Value → Shared → Prop} {s : Shared} {cs : List Nat} {t : Tok} {Q : Value → Shared → Prop}
    (h : ∀ h' St Mid, EnumOk prog w (s.heap.objs.size + 1) s.heap.objs.size cs St Mid → St 0 h' → h'.objs.size = s.heap.objs.size + 2 → Ext s.heap h' → Q (.ref (s.heap.objs.size + 1)) { s with heap := h' }) :
    wpAny (model prog w) A (call (.type "enumerate") [.str (T cs) t]) Q E s := by
  refine call_enumerate_str fun h' he hit hsz hk => ?_
  have hP : ∀ i vals, (∃ tk x, (∃ c u, (T cs).cps[i]? = some c ∧ x = Value.str ⟨#[c]⟩ u) ∧ vals = #[Value.int (i : Nat) tk, x]) → ∃ t u c, cs[i]? = some c ∧ vals = #[.int (i : Nat) t, .str (T [c]) u] := by
    rintro i vals ⟨tk, x, ⟨c, u, hc, rfl⟩, rfl⟩
    exact ⟨tk, u, c, by simpa [T] using hc, rfl⟩
  have hlen : (T cs).cps.size = cs.length := by simp [T]
  have side : s.heap.objs.size + 1 ∉ [s.heap.objs.size] := fun hm => Nat.succ_ne_self _ (List.mem_singleton.mp hm)
  cases ha : (T cs).cps.all (· < 128)
  · have hit' : h'.IsStrIter s.heap.objs.size "str_iterator" (T cs) t 0 := by simpa [strIterType, ha] using hit
    exact h h' _ _ ⟨_, fun A' hh => hlen ▸ WalksT.enumerateD (Draws.strWide (A := A'.in1) hh s.heap.objs.size (T cs) t) _ (Nat.succ_ne_self _) side (by simp), hP⟩ ⟨⟨_, he⟩, hit'⟩ hsz hk
  · have hit' : h'.IsStrIter s.heap.objs.size "str_ascii_iterator" (T cs) t 0 := by simpa [strIterType, ha] using hit
    exact h h' _ _ ⟨_, fun A' hh => hlen ▸ WalksT.enumerateD (Draws.strAscii (A := A'.in1) hh s.heap.objs.size (T cs) t) _ (Nat.succ_ne_self _) side (by simp), hP⟩ ⟨⟨_, he⟩, hit'⟩ hsz hk

theorem gen_goes {prog : Program} {w : World} {A : Around} (hh : A.handled = none) {hB : Heap} (bB : Base w hB) {cs : List Nat} {ta : Tok} {L : Addr} {s : Shared} {m₀ : Str → Option Value} {o : Obj} {fd : FuncData} {body : List Stmt}
    (ho : (HP w.params).lookup 89 = some o) (hd : o.data = .func fd) (hb : fd.body = .stmts body) (hcl : fd.closure = [])
    (hn : s.heap.Ns L m₀) (hm : m₀ (Str.ofString "addr") = some (.str (T cs) ta)) (hk : Ext hB s.heap) (hL : hB.get? L = none) (hz : cs.length ≤ 10000) :
    GenState.Goes (model prog w) A (gEnd L s.heap.objs.size) (gProto hB L s.heap.objs.size (escs false 0 cs)) (escs false 0 cs).length (.fresh (.func body (callEnv fd L 89))) (.send .none) s := by
  have F : GF w hB s.heap s.heap.objs.size (callEnv fd L 89) m₀ s.heap := ⟨bB, hk, hn, fun _ _ _ e => e, hL, hcl⟩
  have ho' : (HP w.params).lookup 89 = some _ := rfl
  rw [ho'] at ho
  cases ho
  cases hd
  cases hb
  refine ⟨rfl, seg_func ?_⟩
  refine seg_execs_cons (seg_wrap ?_)
  walk_at "m:go"
  rename _ = _ => sz1
  refine seg_execs_cons (seg_wrap ?_)
  walk_at "m:go"
  rename _ = _ => sz2
  refine seg_execs_cons (seg_For ?_ (fun _ => rfl))
  walk_at "m:go"
  rename GF _ _ _ _ _ _ _ => F2
  rename Heap => h₂
  refine enum_make fun h₃ St Mid EN st0 sz3 k3 => ?_
  obtain ⟨Pt, W, hPt⟩ := EN
  refine (W (A.over _ _) ?hA).self 0 _ _ _ ?_ ?_
  case hA => exact hh
  · exact st0
  intro p
  have F3 := F2.ext k3
  dsimp only at sz1 sz2 sz3 W st0
  have hz2 : h₂.objs.size = s.heap.objs.size := sz2.trans sz1
  have hLS : L < s.heap.objs.size := hn.lt
  have hw : ∀ b ∈ [h₂.objs.size + 1, h₂.objs.size], GOut L s.heap.objs.size b ∧ b ≠ L ∧ hB.get? b = none := by
    intro b hb
    have hb' : s.heap.objs.size ≤ b := by
      rcases List.mem_cons.mp hb with e | hb
      · rw [e, ← hz2]; exact Nat.le_succ _
      · rw [List.mem_singleton.mp hb, ← hz2]; exact Nat.le_refl _
    refine ⟨.inr hb', Nat.ne_of_gt (Nat.lt_of_lt_of_le hLS hb'), ?_⟩
    cases q : hB.get? b with
    | none => rfl
    | some o => exact absurd (Heap.lt_size (hk b o q)) (Nat.not_lt.mpr hb')
  have hfr : ∀ i h h', St i h → (∀ b o, GOut L s.heap.objs.size b → b ≠ L → h.get? b = some o → h'.get? b = some o) → St i h' := fun i h h' st k =>
    (W A hh).frame i h h' st fun b hb o e => k b o (hw b hb).1 (hw b hb).2.1 e
  refine seg_scan cs (fun i esc s₀ s' => ∃ m, F3.I s₀.heap m s'.heap ∧ s' = { s₀ with heap := s'.heap, toks := s'.toks } ∧ m (Str.ofString "escape") = some (.bool esc) ∧ (esc = true → 1 ≤ i) ∧
      (1 ≤ i → ∃ t, m (Str.ofString "pos") = some (.int ((i - 1 : Nat) : Int) t)) ∧ St i s'.heap ∧ ∃ pre, escs false 0 cs = pre ++ escs esc i (cs.drop i)) ?fin ?turn cs.length 0 false s _ rfl (Nat.zero_le _) ?init
  case init => exact ⟨_, F3, rfl, rfl, (fun e => nomatch e), fun e => absurd e (by decide), st0, [], rfl⟩
  case turn =>
    rintro i x esc s₀ s' hx ⟨m, G, hs', hesc, he1, hpos, st, pre, hpre⟩ next
    refine seg_forLoop ?_
    have hlt : i < cs.length := (List.getElem?_eq_some_iff.mp hx).1
    refine (W (A.over _ _) ?hA).item i s' _ _ hlt st (fun Tu vals h' tk hp hT hI hM k => ?_)
    case hA => exact hh
    dsimp only
    refine (W (A.over _ _) ?hA2).go _ _ _ i Tu _ _ _ ?hM fun h'' st' k' => ?_
    case hA2 => exact hh
    case hM => exact hM
    obtain ⟨t, u, c, hc, rfl⟩ := hPt i vals hp
    obtain rfl : x = c := by rw [hx] at hc; exact Option.some.inj hc
    have hTw := (W A hh).apart _ _ _ hM
    refine wpAny_assign_Tuple (items := #[.int (i : Nat) t, .str (T [x]) u]) ?hA3 ?ht ?hn ?hst fun h3 e3 => ?_
    case hn => exact rfl
    case hst => exact rfl
    case hA3 => exact hh
    case ht => obtain ⟨o, ho, r⟩ := hI; exact ⟨o, k' Tu o hTw ho, r⟩
    have G3 : F3.I s₀.heap m h3 := ((G.turn hw k).turn hw k').ext fun b o e => e3 b o (Nat.ne_of_lt (Heap.lt_size e)) e
    walk_at "m:go"
    rename_i h4 sz4 k4 h5 G5 sz5 k5
    have st5 : St (i + 1) h5 := hfr _ _ _ st' fun b o _ hb e => k5 b o hb (k4 b o hb (e3 b o (Nat.ne_of_lt (Heap.lt_size e)) e))
    have hesc5 : upd (upd m (Str.ofString "pos") (.int (i : Nat) t)) (Str.ofString "ch") (.str (T [x]) u) (Str.ofString "escape") = some (.bool esc) := hesc
    refine seg_execs_cons (seg_If ?_)
    walk_at "m:go"
    have hdr : cs.drop i = x :: cs.drop (i + 1) := by
      rw [List.drop_eq_getElem_cons hlt]
      rw [List.getElem?_eq_getElem hlt] at hx
      rw [Option.some.inj hx]
    rw [hdr] at hpre
    have hps5 : ∃ t, upd (upd m (Str.ofString "pos") (.int (i : Nat) t)) (Str.ofString "ch") (.str (T [x]) u) (Str.ofString "pos") = some (.int ((i + 1 - 1 : Nat) : Int) t) := ⟨t, rfl⟩
    cases esc with
    | true =>
      have hpre' : escs false 0 cs = pre ++ (i, [92, x]) :: escs false (i + 1) (cs.drop (i + 1)) := hpre
      simp only [if_true]
      refine seg_execs_cons (seg_Expr_Yield (n := (escs false (i + 1) (cs.drop (i + 1))).length) rfl rfl rfl ?_ rfl rfl)
      refine wpAny_Tuple_spliced ?_
      walk_at "m:go"
      refine ⟨by rw [sizeLine_eq]; exact Nat.le_of_ble_eq_true rfl, fun kap hkap => ⟨⟨(i, [92, x]), _, _, _, escs_at hpre', rfl, ⟨_, Heap.get?_push_size _ rfl, rfl, _, rfl⟩⟩, ?_, fun s'' k1 k2 => hkap .none s'' ?_⟩⟩
      · rw [hs']
        exact (G5.ext (ext_push _ _)).conf
      · have G6 := (G5.ext (ext_push _ _)).resume k1 k2
        have st6 : St (i + 1) s''.heap := hfr _ _ _ st5 fun b o hb _ e => k1 b o hb (ext_push _ _ b o e)
        refine seg_execs_cons (seg_wrap ?_)
        walk_at "m:go"
        rename_i h7 G7 sz7 k7
        refine seg_execs_nil (seg_execs_nil (seg_again rfl (next false s'' _ ⟨_, G7, rfl, rfl, (fun e => nomatch e), fun _ => ⟨t, rfl⟩, hfr _ _ _ st6 fun b o _ hb e => k7 b o hb e, pre ++ [(i, [92, x])], by rw [hpre', List.append_assoc]; rfl⟩)))
    | false =>
      simp only [Bool.false_eq_true, if_false]
      refine seg_execs_cons (seg_If ?_)
      walk_at "m:go"
      by_cases hx92 : x = 92
      · subst hx92
        have he : escs false i (92 :: cs.drop (i + 1)) = escs true (i + 1) (cs.drop (i + 1)) := if_pos rfl
        rw [he] at hpre ⊢
        simp only [show (([92] : List Nat) == [92]) = true from rfl, if_true]
        refine seg_execs_cons (seg_wrap ?_)
        walk_at "m:go"
        rename_i h7 G7 sz7 k7
        refine seg_execs_nil (seg_execs_nil (seg_execs_nil (seg_again rfl (next true s₀ _ ⟨_, G7, by rw [hs'], rfl, fun _ => Nat.succ_pos _, fun _ => ⟨t, rfl⟩, hfr _ _ _ st5 fun b o _ hb e => k7 b o hb e, pre, hpre⟩))))
      · have he : escs false i (x :: cs.drop (i + 1)) = (i, [x]) :: escs false (i + 1) (cs.drop (i + 1)) := if_neg hx92
        rw [he] at hpre ⊢
        have hne : ([x] == [92]) = false := by simp [hx92]
        simp only [hne, Bool.false_eq_true, if_false]
        refine seg_execs_cons (seg_Expr_Yield (n := (escs false (i + 1) (cs.drop (i + 1))).length) rfl rfl rfl ?_ rfl rfl)
        refine wpAny_Tuple_spliced ?_
        walk_at "m:go"
        refine ⟨by rw [sizeLine_eq]; exact Nat.le_of_ble_eq_true rfl, fun kap hkap => ⟨⟨(i, [x]), _, _, _, escs_at hpre, rfl, ⟨_, Heap.get?_push_size _ rfl, rfl, _, rfl⟩⟩, ?_, fun s'' k1 k2 => hkap .none s'' ?_⟩⟩
        · rw [hs']
          exact (G5.ext (ext_push _ _)).conf
        · have G6 := (G5.ext (ext_push _ _)).resume k1 k2
          have st6 : St (i + 1) s''.heap := hfr _ _ _ st5 fun b o hb _ e => k1 b o hb (ext_push _ _ b o e)
          refine seg_execs_nil (seg_execs_nil (seg_execs_nil (seg_again rfl (next false s'' _ ⟨_, G6, rfl, hesc5, (fun e => nomatch e), fun _ => ⟨t, rfl⟩, st6, pre ++ [(i, [x])], by rw [hpre, List.append_assoc]; rfl⟩))))
  case fin =>
    rintro esc s₀ s' ⟨m, G, hs', hesc, he1, hpos, st, pre, hpre⟩
    refine seg_forLoop ?_
    refine (W (A.over _ _) ?hA).done s' _ _ st (fun h' tk k => ?_)
    case hA => exact hh
    dsimp only
    have G3 : F3.I s₀.heap m h' := G.turn hw k
    refine seg_again rfl (seg_block_nil ?_)
    refine seg_execs_cons (seg_If ?_)
    walk_at "m:go"
    cases esc with
    | true =>
      obtain ⟨t, ht⟩ := hpos (he1 rfl)
      rw [List.drop_of_length_le (Nat.le_refl _)] at hpre
      have hpre' : escs false 0 cs = pre ++ (cs.length - 1, [92]) :: [] := hpre
      simp only [if_true]
      refine seg_execs_cons (seg_Expr_Yield (n := 0) rfl rfl rfl ?_ rfl rfl)
      refine wpAny_Tuple_spliced ?_
      walk_at "m:go"
      refine ⟨by rw [sizeLine_eq]; exact Nat.le_of_ble_eq_true rfl, fun kap hkap => ⟨⟨(cs.length - 1, [92]), _, _, _, escs_at hpre', rfl, ⟨_, Heap.get?_push_size _ rfl, rfl, _, rfl⟩⟩, ?_, fun s'' k1 k2 => hkap .none s'' ?_⟩⟩
      · rw [hs']
        exact (G3.ext (ext_push _ _)).conf
      · exact seg_execs_nil (seg_execs_nil (seg_end (.ok (.ret .none)) ⟨rfl, rfl, GConf.refl _⟩))
    | false =>
      simp only [Bool.false_eq_true, if_false]
      refine seg_execs_nil (seg_execs_nil (seg_end (.ok (.ret .none)) ⟨rfl, rfl, ?_⟩))
      rw [hs']
      exact G3.conf
end
section
section
variable {w : World} {h₀ h₁ h h' : Heap} {env : Env} {m : Str → Option Value} {led : List (Addr × LV)}
/-- what lies outside the frame turns -/
theorem Fm.turn (F : Fm w h₀ env m led h) (P : Addr → Prop) (k : ∀ b o, ¬ P b → h.get? b = some o → h'.get? b = some o) (hP : ∀ b o, h₀.get? b = some o → ¬ P b) (hL : ¬ P env.locals)
    (hC : ∀ x c, (x, c) ∈ env.cells → ¬ P c) (hA : ∀ p ∈ led, ¬ P p.1) : Fm w h₀ env m led h' := by
  refine ⟨⟨F.toVw.base, fun b o e => k b o (hP b o e) (F.toVw.keep b o e), ?_, fun x c hc => ?_, fun p hp => ?_⟩, F.lap, F.newL, F.newC, F.cap, F.newA⟩
  · obtain ⟨ml, hn, hq⟩ := F.toVw.ns
    exact ⟨ml, hn.at' fun o e => k _ o hL e, hq⟩
  · obtain ⟨o, ho, hd⟩ := F.toVw.cell x c hc
    exact ⟨o, k c o (hC x c (mem_of_lookup hc)) ho, hd⟩
  · exact (F.toVw.lst p hp).at fun o e => k _ o (hA p hp) e
theorem Fm.under (F : Fm w h₁ env m led h) (b : Base w h₀) (k : Ext h₀ h₁) : Fm w h₀ env m led h :=
  ⟨⟨b, fun c o e => F.toVw.keep c o (k c o e), F.toVw.ns, F.toVw.cell, F.toVw.lst⟩, F.lap, none_of_ext k F.newL, fun x c hx => none_of_ext k (F.newC x c hx), F.cap, fun p hp => none_of_ext k (F.newA p hp)⟩
/-- all that is not the frame's own is now old -/
theorem Fm.rebase (F : Fm w h₀ env m led h) : ∃ h₁, Fm w h₁ env m led h ∧ Ext h₀ h₁ ∧ ∀ b o, b ≠ env.locals → (∀ x c, (x, c) ∈ env.cells → b ≠ c) → (∀ p ∈ led, b ≠ p.1) → h.get? b = some o → h₁.get? b = some o := by
  let as := env.locals :: (env.cells.map (·.2) ++ led.map (·.1))
  have hin : ∀ b, b ∈ as → h₀.get? b = none := by
    intro b hb
    rcases List.mem_cons.mp hb with rfl | hb
    · exact F.newL
    rcases List.mem_append.mp hb with hb | hb
    · obtain ⟨p, hp, rfl⟩ := List.mem_map.mp hb; exact F.newC p.1 p.2 hp
    · obtain ⟨p, hp, rfl⟩ := List.mem_map.mp hb; exact F.newA p hp
  have k1 : Ext h₀ (hideAll h as) := fun b o e => hideAll_get _ (F.toVw.keep b o e) fun hm => by rw [hin b hm] at e; cases e
  refine ⟨hideAll h as, ⟨⟨F.toVw.base.keeps k1, fun b o e => of_hideAll _ e, F.toVw.ns, F.toVw.cell, F.toVw.lst⟩, F.lap, hideAll_none _ (.head _), fun x c hx => hideAll_none _ (.tail _ (List.mem_append_left _ (List.mem_map_of_mem (f := (·.2)) hx))), F.cap,
    fun p hp => hideAll_none _ (.tail _ (List.mem_append_right _ (List.mem_map_of_mem (f := (·.1)) hp)))⟩, k1, fun b o h1 h2 h3 e => hideAll_get _ e fun hm => ?_⟩
  rcases List.mem_cons.mp hm with rfl | hm
  · exact h1 rfl
  rcases List.mem_append.mp hm with hm | hm
  · obtain ⟨p, hp, e'⟩ := List.mem_map.mp hm; exact h2 p.1 p.2 hp e'.symm
  · obtain ⟨p, hp, e'⟩ := List.mem_map.mp hm; exact h3 p hp e'.symm
end

section
variable {prog : Program} {w : World} {A : Around} {s : Shared}
theorem forLoopG {R : Result → Shared → Prop} {target it body orelse env} (I : Nat → Shared → Prop)
    (turn : ∀ n s, I n s → wpAny (model prog w) A (pyNext it) (fun r s₁ => match r with
      | none => wpAny (model prog w) A (execs orelse env) (fun f s₃ => R (.ok f) s₃) (fun _ _ => False) s₁
      | some v => wpAny (model prog w) A (letOwnedTupleGo target it v) (fun _ s₁' => wpAny (model prog w) A (assign target env v) (fun _ s₂ => wpAny (model prog w) A (execs body env) (fun f s₃ => match f with
          | .next | .cont => ∃ m, m < n ∧ I m s₃
          | .brk => R (.ok .next) s₃
          | .ret v => R (.ok (.ret v)) s₃) (fun _ _ => False) s₂) (fun _ _ => False) s₁') (fun _ _ => False) s₁) (fun _ _ => False) s)
    (n : Nat) (h : I n s) : codeAny (model prog w) A (.forLoop target it body orelse env) R s := by
  refine codeAny_loop' rfl I (fun n s hI => ?_) n h
  show wpAny _ _ ((forTurn target it body orelse env).onRaise (fun x => do noteFrame x env; theTreesLotGoes x)) _ _ s
  refine wpAny_noted (wpAny_mono ?_ (fun _ _ x => x) fun _ _ (x : False) => x.elim)
  simp only [forTurn]
  refine wpAny_bind (wpAny_standAt (wpAny_bind (wpAny_onRaise (wpAny_mono (turn n s hI) (fun r s₁ h₁ => ?_) fun _ _ h' => h'.elim))))
  cases r with
  | none => exact wpAny_pure (.inr ⟨rfl, codeAny_block (wpAny_mono h₁ (fun _ _ x => x) fun _ _ x => x.elim)⟩)
  | some v =>
    refine wpAny_bind (wpAny_mono h₁ (fun _ s₁' h₁' => ?_) fun _ _ x => x)
    refine wpAny_bind (wpAny_mono h₁' (fun _ s₂ h₂ => wpAny_bind (wpAny_mono h₂ (fun f s₃ h₃ => ?_) fun _ _ h' => h')) fun _ _ h' => h')
    cases f with
    | next => exact wpAny_pure (.inl ⟨rfl, h₃⟩)
    | cont => exact wpAny_pure (.inl ⟨rfl, h₃⟩)
    | brk => exact wpAny_pure h₃
    | ret v => exact wpAny_pure h₃

theorem letGo_gen {M : Model} {E : Value → Shared → Prop} {elts : List Expr} {k : Nat} {pos : Pos} {a t : Addr} {g : Nat} {Q : Unit → Shared → Prop} (hg : s.heap.IsGen a g) (h : Q () s) : wpAny M A (letOwnedTupleGo (.Tuple elts k pos) (.ref a) (.ref t)) Q E s := by
  obtain ⟨o, nm, qn, ho, hc, hd, hs⟩ := hg
  show wpAny M A (load a >>= _) Q E s
  refine wpAny_bind (wpAny_load ho ?_)
  rw [hc, hd]
  exact wpAny_pure h

theorem listNew_F {h₀ : Heap} {env : Env} {m : Str → Option Value} {led : List (Addr × LV)} {vs : List Value} {v : LV} {E : Value → Shared → Prop} {Q : Value → Shared → Prop} (F : Fm w h₀ env m led s.heap)
    (hv : ∀ h a, h.PlainList a vs.toArray → Holds h a v) (hz : vs.length ≤ 1000000)
    (h : ∀ D h', Fm w h₀ env m ((D, v) :: led) h' → Q (.ref D) { s with heap := h' }) : wpAny (model prog w) A (newList vs) Q E s :=
  wpAny_newObj_type (h _ _ (F.push (ext_push _ _) (get_none_size _) (hv _ _ ⟨_, Heap.get?_push_size _ rfl⟩))) (by show vs.toArray.size ≤ sizeLine; rw [sizeLine_eq, List.size_toArray]; omega)

theorem append_raw {l : Addr} {x : Value} {vs : List Value} {E : Value → Shared → Prop} {Q : Value → Shared → Prop} (hp : s.heap.PlainList l vs.toArray) (hz : vs.length ≤ 1000000)
    (h : ∀ h', h'.PlainList l (vs ++ [x]).toArray → (∀ b o, b ≠ l → s.heap.get? b = some o → h'.get? b = some o) → Q .none { s with heap := h' }) : wpAny (model prog w) A (call (.builtin "list.append") [.ref l, x]) Q E s := by
  obtain ⟨n, p⟩ := hp
  refine call_meets PySem.F.slot_list_append ⟨_, p, rfl⟩ PySem.F.entry_list_append (PySem.F.args_list_append_2 _ _)
    (PySem.AutoListH.list_append_list_val_0 l _ n x (by rw [List.size_toArray, sizeLine_eq]; omega)) ⟨p, ?_⟩
  have q := PySem.IsL.update p (fun xs : Array Value => xs.push x)
  have e : vs.toArray.push x = (vs ++ [x]).toArray := by simp
  rw [e] at q
  exact h _ ⟨_, q⟩ fun b o hb e => (Heap.get?_update_other _ _ (Ne.symm hb)).trans e

theorem StrsAre.snoc : ∀ {vs : List Value} {xs : List Str} (y : Str) (t : Tok), StrsAre vs xs → StrsAre (vs ++ [.str y t]) (xs ++ [y])
  | _, _, y, t, .nil => .cons y t .nil
  | _, _, y, t, .cons a b r => .cons a b (StrsAre.snoc y t r)

theorem appendS_F {h₀ : Heap} {env : Env} {m : Str → Option Value} {led led' : List (Addr × LV)} {l : Addr} {y : Str} {t : Tok} {xs : List Str} {E : Value → Shared → Prop} {Q : Value → Shared → Prop} (F : Fm w h₀ env m led s.heap)
    (hm : (l, .sl xs) ∈ led) (U : LUpd l (.sl (xs ++ [y])) led led') (hz : xs.length ≤ 1000000)
    (h : ∀ h' tk, Fm w h₀ env m led' h' → Q .none { s with heap := h', toks := tk }) : wpAny (model prog w) A (call (.builtin "list.append") [.ref l, .str y t]) Q E s := by
  obtain ⟨vs, hp, hi⟩ := F.toVw.lst _ hm
  refine append_raw hp (by rw [StrsAre.length hi]; exact hz) fun h' hp' k => h h' s.toks (F.set U k ⟨_, hp', StrsAre.snoc y t hi⟩)
theorem appendI_F {h₀ : Heap} {env : Env} {m : Str → Option Value} {led led' : List (Addr × LV)} {l : Addr} {y : Int} {t : Tok} {xs : List Int} {E : Value → Shared → Prop} {Q : Value → Shared → Prop} (F : Fm w h₀ env m led s.heap)
    (hm : (l, .il xs) ∈ led) (U : LUpd l (.il (xs ++ [y])) led led') (hz : xs.length ≤ 1000000)
    (h : ∀ h' tk, Fm w h₀ env m led' h' → Q .none { s with heap := h', toks := tk }) : wpAny (model prog w) A (call (.builtin "list.append") [.ref l, .int y t]) Q E s := by
  obtain ⟨vs, hp, hi⟩ := F.toVw.lst _ hm
  refine append_raw hp (by rw [IntsAre.length hi]; exact hz) fun h' hp' k => h h' s.toks (F.set U k ⟨_, hp', IntsAre.append hi (.cons y t .nil)⟩)
end

theorem setGen_push (s : Shared) (gens : Array GenState) (x y : GenState) (h : s.gens = gens.push x) : s.setGen gens.size y = { s with gens := gens.push y } := by
  unfold Shared.setGen
  rw [h]
  have : (gens.push x).setIfInBounds gens.size y = gens.push y := by
    apply Array.ext_getElem?
    intro i
    rw [Array.getElem?_setIfInBounds, Array.getElem?_push, Array.getElem?_push, Array.size_push]
    by_cases hi : gens.size = i
    · subst hi; simp
    · rw [if_neg hi, if_neg (fun e => hi e.symm), if_neg (fun e => hi e.symm)]
  rw [this]

section
variable {prog : Program} {w : World} {A : Around} {s : Shared} {R : Result → Shared → Prop}
theorem gen_call {a : Addr} {o : Obj} {fd : FuncData} {body : List Stmt} {args : Args} {binds : List (Str × Value)} (b : Base w s.heap)
    (hroom : A.depth < recursionLimit) (ho : (HP w.params).lookup a = some o) (hd : o.data = .func fd) (hcd : codeIn (HP w.params) fd.code fd.qualname = true) (hb : fd.body = .stmts body)
    (hbind : BindsTo s fd args binds) (hcl : fd.closure = []) (hco : fd.scope.isCoroutine = false) (hgen : fd.scope.isGenerator = true) (hk : fd.scope.kind = .function)
    (hcell : (fd.scope.names.all fun x => x.2 != .cell) = true) (hloc : (binds.all fun x => decide (fd.scope.names.lookup x.1 = some .local)) = true)
    (h : ∀ h₂ tk G, Ext s.heap h₂ → h₂.Ns s.heap.objs.size (fun x => binds.reverse.lookup x) → h₂.IsGen G s.gens.size → s.heap.objs.size < G → G < h₂.objs.size →
      R (.ok (.ret (.ref G))) { s with heap := h₂, toks := tk, gens := s.gens.push (.fresh (.func body (callEnv fd s.heap.objs.size a))) }) :
    codeAny (model prog w) A (.call (.ref a) args) R s := by
  refine codeAny_call_generator hroom (b.K _ _ ho) hd hco hgen hb (codeRec_of b.K hcd) (hbind _ _ _ _ ?_)
  refine wpAny_newFunctionEnv (fun x hx => by simpa using List.all_eq_true.mp hcell x hx) (fun x hx => of_decide_eq_true (List.all_eq_true.mp hloc x hx)) (fun h₁ hn hs => ⟨b.nolimit.fresh _ hs, ?_⟩) hk
  have hsz : h₁.objs.size = s.heap.objs.size + 1 := by rw [hs.1, Heap.size_push]
  have k1 : Ext s.heap h₁ := fun b o e => hs.extBut b o (Nat.ne_of_lt (Heap.lt_size e)) (Heap.get?_push_of_some _ e)
  exact h _ _ _ (fun b o e => Heap.get?_push_of_some _ (k1 b o e)) (hn.push _) ⟨_, _, _, Heap.get?_push_size _ rfl, rfl, rfl, rfl⟩ (by rw [hsz]; exact Nat.lt_succ_self _) (by rw [Heap.size_push]; exact Nat.lt_succ_self _)
end
end
section
theorem escs_pos : ∀ (cs : List Nat) (i : Nat) (esc : Bool), (esc = true → 1 ≤ i) → ∀ x ∈ escs esc i cs, (esc = false → i ≤ x.1) ∧ i ≤ x.1 + 1 ∧ x.1 < i + cs.length
  | [], i, true, h, x, hx => by
    have e : x = (i - 1, [92]) := List.mem_singleton.mp hx
    have := h rfl
    subst e
    exact ⟨(fun q => nomatch q), by simp; (first | lia | omega), by simp; (first | lia | omega)⟩
  | [], i, false, h, x, hx => nomatch hx
  | c :: r, i, true, h, x, hx => by
    rcases List.mem_cons.mp (show x ∈ (i, [92, c]) :: escs false (i + 1) r from hx) with e | hx
    · subst e; exact ⟨(fun q => nomatch q), by simp, by simp⟩
    · have := escs_pos r (i + 1) false (fun q => nomatch q) x hx
      have h1 := this.1 rfl
      simp only [List.length_cons]
      exact ⟨(fun q => nomatch q), by (first | lia | omega), by (first | lia | omega)⟩
  | c :: r, i, false, h, x, hx => by
    by_cases hc : c = 92
    · have e : escs false i (c :: r) = escs true (i + 1) r := if_pos hc
      rw [e] at hx
      have := escs_pos r (i + 1) true (fun _ => Nat.succ_pos _) x hx
      simp only [List.length_cons]
      exact ⟨fun _ => by (first | lia | omega), by (first | lia | omega), by (first | lia | omega)⟩
    · have e : escs false i (c :: r) = (i, [c]) :: escs false (i + 1) r := if_neg hc
      rw [e] at hx
      rcases List.mem_cons.mp hx with e | hx
      · subst e; exact ⟨fun _ => Nat.le_refl _, by simp, by simp⟩
      · have := escs_pos r (i + 1) false (fun q => nomatch q) x hx
        have h1 := this.1 rfl
        simp only [List.length_cons]
        exact ⟨fun _ => by (first | lia | omega), by (first | lia | omega), by (first | lia | omega)⟩

theorem escs_sorted : ∀ (cs : List Nat) (i : Nat) (esc : Bool), (escs esc i cs).Pairwise fun a b => a.1 < b.1
  | [], i, true => List.pairwise_singleton ..
  | [], i, false => .nil
  | c :: r, i, true => by
    refine List.pairwise_cons.mpr ⟨fun x hx => ?_, escs_sorted r (i + 1) false⟩
    exact (escs_pos r (i + 1) false (fun q => nomatch q) x hx).1 rfl
  | c :: r, i, false => by
    by_cases hc : c = 92
    · have e : escs false i (c :: r) = escs true (i + 1) r := if_pos hc
      rw [e]; exact escs_sorted r (i + 1) true
    · have e : escs false i (c :: r) = (i, [c]) :: escs false (i + 1) r := if_neg hc
      rw [e]
      refine List.pairwise_cons.mpr ⟨fun x hx => ?_, escs_sorted r (i + 1) false⟩
      exact (escs_pos r (i + 1) false (fun q => nomatch q) x hx).1 rfl

theorem escs_len : ∀ (cs : List Nat) (i : Nat) (esc : Bool), (escs esc i cs).length ≤ cs.length + 1
  | [], i, true => Nat.le_refl _
  | [], i, false => Nat.zero_le _
  | c :: r, i, true => Nat.succ_le_succ (escs_len r (i + 1) false)
  | c :: r, i, false => by
    by_cases hc : c = 92
    · have e : escs false i (c :: r) = escs true (i + 1) r := if_pos hc
      rw [e]; exact Nat.le_succ_of_le (escs_len r (i + 1) true)
    · have e : escs false i (c :: r) = (i, [c]) :: escs false (i + 1) r := if_neg hc
      rw [e]; exact Nat.succ_le_succ (escs_len r (i + 1) false)

def stStep (cs : List Nat) (st : Nat × Option Nat × List (List Nat)) (x : Nat × List Nat) : Nat × Option Nat × List (List Nat) :=
  if x.2 = [34] then match st.2.1 with
    | none => (st.1, some x.1, st.2.2)
    | some o => (x.1 + 1, none, if st.1 = o then st.2.2 else st.2.2 ++ [(cs.drop st.1).take (o - st.1)])
  else st
def stEnd (cs : List Nat) (st : Nat × Option Nat × List (List Nat)) : List (List Nat) := if st.1 < cs.length then st.2.2 ++ [cs.drop st.1] else st.2.2
/-- what _strip_quoted_realnames tells -/
def strip (cs : List Nat) : List Nat := if 34 ∈ cs then (stEnd cs ((escs false 0 cs).foldl (stStep cs) (0, none, []))).flatten else cs

structure StOk (cs : List Nat) (items : List (Nat × List Nat)) (j : Nat) (st : Nat × Option Nat × List (List Nat)) : Prop where
  ahead : ∀ k x, j ≤ k → items[k]? = some x → st.1 ≤ x.1 ∧ ∀ o, st.2.1 = some o → o < x.1
  start : st.1 ≤ cs.length
  opens : ∀ o, st.2.1 = some o → st.1 ≤ o ∧ o < cs.length
  sum : st.2.2.flatten.length ≤ st.1
  len : st.2.2.length ≤ j

theorem StOk.step {cs : List Nat} {items : List (Nat × List Nat)} {j : Nat} {st : Nat × Option Nat × List (List Nat)} {x : Nat × List Nat} (S : StOk cs items j st) (hs : items.Pairwise fun a b => a.1 < b.1) (hx : items[j]? = some x) (hlt : x.1 < cs.length) :
    StOk cs items (j + 1) (stStep cs st x) := by
  have hord : ∀ k y, j + 1 ≤ k → items[k]? = some y → x.1 < y.1 := by
    intro k y hk hy
    obtain ⟨h1, e1⟩ := List.getElem?_eq_some_iff.mp hx
    obtain ⟨h2, e2⟩ := List.getElem?_eq_some_iff.mp hy
    have := List.pairwise_iff_getElem.mp hs j k h1 h2 (by (first | lia | omega))
    rwa [e1, e2] at this
  obtain ⟨a1, a2⟩ := S.ahead j x (Nat.le_refl _) hx
  unfold stStep
  split
  · cases ho : st.2.1 with
    | none =>
      exact ⟨fun k y hk hy => ⟨(S.ahead k y (by (first | lia | omega)) hy).1, fun o e => by cases e; exact hord k y hk hy⟩, S.start, fun o e => by cases e; exact ⟨a1, hlt⟩, S.sum, Nat.le_succ_of_le S.len⟩
    | some o =>
      obtain ⟨o1, o2⟩ := S.opens o ho
      have o3 := a2 o ho
      refine ⟨fun k y hk hy => ⟨hord k y hk hy, fun o e => nomatch e⟩, hlt, (fun o e => nomatch e), ?_, ?_⟩
      · show (if st.1 = o then st.2.2 else st.2.2 ++ [(cs.drop st.1).take (o - st.1)]).flatten.length ≤ x.1 + 1
        have := S.sum
        split
        · (first | lia | omega)
        · rw [List.flatten_append, List.length_append]
          simp only [List.flatten_cons, List.flatten_nil, List.append_nil, List.length_take, List.length_drop]
          (first | lia | omega)
      · show (if st.1 = o then st.2.2 else st.2.2 ++ [(cs.drop st.1).take (o - st.1)]).length ≤ j + 1
        have := S.len
        split
        · (first | lia | omega)
        · simp only [List.length_append, List.length_cons, List.length_nil]; (first | lia | omega)
  · exact ⟨fun k y hk hy => S.ahead k y (by (first | lia | omega)) hy, S.start, S.opens, S.sum, Nat.le_succ_of_le S.len⟩

theorem stEnd_len {cs : List Nat} {items : List (Nat × List Nat)} {j : Nat} {st : Nat × Option Nat × List (List Nat)} (S : StOk cs items j st) : (stEnd cs st).flatten.length ≤ cs.length := by
  have := S.sum
  have := S.start
  unfold stEnd
  split
  · rw [List.flatten_append, List.length_append]
    simp only [List.flatten_cons, List.flatten_nil, List.append_nil, List.length_drop]
    (first | lia | omega)
  · (first | lia | omega)
def stAt (cs : List Nat) (j : Nat) : Nat × Option Nat × List (List Nat) := ((escs false 0 cs).take j).foldl (stStep cs) (0, none, [])
theorem stAt_succ {cs : List Nat} {j : Nat} {x : Nat × List Nat} (hx : (escs false 0 cs)[j]? = some x) : stAt cs (j + 1) = stStep cs (stAt cs j) x := by
  unfold stAt
  rw [List.take_add_one, hx, List.foldl_append]
  rfl
theorem st_ok (cs : List Nat) : ∀ j, j ≤ (escs false 0 cs).length → StOk cs (escs false 0 cs) j (stAt cs j)
  | 0, _ => ⟨fun k x _ _ => ⟨Nat.zero_le _, fun o e => nomatch e⟩, Nat.zero_le _, (fun o e => nomatch e), Nat.le_refl _, Nat.le_refl _⟩
  | j + 1, h => by
    have hx := List.getElem?_eq_getElem (l := escs false 0 cs) (i := j) (by (first | lia | omega))
    rw [stAt_succ hx]
    exact (st_ok cs j (by (first | lia | omega))).step (escs_sorted cs 0 false) hx (by simpa using (escs_pos cs 0 false (fun q => nomatch q) _ (List.mem_of_getElem? hx)).2.2)
def OP (m : Str → Option Value) (x : Str) : Option Nat → Prop
  | none => m x = some .none
  | some k => ∃ t, m x = some (.int (k : Nat) t)
theorem strip_at {cs : List Nat} (h : 34 ∈ cs) {j : Nat} (e : j = (escs false 0 cs).length) : strip cs = (stEnd cs (stAt cs j)).flatten := by
  unfold strip stAt
  rw [if_pos h, e, List.take_length]
abbrev Fm.inn {w : World} {h₀ h : Heap} {env : Env} {m : Str → Option Value} {led : List (Addr × LV)} (_ : Fm w h₀ env m led h) (A : Around) : Around := (A.deeper env).in1
structure Opq (p : Prop) : Prop where
  out : p
theorem joinL_T {prog : Program} {w : World} {A : Around} {E : Value → Shared → Prop} {s : Shared} {Q : Value → Shared → Prop} {t : Tok} {D : Addr} {xs : List Str} {css : List (List Nat)} (hl : Holds s.heap D (.sl xs)) (e : xs = css.map T) (hz : css.flatten.length ≤ 1000000)
    (h : ∀ t' tk, Q (.str (T css.flatten) t') { s with toks := tk }) : wpAny (model prog w) A (call (.builtin "str.join") [.str (T []) t, .ref D]) Q E s := by
  obtain ⟨vs, hv, hi⟩ := hl.asStrs
  exact join_T hv (e ▸ hi) hz h
end
section
theorem calm_M16 : True := by
  w_top off
  trivial
local macro_rules | `(tactic| walk_at "eval List") => `(tactic| refine List_ ?_)
local macro_rules | `(tactic| walk_at "newList") => `(tactic| ((rename Fm _ _ _ _ _ _ => kF); (first | refine listNew_F (v := .sl []) kF (fun _ _ q => ⟨[], q, .nil⟩) (Nat.zero_le _) ?_); clear kF; intro D' h' F'))

set_option maxHeartbeats 400000 in
theorem st_call {prog : Program} {w : World} {A : Around} {s : Shared} {R : Result → Shared → Prop} {cs : List Nat} {ta : Tok}
    (b : Base w s.heap) (hh : A.handled = none) (hroom : A.depth + 1 < recursionLimit) (hz : cs.length ≤ 10000)
    (hR : ∀ t' h' tk gs, gs = s.gens ∨ gs = s.gens.push .finished → Ext s.heap h' → R (.ok (.ret (.str (T (strip cs)) t'))) { s with heap := h', toks := tk, gens := gs }) :
    codeAny (model prog w) A (.call (.ref 96) ⟨[.str (T cs) ta], []⟩) R s := by
  refine' enter_fm (binds := [(Str.ofString "addr", .str (T cs) ta)]) b ?hroom ?ho ?hd ?hcd ?hb ?bi ?hcl ?c2 ?c3 ?c4 ?hcell ?hloc (fun h₁ tk₁ F => ?_)
  case hroom => (first | lia | omega)
  case ho => exact rfl
  case hd => exact rfl
  case hcd => exact rfl
  case hb => exact rfl
  case bi => exact kp_binds b.K (fun S => by kernel_rfl)
  case hcl => exact rfl
  case c2 => exact rfl
  case c3 => exact rfl
  case c4 => exact rfl
  case hcell => exact rfl
  case hloc => exact rfl
  walk_at "m:go"
  · rename 34 ∈ cs => hmem
    refine wpAny_For ?_
    walk_at "m:go"
    rename Fm _ _ _ _ _ _ => G
    rename_i lres hq1 h₂ tq2
    refine wpAny_call ?_
    refine' gen_call (binds := [(Str.ofString "addr", .str (T cs) ta)]) G.bs ?hr ?ho ?hd ?hcd ?hb ?bi ?hcl ?hco ?hgen ?hk ?hcell ?hloc (fun h₃ tk₃ ga k3 hn3 hg3 hLg hgs => ?_)
    case hr => show _ + _ < _; (first | lia | omega)
    case ho => exact rfl
    case hd => exact rfl
    case hcd => exact rfl
    case hb => exact rfl
    case bi => exact kp_binds G.bs.K (fun S => by kernel_rfl)
    case hcl => exact rfl
    case hco => exact rfl
    case hgen => exact rfl
    case hk => exact rfl
    case hcell => exact rfl
    case hloc => exact rfl
    dsimp only
    have G3 := G.ext k3
    dsimp only at hn3 hg3 hLg k3
    refine wpAny_pyIter_gen hg3 ?_
    have hLh : h₂.objs.size < h₃.objs.size := hn3.lt
    have hBk : Ext s.heap h₃ := G3.toVw.keep
    have hBL : s.heap.get? h₂.objs.size = none := by
      cases q : s.heap.get? h₂.objs.size with
      | none => rfl
      | some o => exact absurd (Heap.lt_size (G.toVw.keep _ o q)) (Nat.lt_irrefl _)
    have hlL : ∀ b, b < h₂.objs.size → ¬ GOut h₂.objs.size h₃.objs.size b := fun b hb q => by
      rcases q with q | q
      · rw [q] at hb; exact Nat.lt_irrefl _ hb
      · exact absurd (Nat.lt_of_lt_of_le hb (Nat.le_of_lt hLh)) (Nat.not_lt.mpr q)
    have hBO : ∀ b o, s.heap.get? b = some o → ¬ GOut h₂.objs.size h₃.objs.size b := fun b o e => hlL b (Heap.lt_size (G.toVw.keep b o e))
    have hGa : ¬ GOut h₂.objs.size h₃.objs.size ga := fun q => by
      rcases q with q | q
      · rw [q] at hLg; exact Nat.lt_irrefl _ hLg
      · exact absurd hgs (Nat.not_lt.mpr q)
    have hlo : ¬ GOut h₂.objs.size h₃.objs.size (s.heap.objs.size) := by
      obtain ⟨ml, hn, _⟩ := G.toVw.ns
      exact hlL _ hn.lt
    have hlr : ¬ GOut h₂.objs.size h₃.objs.size lres := by
      obtain ⟨o, ho, _⟩ := (G.toVw.lst _ (.head _)).some
      exact hlL _ (Heap.lt_size ho)
    refine forLoopG (fun n s' => ∃ j h' tk m' gs, s' = { s with heap := h', toks := tk, gens := s.gens.push gs } ∧ j ≤ (escs false 0 cs).length ∧ G3.E m' [(lres, .sl ((stAt cs j).2.2.map T))] h' ∧ h'.IsGen ga s.gens.size ∧
      gs.Goes (model prog w) (G3.inn A) (gEnd h₂.objs.size h₃.objs.size) (gProto s.heap h₂.objs.size h₃.objs.size (escs false 0 cs)) ((escs false 0 cs).length - j) (.send .none) { s with heap := h', toks := tk, gens := s.gens.push .running } ∧
      VI m' (Str.ofString "start") (stAt cs j).1 ∧ OP m' (Str.ofString "open_pos") (stAt cs j).2.1 ∧ m' (Str.ofString "addr") = some (.str (T cs) ta) ∧ m' (Str.ofString "result") = some (.ref lres) ∧ n = (escs false 0 cs).length - j) ?turn (escs false 0 cs).length ?init
    case init =>
      refine ⟨0, h₃, tk₃, _, _, rfl, Nat.zero_le _, G3, hg3, ?_, ⟨_, rfl⟩, rfl, rfl, rfl, rfl⟩
      exact gen_goes (A := G3.inn A) (s := { s with heap := h₃, toks := tk₃, gens := s.gens.push .running }) hh b rfl rfl rfl rfl hn3 rfl hBk hBL hz
    case turn =>
      rintro n s' ⟨j, h', tk, m', gs, rfl, hj, F', hg', hgo, hst, hop, had, hre, rfl⟩
      have S := st_ok cs j hj
      have hset := setGen_push { s with heap := h', toks := tk, gens := s.gens.push gs } s.gens gs .running rfl
      refine wpAny_pyNext_gen (n := (escs false 0 cs).length - j) (gs := gs) (P := fun n s₀ s₁ => n = 0 ∧ GConf h₂.objs.size h₃.objs.size s₀ s₁) (Y := gProto s.heap h₂.objs.size h₃.objs.size (escs false 0 cs)) ?hA F'.bs.nolimit ?hr hg' ?hgs ?hgo ?hY ?hP
      case hA => exact hh
      case hr => show _ + _ < _; (first | lia | omega)
      case hgs => exact Array.getElem?_push_size ..
      case hgo => rw [hset]; exact hgo
      case hP =>
        rintro s₁ ⟨hn0, h₄, tk₄, hs₁, hk⟩ h₅ hk5
        rw [hset] at hs₁
        subst hs₁
        rw [setGen_push { s with heap := h₄, toks := tk₄, gens := s.gens.push .running } s.gens .running .finished rfl]
        have F5 := (F'.turn _ hk hBO hlo (fun _ _ q => nomatch q) (fun p hp => by rw [List.mem_singleton.mp hp]; exact hlr)).ext hk5
        have ej : j = (escs false 0 cs).length := by (first | lia | omega)
        have hfin := strip_at hmem ej
        have hil := escs_len cs 0 false
        rw [← ej] at hil
        have hlen := stEnd_len S
        rw [hfin] at hR
        dsimp only
        clear hgo hset hk F' k3 hn3 G3 hBk hBO hlL hLh hBL G hfin
        generalize stAt cs j = st at hst hop S F5 hR hlen
        obtain ⟨t1, h1⟩ := hst
        have hsum := S.sum
        have hstart := S.start
        have hcnt := S.len
        walk_at "m:go"
        · rename Fm _ _ _ _ _ _ => F6
          rename _ < _ => hlt6
          refine appendS_F F6 (.head _) .head (by rw [List.length_map]; (first | lia | omega)) fun h7 tk7 F7 => ?_
          walk_at "m:go"
          refine joinL_T (css := stEnd cs st) (F7.toVw.lst (_, _) (.head _)) ?_ (by (first | lia | omega)) fun t' tk' => ?_
          · unfold stEnd; rw [if_pos (by (first | lia | omega)), List.map_append]; rfl
          walk_at "m:go"
          exact hR _ _ _ _ (.inr rfl) F7.toVw.keep
        · rename Fm _ _ _ _ _ _ => F6
          rename ¬ _ < _ => hlt6
          refine joinL_T (css := stEnd cs st) (F6.toVw.lst (_, _) (.head _)) ?_ (by (first | lia | omega)) fun t' tk' => ?_
          · unfold stEnd; rw [if_neg (by (first | lia | omega))]
          walk_at "m:go"
          exact hR _ _ _ _ (.inr rfl) F6.toVw.keep
      case hY =>
        rintro v s₁ gs' ⟨⟨x, a, t, u, hx, rfl, hTup⟩, ⟨h₄, tk₄, hs₁, hk⟩, hres⟩
        have hS2 : s₁ = { s with heap := h₄, toks := tk₄, gens := s.gens.push .running } := by rw [hs₁, hset]
        have hkB : Ext s.heap h₄ := fun b o e => hk b o (hBO b o e) (by rw [hset]; exact F'.toVw.keep b o e)
        by_cases hjN : j < (escs false 0 cs).length
        · have hjj : (escs false 0 cs).length - 1 - ((escs false 0 cs).length - j - 1) = j := by (first | lia | omega)
          rw [hjj] at hx
          have hnext := stAt_succ hx
          have hxl := (escs_pos cs 0 false (fun q => nomatch q) x (List.mem_of_getElem? hx)).2.2
          have hah := S.ahead j x (Nat.le_refl _) hx
          have hil := escs_len cs 0 false
          have hcnt := S.len
          have hops := S.opens
          rw [hS2, setGen_push { s with heap := h₄, toks := tk₄, gens := s.gens.push .running } s.gens .running gs' rfl]
          dsimp only
          have hg4 : h₄.IsGen ga s.gens.size := by
            obtain ⟨o, nm, qn, ho, r⟩ := hg'
            exact ⟨o, nm, qn, hk ga o hGa (by rw [hset]; exact ho), r⟩
          refine letGo_gen hg4 ?_
          refine wpAny_assign_Tuple (items := #[.int (x.1 : Nat) t, .str (T x.2) u]) ?hA3 ?ht ?hn ?hst fun h5 e5 => ?_
          case hA3 => exact hh
          case ht => rw [hS2] at hTup; exact hTup
          case hn => exact rfl
          case hst => exact rfl
          have k5 : Ext h₄ h5 := fun b o e => e5 b o (Nat.ne_of_lt (Heap.lt_size e)) e
          have F5 := (F'.turn _ (fun b o n e => hk b o n (by rw [hset]; exact e)) hBO hlo (fun _ _ q => nomatch q) (fun p hp => by rw [List.mem_singleton.mp hp]; exact hlr)).ext k5
          obtain ⟨hb, Fb, kb1, kb2⟩ := F5.rebase
          have kO : ∀ b o, GOut h₂.objs.size h₃.objs.size b → h₄.get? b = some o → hb.get? b = some o := fun b o n e =>
            kb2 b o (fun q => hlo (by have q' : b = s.heap.objs.size := q; rw [← q']; exact n)) (fun _ _ q => nomatch q) (fun p hp q => hlr (by rw [List.mem_singleton.mp hp] at q; have q' : b = lres := q; rw [← q']; exact n)) (k5 b o e)
          have hgb : hb.IsGen ga s.gens.size := by
            obtain ⟨o, nm, qn, ho, r⟩ := hg4
            refine ⟨o, nm, qn, kb2 ga o (fun q => ?_) (fun _ _ q => nomatch q) (fun p hp q => ?_) (k5 ga o ho), r⟩
            · have : h₂.objs.size < s.heap.objs.size := by rw [← show ga = s.heap.objs.size from q]; exact hLg
              obtain ⟨ml, hn, _⟩ := G.toVw.ns
              exact absurd (Nat.lt_trans this hn.lt) (Nat.lt_irrefl _)
            · rw [List.mem_singleton.mp hp] at q
              obtain ⟨o', ho', _⟩ := (G.toVw.lst _ (.head _)).some
              have : ga < h₂.objs.size := by rw [show ga = lres from q]; exact Heap.lt_size ho'
              exact absurd (Nat.lt_trans this hLg) (Nat.lt_irrefl _)
          obtain ⟨q, hq⟩ : ∃ q, (escs false 0 cs).length - j = q + 1 := ⟨(escs false 0 cs).length - j - 1, by (first | lia | omega)⟩
          have hq2 : (escs false 0 cs).length - (j + 1) = q := by (first | lia | omega)
          rw [hq] at hres
          dsimp only at hres
          have hfin : ∀ h6 tk6 m6, G3.E m6 [(lres, .sl ((stAt cs (j + 1)).2.2.map T))] h6 → Ext hb h6 → VI m6 (Str.ofString "start") (stAt cs (j + 1)).1 → OP m6 (Str.ofString "open_pos") (stAt cs (j + 1)).2.1 →
              m6 (Str.ofString "addr") = some (.str (T cs) ta) → m6 (Str.ofString "result") = some (.ref lres) → _ := fun h6 tk6 m6 F6 k6 v1 v2 v3 v4 =>
            (⟨(escs false 0 cs).length - (j + 1), by (first | lia | omega), j + 1, h6, tk6, m6, gs', rfl, hjN, F6, hgb.keeps k6, by rw [hq2]; exact hres { s with heap := h6, toks := tk6, gens := s.gens.push .running } (fun b o n e => k6 b o (kO b o n (by rw [hS2] at e; exact e))) F6.toVw.keep, v1, v2, v3, v4, rfl⟩ : ∃ m, m < (escs false 0 cs).length - j ∧ ∃ j h' tk m' gs, ({ s with heap := h6, toks := tk6, gens := s.gens.push gs' } : Shared) = { s with heap := h', toks := tk, gens := s.gens.push gs } ∧ j ≤ (escs false 0 cs).length ∧ G3.E m' [(lres, .sl ((stAt cs j).2.2.map T))] h' ∧ h'.IsGen ga s.gens.size ∧
      gs.Goes (model prog w) (G3.inn A) (gEnd h₂.objs.size h₃.objs.size) (gProto s.heap h₂.objs.size h₃.objs.size (escs false 0 cs)) ((escs false 0 cs).length - j) (.send .none) { s with heap := h', toks := tk, gens := s.gens.push .running } ∧
      VI m' (Str.ofString "start") (stAt cs j).1 ∧ OP m' (Str.ofString "open_pos") (stAt cs j).2.1 ∧ m' (Str.ofString "addr") = some (.str (T cs) ta) ∧ m' (Str.ofString "result") = some (.ref lres) ∧ m = (escs false 0 cs).length - j)
          rw [hnext] at hfin
          have hopq := Opq.mk hfin
          clear hfin hgo hres hset hk F' F5 hgb kO k5 hg4 hkB kb2 hTup hg3
          generalize stAt cs j = st at hst hop S Fb hopq hah hcnt hops
          obtain ⟨s0, op, res⟩ := st
          obtain ⟨t1, h1⟩ := hst
          dsimp only at h1 hop hah hcnt hops Fb
          cases op with
          | none =>
            have hop1 : m' (Str.ofString "open_pos") = some .none := hop
            walk_at "m:go"
            · rename Fm _ _ _ _ _ _ => G6
              rename _ = true => hx34
              rw [show stStep cs (s0, none, res) x = (s0, some x.1, res) from if_pos (by simpa using hx34)] at hopq
              exact hopq.out _ _ _ (G6.under b kb1) G6.toVw.keep ⟨_, h1⟩ ⟨_, rfl⟩ had hre
            · rename Fm _ _ _ _ _ _ => G6
              rename _ = false => hx34
              rw [show stStep cs (s0, none, res) x = (s0, none, res) from if_neg (by simpa using hx34)] at hopq
              exact hopq.out _ _ _ (G6.under b kb1) G6.toVw.keep ⟨_, h1⟩ hop1 had hre
          | some o1 =>
            obtain ⟨t2, h2⟩ : ∃ t, m' (Str.ofString "open_pos") = some (.int (o1 : Nat) t) := hop
            obtain ⟨o2, o3⟩ := hops o1 rfl
            have o4 := hah.2 o1 rfl
            walk_at "m:go"
            · rename Fm _ _ _ _ _ _ => G6
              rename _ = true => hx34
              rename _ ≠ _ => hne
              have hne' : ¬ s0 = o1 := fun q => hne (by rw [q])
              rw [show stStep cs (s0, some o1, res) x = (x.1 + 1, none, res ++ [(cs.drop s0).take (o1 - s0)]) from (if_pos (by simpa using hx34)).trans (by dsimp only; rw [if_neg hne'])] at hopq
              refine appendS_F G6 (.head _) .head (by rw [List.length_map]; (first | lia | omega)) fun h7 tk7 F7 => ?_
              walk_at "m:go"
              rename Fm _ _ _ _ _ _ => G7
              have G8 := G7.under b kb1
              rw [show List.map T res ++ [T ((cs.drop s0).take (o1 - s0))] = List.map T (res ++ [(cs.drop s0).take (o1 - s0)]) from by rw [List.map_append]; rfl] at G8
              exact hopq.out _ _ _ G8 G7.toVw.keep (.of rfl (by push_cast; rfl)) rfl had hre
            · rename Fm _ _ _ _ _ _ => G6
              rename (x.2 == [34]) = true => hx34
              rename (s0 : Int) = (o1 : Int) => heq
              have heq' : s0 = o1 := by (first | lia | omega)
              rw [show stStep cs (s0, some o1, res) x = (x.1 + 1, none, res) from (if_pos (by simpa using hx34)).trans (by dsimp only; rw [if_pos heq'])] at hopq
              exact hopq.out _ _ _ (G6.under b kb1) G6.toVw.keep (.of rfl (by push_cast; rfl)) rfl had hre
            · rename Fm _ _ _ _ _ _ => G6
              rename _ = false => hx34
              rw [show stStep cs (s0, some o1, res) x = (s0, some o1, res) from if_neg (by simpa using hx34)] at hopq
              exact hopq.out _ _ _ (G6.under b kb1) G6.toVw.keep ⟨_, h1⟩ ⟨_, h2⟩ had hre
        · exfalso
          have e0 : (escs false 0 cs).length - j = 0 := by (first | lia | omega)
          rw [e0] at hres
          exact hres s₁ (fun _ _ _ e => e) (by rw [hS2]; exact hkB)
  · rename ¬ 34 ∈ cs => hmem
    have e : strip cs = cs := if_neg hmem
    rename Fm _ _ _ _ _ _ => G
    have hR' := hR ta
    rw [e] at hR'
    exact hR' _ _ _ (.inl rfl) G.toVw.keep
end
section
section
variable {prog : Program} {w : World} {A : Around} {E : Value → Shared → Prop} {s : Shared} {Q : Value → Shared → Prop} {h₀ : Heap} {env : Env} {m : Str → Option Value} {led : List (Addr × LV)} {a b : Addr} {xs ys : List Int}

theorem ext2 (h : Heap) (o o' : Obj) : Ext h ((h.push o).push o') := fun b x e => ext_push _ _ b x (ext_push _ _ b x e)

theorem addI_F (F : Fm w h₀ env m led s.heap) (ha : Holds s.heap a (.il xs)) (hb : Holds s.heap b (.il ys)) (hz : xs.length + ys.length ≤ 1000000)
    (h : ∀ D h' tk, Fm w h₀ env m ((D, .il (xs ++ ys)) :: led) h' → Q (.ref D) { s with heap := h', toks := tk }) : wpAny (model prog w) A (binaryOp .Add (.ref a) (.ref b)) Q E s := by
  obtain ⟨vs, ⟨n, p⟩, i⟩ := ha
  obtain ⟨ws, ⟨n', p'⟩, i'⟩ := hb
  have e : vs.toArray ++ ws.toArray = (vs ++ ws).toArray := by simp
  refine concat_meets ⟨_, p, rfl⟩ ⟨_, p', rfl⟩ noFill_list_add seq_list_add PySem.F.slot_list_add PySem.F.entry_list_add (PySem.F.args_list_add_2 _ _)
    (list_addW a b vs.toArray ws.toArray n n' none none #[] #[] (by rw [List.size_toArray, List.size_toArray, IntsAre.length i, IntsAre.length i', sizeLine_eq]; (first | lia | omega))) ⟨p, p', ?_⟩
  rw [e]
  exact h _ _ s.toks (F.push (ext_push _ _) (get_none_size _) ⟨vs ++ ws, ⟨_, Heap.get?_push_size _ rfl⟩, IntsAre.append i i'⟩)

theorem subTail_go {value slice : Expr} {o i : Value} {T id : String} {ops : List Value} (hT : s.TypeIs o T)
    (hl : typeLookup (.type T) "__getitem__" = pure (some (.builtin id))) (h : wpAny (model prog w) A (getItem o i) Q E s)
    (hs : subscripted slice false o i = operate ops (getItem o i)) : wpAny (model prog w) A (subscriptTail value slice o i) Q E s := by
  unfold subscriptTail
  refine wpAny_bind ?_
  rw [getitemInPython_of_ne hT.not_modules]
  refine wpAny_bind (wpAny_specialOf hT hl ?_)
  have fin : wpAny (model prog w) A (subscripted slice false o i) (fun r s₃ => wpAny (model prog w) A (letTemporaryGo value o r >>= fun _ => pure r) Q E s₃) E s := by
    rw [hs]
    exact wpAny_operating (wpAny_mono h (fun r s₃ h₃ => wpAny_bind (wpAny_letTemporaryGo (wpAny_pure h₃))) fun _ _ x => x)
  exact wpAny_pure (wpAny_bind fin)

theorem sliceI_F {value slice : Expr} {vl vu : Value} {lo hi : Option Int} {zs : List Int} (F : Fm w h₀ env m led s.heap) (ha : Holds s.heap a (.il xs)) (pl : IsPart vl lo) (pu : IsPart vu hi)
    (hp : ∀ vs : List Value, IntsAre vs xs → ∃ us : List Value, slicePick vs.toArray lo hi none = us.toArray ∧ IntsAre us zs) (hz : xs.length ≤ 1000000)
    (h : ∀ D h' tk, Fm w h₀ env m ((D, .il zs) :: led) h' → Q (.ref D) { s with heap := h', toks := tk })
    (hs : subscripted slice false (.ref a) (.ref s.heap.objs.size) = operate [.ref s.heap.objs.size, .ref a] (getItem (.ref a) (.ref s.heap.objs.size))) :
    wpAny (model prog w) A (subscriptTail value slice (.ref a) (.ref s.heap.objs.size)) Q E { s with heap := s.heap.push { cls := .type "slice", data := .fields #[vl, vu, .none] } } := by
  obtain ⟨vs, hv, i⟩ := ha
  obtain ⟨us, hu, iu⟩ := hp vs i
  refine subTail_go (Heap.IsList.typeIs (s := { s with heap := s.heap.push { cls := .type "slice", data := .fields #[vl, vu, .none] } }) (hv.isList.push _)) list_getitem_lookup
    (wpAny_getItem_list_slice (hv.isList.push _) (Heap.IsSliceOf.new ..) pl pu .none (by simp) ?_ (by rw [List.size_toArray, IntsAre.length i, sizeLine_eq]; (first | lia | omega))) hs
  show Q (.ref (s.heap.push _).objs.size) _
  rw [Heap.size_push, hu]
  have hg : ((s.heap.push { cls := .type "slice", data := .fields #[vl, vu, .none] }).push { cls := .type "list", data := .seq us.toArray }).get? (s.heap.objs.size + 1) = some { cls := .type "list", data := .seq us.toArray } := by
    have := Heap.get?_push_size (s.heap.push { cls := .type "slice", data := .fields #[vl, vu, .none] }) (o := { cls := .type "list", data := .seq us.toArray }) rfl
    rw [Heap.size_push] at this
    exact this
  have hn : s.heap.get? (s.heap.objs.size + 1) = none := get_none_of_ge (Nat.le_succ _)
  have F' := F.push (ext2 s.heap { cls := .type "slice", data := .fields #[vl, vu, .none] } { cls := .type "list", data := .seq us.toArray }) hn (v := .il zs) ⟨us, ⟨_, hg⟩, iu⟩
  exact h _ _ s.toks F'

theorem pick_upto (k : Nat) : ∀ vs : List Value, IntsAre vs xs → ∃ us : List Value, slicePick vs.toArray none (some (k : Int)) none = us.toArray ∧ IntsAre us (xs.take k) := fun vs i => ⟨vs.take k, slicePick_upto' _ _, IntsAre.take i k⟩
theorem pick_from (k : Nat) : ∀ vs : List Value, IntsAre vs xs → ∃ us : List Value, slicePick vs.toArray (some (k : Int)) none none = us.toArray ∧ IntsAre us (xs.drop k) := fun vs i => ⟨vs.drop k, slicePick_from' _ _, IntsAre.drop i k⟩
theorem pick_run' (k l : Nat) (hkl : k ≤ l) (hl : l ≤ xs.length) : ∀ vs : List Value, IntsAre vs xs → ∃ us : List Value, slicePick vs.toArray (some (k : Int)) (some (l : Int)) none = us.toArray ∧ IntsAre us ((xs.drop k).take (l - k)) := fun vs i =>
  ⟨(vs.drop k).take (l - k), slicePick_run _ _ _ (by rw [List.size_toArray, IntsAre.length i]; exact hl) hkl, IntsAre.take (IntsAre.drop i k) _⟩

theorem copyI_F (F : Fm w h₀ env m led s.heap) (ha : Holds s.heap a (.il xs)) (hz : xs.length ≤ 1000000) (h : ∀ D h' tk, Fm w h₀ env m ((D, .il xs) :: led) h' → Q (.ref D) { s with heap := h', toks := tk }) :
    wpAny (model prog w) A (call (.type "list") [.ref a]) Q E s := by
  obtain ⟨vs, ⟨n, p⟩, i⟩ := ha
  exact call_list_seq (hsz := by rw [List.size_toArray, IntsAre.length i, sizeLine_eq]; (first | lia | omega)) a (.inl rfl) p rfl rfl fun h' c' hk hD => h _ h' s.toks (F.push hk (get_none_size _) ⟨vs, ⟨_, hD⟩, i⟩)

theorem mulV_F {vs : List Value} {z : Int} {n : Nat} {u : Tok} (hz : z = n) (F : Fm w h₀ env m led s.heap) (ha : s.heap.PlainList a vs.toArray) (hn : vs.length * n ≤ 1000000) (hne : vs ≠ [])
    (h : ∀ D h' tk, (∀ v, (∀ h a, h.PlainList a (List.replicate n vs).flatten.toArray → Holds h a v) → Fm w h₀ env m ((D, v) :: led) h') → Q (.ref D) { s with heap := h', toks := tk }) : wpAny (model prog w) A (binaryOp .Mult (.ref a) (.int z u)) Q E s := by
  obtain ⟨k, p⟩ := ha
  have he : vs.toArray.isEmpty = false := by simpa using hne
  have hz0 : z.toNat = n := by rw [hz, Int.toNat_natCast]
  have hnn : n ≤ 1000000 := Nat.le_trans (Nat.le_mul_of_pos_left _ (List.length_pos_iff.mpr hne)) hn
  have e : List.foldl (fun x1 x2 => x1 ++ x2) #[] (List.replicate (if vs.toArray.isEmpty = true then 0 else z.toNat) vs.toArray) = (List.replicate n vs).flatten.toArray := by
    rw [he, if_neg Bool.false_ne_true, hz0, listMul_foldl]; simp
  have h1 : ¬(!Builtin.List.listFitsIndex z) = true := by simp [Builtin.List.listFitsIndex]; (first | lia | omega)
  have h2 : ¬vs.toArray.size * z.toNat > (2 ^ 63 - 1) / 8 := by rw [List.size_toArray, hz0]; (first | lia | omega)
  have h3 : ¬Builtin.List.listTooLong (vs.toArray.size * z.toNat) = true := by rw [List.size_toArray, hz0]; simp [Builtin.List.listTooLong, sizeLine]; (first | lia | omega)
  clear hz
  refine wpAny_binaryOp_repeat_ref (T := "list") (U := "int") (by decide) ⟨_, p, rfl⟩ (fun s' => typeIs_int s' _ u) noFill_list_mul PySem.F.fills_int_mul PySem.F.slot_int_rmul repeat_list PySem.F.slot_int_index.lookup
    (call_meets PySem.F.slot_int_rmul (typeIs_int s _ u) PySem.F.entry_int_rmul (PySem.F.args_int_rmul_2 _ _) (int___rmul___int_list z u a vs.toArray k)
      ⟨p, rfl, ⟨_, p, rfl⟩, call_meets PySem.F.slot_list_mul ⟨_, p, rfl⟩ PySem.F.entry_list_mul (PySem.F.args_list_mul_2 _ _)
        (PySem.AutoListH.list___mul___list_int_3 a vs.toArray k z u h1 h2 h3) ⟨p, ?_⟩⟩)
  rw [e]
  exact h _ _ s.toks fun v hv => F.push (ext_push _ _) (get_none_size _) (hv _ _ ⟨_, Heap.get?_push_size _ rfl⟩)
end
end
section
open PyProof.V PySem.Spec PySem.SeqAt
theorem ca_strs : ∀ {vs : List Value} {xs : List Str}, StrsAre vs xs → CarriedAll vs (xs.map PyData.str)
  | _, _, .nil => .nil
  | _, _, .cons _ t r => .cons (.str _ t) (ca_strs r)
theorem ca_bools : ∀ bs : List Bool, CarriedAll (bs.map Value.bool) (bs.map PyData.bool)
  | [] => .nil
  | b :: r => .cons (.bool b) (ca_bools r)

/-- data that any equal data meets -/
structure PlainD (d : PyData) : Prop where
  sh : shaped d = true
  mix : noMix d d = true

theorem pd_list {S : Shape} {ds : List PyData} (hS : plainShape (.list S) = true) (h : ∀ d ∈ ds, S.has d = true) (hl : ∀ d ∈ ds, PyData.canLay0 d = true ∧ d.depth ≤ 1) : PlainD (.list ds) := by
  have hh : (Shape.list S).has (.list ds) = true := list_has h
  refine ⟨?_, noMix_of_shape (.list S) hS _ _ hh hh⟩
  have c : ∀ ds : List PyData, (∀ d ∈ ds, PyData.canLay0 d = true ∧ d.depth ≤ 1) → PyData.canLayAll0 ds = true ∧ PyData.depthAll ds ≤ 1
    := by
    intro ds
    induction ds with
    | nil => intro _; exact ⟨rfl, Nat.zero_le _⟩
    | cons d r ih =>
      intro h
      obtain ⟨h1, h2⟩ := h d (.head _)
      obtain ⟨h3, h4⟩ := ih fun x hx => h x (.tail _ hx)
      constructor
      · simp [PyData.canLayAll0, h1, h3]
      · simp only [PyData.depthAll]; (first | lia | omega)
  obtain ⟨c1, c2⟩ := c ds hl
  have : (PyData.list ds).depth ≤ 64 := by simp only [PyData.depth]; (first | lia | omega)
  simp [shaped, PyData.canLay0, c1, this]

theorem pd_strs (xs : List Str) (hx : ∀ x ∈ xs, PyData.canLay0 (.str x) = true) : PlainD (.list (xs.map PyData.str)) := pd_list (S := .str) rfl (fun d hd => by obtain ⟨x, _, rfl⟩ := List.mem_map.mp hd; rfl) fun d hd => by
  obtain ⟨x, h, rfl⟩ := List.mem_map.mp hd; exact ⟨hx x h, by simp [PyData.depth]⟩
theorem pd_ints (xs : List Int) : PlainD (.list (xs.map PyData.int)) := pd_list (S := .int) rfl (fun d hd => by obtain ⟨x, _, rfl⟩ := List.mem_map.mp hd; rfl) fun d hd => by
  obtain ⟨x, _, rfl⟩ := List.mem_map.mp hd; exact ⟨rfl, by simp [PyData.depth]⟩
theorem pd_bools (xs : List Bool) : PlainD (.list (xs.map PyData.bool)) := pd_list (S := .bool) rfl (fun d hd => by obtain ⟨x, _, rfl⟩ := List.mem_map.mp hd; rfl) fun d hd => by
  obtain ⟨x, _, rfl⟩ := List.mem_map.mp hd; exact ⟨rfl, by simp [PyData.depth]⟩
theorem pd_lists (xs : List (List Int)) : PlainD (.list (xs.map fun l => PyData.list (l.map PyData.int))) := pd_list (S := .list .int) rfl
  (fun d hd => by obtain ⟨x, _, rfl⟩ := List.mem_map.mp hd; exact list_map_has fun _ => rfl) fun d hd => by
  obtain ⟨x, _, rfl⟩ := List.mem_map.mp hd
  have h := ke_shaped_ints x
  refine ⟨canLay_of_shaped h, ?_⟩
  simp [PyData.depth, ke_depthAll]

section
variable {prog : Program} {w : World} {A : Around} {E : Value → Shared → Prop} {s : Shared} {Q : Value → Shared → Prop} {a b : Value} {d : PyData} {as bs : List Addr}
theorem ne_same (ra : Reads s.heap a d as) (rb : Reads s.heap b d bs) (hd : PlainD d) (hu : A.units + 64 < cLine) (h : Q (.bool false) s) : wpAny (model prog w) A (compareOp .NotEq a b) Q E s :=
  ne_dataH_same ra rb hd.sh hd.sh hu hd.mix (by rw [Spec.same_self]; exact h)
theorem rd_ints {l : Addr} {xs : List Int} (h : Holds s.heap l (.il xs)) : Reads s.heap (.ref l) (.list (xs.map PyData.int)) [l] := let ⟨vs, p, i⟩ := h; reads_newData p.isList (ke_carried i)
theorem rd_strs {l : Addr} {xs : List Str} (h : Holds s.heap l (.sl xs)) : Reads s.heap (.ref l) (.list (xs.map PyData.str)) [l] := let ⟨vs, p, i⟩ := h; reads_newData p.isList (ca_strs i)
theorem rd_bools {l : Addr} {xs : List Bool} (h : Holds s.heap l (.vl (xs.map Value.bool))) : Reads s.heap (.ref l) (.list (xs.map PyData.bool)) [l] :=
  reads_newData (Heap.PlainList.isList h) (ca_bools xs)
end
end
section
noncomputable def lawFdS (P : Params) : { fd : FuncData // ∃ o, (HP P).lookup 120 = some o ∧ o.data = .func fd } := ⟨_, _, rfl, rfl⟩
noncomputable def lawFd (P : Params) : FuncData := (lawFdS P).1
noncomputable def lawBody (P : Params) : List Stmt := match (lawFd P).body with | .stmts b => b | _ => []
noncomputable def lawEnv (P : Params) (L : Addr) : Env := callEnvC (lawFd P) L 120
theorem law_len (P : Params) : (lawBody P).length = 37 := rfl

/-- one of the ledger's lists, read otherwise -/
theorem Fm.recast {w : World} {h₀ h : Heap} {env : Env} {m : Str → Option Value} {led led' : List (Addr × LV)} {a : Addr} {v' : LV} (F : Fm w h₀ env m led h) (U : LUpd a v' led led') (hv : Holds h a v') : Fm w h₀ env m led' h :=
  F.set U (fun _ _ _ e => e) hv
theorem Fm.first {w : World} {h₀ h : Heap} {env : Env} {m : Str → Option Value} {led : List (Addr × LV)} (F : Fm w h₀ env m led h) (n : Nat) : Fm w h₀ env m (led.take n) h := F.drop (List.take_sublist n led)
theorem il_nil {h : Heap} {a : Addr} (x : Holds h a (.vl [])) : Holds h a (.il []) := ⟨[], x, .nil⟩
theorem sl_nil {h : Heap} {a : Addr} (x : Holds h a (.vl [])) : Holds h a (.sl []) := ⟨[], x, .nil⟩
section
variable {prog : Program} {w : World} {A : Around} {E : Value → Shared → Prop} {s : Shared} {Q : Value → Shared → Prop} {h₀ : Heap} {env : Env} {m : Str → Option Value} {led : List (Addr × LV)} {a : Addr} {xs : List Int} {value slice : Expr}
theorem sl_upto {z : Int} {k : Nat} {t : Tok} (hk : z = k) (F : Fm w h₀ env m led s.heap) (ha : Holds s.heap a (.il xs)) (hz : xs.length ≤ 1000000)
    (h : ∀ D h' tk, Fm w h₀ env m ((D, .il (xs.take k)) :: led) h' → Q (.ref D) { s with heap := h', toks := tk })
    (hs : subscripted slice false (.ref a) (.ref s.heap.objs.size) = operate [.ref s.heap.objs.size, .ref a] (getItem (.ref a) (.ref s.heap.objs.size))) :
    wpAny (model prog w) A (subscriptTail value slice (.ref a) (.ref s.heap.objs.size)) Q E { s with heap := s.heap.push { cls := .type "slice", data := .fields #[.none, .int z t, .none] } } := by
  subst hk; exact sliceI_F F ha .none (.int _ _) (pick_upto k) hz h hs
theorem sl_from {z : Int} {k : Nat} {t : Tok} (hk : z = k) (F : Fm w h₀ env m led s.heap) (ha : Holds s.heap a (.il xs)) (hz : xs.length ≤ 1000000)
    (h : ∀ D h' tk, Fm w h₀ env m ((D, .il (xs.drop k)) :: led) h' → Q (.ref D) { s with heap := h', toks := tk })
    (hs : subscripted slice false (.ref a) (.ref s.heap.objs.size) = operate [.ref s.heap.objs.size, .ref a] (getItem (.ref a) (.ref s.heap.objs.size))) :
    wpAny (model prog w) A (subscriptTail value slice (.ref a) (.ref s.heap.objs.size)) Q E { s with heap := s.heap.push { cls := .type "slice", data := .fields #[.int z t, .none, .none] } } := by
  subst hk; exact sliceI_F F ha (.int _ _) .none (pick_from k) hz h hs
theorem sl_run {z y : Int} {k l : Nat} {t u : Tok} (hk : z = k) (hl : y = l) (hkl : k ≤ l) (hll : l ≤ xs.length) (F : Fm w h₀ env m led s.heap) (ha : Holds s.heap a (.il xs)) (hz : xs.length ≤ 1000000)
    (h : ∀ D h' tk, Fm w h₀ env m ((D, .il ((xs.drop k).take (l - k))) :: led) h' → Q (.ref D) { s with heap := h', toks := tk })
    (hs : subscripted slice false (.ref a) (.ref s.heap.objs.size) = operate [.ref s.heap.objs.size, .ref a] (getItem (.ref a) (.ref s.heap.objs.size))) :
    wpAny (model prog w) A (subscriptTail value slice (.ref a) (.ref s.heap.objs.size)) Q E { s with heap := s.heap.push { cls := .type "slice", data := .fields #[.int z t, .int y u, .none] } } := by
  subst hk hl; exact sliceI_F F ha (.int _ _) (.int _ _) (pick_run' k l hkl hll) hz h hs
def intD : Value → Int
  | .int k _ => k
  | _ => 0
def strD : Value → Str
  | .str x _ => x
  | _ => T []
def isI : Value → Bool
  | .int _ _ => true
  | _ => false
def isS : Value → Bool
  | .str _ _ => true
  | _ => false
theorem ints_lit : ∀ vs : List Value, vs.all isI = true → IntsAre vs (vs.map intD)
  | [], _ => .nil
  | .int k t :: r, h => .cons k t (ints_lit r (by simpa [isI] using h))
  | .none :: _, h | .bool _ :: _, h | .str _ _ :: _, h | .ref _ :: _, h => by simp [isI] at h
  | .float _ _ :: _, h | .bytes _ _ :: _, h | .type _ :: _, h | .builtin _ :: _, h => by simp [isI] at h
theorem strs_lit : ∀ vs : List Value, vs.all isS = true → StrsAre vs (vs.map strD)
  | [], _ => .nil
  | .str k t :: r, h => .cons k t (strs_lit r (by simpa [isS] using h))
  | .none :: _, h | .bool _ :: _, h | .int _ _ :: _, h | .ref _ :: _, h => by simp [isS] at h
  | .float _ _ :: _, h | .bytes _ _ :: _, h | .type _ :: _, h | .builtin _ :: _, h => by simp [isS] at h
theorem listI_F {vs : List Value} (F : Fm w h₀ env m led s.heap) (hi : vs.all isI = true) (hz : vs.length ≤ 1000000)
    (h : ∀ D h' tk, Fm w h₀ env m ((D, .il (vs.map intD)) :: led) h' → Q (.ref D) { s with heap := h', toks := tk }) : wpAny (model prog w) A (newList vs) Q E s :=
  listNew_F (v := .il (vs.map intD)) F (fun _ _ q => ⟨_, q, ints_lit vs hi⟩) hz fun D h' F' => h D h' s.toks F'
theorem listS_F {vs : List Value} (F : Fm w h₀ env m led s.heap) (hi : vs.all isS = true) (hz : vs.length ≤ 1000000)
    (h : ∀ D h' tk, Fm w h₀ env m ((D, .sl (vs.map strD)) :: led) h' → Q (.ref D) { s with heap := h', toks := tk }) : wpAny (model prog w) A (newList vs) Q E s :=
  listNew_F (v := .sl (vs.map strD)) F (fun _ _ q => ⟨_, q, strs_lit vs hi⟩) hz fun D h' F' => h D h' s.toks F'
theorem listV_F {vs : List Value} (F : Fm w h₀ env m led s.heap) (hz : vs.length ≤ 1000000)
    (h : ∀ D h' tk, Fm w h₀ env m ((D, .vl vs) :: led) h' → Q (.ref D) { s with heap := h', toks := tk }) : wpAny (model prog w) A (newList vs) Q E s :=
  listNew_F (v := .vl vs) F (fun _ _ q => q) hz fun D h' F' => h D h' s.toks F'
end
theorem mod_pos {prog : Program} {w : World} {A : Around} {E : Value → Shared → Prop} {s : Shared} {Q : Value → Shared → Prop} {a b : Int} {t u : Tok} (hb : 0 < b) (h : ∀ t' tk, Q (.int (a % b) t') { s with toks := tk }) : wpAny (model prog w) A (binaryOp .Mod (.int a t) (.int b u)) Q E s :=
  PyProof.Rows.mod_int (by (first | lia | omega)) (by rw [Int.fmod_eq_emod_of_nonneg _ (by (first | lia | omega))]; exact h _ _)

/-- the lists' own insertions -/
def insR (x : Int) : List Int → List Int
  | [] => [x]
  | y :: r => if x < y then x :: y :: r else y :: insR x r
def insL (x : Int) : List Int → List Int
  | [] => [x]
  | y :: r => if x ≤ y then x :: y :: r else y :: insL x r
theorem insR_eq (x : Int) : ∀ (xs : List Int) (k : Nat), k ≤ xs.length → (∀ i, i < k → xs.getD i 0 ≤ x) → (∀ i, k ≤ i → i < xs.length → x < xs.getD i 0) → xs.take k ++ x :: xs.drop k = insR x xs
  | [], k, hk, _, _ => by
    have : k = 0 := by simpa using hk
    subst this; rfl
  | y :: r, 0, _, _, h2 => by
    have : x < y := h2 0 (Nat.le_refl _) (by simp)
    show x :: y :: r = if x < y then x :: y :: r else y :: insR x r
    rw [if_pos this]
  | y :: r, k + 1, hk, h1, h2 => by
    have : y ≤ x := h1 0 (Nat.succ_pos _)
    show y :: (r.take k ++ x :: r.drop k) = if x < y then x :: y :: r else y :: insR x r
    rw [if_neg (by (first | lia | omega)), insR_eq x r k (by simpa using hk) (fun i hi => by simpa using h1 (i + 1) (by (first | lia | omega))) (fun i hi hl => by simpa using h2 (i + 1) (by (first | lia | omega)) (by simpa using hl))]
theorem insL_eq (x : Int) : ∀ (xs : List Int) (k : Nat), k ≤ xs.length → (∀ i, i < k → xs.getD i 0 < x) → (∀ i, k ≤ i → i < xs.length → x ≤ xs.getD i 0) → xs.take k ++ x :: xs.drop k = insL x xs
  | [], k, hk, _, _ => by
    have : k = 0 := by simpa using hk
    subst this; rfl
  | y :: r, 0, _, _, h2 => by
    have : x ≤ y := h2 0 (Nat.le_refl _) (by simp)
    show x :: y :: r = if x ≤ y then x :: y :: r else y :: insL x r
    rw [if_pos this]
  | y :: r, k + 1, hk, h1, h2 => by
    have : y < x := h1 0 (Nat.succ_pos _)
    show y :: (r.take k ++ x :: r.drop k) = if x ≤ y then x :: y :: r else y :: insL x r
    rw [if_neg (by (first | lia | omega)), insL_eq x r k (by simpa using hk) (fun i hi => by simpa using h1 (i + 1) (by (first | lia | omega))) (fun i hi hl => by simpa using h2 (i + 1) (by (first | lia | omega)) (by simpa using hl))]
theorem insR_mem {x y : Int} : ∀ {xs : List Int}, y ∈ insR x xs ↔ y = x ∨ y ∈ xs
  | [] => by simp [insR]
  | z :: r => by
    unfold insR
    split
    · simp
    · simp only [List.mem_cons, insR_mem (xs := r)]; exact or_left_comm
theorem insL_mem {x y : Int} : ∀ {xs : List Int}, y ∈ insL x xs ↔ y = x ∨ y ∈ xs
  | [] => by simp [insL]
  | z :: r => by
    unfold insL
    split
    · simp
    · simp only [List.mem_cons, insL_mem (xs := r)]; exact or_left_comm
theorem insR_len (x : Int) : ∀ xs : List Int, (insR x xs).length = xs.length + 1
  | [] => rfl
  | y :: r => by unfold insR; split <;> simp [insR_len x r]
theorem insL_len (x : Int) : ∀ xs : List Int, (insL x xs).length = xs.length + 1
  | [] => rfl
  | y :: r => by unfold insL; split <;> simp [insL_len x r]
theorem insR_sorted {x : Int} : ∀ {xs : List Int}, xs.Pairwise (· ≤ ·) → (insR x xs).Pairwise (· ≤ ·)
  | [], _ => List.pairwise_singleton ..
  | y :: r, h => by
    obtain ⟨h1, h2⟩ := List.pairwise_cons.mp h
    unfold insR
    split
    · rename_i hx
      refine List.pairwise_cons.mpr ⟨fun z hz => ?_, h⟩
      rcases List.mem_cons.mp hz with rfl | hz
      · (first | lia | omega)
      · have := h1 z hz; (first | lia | omega)
    · rename_i hx
      refine List.pairwise_cons.mpr ⟨fun z hz => ?_, insR_sorted h2⟩
      rcases insR_mem.mp hz with rfl | hz
      · (first | lia | omega)
      · exact h1 z hz
theorem insL_sorted {x : Int} : ∀ {xs : List Int}, xs.Pairwise (· ≤ ·) → (insL x xs).Pairwise (· ≤ ·)
  | [], _ => List.pairwise_singleton ..
  | y :: r, h => by
    obtain ⟨h1, h2⟩ := List.pairwise_cons.mp h
    unfold insL
    split
    · rename_i hx
      refine List.pairwise_cons.mpr ⟨fun z hz => ?_, h⟩
      rcases List.mem_cons.mp hz with rfl | hz
      · (first | lia | omega)
      · have := h1 z hz; (first | lia | omega)
    · rename_i hx
      refine List.pairwise_cons.mpr ⟨fun z hz => ?_, insL_sorted h2⟩
      rcases insL_mem.mp hz with rfl | hz
      · (first | lia | omega)
      · exact h1 z hz

/-- what the script's draw says -/
def drawnOf (sc : List Int) : List Int := sc.take 8 ++ [29, 24, 5, 51, 10, 15, 33, 38].drop sc.length
theorem drawn_len (sc : List Int) : (drawnOf sc).length = 8 := by
  unfold drawnOf
  rw [List.length_append, List.length_take, List.length_drop]
  simp only [List.length_cons, List.length_nil]; (first | lia | omega)
def ptAt (dr : List Int) (k : Nat) : Int := dr.getD k 0 / 2 % 32 * 8 + k
def isM (dr : List Int) (k : Nat) : Bool := decide (k < 7) && decide (dr.getD k 0 % 2 = 1)
/-- the marked, the plain, from the first k draws -/
def mpOf (dr : List Int) : Nat → List Int × List Int
  | 0 => ([], [])
  | k + 1 => if isM dr k then (insR (ptAt dr k) (mpOf dr k).1, (mpOf dr k).2) else ((mpOf dr k).1, insL (ptAt dr k) (mpOf dr k).2)
theorem mp_sorted (dr : List Int) : ∀ k, (mpOf dr k).1.Pairwise (· ≤ ·) ∧ (mpOf dr k).2.Pairwise (· ≤ ·)
  | 0 => ⟨.nil, .nil⟩
  | k + 1 => by
    obtain ⟨h1, h2⟩ := mp_sorted dr k
    unfold mpOf
    split
    · exact ⟨insR_sorted h1, h2⟩
    · exact ⟨h1, insL_sorted h2⟩
theorem mp_len (dr : List Int) : ∀ k, (mpOf dr k).1.length + (mpOf dr k).2.length = k
  | 0 => rfl
  | k + 1 => by
    have := mp_len dr k
    unfold mpOf
    split
    · simp only [insR_len]; (first | lia | omega)
    · simp only [insL_len]; (first | lia | omega)
theorem const_I {M : Model} {A : Around} {E : Value → Shared → Prop} {s : Shared} {env : Env} {Q : Value → Shared → Prop} {i : Int} {k : Nat} {pos : Pos} (h : ∀ t tk, Q (.int i t) { s with toks := tk }) :
    wpAny M A (eval (.Constant (.int i) k pos) env) Q E s := wpAny_Constant_int (h _ _)
theorem const_T' {M : Model} {A : Around} {E : Value → Shared → Prop} {s : Shared} {env : Env} {Q : Value → Shared → Prop} {lit : String} {cs : List Nat} {k : Nat} {pos : Pos} (e : Str.ofString lit = T cs) (h : ∀ t tk, Q (.str (T cs) t) { s with toks := tk }) :
    wpAny M A (eval (.Constant (.str (Str.ofString lit)) k pos) env) Q E s := const_T e (h _ _)
end
section
theorem take_lt {α : Type} {P : α → Bool} : ∀ (xs : List α) (k : Nat) (d : α), k ≤ xs.length → (∀ i, i < k → P (xs.getD i d) = true) → (∀ i, k ≤ i → i < xs.length → P (xs.getD i d) = false) → k = xs.countP P
  | [], k, d, hk, _, _ => by simpa using hk
  | y :: r, 0, d, _, _, h2 => by
    have e : (y :: r).countP P = 0 := List.countP_eq_zero.mpr fun a ha => by
      obtain ⟨i, hi, rfl⟩ := List.getElem_of_mem ha
      have := h2 i (Nat.zero_le _) hi
      rw [List.getD_eq_getElem?_getD, List.getElem?_eq_getElem hi] at this
      simp at this
      simp [this]
    (first | lia | omega)
  | y :: r, k + 1, d, hk, h1, h2 => by
    have hy : P y = true := by simpa using h1 0 (Nat.succ_pos _)
    have := take_lt r k d (by simpa using hk) (fun i hi => by simpa using h1 (i + 1) (by (first | lia | omega))) (fun i hi hl => by simpa using h2 (i + 1) (by (first | lia | omega)) (by simpa using hl))
    rw [List.countP_cons_of_pos hy, this]
/-- law's statements, by number -/
noncomputable def st (P : Params) (k : Nat) : Stmt := (lawBody P).getD k (.Pass ⟨0, 0, 0, 0⟩)
theorem mp_m {dr : List Int} {k : Nat} (h : k < 7) (ho : dr.getD k 0 % 2 = 1) : mpOf dr (k + 1) = (insR (ptAt dr k) (mpOf dr k).1, (mpOf dr k).2) := by
  show (if isM dr k then _ else _) = _
  rw [if_pos (by unfold isM; rw [decide_eq_true h, decide_eq_true ho]; rfl)]
theorem mp_p {dr : List Int} {k : Nat} (h : k < 7 → ¬ dr.getD k 0 % 2 = 1) : mpOf dr (k + 1) = ((mpOf dr k).1, insL (ptAt dr k) (mpOf dr k).2) := by
  show (if isM dr k then _ else _) = _
  rw [if_neg]
  unfold isM
  rw [Bool.and_eq_true, decide_eq_true_eq, decide_eq_true_eq]
  exact fun x => h x.1 x.2
/-- what bisect_left, bisect_right tell -/
def blN (x : Int) (xs : List Int) : Nat := xs.countP fun y => decide (y < x)
def brN (x : Int) (xs : List Int) : Nat := xs.countP fun y => decide (y ≤ x)

section
variable {prog : Program} {w : World} {A : Around} {E : Value → Shared → Prop} {s : Shared} {Q : Value → Shared → Prop} {h₀ : Heap} {env : Env} {m : Str → Option Value} {led led' : List (Addr × LV)} {l : Addr} {xs : List Int} {a b x : Int} {t u : Tok}
theorem add_I (h : ∀ v tk, Q (.int (a + b) v) { s with toks := tk }) : wpAny (model prog w) A (binaryOp .Add (.int a t) (.int b u)) Q E s := P.add_int (h _ _)
theorem sub_I (h : ∀ v tk, Q (.int (a - b) v) { s with toks := tk }) : wpAny (model prog w) A (binaryOp .Sub (.int a t) (.int b u)) Q E s := P.sub_int (h _ _)
theorem iadd_I (h : ∀ v tk, Q (.int (a + b) v) { s with toks := tk }) : wpAny (model prog w) A (inplaceOp .Add (.int a t) (.int b u)) Q E s := P.iadd_int (h _ _)
theorem mul_I (hm : IntMulOk a b) (h : ∀ v tk, Q (.int (a * b) v) { s with toks := tk }) : wpAny (model prog w) A (binaryOp .Mult (.int a t) (.int b u)) Q E s := P.mul_int (h _ _) hm
theorem imul_I (hm : IntMulOk a b) (h : ∀ v tk, Q (.int (a * b) v) { s with toks := tk }) : wpAny (model prog w) A (inplaceOp .Mult (.int a t) (.int b u)) Q E s := P.imul_int (h _ _) hm

theorem ir_F (F : Fm w h₀ env m led s.heap) (hm : (l, .il xs) ∈ led) (U : LUpd l (.il (insR x xs)) led led') (hroom : A.depth + 2 < recursionLimit) (hz : xs.length ≤ 1000000) (hs : xs.Pairwise (· ≤ ·))
    (h : ∀ h' tk, Fm w h₀ env m led' h' → Q .none { s with heap := h', toks := tk }) : wpAny (model prog w) A (call (.ref 55) [.ref l, .int x t]) Q E s :=
  wpAny_call (ir_call F.bs (by (first | lia | omega)) (F.toVw.lst _ hm) hz hs fun k h' tk h1 h2 h3 h4 h5 => h h' tk (F.set U h4 (insR_eq x xs k h1 h2 h3 ▸ h5)))
theorem il_F (F : Fm w h₀ env m led s.heap) (hm : (l, .il xs) ∈ led) (U : LUpd l (.il (insL x xs)) led led') (hroom : A.depth + 2 < recursionLimit) (hz : xs.length ≤ 1000000) (hs : xs.Pairwise (· ≤ ·))
    (h : ∀ h' tk, Fm w h₀ env m led' h' → Q .none { s with heap := h', toks := tk }) : wpAny (model prog w) A (call (.ref 73) [.ref l, .int x t]) Q E s :=
  wpAny_call (il_call F.bs (by (first | lia | omega)) (F.toVw.lst _ hm) hz hs fun k h' tk h1 h2 h3 h4 h5 => h h' tk (F.set U h4 (insL_eq x xs k h1 h2 h3 ▸ h5)))
/-- bisect over whatever kind of frame: what is held by the heap stays held -/
theorem bl_X (b : Base w s.heap) (hl : Holds s.heap l (.il xs)) (hroom : A.depth + 2 < recursionLimit) (hz : xs.length ≤ 1000000) (hs : xs.Pairwise (· ≤ ·))
    (h : ∀ v h' tk, Ext s.heap h' → Q (.int (blN x xs) v) { s with heap := h', toks := tk }) : wpAny (model prog w) A (call (.ref 82) [.ref l, .int x t]) Q E s :=
  wpAny_call (bl_call bl_bind2 b (by (first | lia | omega)) hl (by (first | lia | omega)) hs fun k t' h' tk h1 h2 h3 h4 => by
    have e : k = blN x xs := take_lt xs k 0 h1 (fun i hi => decide_eq_true (h2 i hi)) fun i hi hl => decide_eq_false (Int.not_lt.mpr (h3 i hi hl))
    rw [e]; exact h _ _ _ h4)
theorem br_X (b : Base w s.heap) (hl : Holds s.heap l (.il xs)) (hroom : A.depth + 2 < recursionLimit) (hz : xs.length ≤ 1000000) (hs : xs.Pairwise (· ≤ ·))
    (h : ∀ v h' tk, Ext s.heap h' → Q (.int (brN x xs) v) { s with heap := h', toks := tk }) : wpAny (model prog w) A (call (.ref 64) [.ref l, .int x t]) Q E s :=
  wpAny_call (br_call br_bind2 b (by (first | lia | omega)) hl (by (first | lia | omega)) hs fun k t' h' tk h1 h2 h3 h4 => by
    have e : k = brN x xs := take_lt xs k 0 h1 (fun i hi => decide_eq_true (h2 i hi)) fun i hi hl => decide_eq_false (Int.not_le.mpr (h3 i hi hl))
    rw [e]; exact h _ _ _ h4)
theorem lp_X (b : Base w s.heap) (hh : A.handled = none) (hl : Holds s.heap l (.il xs)) (hroom : A.depth + 2 < recursionLimit) (hb : ∀ y ∈ xs, (y - x).natAbs < 2 ^ 62)
    (h : ∀ v h' tk, Ext s.heap h' → Q (.int (prodZ xs x) v) { s with heap := h', toks := tk }) : wpAny (model prog w) A (call (.ref 103) [.ref l, .int x t]) Q E s :=
  wpAny_call (lp_call b hh (by (first | lia | omega)) hl hb fun t' h' tk h4 => h _ _ _ h4)
theorem abs_I (h : ∀ v tk, Q (.int a.natAbs v) { s with toks := tk }) : wpAny (model prog w) A (call (.builtin "abs") [.int a t]) Q E s :=
  call_abs_int fun u tk => by
    have e : (if a < 0 then -a else a) = a.natAbs := by split <;> (first | lia | omega)
    rw [e]; exact h u tk
end
end
local macro_rules | `(tactic| walk_at "subscriptTail") => `(tactic| ((with_reducible show wpAny _ _ (subscriptTail _ _ (Value.ref _) (Value.ref _)) _ _ _); ((rename Fm _ _ _ _ _ _ => kF); refine' sl_upto ?hk kF ?ha ?hz ?_ ?hs; (case hk => k_dflt first | exact rfl | assumption); (case ha => k_dflt walk_at "m:hold"); (case hz => k_dflt walk_at "m:size"); (case hs => with_unfolding_all rfl); clear kF; intro D' h' tk' F')))
local macro_rules | `(tactic| walk_at "subscriptTail") => `(tactic| ((with_reducible show wpAny _ _ (subscriptTail _ _ (Value.ref _) (Value.ref _)) _ _ _); ((rename Fm _ _ _ _ _ _ => kF); refine' sl_from ?hk kF ?ha ?hz ?_ ?hs; (case hk => k_dflt first | exact rfl | assumption); (case ha => k_dflt walk_at "m:hold"); (case hz => k_dflt walk_at "m:size"); (case hs => with_unfolding_all rfl); clear kF; intro D' h' tk' F')))
local macro_rules | `(tactic| walk_at "binaryOp Add ref ref") => `(tactic| ((rename Fm _ _ _ _ _ _ => kF); refine' addI_F kF ?ha ?hb ?hz ?_; (case ha => k_dflt walk_at "m:hold"); (case hb => k_dflt walk_at "m:hold"); (case hz => k_dflt walk_at "m:size"); clear kF; intro D' h' tk' F'))
local macro_rules | `(tactic| walk_at "eval List") => `(tactic| refine List_ ?_)
local macro_rules | `(tactic| walk_at "newList") => `(tactic| ((rename Fm _ _ _ _ _ _ => kF); refine' listV_F kF ?hz ?_; (case hz => k_dflt exact Nat.le_of_ble_eq_true rfl); clear kF; intro D' h' tk' F'))
local macro_rules | `(tactic| walk_at "newList") => `(tactic| ((with_reducible show wpAny _ _ (newList (Value.str _ _ :: _)) _ _ _); (rename Fm _ _ _ _ _ _ => kF); refine' listS_F kF ?hi ?hz ?_; (case hi => k_dflt exact rfl); (case hz => k_dflt exact Nat.le_of_ble_eq_true rfl); clear kF; intro D' h' tk' F'))
local macro_rules | `(tactic| walk_at "newList") => `(tactic| ((with_reducible show wpAny _ _ (newList (Value.int _ _ :: _)) _ _ _); (rename Fm _ _ _ _ _ _ => kF); refine' listI_F kF ?hi ?hz ?_; (case hi => k_dflt exact rfl); (case hz => k_dflt exact Nat.le_of_ble_eq_true rfl); clear kF; intro D' h' tk' F'))
local macro_rules | `(tactic| walk_at "newList") => `(tactic| ((with_reducible show wpAny _ _ (newList []) _ _ _); (rename Fm _ _ _ _ _ _ => kF); refine' listV_F kF ?hz ?_; (case hz => k_dflt exact Nat.zero_le _); clear kF; intro D' h' tk' F'))
local macro_rules | `(tactic| walk_at "binaryOp Mod int int") => `(tactic| (refine' mod_pos ?h0 ?_; (case h0 => k_dflt first | decide | omega); intro t' tk'))
local macro_rules | `(tactic| walk_at "eval Constant int") => `(tactic| (refine' const_I ?_; intro t' tk'))
local macro_rules | `(tactic| walk_at "eval Constant str") => `(tactic| (refine' const_T' ?e ?_; (case e => first | exact k_q | exact k_e | exact k_257 | exact k_sq | exact k_qq | exact k_bs | exact k_bsbs | exact k_bsq | exact k_257sq | exact k_257s | exact k_257u | exact k_ah | exact k_157 | exact k_247 | exact k_252); intro t' tk'))
local macro_rules | `(tactic| walk_at "binaryOp Add int int") => `(tactic| (refine add_I ?_; intro t' tk'))
local macro_rules | `(tactic| walk_at "binaryOp Sub int int") => `(tactic| (refine sub_I ?_; intro t' tk'))
local macro_rules | `(tactic| walk_at "inplaceOp Add int int") => `(tactic| (refine iadd_I ?_; intro t' tk'))
local macro_rules | `(tactic| walk_at "m:mulok") => `(tactic| first | exact mulok_r (by assumption) | exact mulok_r (by omega) | exact mulok_b (by assumption) (by assumption))
local macro_rules | `(tactic| walk_at "binaryOp Mult int int") => `(tactic| (refine' mul_I ?hm ?_; (case hm => walk_at "m:mulok"); intro t' tk'))
local macro_rules | `(tactic| walk_at "inplaceOp Mult int int") => `(tactic| (refine' imul_I ?hm ?_; (case hm => walk_at "m:mulok"); intro t' tk'))
local macro_rules | `(tactic| walk_at "m:upd") => `(tactic| first | exact LUpd.head | exact LUpd.tail LUpd.head | exact LUpd.tail (LUpd.tail LUpd.head) | exact LUpd.tail (LUpd.tail (LUpd.tail LUpd.head)) | exact LUpd.tail (LUpd.tail (LUpd.tail (LUpd.tail LUpd.head))) | exact LUpd.tail (LUpd.tail (LUpd.tail (LUpd.tail (LUpd.tail LUpd.head)))) | exact LUpd.tail (LUpd.tail (LUpd.tail (LUpd.tail (LUpd.tail (LUpd.tail LUpd.head))))) | exact LUpd.tail (LUpd.tail (LUpd.tail (LUpd.tail (LUpd.tail (LUpd.tail (LUpd.tail LUpd.head)))))) | exact LUpd.tail (LUpd.tail (LUpd.tail (LUpd.tail (LUpd.tail (LUpd.tail (LUpd.tail (LUpd.tail LUpd.head))))))) | exact LUpd.tail (LUpd.tail (LUpd.tail (LUpd.tail (LUpd.tail (LUpd.tail (LUpd.tail (LUpd.tail (LUpd.tail LUpd.head)))))))) | exact LUpd.tail (LUpd.tail (LUpd.tail (LUpd.tail (LUpd.tail (LUpd.tail (LUpd.tail (LUpd.tail (LUpd.tail (LUpd.tail LUpd.head))))))))) | exact LUpd.tail (LUpd.tail (LUpd.tail (LUpd.tail (LUpd.tail (LUpd.tail (LUpd.tail (LUpd.tail (LUpd.tail (LUpd.tail (LUpd.tail LUpd.head)))))))))) | exact LUpd.tail (LUpd.tail (LUpd.tail (LUpd.tail (LUpd.tail (LUpd.tail (LUpd.tail (LUpd.tail (LUpd.tail (LUpd.tail (LUpd.tail (LUpd.tail LUpd.head))))))))))) | exact LUpd.tail (LUpd.tail (LUpd.tail (LUpd.tail (LUpd.tail (LUpd.tail (LUpd.tail (LUpd.tail (LUpd.tail (LUpd.tail (LUpd.tail (LUpd.tail (LUpd.tail LUpd.head)))))))))))) | exact LUpd.tail (LUpd.tail (LUpd.tail (LUpd.tail (LUpd.tail (LUpd.tail (LUpd.tail (LUpd.tail (LUpd.tail (LUpd.tail (LUpd.tail (LUpd.tail (LUpd.tail (LUpd.tail LUpd.head))))))))))))) | exact LUpd.tail (LUpd.tail (LUpd.tail (LUpd.tail (LUpd.tail (LUpd.tail (LUpd.tail (LUpd.tail (LUpd.tail (LUpd.tail (LUpd.tail (LUpd.tail (LUpd.tail (LUpd.tail (LUpd.tail LUpd.head)))))))))))))))
local macro_rules | `(tactic| walk_at "call ref") => `(tactic| ((with_reducible show wpAny _ _ (call (Value.ref 55) _) _ _ _); (rename Fm _ _ _ _ _ _ => kF); refine' ir_F kF ?hm ?up ?room ?hz ?hs ?_; (case hm => k_dflt walk_at "m:mem"); (case up => k_dflt walk_at "m:upd"); (case room => k_dflt walk_at "m:room"); (case hz => k_dflt walk_at "m:size"); (case hs => k_dflt assumption); clear kF; intro h' tk' F'))
local macro_rules | `(tactic| walk_at "call ref") => `(tactic| ((with_reducible show wpAny _ _ (call (Value.ref 73) _) _ _ _); (rename Fm _ _ _ _ _ _ => kF); refine' il_F kF ?hm ?up ?room ?hz ?hs ?_; (case hm => k_dflt walk_at "m:mem"); (case up => k_dflt walk_at "m:upd"); (case room => k_dflt walk_at "m:room"); (case hz => k_dflt walk_at "m:size"); (case hs => k_dflt assumption); clear kF; intro h' tk' F'))
local macro_rules | `(tactic| walk_at "call ref") => `(tactic| ((with_reducible show wpAny _ _ (call (Value.ref 82) _) _ _ _); refine' bl_X ?bs ?hl ?room ?hz ?hs ?_; (case bs => k_dflt exact Vw.bs (by walk_at "m:vw")); (case hl => k_dflt walk_at "m:hold"); (case room => k_dflt walk_at "m:room"); (case hz => k_dflt walk_at "m:size"); (case hs => k_dflt assumption); intro t' h' tk' kE; walk_at "m:ext"))
local macro_rules | `(tactic| walk_at "call ref") => `(tactic| ((with_reducible show wpAny _ _ (call (Value.ref 64) _) _ _ _); refine' br_X ?bs ?hl ?room ?hz ?hs ?_; (case bs => k_dflt exact Vw.bs (by walk_at "m:vw")); (case hl => k_dflt walk_at "m:hold"); (case room => k_dflt walk_at "m:room"); (case hz => k_dflt walk_at "m:size"); (case hs => k_dflt assumption); intro t' h' tk' kE; walk_at "m:ext"))
local macro_rules | `(tactic| walk_at "call ref") => `(tactic| ((with_reducible show wpAny _ _ (call (Value.ref 103) _) _ _ _); refine' lp_X ?bs (by assumption) ?hl ?room ?hz ?_; (case bs => k_dflt exact Vw.bs (by walk_at "m:vw")); (case hl => k_dflt walk_at "m:hold"); (case room => k_dflt walk_at "m:room"); (case hz => k_dflt assumption); intro t' h' tk' kE; walk_at "m:ext"))
local macro_rules | `(tactic| walk_at "call builtin:abs") => `(tactic| (refine abs_I ?_; intro t' tk'))
local macro_rules | `(tactic| walk_at "storeName") => `(tactic| ((rename Fm _ _ _ _ _ _ => kF); refine' Fm.store kF ?kd ?hk ?hc ?hf ?_; (case kd => walk_at "m:kd"); (case hk => k_dflt exact rfl); (case hc => walk_at "m:nocell"); (case hf => walk_at "m:nofree"); clear kF; intro h' tk' F'; try dsimp only))
local macro_rules | `(tactic| walk_at "m:one") => `(tactic| ((with_reducible show wpAny _ _ (eval (Expr.ListComp _ _ _ _) _) _ _ _); walk_at "eval ListComp"))
local macro_rules | `(tactic| walk_at "call type:list") => `(tactic| ((rename Fm _ _ _ _ _ _ => kF); refine' copyI_F kF ?ha ?hz ?_; (case ha => k_dflt walk_at "m:hold"); (case hz => k_dflt walk_at "m:size"); clear kF; intro D' h' tk' F'))
local macro_rules | `(tactic| walk_at "call builtin:list.append") => `(tactic| ((rename Fm _ _ _ _ _ _ => kF); (first | refine' appendS_F kF ?hm ?up ?hz ?_ | refine' appendI_F kF ?hm ?up ?hz ?_); (case hm => k_dflt walk_at "m:mem"); (case up => k_dflt walk_at "m:upd"); (case hz => k_dflt walk_at "m:size"); clear kF; intro h' tk' F'))
section
theorem calm_L1 : True := by
  w_top off
  trivial
theorem law_1 {prog : Program} {w : World} {A : Around} {E : Value → Shared → Prop} {Q : Flow → Shared → Prop} {s : Shared} {h₀ : Heap} {L l : Addr} {m : Str → Option Value} {sc : List Int}
    (F : Fm w h₀ (lawEnv w.params L) m [] s.heap) (hh : A.handled = none) (hroom : A.depth + 2 < recursionLimit) (hl : Holds h₀ l (.il sc)) (hn : sc.length ≤ 63) (hm : m "script" = some (.ref l))
    (K : ∀ h' tk m' ld lm lp, Fm w h₀ (lawEnv w.params L) m' [(lp, .il (mpOf (drawnOf sc) 8).2), (lm, .il (mpOf (drawnOf sc) 8).1), (ld, .il (drawnOf sc))] h' →
      m' "drawn" = some (.ref ld) → m' "marked" = some (.ref lm) → m' "plain" = some (.ref lp) → wpAny (model prog w) A (execs ((lawBody w.params).drop 4) (lawEnv w.params L)) Q E { s with heap := h', toks := tk }) :
    wpAny (model prog w) A (execs ((lawBody w.params).drop 0) (lawEnv w.params L)) Q E s := by
  rw [show (lawBody w.params).drop 0 = st w.params 0 :: st w.params 1 :: st w.params 2 :: st w.params 3 :: (lawBody w.params).drop 4 from rfl]
  generalize (lawBody w.params).drop 4 = rest at *
  show wpAny _ _ (execs (Stmt.Assign _ _ _ :: Stmt.Assign _ _ _ :: Stmt.Assign _ _ _ :: Stmt.For _ _ _ _ _ :: rest) _) _ _ _
  walk_at "m:go"
  rename Fm _ _ _ _ _ _ => G
  refine wpAny_For ?_
  walk_at "m:go"
  walk_at "m:iterR"
  rename Fm _ _ _ _ _ _ => G2
  have G3 : Fm w h₀ (lawEnv w.params L) _ [(_, .rt 0 8 1), (_, .il []), (_, .il []), (_, .il (drawnOf sc))] _ :=
    (((G2.recast (v' := .il []) (.tail .head) (il_nil (G2.toVw.lst (_, _) (.tail _ (.head _))))).recast (v' := .il []) (.tail (.tail .head)) (il_nil (G2.toVw.lst (_, _) (.tail _ (.tail _ (.head _)))))).first 4)
  clear G2
  refine' loop_range (n := 8) rfl hh G3 (fun i m led => ∃ ld lm lp, led = [(lp, .il (mpOf (drawnOf sc) i).2), (lm, .il (mpOf (drawnOf sc) i).1), (ld, .il (drawnOf sc))] ∧ m (Str.ofString "drawn") = some (.ref ld) ∧ m (Str.ofString "marked") = some (.ref lm) ∧ m (Str.ofString "plain") = some (.ref lp)) ?k ?x ?c ?h0 ?turn ?fin
  case k => exact rfl
  case x => exact rfl
  case c => exact rfl
  case h0 => exact ⟨_, _, _, rfl, rfl, rfl, rfl⟩
  case turn =>
    rintro i t m' led' h' tk hi ⟨ld, lm, lp, rfl, h1, h2, h3⟩ F'
    clear G3
    have hlen := drawn_len sc
    obtain ⟨so1, so2⟩ := mp_sorted (drawnOf sc) i
    have hml := mp_len (drawnOf sc) i
    have hi' : (i : Int) < (drawnOf sc).length := by rw [hlen]; omega
    generalize drawnOf sc = dr at *
    have e0 : (0 + (i : Int)).toNat = i := by omega
    have e1 : dr.getD (0 + (i : Int)).toNat 0 / 2 % 32 * 8 + (0 + (i : Int)) = ptAt dr i := by rw [e0, Int.zero_add]; rfl
    walk_at "m:go"
    · rename Fm _ _ _ _ _ _ => G
      refine ⟨_, _, _, _, rfl, ?_, G⟩
      refine ⟨_, _, _, ?_, h1, h2, h3⟩
      rw [mp_m (dr := dr) (k := i) (by omega) (by rw [← e0]; assumption), e1]
    · rename Fm _ _ _ _ _ _ => G
      refine ⟨_, _, _, _, rfl, ?_, G⟩
      refine ⟨_, _, _, ?_, h1, h2, h3⟩
      rw [mp_p (dr := dr) (k := i) (fun _ => by rw [← e0]; assumption), e1]
    · rename Fm _ _ _ _ _ _ => G
      refine ⟨_, _, _, _, rfl, ?_, G⟩
      refine ⟨_, _, _, ?_, h1, h2, h3⟩
      rw [mp_p (dr := dr) (k := i) (fun h => absurd h (by omega)), e1]
  case fin =>
    rintro m' led' h' tk ⟨ld, lm, lp, rfl, h1, h2, h3⟩ F'
    exact K _ _ _ _ _ _ F' h1 h2 h3
end
section
section
variable {prog : Program} {w : World} {A : Around} {E : Value → Shared → Prop} {s : Shared} {Q : Value → Shared → Prop} {h₀ : Heap} {env : Env} {m : Str → Option Value} {led led' : List (Addr × LV)} {l : Addr} {xs : List Int} {a b x : Int} {t u : Tok}
theorem item_intsN {value slice : Expr} {k : Int} (hl : Holds s.heap l (.il xs)) (h0 : k < 0) (h1 : 0 ≤ k + xs.length) (hz : xs.length ≤ 1000000) (h : ∀ t, Q (.int (xs.getD (k + xs.length).toNat 0) t) s)
    (hs : subscripted slice false (.ref l) (.int k u) = operate [.ref l, .int k u] (getItem (.ref l) (.int k u))) :
    wpAny (model prog w) A (subscriptTail value slice (.ref l) (.int k u)) Q E s := by
  obtain ⟨vs, p, i⟩ := hl.asInts
  exact item_list_ints_negR p i h0 (by (first | lia | omega)) (by (first | lia | omega)) h hs
/-- a list of values that turn out ints, texts -/
theorem il_of {h : Heap} {vs : List Value} {zs : List Int} (x : Holds h l (.vl vs)) (i : IntsAre vs zs) : Holds h l (.il zs) := ⟨vs, x, i⟩
theorem sl_of {h : Heap} {vs : List Value} {zs : List Str} (x : Holds h l (.vl vs)) (i : StrsAre vs zs) : Holds h l (.sl zs) := ⟨vs, x, i⟩
theorem Fm.headI {h : Heap} {vs : List Value} {zs : List Int} (F : Fm w h₀ env m ((l, .vl vs) :: led) h) (i : IntsAre vs zs) : Fm w h₀ env m ((l, .il zs) :: led) h :=
  F.recast .head (il_of (F.toVw.lst (_, _) (.head _)) i)
theorem Fm.headS {h : Heap} {vs : List Value} {zs : List Str} (F : Fm w h₀ env m ((l, .vl vs) :: led) h) (i : StrsAre vs zs) : Fm w h₀ env m ((l, .sl zs) :: led) h :=
  F.recast .head (sl_of (F.toVw.lst (_, _) (.head _)) i)
end
section
variable {prog : Program} {w : World} {A : Around} {E : Value → Shared → Prop} {s : Shared} {h₀ : Heap} {env : Env} {m : Str → Option Value} {led : List (Addr × LV)} {l r : Addr} {xs : List Int} {scope : Scope} {cl : List (Str × Addr)} {x : Str}
  {ifs : List Expr} {elt : Expr} {Q : Value → Shared → Prop}
/-- what an element must show -/
abbrev EltOk (prog : Program) (w : World) (A : Around) (h₀ : Heap) (env : Env) (m : Str → Option Value) (led : List (Addr × LV)) (scope : Scope) (cl : List (Str × Addr)) (x : Str) (elt : Expr) (xs : List Int) (G : Int → Value → Prop) : Prop :=
  ∀ C a t s₃ m₃ E', a ∈ xs → Vw w s₃.heap (compEnvC scope cl C env) (inM (compEnvC scope cl C env) m₃ m) led s₃.heap → inM (compEnvC scope cl C env) m₃ m x = some (.int a t) →
    wpAny (model prog w) A (eval elt (compEnvC scope cl C env)) (fun y s₄ => G a y ∧ Keeps s₃ s₄) E' s₃
theorem ok_of {K : Int → Value → Prop} {G : Int → Value → Prop} (el : EltOk prog w A h₀ env m led scope cl x elt xs G) : CompOk prog w A h₀ env m led scope cl x [] elt KI xs (fun _ => true) G :=
  ⟨fun C a v s₃ m₃ E' ha hK V kx hm => tests_nil ⟨rfl, Keeps.rfl' _⟩ _, fun C a v s₃ m₃ E' ha hp hK V kx hm => by obtain ⟨t, rfl⟩ := hK; exact el C a t s₃ m₃ E' ha V hm⟩
/-- [elt for x in a list of ints] -/
theorem compI_any {G : Int → Value → Prop} (F : Fm w h₀ env m led s.heap) (hl : (l, .il xs) ∈ led) (hn : xs.length ≤ 1000000) (hh : A.handled = none) (hx : ∀ C, (compEnvC scope cl C env).kindOf x = some .local) (hcl : ClOk env scope cl)
    (el : EltOk prog w A h₀ env m led scope cl x elt xs G)
    (fin : ∀ D h' tk ys, Fm w h₀ env m ((D, .vl ys) :: led) h' → Paired G xs ys → Q (.ref D) { s with heap := h', toks := tk }) :
    wpAny (model prog w) A (pyIter (.ref l)) (fun it s₂ => CompGoal prog w A env scope cl x [] elt it s₂ Q) E s := by
  obtain ⟨vs0, pv0, iv0⟩ := F.toVw.lst _ hl
  refine iterL_F F ⟨_, pv0.isList⟩ fun I h' tk G2 => ?_
  obtain ⟨vs, pv, iv⟩ := (G2.toVw.lst _ (.tail _ hl) : Holds h' l (.il xs))
  refine compL_F (pz := fun _ => true) (G := G) KI.inj pI_ok pv.isList (ints_paired iv) hn hh G2 hx hcl.ok (ok_of (K := KI) el) fun D h'' tk'' ys G3 hP => ?_
  rw [filter_true] at hP
  exact fin D h'' tk'' ys G3 hP
theorem compI_I {f : Int → Int} (F : Fm w h₀ env m led s.heap) (hl : (l, .il xs) ∈ led) (hn : xs.length ≤ 1000000) (hh : A.handled = none) (hx : ∀ C, (compEnvC scope cl C env).kindOf x = some .local) (hcl : ClOk env scope cl)
    (el : EltOk prog w A h₀ env m led scope cl x elt xs fun a => KI (f a))
    (fin : ∀ D h' tk, Fm w h₀ env m ((D, .il (xs.map f)) :: led) h' → Q (.ref D) { s with heap := h', toks := tk }) :
    wpAny (model prog w) A (pyIter (.ref l)) (fun it s₂ => CompGoal prog w A env scope cl x [] elt it s₂ Q) E s :=
  compI_any F hl hn hh hx hcl el fun D h' tk ys G3 hP => fin D h' tk (G3.headI (paired_ints' (fun _ _ _ h => h) hP))
/-- [elt for x in a range] -/
theorem compR_any {a b : Int} {n : Nat} {G : Int → Value → Prop} (F : Fm w h₀ env m ((r, .rg a b) :: led) s.heap) (hab : b = a + n) (ha : -1000 ≤ a) (ha2 : a ≤ 1000) (hn : n ≤ 1000000) (hh : A.handled = none) (hx : ∀ C, (compEnvC scope cl C env).kindOf x = some .local)
    (hcl : ClOk env scope cl) (el : EltOk prog w A h₀ env m led scope cl x elt (rng a n) G)
    (fin : ∀ D h' tk ys, Fm w h₀ env m ((D, .vl ys) :: led) h' → Paired G (rng a n) ys → Q (.ref D) { s with heap := h', toks := tk }) :
    wpAny (model prog w) A (pyIter (.ref r)) (fun it s₂ => CompGoal prog w A env scope cl x [] elt it s₂ Q) E s := by
  refine iterR_H F (by (first | lia | omega)) (by (first | lia | omega)) (by (first | lia | omega)) (by (first | lia | omega)) fun I h' tk G2 => ?_
  refine compR_F (n := n) (pz := fun _ => true) (G := G) (by (first | lia | omega)) hn hh G2 hx hcl.ok (ok_of (K := KI) el) fun D h'' tk'' ys G3 hP => ?_
  rw [filter_true] at hP
  exact fin D h'' tk'' ys G3 hP
theorem compR_I {a b : Int} {n : Nat} {f : Int → Int} (F : Fm w h₀ env m ((r, .rg a b) :: led) s.heap) (hab : b = a + n) (ha : -1000 ≤ a) (ha2 : a ≤ 1000) (hn : n ≤ 1000000) (hh : A.handled = none) (hx : ∀ C, (compEnvC scope cl C env).kindOf x = some .local)
    (hcl : ClOk env scope cl) (el : EltOk prog w A h₀ env m led scope cl x elt (rng a n) fun a => KI (f a))
    (fin : ∀ D h' tk, Fm w h₀ env m ((D, .il ((rng a n).map f)) :: led) h' → Q (.ref D) { s with heap := h', toks := tk }) :
    wpAny (model prog w) A (pyIter (.ref r)) (fun it s₂ => CompGoal prog w A env scope cl x [] elt it s₂ Q) E s :=
  compR_any F hab ha ha2 hn hh hx hcl el fun D h' tk ys G3 hP => fin D h' tk (G3.headI (paired_ints' (fun _ _ _ h => h) hP))
theorem compR_S {a b : Int} {n : Nat} {f : Int → List Nat} (F : Fm w h₀ env m ((r, .rg a b) :: led) s.heap) (hab : b = a + n) (ha : -1000 ≤ a) (ha2 : a ≤ 1000) (hn : n ≤ 1000000) (hh : A.handled = none) (hx : ∀ C, (compEnvC scope cl C env).kindOf x = some .local)
    (hcl : ClOk env scope cl) (el : EltOk prog w A h₀ env m led scope cl x elt (rng a n) fun a => KS (f a))
    (fin : ∀ D h' tk, Fm w h₀ env m ((D, .sl ((rng a n).map fun a => T (f a))) :: led) h' → Q (.ref D) { s with heap := h', toks := tk }) :
    wpAny (model prog w) A (pyIter (.ref r)) (fun it s₂ => CompGoal prog w A env scope cl x [] elt it s₂ Q) E s :=
  compR_any F hab ha ha2 hn hh hx hcl el fun D h' tk ys G3 hP => fin D h' tk (G3.headS (paired_strs' (fun _ _ _ h => h) hP))
end
/-- the tables that law makes first -/
def aheadL (M P : List Int) : List Int := P.map fun p => (blN p M : Int)
def gapsL (ah : List Int) : List Int := [ah.getD 0 0] ++ (rng 1 (ah.length - 1)).map fun i => ah.getD i.toNat 0 - ah.getD (i - 1).toNat 0
end
local macro_rules | `(tactic| walk_at "subscriptTail") => `(tactic| ((with_reducible show wpAny _ _ (subscriptTail _ _ (Value.ref _) (Value.int _ _)) _ _ _); refine' item_intsN ?hl ?h0 ?h1 ?hz ?_ ?hs; (case hl => k_dflt walk_at "m:hold"); (case h0 => first | decide | omega); (case h1 => first | assumption | omega); (case hz => k_dflt walk_at "m:size"); (case hs => with_unfolding_all rfl); intro t'))
section
theorem calm_L2 : True := by
  w_top off
  trivial
theorem law_2 {prog : Program} {w : World} {A : Around} {E : Value → Shared → Prop} {Q : Flow → Shared → Prop} {s : Shared} {h₀ : Heap} {L ld lm lp : Addr} {m : Str → Option Value} {dr M P : List Int}
    (F : Fm w h₀ (lawEnv w.params L) m [(lp, .il P), (lm, .il M), (ld, .il dr)] s.heap) (hh : A.handled = none) (hroom : A.depth + 2 < recursionLimit) (hM : M.Pairwise (· ≤ ·)) (hl1 : M.length ≤ 8) (hl2 : P.length ≤ 8) (hl3 : 1 ≤ P.length)
    (hd : m "drawn" = some (.ref ld)) (hm : m "marked" = some (.ref lm)) (hp : m "plain" = some (.ref lp))
    (K : ∀ h' tk m' la lg, Fm w h₀ (lawEnv w.params L) m' [(lg, .il (gapsL (aheadL M P))), (la, .il (aheadL M P)), (lp, .il P), (lm, .il M), (ld, .il dr)] h' →
      m' "drawn" = some (.ref ld) → m' "marked" = some (.ref lm) → m' "plain" = some (.ref lp) → m' "ahead" = some (.ref la) → m' "gaps" = some (.ref lg) →
      wpAny (model prog w) A (execs ((lawBody w.params).drop 6) (lawEnv w.params L)) Q E { s with heap := h', toks := tk }) :
    wpAny (model prog w) A (execs ((lawBody w.params).drop 4) (lawEnv w.params L)) Q E s := by
  rw [show (lawBody w.params).drop 4 = st w.params 4 :: st w.params 5 :: (lawBody w.params).drop 6 from rfl]
  generalize (lawBody w.params).drop 6 = rest at *
  show wpAny _ _ (execs (Stmt.Assign _ _ _ :: Stmt.Assign _ _ _ :: rest) _) _ _ _
  walk_at "m:go"
  rename Fm _ _ _ _ _ _ => G
  refine compI_I (f := fun p => (blN p M : Int)) G (.head _) (by (first | lia | omega)) hh (fun _ => rfl) (by walk_at "m:clok") ?el ?fin
  case el =>
    intro C a t s₃ m₃ E' ha V hm'
    walk_at "m:go"
    refine bl_X V.bs (V.lst (_, _) (.tail _ (.head _))) hroom (by (first | lia | omega)) hM fun v h' tk kE => ?_
    exact ⟨⟨_, rfl⟩, _, _, rfl, kE⟩
  case fin =>
    clear G
    intro D h' tk G
    replace G : Fm w h₀ (lawEnv w.params L) _ [(D, .il (aheadL M P)), _, _, _] _ := G
    have hal : (aheadL M P).length = P.length := by simp [aheadL]
    generalize hah : aheadL M P = ah at *
    walk_at "m:go"
    rename Fm _ _ _ _ _ _ => G2
    refine compR_I (n := ah.length - 1) (f := fun i => ah.getD i.toNat 0 - ah.getD (i - 1).toNat 0) G2 (by (first | lia | omega)) (by (first | lia | omega)) (by (first | lia | omega)) (by (first | lia | omega)) hh (fun _ => rfl) (by walk_at "m:clok") ?el2 ?fin2
    case el2 =>
      intro C a t s₃ m₃ E' ha V hm'
      have hr := mem_rng ha
      walk_at "m:go"
      exact ⟨⟨_, rfl⟩, Keeps.rfl' _⟩
    case fin2 =>
      clear G2
      intro D2 h2 tk2 G2
      walk_at "m:go"
      refine addI_F G2 (G2.toVw.lst (_, _) (.tail _ (.head _))) (G2.toVw.lst (_, _) (.head _)) ?hz fun D3 h3 tk3 G3 => ?_
      case hz => simp only [List.length_map, rng_len, List.length_cons, List.length_nil]; (first | lia | omega)
      clear G2
      have G4 := G3.drop (.cons_cons (_, _) (.cons (_, _) (.cons (_, _) (.refl _))))
      clear G3
      replace G4 : Fm w h₀ (lawEnv w.params L) _ [(D3, .il (gapsL ah)), (D, .il ah), _, _, _] _ := G4
      have hgl : (gapsL ah).length = ah.length := by simp [gapsL, rng_len]; (first | lia | omega)
      generalize hga : gapsL ah = ga at *
      walk_at "m:go"
      rename Fm _ _ _ _ _ _ => G5
      exact K _ _ _ _ _ G5 hd hm hp rfl rfl
end
section
theorem calm_L3 : True := by
  w_top off
  trivial
local macro_rules | `(tactic| walk_at "m:pad") => `(tactic| skip)
theorem law_3 {prog : Program} {w : World} {A : Around} {E : Value → Shared → Prop} {Q : Flow → Shared → Prop} {s : Shared} {h₀ : Heap} {L ld lm lp la lg : Addr} {m : Str → Option Value} {dr M P ah ga : List Int} {tail : Nat}
    (F : Fm w h₀ (lawEnv w.params L) m [(lg, .il ga), (la, .il ah), (lp, .il P), (lm, .il M), (ld, .il dr)] s.heap) (hh : A.handled = none) (hroom : A.depth + 2 < recursionLimit) (hl1 : M.length ≤ 8) (hl2 : ga.length ≤ 8) (hl3 : 1 ≤ ah.length) (hl4 : ah.length ≤ 8)
    (htail : (M.length : Int) - ah.getD (-1 + (ah.length : Int)).toNat 0 = tail)
    (hd : m "drawn" = some (.ref ld)) (hm : m "marked" = some (.ref lm)) (hp : m "plain" = some (.ref lp)) (ha : m "ahead" = some (.ref la)) (hg : m "gaps" = some (.ref lg))
    (K : ∀ h' tk m' lr ln ls tt, Fm w h₀ (lawEnv w.params L) m' [(ls, .sl []), (ln, .il M), (lr, .il ([0] ++ ga.drop 1)), (lg, .il ga), (la, .il ah), (lp, .il P), (lm, .il M), (ld, .il dr)] h' →
      m' "drawn" = some (.ref ld) → m' "marked" = some (.ref lm) → m' "plain" = some (.ref lp) → m' "ahead" = some (.ref la) → m' "gaps" = some (.ref lg) → m' "tail" = some (.int tail tt) → m' "runs" = some (.ref lr) → m' "noughts" = some (.ref ln) → m' "stops" = some (.ref ls) →
      wpAny (model prog w) A (execs ((lawBody w.params).drop 12) (lawEnv w.params L)) Q E { s with heap := h', toks := tk }) :
    wpAny (model prog w) A (execs ((lawBody w.params).drop 6) (lawEnv w.params L)) Q E s := by
  rw [show (lawBody w.params).drop 6 = st w.params 6 :: st w.params 7 :: st w.params 8 :: st w.params 9 :: st w.params 10 :: st w.params 11 :: (lawBody w.params).drop 12 from rfl]
  generalize (lawBody w.params).drop 12 = rest at *
  show wpAny _ _ (execs (Stmt.Assign _ _ _ :: Stmt.Assign _ _ _ :: Stmt.Assign _ _ _ :: Stmt.Assign _ _ _ :: Stmt.Assign _ _ _ :: Stmt.Assign _ _ _ :: rest) _) _ _ _
  walk_at "m:go"
  rename Fm _ _ _ _ _ _ => G
  exact K _ _ _ _ _ _ _ ((G.recast (v' := .sl []) .head (sl_nil (G.toVw.lst (_, _) (.head _)))).drop (.cons_cons (_, _) (.cons_cons (_, _) (.cons_cons (_, _) (.cons (_, _) (.cons (_, _) (.refl _))))))) hd hm hp ha hg (congrArg (fun z => some (Value.int z _)) htail) rfl rfl rfl
end
section
/-- law's middle loop: what it tells, how many letters, one step, the state after k steps -/
def telN (tail : Nat) (rs : List Int) : List Nat := p257 (nmOf rs tail)
def cntN (cs : List Nat) : Nat := cs.length - cs.count 34
def lstep (M av : List Int) (tail : Nat) (S : List Int × List Int × List (List Nat)) : List Int × List Int × List (List Nat) :=
  (S.1.take (cntN (telN tail S.1)) ++ [S.1.getD (cntN (telN tail S.1)) 0 + 1] ++ S.1.drop (cntN (telN tail S.1) + 1),
   insR (M.getD (av.getD (cntN (telN tail S.1)) 0 - 1).toNat 0) S.2.1,
   S.2.2 ++ [telN tail S.1 ++ [34] ++ [ah.getD (cntN (telN tail S.1)) 0]])
def lsAt (M av ga : List Int) (tail : Nat) : Nat → List Int × List Int × List (List Nat)
  | 0 => ([0] ++ ga.drop 1, M, [])
  | k + 1 => lstep M av tail (lsAt M av ga tail k)
/-- what the walk of the loop wants: it ends at step k -/
structure LoopOk (M av ga : List Int) (n tail k : Nat) : Prop where
  kn : k < n
  n8 : n ≤ 8
  m8 : M.length ≤ 8
  tb : tail ≤ 8
  al : av.length = n
  len : ∀ j, j ≤ k → (lsAt M av ga tail j).1.length = n
  bnd : ∀ j, j ≤ k → ∀ r ∈ (lsAt M av ga tail j).1, 0 ≤ r ∧ r ≤ 1000
  srt : ∀ j, j ≤ k → (lsAt M av ga tail j).2.1.Pairwise (· ≤ ·)
  nln : ∀ j, j ≤ k → (lsAt M av ga tail j).2.1.length = M.length + j
  sln : ∀ j, j ≤ k → (lsAt M av ga tail j).2.2.length = j
  go : ∀ j, j < k → cntN (telN tail (lsAt M av ga tail j).1) < n ∧ 1 ≤ av.getD (cntN (telN tail (lsAt M av ga tail j).1)) 0 ∧ av.getD (cntN (telN tail (lsAt M av ga tail j).1)) 0 ≤ M.length
  stop : cntN (telN tail (lsAt M av ga tail k).1) = n

theorem p257_len : ∀ cs : List Nat, (p257 cs).length ≤ cs.length
  | [] => Nat.le_refl _
  | [c] => by unfold p257; split <;> simp
  | c :: d :: r => by
    have h1 := p257_len r
    have h2 := p257_len (d :: r)
    unfold p257
    split
    · split
      · simp only [List.length_cons]; (first | lia | omega)
      · simp
    · simp only [List.length_cons] at *; (first | lia | omega)
theorem nmOf_len {rs : List Int} {tail : Nat} (hb : ∀ r ∈ rs, 0 ≤ r ∧ r ≤ 1000) (hn : rs.length ≤ 8) (ht : tail ≤ 8) : (nmOf rs tail).length ≤ 8016 := by
  unfold nmOf
  have := nm_len rs hb hn
  rw [List.length_append, List.length_replicate]; (first | lia | omega)
theorem Fm.swap {w : World} {h₀ h : Heap} {env : Env} {m : Str → Option Value} {led : List (Addr × LV)} {x y : Addr × LV} (F : Fm w h₀ env m (x :: y :: led) h) : Fm w h₀ env m (y :: x :: led) h := by
  obtain ⟨h1, h2⟩ := List.pairwise_cons.mp F.lap
  obtain ⟨h3, h4⟩ := List.pairwise_cons.mp h2
  have hm : ∀ p, p ∈ y :: x :: led → p ∈ x :: y :: led := fun p hp => by
    rcases List.mem_cons.mp hp with rfl | hp
    · exact .tail _ (.head _)
    · rcases List.mem_cons.mp hp with rfl | hp
      · exact .head _
      · exact .tail _ (.tail _ hp)
  refine ⟨⟨F.toVw.base, F.toVw.keep, F.toVw.ns, F.toVw.cell, fun p hp => F.toVw.lst p (hm p hp)⟩, List.pairwise_cons.mpr ⟨fun p hp e => ?_, List.pairwise_cons.mpr ⟨fun p hp => h1 p (.tail _ hp), h4⟩⟩, F.newL, F.newC, F.cap, fun p hp => F.newA p (hm p hp)⟩
  rcases List.mem_cons.mp hp with rfl | hp
  · exact h1 y (.head _) e.symm
  · exact h3 p hp e
/-- some of the ledger, in any order -/
theorem Fm.pick {w : World} {h₀ h : Heap} {env : Env} {m : Str → Option Value} {led led' : List (Addr × LV)} (F : Fm w h₀ env m led h) (is : List Nat) (hs : is.Pairwise (· ≠ ·)) (e : is.filterMap (fun i => led[i]?) = led') : Fm w h₀ env m led' h := by
  have hm : ∀ p ∈ led', p ∈ led := fun p hp => by
    rw [← e] at hp
    obtain ⟨i, _, hi⟩ := List.mem_filterMap.mp hp
    exact List.mem_of_getElem? hi
  refine ⟨⟨F.toVw.base, F.toVw.keep, F.toVw.ns, F.toVw.cell, fun p hp => F.toVw.lst p (hm p hp)⟩, ?_, F.newL, F.newC, F.cap, fun p hp => F.newA p (hm p hp)⟩
  rw [← e]
  refine List.pairwise_filterMap.mpr (hs.imp fun {a b} hab x hx y hy => ?_)
  obtain ⟨ha, rfl⟩ := List.getElem?_eq_some_iff.mp hx
  obtain ⟨hb, rfl⟩ := List.getElem?_eq_some_iff.mp hy
  rcases Nat.lt_or_gt_of_ne hab with h1 | h1
  · exact List.pairwise_iff_getElem.mp F.lap a b ha hb h1
  · exact (List.pairwise_iff_getElem.mp F.lap b a hb ha h1).symm
/-- the body of law's middle loop -/
noncomputable def lb (P : Params) (k : Nat) : List Stmt := match st P k with | .For _ _ b _ _ => b | _ => []
noncomputable def sb (P : Params) (k j : Nat) : Stmt := (lb P k).getD j (.Pass ⟨0, 0, 0, 0⟩)
section
variable {prog : Program} {w : World} {A : Around} {E : Value → Shared → Prop} {s : Shared} {Q : Value → Shared → Prop} {l : Addr} {t : Tok}
theorem ln_X {rs : List Int} {tail : Nat} (b : Base w s.heap) (hh : A.handled = none) (hl : Holds s.heap l (.il rs)) (hroom : A.depth + 2 < recursionLimit) (hn : rs.length ≤ 8) (hb : ∀ r ∈ rs, 0 ≤ r ∧ r ≤ 1000) (ht : tail ≤ 8)
    (h : ∀ v h' tk, Ext s.heap h' → Q (.str (T (nmOf rs tail)) v) { s with heap := h', toks := tk }) : wpAny (model prog w) A (call (.ref 108) [.ref l, .int (tail : Nat) t]) Q E s :=
  wpAny_call (ln_call rfl b hh (by (first | lia | omega)) hl hn hb (by (first | lia | omega)) fun t' h' tk h4 => h _ _ _ h4)
theorem p_X {cs ds : List Nat} (hcs : ds = 50 :: 53 :: 55 :: 32 :: 34 :: cs) (b : Base w s.heap) (hh : A.handled = none) (hroom : A.depth + 2 < recursionLimit) (hz : cs.length < 10000)
    (h : ∀ v h' tk, Ext s.heap h' → Q (.str (T (p257 cs)) v) { s with heap := h', toks := tk }) : wpAny (model prog w) A (call (.ref 46) [.str (T ds) t]) Q E s := by
  subst hcs
  exact wpAny_call (p_call b hh (by (first | lia | omega)) hz fun t' h' tk h4 => h _ _ _ h4)
theorem p_X1 {cs : List Nat} (b : Base w s.heap) (hh : A.handled = none) (hroom : A.depth + 2 < recursionLimit) (hz : cs.length < 10000)
    (h : ∀ v h' tk, Ext s.heap h' → Q (.str (T (p257 cs)) v) { s with heap := h', toks := tk }) : wpAny (model prog w) A (call (.ref 46) [.str (T ([50, 53, 55, 32, 34] ++ cs)) t]) Q E s := p_X rfl b hh hroom hz h
theorem p_X2 {a c : Nat} {cs ds : List Nat} (hcs : ds = 50 :: 53 :: 55 :: a :: c :: cs) (b : Base w s.heap) (hh : A.handled = none) (hroom : A.depth + 2 < recursionLimit) (hz : cs.length < 10000) (hac : ([a, c] != [32, 34]) = true)
    (h : ∀ v h' tk, Ext s.heap h' → Q (.str (T []) v) { s with heap := h', toks := tk }) : wpAny (model prog w) A (call (.ref 46) [.str (T ds) t]) Q E s := by
  subst hcs
  exact wpAny_call (p_call2 b hh (by (first | lia | omega)) hz hac fun t' h' tk h4 => h _ _ _ h4)
end
end
local macro_rules | `(tactic| walk_at "call ref") => `(tactic| ((with_reducible show wpAny _ _ (call (Value.ref 108) _) _ _ _); refine' ln_X ?bs (by assumption) ?hl ?room ?hn ?hb ?ht ?_; (case bs => k_dflt exact Vw.bs (by walk_at "m:vw")); (case hl => k_dflt walk_at "m:hold"); (case room => k_dflt walk_at "m:room"); (case hn => k_dflt walk_at "m:size"); (case hb => k_dflt assumption); (case ht => k_dflt assumption); intro t' h' tk' kE; walk_at "m:ext"))
local macro_rules | `(tactic| walk_at "call ref") => `(tactic| ((with_reducible show wpAny _ _ (call (Value.ref 46) _) _ _ _); refine' p_X1 ?bs (by assumption) ?room ?hz ?_; (case bs => k_dflt exact Vw.bs (by walk_at "m:vw")); (case room => k_dflt walk_at "m:room"); (case hz => k_dflt walk_at "m:sz"); intro t' h' tk' kE; walk_at "m:ext"))
section
theorem calm_L4 : True := by
  w_top off
  trivial
theorem law_4a {prog : Program} {w : World} {A : Around} {E : Value → Shared → Prop} {Q : Flow → Shared → Prop} {s : Shared} {h₀ : Heap} {L lm la lr ln ls : Addr} {m : Str → Option Value} {r0 : List (Addr × LV)} {iv : Addr × LV} {M av rs ns : List Int} {ss : List (List Nat)} {n c : Nat}
    {cs : List Nat} {tc ts : Tok}
    (F : Fm w h₀ (lawEnv w.params L) m (iv :: (lr, .il rs) :: (ls, .sl (ss.map T)) :: (ln, .il ns) :: (la, .il av) :: (lm, .il M) :: r0) s.heap) (hh : A.handled = none) (hroom : A.depth + 2 < recursionLimit)
    (hm8 : M.length ≤ 8) (hc : c < n) (hn8 : n ≤ 8) (hrl : rs.length = n) (hal : av.length = n) (hns : ns.Pairwise (· ≤ ·)) (hnl : ns.length ≤ 100) (hsl : ss.length ≤ 100) (h1 : 1 ≤ av.getD c 0) (h2 : av.getD c 0 ≤ M.length) (hcs : cs.length ≤ 9000)
    (hm : m "marked" = some (.ref lm)) (ha : m "ahead" = some (.ref la)) (hr : m "runs" = some (.ref lr)) (hn : m "noughts" = some (.ref ln)) (hs : m "stops" = some (.ref ls)) (hto : m "told" = some (.str (T cs) ts)) (hco : m "count" = some (.int (c : Nat) tc))
    (K : ∀ h' tk m' D, (∀ x, x ≠ Str.ofString "runs" → m' x = m x) → m' "runs" = some (.ref D) → Fm w h₀ (lawEnv w.params L) m' (iv :: (D, .il (rs.take c ++ [rs.getD c 0 + 1] ++ rs.drop (c + 1))) :: (ls, .sl ((ss ++ [cs ++ [34] ++ [Mine.ah.getD c 0]]).map T)) :: (ln, .il (insR (M.getD (av.getD c 0 - 1).toNat 0) ns)) :: (la, .il av) :: (lm, .il M) :: r0) h' →
      Q .next { s with heap := h', toks := tk }) :
    wpAny (model prog w) A (execs ((lb w.params 12).drop 4) (lawEnv w.params L)) Q E s := by
  show wpAny _ _ (execs [Stmt.Expr _ _, Stmt.Assign _ _ _, Stmt.Expr _ _] _) _ _ _
  have e8 : Mine.ah.length = 8 := rfl
  have h1' : 1 ≤ av.getD (c : Int).toNat 0 := h1
  have h2' : av.getD (c : Int).toNat 0 ≤ M.length := h2
  walk_at "m:go"
  rename Fm _ _ _ _ _ _ => G
  have G2 := G.drop (.cons_cons (_, _) (.cons (_, _) (.cons (_, _) (.cons (_, _) (.cons (_, _) (.cons_cons iv (.cons (_, _) (.refl _))))))))
  have e : (ss ++ [cs ++ [34] ++ [Mine.ah.getD c 0]]).map T = ss.map T ++ [T (cs ++ [34] ++ [Mine.ah.getD c 0])] := by rw [List.map_append]; rfl
  rw [e] at K
  refine K _ _ _ _ ?a ?b G2.swap
  case a => exact fun x hx => if_neg hx
  case b => exact rfl

theorem law_4 {prog : Program} {w : World} {A : Around} {E : Value → Shared → Prop} {Q : Flow → Shared → Prop} {s : Shared} {h₀ : Heap} {L ld lm lp la lg lr ln ls : Addr} {m : Str → Option Value} {dr M P av ga : List Int} {tail k : Nat} {tt : Tok}
    (F : Fm w h₀ (lawEnv w.params L) m [(ls, .sl []), (ln, .il M), (lr, .il ([0] ++ ga.drop 1)), (lg, .il ga), (la, .il av), (lp, .il P), (lm, .il M), (ld, .il dr)] s.heap) (hh : A.handled = none) (hroom : A.depth + 2 < recursionLimit)
    (O : LoopOk M av ga P.length tail k)
    (hd : m "drawn" = some (.ref ld)) (hm : m "marked" = some (.ref lm)) (hp : m "plain" = some (.ref lp)) (ha : m "ahead" = some (.ref la)) (hg : m "gaps" = some (.ref lg)) (ht : m "tail" = some (.int tail tt)) (hr : m "runs" = some (.ref lr)) (hn : m "noughts" = some (.ref ln)) (hs : m "stops" = some (.ref ls))
    (K : ∀ h' tk m' t1 t2, Fm w h₀ (lawEnv w.params L) m' [(ls, .sl ((lsAt M av ga tail k).2.2.map T)), (ln, .il (lsAt M av ga tail k).2.1), (lg, .il ga), (la, .il av), (lp, .il P), (lm, .il M), (ld, .il dr)] h' →
      m' "drawn" = some (.ref ld) → m' "marked" = some (.ref lm) → m' "plain" = some (.ref lp) → m' "ahead" = some (.ref la) → m' "gaps" = some (.ref lg) → m' "tail" = some (.int tail tt) → m' "noughts" = some (.ref ln) → m' "stops" = some (.ref ls) →
      m' "reply" = some (.str (T ([50, 53, 55, 32, 34] ++ nmOf (lsAt M av ga tail k).1 tail)) t1) → m' "told" = some (.str (T (telN tail (lsAt M av ga tail k).1)) t2) →
      wpAny (model prog w) A (execs ((lawBody w.params).drop 13) (lawEnv w.params L)) Q E { s with heap := h', toks := tk }) :
    wpAny (model prog w) A (execs ((lawBody w.params).drop 12) (lawEnv w.params L)) Q E s := by
  rw [show (lawBody w.params).drop 12 = st w.params 12 :: (lawBody w.params).drop 13 from rfl]
  generalize (lawBody w.params).drop 13 = rest at *
  show wpAny _ _ (execs (Stmt.For (Expr.Name _ _) _ (lb w.params 12) [] _ :: rest) _) _ _ _
  have hP8 := O.n8
  walk_at "m:go"
  refine wpAny_For ?_
  walk_at "m:go"
  walk_at "m:iterR"
  rename Fm _ _ _ _ _ _ => G2
  have G3 := G2.pick [0, 3, 1, 2, 5, 7, 4, 6, 8] (by decide) rfl
  clear G2
  refine' loop_range (n := P.length) (by (first | lia | omega)) hh G3 (fun i m led => ∃ lr, led = [(lr, .il (lsAt M av ga tail i).1), (ls, .sl ((lsAt M av ga tail i).2.2.map T)), (ln, .il (lsAt M av ga tail i).2.1), (la, .il av), (lm, .il M), (lg, .il ga), (lp, .il P), (ld, .il dr)] ∧ i ≤ k ∧
    m (Str.ofString "drawn") = some (.ref ld) ∧ m (Str.ofString "marked") = some (.ref lm) ∧ m (Str.ofString "plain") = some (.ref lp) ∧ m (Str.ofString "ahead") = some (.ref la) ∧ m (Str.ofString "gaps") = some (.ref lg) ∧ m (Str.ofString "tail") = some (.int tail tt) ∧ m (Str.ofString "runs") = some (.ref lr) ∧
    m (Str.ofString "noughts") = some (.ref ln) ∧ m (Str.ofString "stops") = some (.ref ls)) ?k ?x ?c ?h0 ?turn ?fin
  case k => exact rfl
  case x => exact rfl
  case c => exact rfl
  case h0 => exact ⟨_, rfl, Nat.zero_le _, hd, hm, hp, ha, hg, ht, hr, hn, hs⟩
  case fin =>
    rintro m' led' h' tk ⟨lr', rfl, hk, _⟩
    exact absurd O.kn (by (first | lia | omega))
  case turn =>
    rintro i t m' led' h' tk hi ⟨lr', rfl, hik, h1, h2, h3, h4, h5, h6, h7, h8, h9⟩ F'
    clear G3 hd hm hp ha hg ht hr hn hs
    have o1 := O.len i hik
    have o2 := O.bnd i hik
    have o3 := O.srt i hik
    have o4 := O.nln i hik
    have o5 := O.sln i hik
    have o6 := O.go i
    have o7 := O.tb
    have o8 := O.m8
    have o9 := O.kn
    have e1 : lsAt M av ga tail (i + 1) = lstep M av tail (lsAt M av ga tail i) := rfl
    have o10 : i = k → cntN (telN tail (lsAt M av ga tail i).1) = P.length := fun e => e ▸ O.stop
    have o11 := O.al
    have Kk : i = k → lsAt M av ga tail k = lsAt M av ga tail i := fun e => e ▸ rfl
    rw [e1]
    generalize lsAt M av ga tail i = S at *
    obtain ⟨rs, ns, ss⟩ := S
    dsimp only at o1 o2 o3 o4 o5 o6 o10 F'
    have hz1 : (nmOf rs tail).length ≤ 8016 := nmOf_len o2 (by (first | lia | omega)) o7
    have hz2 : (p257 (nmOf rs tail)).length ≤ 8016 := Nat.le_trans (p257_len _) hz1
    have hz3 : (p257 (nmOf rs tail)).count 34 ≤ (p257 (nmOf rs tail)).length := List.count_le_length
    rw [show lb w.params 12 = sb w.params 12 0 :: sb w.params 12 1 :: sb w.params 12 2 :: sb w.params 12 3 :: (lb w.params 12).drop 4 from rfl]
    generalize hb4 : (lb w.params 12).drop 4 = rest4 at *
    show wpAny _ _ (execs (Stmt.Assign _ _ _ :: Stmt.Assign _ _ _ :: Stmt.Assign _ _ _ :: Stmt.If _ _ _ _ :: rest4) _) _ _ _
    walk_at "m:go"
    · rename Fm _ _ _ _ _ _ => G
      rename (_ : Int) = (P.length : Int) => he
      have hik' : i = k := by
        rcases Nat.lt_or_eq_of_le hik with q | q
        · have := (o6 q).1
          unfold cntN telN at this; (first | lia | omega)
        · exact q
      rw [Kk hik'] at K
      dsimp only at K
      exact K _ _ _ _ _ (G.pick [2, 3, 6, 4, 7, 5, 8] (by decide) rfl) h1 h2 h3 h4 h5 h6 h8 h9 rfl rfl
    · rename Fm _ _ _ _ _ _ => G
      rename (_ : Int) ≠ (P.length : Int) => he
      have hik' : i < k := by
        rcases Nat.lt_or_eq_of_le hik with q | q
        · exact q
        · have := o10 q
          unfold cntN telN at this; (first | lia | omega)
      obtain ⟨p1, p2, p3⟩ := o6 hik'
      clear K Kk
      subst hb4
      dsimp only
      have hcz : ((p257 (nmOf rs tail)).length : Int) - ((p257 (nmOf rs tail)).count 34 : Nat) = (cntN (telN tail rs) : Nat) := by unfold cntN telN; (first | lia | omega)
      refine law_4a (cs := p257 (nmOf rs tail)) (c := cntN (telN tail rs)) (n := P.length) G hh hroom o8 p1 hP8 o1 o11 o3 (by (first | lia | omega)) (by (first | lia | omega)) p2 p3 (by (first | lia | omega)) h2 h4 h7 h8 h9 rfl (congrArg (fun z => some (Value.int z _)) hcz) ?_
      intro h' tk m'' D q1 q2 G2
      refine ⟨_, _, _, _, rfl, ?_, G2⟩
      refine ⟨D, rfl, hik', (q1 _ (by decide)).trans h1, (q1 _ (by decide)).trans h2, (q1 _ (by decide)).trans h3, (q1 _ (by decide)).trans h4, (q1 _ (by decide)).trans h5, (q1 _ (by decide)).trans h6, q2, (q1 _ (by decide)).trans h8, (q1 _ (by decide)).trans h9⟩
end
section
theorem tests_one {M : Model} {A : Around} {E : Value → Shared → Prop} {s : Shared} {env : Env} {c : Expr} {Q : Bool → Shared → Prop} (h : wpAny M A (isTrue c env (eval c env)) Q E s) :
    wpAny M A (forIn [c] true fun c r => if r = true then do let ok ← isTrue c env (eval c env); pure (ForInStep.yield ok) else pure (ForInStep.yield r)) Q E s := by
  rw [List.forIn_cons]
  refine wpAny_bind ?_
  rw [if_pos rfl]
  refine wpAny_bind (wpAny_mono h (fun ok s' q => wpAny_pure ?_) fun _ _ e => e)
  dsimp only
  rw [List.forIn_nil]
  exact wpAny_pure q
theorem const_T3 {M : Model} {A : Around} {E : Value → Shared → Prop} {s : Shared} {env : Env} {Q : Value → Shared → Prop} {lit : String} {cs : List Nat} {k : Nat} {pos : Pos} (e : Str.ofString lit = T cs) (h : ∀ t tk, s.toks ≤ t ∧ t < tk → Q (.str (T cs) t) { s with toks := tk }) :
    wpAny M A (eval (.Constant (.str (Str.ofString lit)) k pos) env) Q E s := const_T e (h _ _ ⟨Nat.le_refl _, Nat.lt_succ_self _⟩)
theorem strs_paired : ∀ {css : List (List Nat)} {vs : List Value}, StrsAre vs (css.map T) → Paired KS css vs
  | [], _, h => by cases h; exact .nil
  | c :: r, _, h => by
    cases h with
    | cons y t q => exact .cons ⟨t, rfl⟩ (strs_paired q)
section
variable {prog : Program} {w : World} {A : Around} {E : Value → Shared → Prop} {s : Shared} {h₀ : Heap} {env : Env} {m : Str → Option Value} {led : List (Addr × LV)} {l r : Addr} {xs : List Int} {css : List (List Nat)} {scope : Scope} {cl : List (Str × Addr)} {x : Str}
  {ifs : List Expr} {elt : Expr} {Q : Value → Shared → Prop}
/-- [elt for x in a list of texts if ..] -/
theorem compS_any {pz : List Nat → Bool} {G : List Nat → Value → Prop} (F : Fm w h₀ env m led s.heap) (hl : (l, .sl (css.map T)) ∈ led) (hn : css.length ≤ 1000000) (hh : A.handled = none) (hx : ∀ C, (compEnvC scope cl C env).kindOf x = some .local) (hcl : ClOk env scope cl)
    (ok : CompOk prog w A h₀ env m led scope cl x ifs elt KS css pz G)
    (fin : ∀ D h' tk ys, Fm w h₀ env m ((D, .vl ys) :: led) h' → Paired G (css.filter pz) ys → Q (.ref D) { s with heap := h', toks := tk }) :
    wpAny (model prog w) A (pyIter (.ref l)) (fun it s₂ => CompGoal prog w A env scope cl x ifs elt it s₂ Q) E s := by
  obtain ⟨vs0, pv0, iv0⟩ := F.toVw.lst _ hl
  refine iterL_F F ⟨_, pv0.isList⟩ fun I h' tk G2 => ?_
  obtain ⟨vs, pv, iv⟩ := (G2.toVw.lst _ (.tail _ hl) : Holds h' l (.sl (css.map T)))
  exact compL_F (pz := pz) (G := G) KS.inj pS_ok pv.isList (strs_paired iv) hn hh G2 hx hcl.ok ok fun D h'' tk'' ys G3 hP => fin D h'' tk'' ys G3 hP
end
section
variable {prog : Program} {w : World} {A : Around} {E : Value → Shared → Prop} {s : Shared} {Q : Value → Shared → Prop} {a b : Addr}
theorem neI_X {xs ys : List Int} (ha : Holds s.heap a (.il xs)) (hb : Holds s.heap b (.il ys)) (e : xs = ys) (hu : A.units + 64 < cLine) (h : Q (.bool false) s) : wpAny (model prog w) A (compareOp .NotEq (.ref a) (.ref b)) Q E s := by
  subst e; exact ne_same (rd_ints ha) (rd_ints hb) (pd_ints xs) hu h
theorem neS_X {xs ys : List Str} (ha : Holds s.heap a (.sl xs)) (hb : Holds s.heap b (.sl ys)) (e : xs = ys) (hx : ∀ x ∈ xs, PySem.PyData.canLay0 (.str x) = true) (hu : A.units + 64 < cLine) (h : Q (.bool false) s) : wpAny (model prog w) A (compareOp .NotEq (.ref a) (.ref b)) Q E s := by
  subst e; exact ne_same (rd_strs ha) (rd_strs hb) (pd_strs xs hx) hu h
theorem neB_X {xs ys : List Bool} (ha : Holds s.heap a (.vl (xs.map Value.bool))) (hb : Holds s.heap b (.vl (ys.map Value.bool))) (e : xs = ys) (hu : A.units + 64 < cLine) (h : Q (.bool false) s) : wpAny (model prog w) A (compareOp .NotEq (.ref a) (.ref b)) Q E s := by
  subst e; exact ne_same (rd_bools ha) (rd_bools hb) (pd_bools xs) hu h
end
end
section
theorem calm_L5 : True := by
  w_top off
  trivial
local macro_rules | `(tactic| walk_at "m:pad") => `(tactic| skip)
theorem law_5a {prog : Program} {w : World} {A : Around} {E : Value → Shared → Prop} {Q : Flow → Shared → Prop} {s : Shared} {h₀ : Heap} {L ls : Addr} {m : Str → Option Value} {led : List (Addr × LV)} {ss : List (List Nat)} {told : List Nat} {tt : Tok}
    (F : Fm w h₀ (lawEnv w.params L) m ((ls, .sl (ss.map T)) :: led) s.heap) (hh : A.handled = none) (hu : A.units + 64 < cLine) (hs : m "stops" = some (.ref ls)) (ht : m "told" = some (.str (T told) tt)) (hn : ss.length ≤ 100) (hpre : ∀ st ∈ ss, st.isPrefixOf told = true)
    (K : ∀ h' tk, Fm w h₀ (lawEnv w.params L) m ((ls, .sl (ss.map T)) :: led) h' → wpAny (model prog w) A (execs ((lawBody w.params).drop 14) (lawEnv w.params L)) Q E { s with heap := h', toks := tk }) :
    wpAny (model prog w) A (execs ((lawBody w.params).drop 13) (lawEnv w.params L)) Q E s := by
  rw [show (lawBody w.params).drop 13 = st w.params 13 :: (lawBody w.params).drop 14 from rfl]
  generalize (lawBody w.params).drop 14 = rest at *
  show wpAny _ _ (execs (Stmt.If _ _ _ _ :: rest) _) _ _ _
  walk_at "m:go"
  rename Fm _ _ _ _ _ _ => G
  refine compS_any (pz := fun st => !st.isPrefixOf told) (G := KS) G (.head _) (by (first | lia | omega)) hh (fun _ => rfl) (by walk_at "m:clok") ⟨?te, ?el⟩ ?fin
  case te =>
    intro C a v s₃ m₃ E' ha hK V kx hm'
    obtain ⟨t, rfl⟩ := hK
    refine tests_one ?_
    walk_at "m:go"
    exact ⟨rfl, Keeps.rfl' _⟩
  case el =>
    intro C a v s₃ m₃ E' ha hp hK V kx hm'
    obtain ⟨t, rfl⟩ := hK
    walk_at "m:go"
    exact ⟨⟨_, rfl⟩, Keeps.rfl' _⟩
  case fin =>
    intro D h' tk ys G3 hP
    have e : ss.filter (fun st => !st.isPrefixOf told) = [] := List.filter_eq_nil_iff.mpr fun st hst => by rw [hpre st hst]; decide
    rw [e] at hP
    cases hP
    clear G
    walk_at "m:go"
    rename Fm _ _ _ _ _ _ => G4
    refine neI_X (il_nil (G4.toVw.lst (_, _) (.tail _ (.head _)))) (il_nil (G4.toVw.lst (_, _) (.head _))) rfl hu ?_
    walk_at "m:go"
    exact K _ _ (G4.drop (.cons (_, _) (.cons (_, _) (.refl _))))

section
local macro_rules | `(tactic| walk_at "eval Constant str") => `(tactic| (refine' const_T3 ?e ?_; (case e => first | exact k_257sq | exact k_q | exact k_qq); intro t' tk' kt))
theorem law_5b {prog : Program} {w : World} {A : Around} {E : Value → Shared → Prop} {Q : Flow → Shared → Prop} {s : Shared} {h₀ : Heap} {L : Addr} {m : Str → Option Value} {led : List (Addr × LV)} {told cs : List Nat} {tt tr : Tok}
    (F : Fm w h₀ (lawEnv w.params L) m led s.heap) (hh : A.handled = none) (ht : m "told" = some (.str (T told) tt)) (hr : m "reply" = some (.str (T ([50, 53, 55, 32, 34] ++ cs)) tr)) (hz : told.length ≤ 9000)
    (hw : cs = dblq told ∨ cs = dblq told ++ [34])
    (K : ∀ h' tk t2, Fm w h₀ (lawEnv w.params L) (upd m "written" (.str (T ([50, 53, 55, 32, 34] ++ dblq told)) t2)) led h' → wpAny (model prog w) A (execs ((lawBody w.params).drop 16) (lawEnv w.params L)) Q E { s with heap := h', toks := tk }) :
    wpAny (model prog w) A (execs ((lawBody w.params).drop 14) (lawEnv w.params L)) Q E s := by
  rw [show (lawBody w.params).drop 14 = st w.params 14 :: st w.params 15 :: (lawBody w.params).drop 16 from rfl]
  generalize (lawBody w.params).drop 16 = rest at *
  show wpAny _ _ (execs (Stmt.Assign _ _ _ :: Stmt.If _ _ _ _ :: rest) _) _ _ _
  have hz2 : (dblq told).length ≤ 18000 := Nat.le_trans (dblq_length _) (by (first | lia | omega))
  walk_at "m:go"
  refine replaceq_T ?a ?b ?c (by (first | lia | omega)) fun t' tk' => ?_
  all_goals dsimp only at *
  case a => show @Ne Nat _ _; (first | lia | omega)
  case b => show @Ne Nat _ _; (first | lia | omega)
  case c => show @Ne Nat _ _; (first | lia | omega)
  walk_at "m:go"
  · exfalso
    rcases hw with e | e <;> simp_all
  · rename Fm _ _ _ _ _ _ => G
    exact K _ _ _ G
  · rename Fm _ _ _ _ _ _ => G
    exact K _ _ _ G
end
end
section
theorem calm_L6 : True := by
  w_top off
  trivial
theorem law_5c {prog : Program} {w : World} {A : Around} {E : Value → Shared → Prop} {Q : Flow → Shared → Prop} {s : Shared} {h₀ : Heap} {L : Addr} {m : Str → Option Value} {led : List (Addr × LV)} {cs : List Nat} {tr : Tok}
    (F : Fm w h₀ (lawEnv w.params L) m led s.heap) (hh : A.handled = none) (hroom : A.depth + 2 < recursionLimit) (hu : A.units + 64 < cLine) (hr : m "reply" = some (.str (T (50 :: 53 :: 55 :: 32 :: 34 :: 97 :: cs)) tr)) (hz : cs.length ≤ 9000)
    (K : ∀ h' tk, Fm w h₀ (lawEnv w.params L) m led h' → wpAny (model prog w) A (execs ((lawBody w.params).drop 17) (lawEnv w.params L)) Q E { s with heap := h', toks := tk }) :
    wpAny (model prog w) A (execs ((lawBody w.params).drop 16) (lawEnv w.params L)) Q E s := by
  rw [show (lawBody w.params).drop 16 = st w.params 16 :: (lawBody w.params).drop 17 from rfl]
  generalize (lawBody w.params).drop 17 = rest at *
  show wpAny _ _ (execs (Stmt.If _ _ _ _ :: rest) _) _ _ _
  walk_at "m:go"
  rename Fm _ _ _ _ _ _ => G
  refine compS_any (css := [50 :: 53 :: 55 :: 34 :: 97 :: cs, 50 :: 53 :: 55 :: 95 :: 34 :: 97 :: cs, 50 :: 53 :: 55 :: 32 :: 97 :: cs]) (pz := fun st => true) (G := fun _ => KS []) G ?hl (Nat.le_of_ble_eq_true rfl) hh (fun _ => rfl) (by walk_at "m:clok") ⟨?te, ?el⟩ ?fin
  case hl => exact .head _
  case te =>
    intro C a v s₃ m₃ E' ha hK V kx hm'
    exact tests_nil ⟨rfl, Keeps.rfl' _⟩ _
  case el =>
    intro C a v s₃ m₃ E' ha hp hK V kx hm'
    obtain ⟨t, rfl⟩ := hK
    clear G
    walk_at "m:go"
    have key : ∀ x y ds, a = 50 :: 53 :: 55 :: x :: y :: ds → ds.length < 10000 → ([x, y] != [32, 34]) = true → wpAny (model prog w) A (call (Value.ref 46) [Value.str (T a) t]) (fun y s₄ => KS [] y ∧ Keeps s₃ s₄) E' s₃ := fun x y ds e h1 h2 => p_X2 e V.bs hh hroom h1 h2 fun v h' tk kE => ⟨⟨_, rfl⟩, _, _, rfl, kE⟩
    simp only [List.mem_cons, List.not_mem_nil, or_false] at ha
    rcases ha with e | e | e
    · exact key _ _ _ e (by (first | lia | omega)) rfl
    · exact key _ _ _ e (by simp only [List.length_cons]; (first | lia | omega)) rfl
    · exact key _ _ _ e (by (first | lia | omega)) rfl
  case fin =>
    intro D h' tk ys G3 hP
    rw [filter_true] at hP
    have G4 := G3.headS (paired_strs' (f := fun _ => []) (fun _ _ _ h => h) hP)
    clear G G3
    walk_at "m:go"
    rename Fm _ _ _ _ _ _ => G5
    refine neS_X (G5.toVw.lst (_, _) (.tail _ (.head _))) (G5.toVw.lst (_, _) (.head _)) rfl (fun x hx => ?_) hu ?_
    · simp only [List.map_cons, List.map_nil, List.mem_cons, List.not_mem_nil, or_false, or_self] at hx
      subst hx
      decide +kernel
    walk_at "m:go"
    exact K _ _ (G5.drop (.cons (_, _) (.cons (_, _) (.cons (_, _) (.refl _)))))
end
section
/-- all stands, but for the slots of one object -/
structure Slt (L : Addr) (h h' : Heap) : Prop where
  other : ∀ b o, b ≠ L → h.get? b = some o → h'.get? b = some o
  slot : ∀ o, h.get? L = some o → ∃ sl, h'.get? L = some { o with slots := sl }
theorem Slt.of_ext {L : Addr} {h h' : Heap} (k : Ext h h') : Slt L h h' := ⟨fun b o _ e => k b o e, fun o e => ⟨o.slots, k _ o e⟩⟩
theorem Slt.trans {L : Addr} {h h' h'' : Heap} (x : Slt L h h') (y : Slt L h' h'') : Slt L h h'' :=
  ⟨fun b o hb e => y.other b o hb (x.other b o hb e), fun o e => by
    obtain ⟨sl, e1⟩ := x.slot o e
    obtain ⟨sl2, e2⟩ := y.slot _ e1
    exact ⟨sl2, e2⟩⟩
section
variable {w : World} {h₀ h h' : Heap} {env : Env} {m : Str → Option Value} {led : List (Addr × LV)}
theorem Heap.ns_slot {h h' : Heap} {a : Addr} {ml : Str → Option Value} (hn : h.Ns a ml) (e : ∀ o, h.get? a = some o → ∃ sl, h'.get? a = some { o with slots := sl }) : h'.Ns a ml := by
  obtain ⟨o, es, ep, x, hd, r⟩ := hn
  obtain ⟨sl, e1⟩ := e o x
  exact ⟨_, es, ep, e1, hd, r⟩
theorem Fm.offL (F : Fm w h₀ env m led h) : (∀ x c, env.cells.lookup x = some c → c ≠ env.locals) ∧ ∀ p ∈ led, p.1 ≠ env.locals := by
  obtain ⟨ml, ⟨o, es, ep, ho, hd, _⟩, _⟩ := F.toVw.ns
  refine ⟨fun x c hc q => ?_, fun p hp q => ?_⟩
  · obtain ⟨o', ho', hd'⟩ := F.toVw.cell x c hc
    rw [q, ho] at ho'; cases ho'; rw [hd] at hd'; cases hd'
  · obtain ⟨o', ho', hd'⟩ := (F.toVw.lst p hp).some
    rw [q, ho] at ho'; cases ho'; rw [hd] at hd'; cases hd'
theorem Fm.slots (F : Fm w h₀ env m led h) (k : Slt env.locals h h') : Fm w h₀ env m led h' := by
  obtain ⟨hC, hA⟩ := F.offL
  refine ⟨⟨F.toVw.base, fun b o e => k.other b o (fun q => by rw [q, F.newL] at e; cases e) (F.toVw.keep b o e), ?_, fun x c hc => ?_, fun p hp => ?_⟩, F.lap, F.newL, F.newC, F.cap, F.newA⟩
  · obtain ⟨ml, hn, hq⟩ := F.toVw.ns
    exact ⟨ml, Heap.ns_slot hn k.slot, hq⟩
  · obtain ⟨o, ho, hd⟩ := F.toVw.cell x c hc
    exact ⟨o, k.other c o (hC x c hc) ho, hd⟩
  · exact (F.toVw.lst p hp).at fun o e => k.other _ o (hA p hp) e
theorem Fm.turn' (F : Fm w h₀ env m led h) (P : Addr → Prop) (k : ∀ b o, ¬ P b → h.get? b = some o → h'.get? b = some o) (hP : ∀ b o, h₀.get? b = some o → ¬ P b) (hL : ¬ P env.locals)
    (hC : ∀ x c, env.cells.lookup x = some c → ¬ P c) (hA : ∀ p ∈ led, ¬ P p.1) : Fm w h₀ env m led h' := by
  refine ⟨⟨F.toVw.base, fun b o e => k b o (hP b o e) (F.toVw.keep b o e), ?_, fun x c hc => ?_, fun p hp => ?_⟩, F.lap, F.newL, F.newC, F.cap, F.newA⟩
  · obtain ⟨ml, hn, hq⟩ := F.toVw.ns
    exact ⟨ml, hn.at' fun o e => k _ o hL e, hq⟩
  · obtain ⟨o, ho, hd⟩ := F.toVw.cell x c hc
    exact ⟨o, k c o (hC x c hc) ho, hd⟩
  · exact (F.toVw.lst p hp).at fun o e => k _ o (hA p hp) e
/-- an address that is none of the frame's -/
structure Off (C : Addr) (h₀ : Heap) (env : Env) (led : List (Addr × LV)) : Prop where
  new : h₀.get? C = none
  l : env.locals ≠ C
  cell : ∀ x c, env.cells.lookup x = some c → c ≠ C
  led : ∀ p ∈ led, p.1 ≠ C
theorem Off.of {C : Addr} (F : Fm w h₀ env m led h) (hC : ∀ b o, h.get? b = some o → b ≠ C) : Off C h₀ env led := by
  refine ⟨?_, ?_, fun x c hc => ?_, fun p hp => ?_⟩
  · cases q : h₀.get? C with
    | none => rfl
    | some o => exact absurd rfl (hC _ _ (F.toVw.keep _ _ q))
  · obtain ⟨ml, ⟨o, es, ep, ho, hd, _⟩, _⟩ := F.toVw.ns
    exact hC _ _ ho
  · obtain ⟨o', ho', hd'⟩ := F.toVw.cell x c hc
    exact hC _ _ ho'
  · obtain ⟨o', ho', hd'⟩ := (F.toVw.lst p hp).some
    exact hC _ _ ho'
theorem Fm.off {C : Addr} (F : Fm w h₀ env m led h) (O : Off C h₀ env led) (k : ∀ b o, b ≠ C → h.get? b = some o → h'.get? b = some o) : Fm w h₀ env m led h' :=
  F.turn' (· = C) (fun b o hb e => k b o hb e) (fun b o e q => by rw [q, O.new] at e; cases e) O.l O.cell O.led
end
section
variable {prog : Program} {w : World} {A : Around} {E : Value → Shared → Prop} {s : Shared} {Q : Value → Shared → Prop} {h₀ : Heap} {L : Addr} {m : Str → Option Value} {led : List (Addr × LV)}
theorem law_frames (P : Params) (L : Addr) : [lawEnv P L].filterMap (·.frame) = [L] := rfl
theorem Fm.below (F : Fm w h₀ (lawEnv w.params L) m led s.heap) (hfr : A.frames = some [lawEnv w.params L]) : Below A h₀ [lawEnv w.params L] s.heap := by
  obtain ⟨ml, hn, _⟩ := F.toVw.ns
  exact ⟨hfr, F.toVw.keep, .cons (by have e : (lawEnv w.params L).scope.kind = .function := rfl; rw [e]; decide) rfl hn F.newL trivial⟩
theorem lr_F {x y z : Nat} {cs : List Nat} {tr : Tok} (F : Fm w h₀ (lawEnv w.params L) m led s.heap) (hh : A.handled = none) (hroom : A.depth + 2 < recursionLimit) (hu : A.units + 64 < cLine) (hfr : A.frames = some [lawEnv w.params L])
    (TB : ∃ p loose mean mg mb, Top p loose mean mg mb h₀) (hz : cs.length < 10000) (hne : ([x, y, z] != [50, 53, 55]) = true)
    (h : ∀ h' tk, Slt L s.heap h' → Q (.bool true) { s with heap := h', toks := tk }) : wpAny (model prog w) A (call (.ref 115) [.str (T (x :: y :: z :: cs)) tr]) Q E s := by
  obtain ⟨p, loose, mean, mg, mb, TB⟩ := TB
  have D : KtsDicts ([lawEnv w.params L].filterMap (·.frame)) s.heap := fun b hb => by
    obtain ⟨ml, ⟨o, es, ep, ho, hd, _⟩, _⟩ := F.toVw.ns
    rw [law_frames] at hb
    rw [List.mem_singleton.mp hb]
    exact ⟨o, _, _, ho, hd⟩
  refine wpAny_call (lr_call F.bs hh (by (first | lia | omega)) (by (first | lia | omega)) hz (F.below hfr) F.toVw.base.K TB D hne fun h' tk h1 h2 => h h' tk ⟨fun b o hb e => h1 b o e (by rw [law_frames]; simpa using hb), fun o e => h2 L o e (by rw [law_frames]; exact .head _)⟩)
end
end
section
section
variable {prog : Program} {w : World} {A : Around} {E : Value → Shared → Prop} {env : Env}
/-- a comprehension behind its source -/
def CompZ (prog : Program) (w : World) (A : Around) (E : Value → Shared → Prop) (env : Env) (scope : Scope) (cl : List (Str × Addr)) (e : Expr) (it : Value) (s₂ : Shared) (Q : Value → Shared → Prop) : Prop :=
  wpAny (model prog w) A (newList []) (fun acc s₃ => wpAny (model prog w) A (newFunctionEnv scope env.globals cl [] env.qual none .none (some env)) (fun cenv s₄ =>
    codeAny (model prog w) A (.compStart e 0 it acc { cenv with scope := relabel scope env }) (compPost (model prog w) A E none Q acc cenv.locals) s₄) E s₃) E s₂
theorem ListComp_Z {s : Shared} {elt iter : Expr} {x : Str} {px : Pos} {ifs : List Expr} {scope : Scope} {cl : List (Str × Addr)} {pos : Pos} {Q : Value → Shared → Prop}
    (hclos : closureFor scope env = pure cl) (hkind : scope.kind = .function)
    (hnames : (scope.names.all fun y => y.2 != .local || scope.names.lookup y.1 == some .local) = true) (hs : ∀ x, foldedSetIterable iter env x = pure x)
    (h : wpAny (model prog w) A (eval iter env) (fun xv s₁ => wpAny (model prog w) A (pyIter xv) (fun it s₂ => CompZ prog w A E env scope cl (.ListComp elt [⟨.Name x px, iter, ifs, 0⟩] scope pos) it s₂ Q) E s₁) E s) :
    wpAny (model prog w) A (eval (.ListComp elt [⟨.Name x px, iter, ifs, 0⟩] scope pos) env) Q E s := by
  rw [eval_ListComp]
  exact wpAny_comprehension_free (use := none) rfl hs hclos hkind (fun y hy e => by simpa [e] using List.all_eq_true.mp hnames y hy) h

/-- a comprehension over texts whose tests all fail, and may turn the slots of the frame's object -/
theorem compZ_F {s : Shared} {h₀ : Heap} {m : Str → Option Value} {led : List (Addr × LV)} {l I : Addr} {css : List (List Nat)} {elt iter : Expr} {x : Str} {px : Pos} {ifs : List Expr} {scope : Scope} {cl : List (Str × Addr)} {pos : Pos} {Q : Value → Shared → Prop}
    (F : Fm w h₀ env m ((I, .it l 0) :: led) s.heap) (hl : (l, .sl (css.map T)) ∈ led) (hn : css.length ≤ 1000) (hh : A.handled = none) (hcell : (scope.names.all fun y => y.2 != .cell) = true) (hkind : scope.kind = .function)
    (hx : scope.names.lookup x = some .local) (hcl : ClOk env scope cl)
    (te : ∀ C a t s₃ m₃ E', a ∈ css → Fm w h₀ env m led s₃.heap → Vw w s₃.heap (compEnvC scope cl C env) (inM (compEnvC scope cl C env) m₃ m) led s₃.heap → inM (compEnvC scope cl C env) m₃ m x = some (.str (T a) t) →
      wpAny (model prog w) A (forIn ifs true fun c r => if r = true then do let ok ← isTrue c (compEnvC scope cl C env) (eval c (compEnvC scope cl C env)); pure (ForInStep.yield ok) else pure (ForInStep.yield r))
        (fun ok s₄ => ok = false ∧ ∃ h' tk, s₄ = { s₃ with heap := h', toks := tk } ∧ Slt env.locals s₃.heap h') E' s₃)
    (fin : ∀ D h' tk, Fm w h₀ env m ((D, .vl []) :: led) h' → Q (.ref D) { s with heap := h', toks := tk }) :
    CompZ prog w A E env scope cl (.ListComp elt [⟨.Name x px, iter, ifs, 0⟩] scope pos) (.ref I) s Q := by
  refine listNew_F (v := .vl []) F (fun _ _ q => q) (Nat.zero_le _) fun D h₁ F1 => ?_
  have O : Off h₁.objs.size h₀ env ((D, .vl []) :: (I, .it l 0) :: led) := Off.of F1 fun b o e => Nat.ne_of_lt (Heap.lt_size e)
  refine wpAny_newFunctionEnv (fun y hy => by simpa using List.all_eq_true.mp hcell y hy) (by intro y hy; simp at hy) (fun h₂ hn₂ hs₂ => ?_) hkind
  dsimp only at hn₂ hs₂ ⊢
  have F2 : Fm w h₀ env m ((D, .vl []) :: (I, .it l 0) :: led) h₂ := F1.off O fun b o hb e => hs₂.extBut b o hb (Heap.get?_push_of_some _ e)
  have F2' := F2.swap
  generalize hC : h₁.objs.size = C at *
  clear hs₂ F1 F2
  have OI : I ≠ C := O.led (I, .it l 0) (.tail _ (.head _))
  have OD : D ≠ C := O.led (D, .vl []) (.head _)
  have O2 : ∀ i, Off C h₀ env ((I, .it l i) :: (D, .vl []) :: led) := fun i => ⟨O.new, O.l, O.cell, fun p hp => by
    rcases List.mem_cons.mp hp with rfl | hp
    · exact OI
    rcases List.mem_cons.mp hp with rfl | hp
    · exact OD
    exact O.led p (.tail _ (.tail _ hp))⟩
  have loop : ∀ s₃ : Shared, s₃ = { s with heap := h₂, toks := s.toks + ([] : List (Str × Value)).length } →
      codeAny (model prog w) A (.compLoop (.ListComp elt [⟨.Name x px, iter, ifs, 0⟩] scope pos) 0 (.ref I) (.ref D) (compEnvC scope cl C env)) (compPost (model prog w) A E none Q (.ref D) C) s₃ := by
    rintro s₃ rfl
    refine codeAny_compLoop_tests (fun k s' => ∃ i h' tk m', s' = { s with heap := h', toks := tk } ∧ i ≤ css.length ∧ Fm w h₀ env m ((I, .it l i) :: (D, .vl []) :: led) h' ∧ h'.Ns C m' ∧ k = css.length + 1 - i) ?_ (css.length + 1)
      ⟨0, h₂, _, _, rfl, Nat.zero_le _, F2', hn₂, rfl⟩
    rintro k s' ⟨i, h', tk, m', rfl, hi, F', hn', rfl⟩
    have hit : h'.IsListIter I l i := F'.toVw.lst _ (.head _)
    obtain ⟨vs, pv, iv⟩ : Holds h' l (.sl (css.map T)) := F'.toVw.lst (l, .sl (css.map T)) (.tail _ (.tail _ hl))
    have pr := strs_paired iv
    have hlen : vs.length = css.length := (Paired.length pr).symm
    cases hv : vs[i]? with
    | none =>
      have e : i = css.length := by
        have : vs.length ≤ i := by simpa using hv
        (first | lia | omega)
      refine wpAny_pyNext_list_end hh hit pv.isList (by simpa using hv) fun h₃ he₃ => ?_
      refine ⟨m', hn'.at' fun o e => he₃ _ o (Ne.symm OI) e, fun h₄ hs₄ => fin D h₄ _ ?_⟩
      have F3 := F'.lose he₃
      exact F3.off ⟨O.new, O.l, O.cell, fun p hp => (O2 0).led p (.tail _ hp)⟩ fun b o hb e => hs₄.extBut b o hb e
    | some v =>
      have hlt : i < css.length := by
        have := (List.getElem?_eq_some_iff.mp hv).1
        (first | lia | omega)
      have key : ∀ {as : List (List Nat)} {vs : List Value} (j : Nat) (v : Value), Paired KS as vs → vs[j]? = some v → ∃ a, as[j]? = some a ∧ KS a v := by
        intro as vs j v h
        induction h generalizing j with
        | nil => intro e; simp at e
        | cons h1 h2 ih =>
          intro e
          cases j with
          | zero => cases e; exact ⟨_, rfl, h1⟩
          | succ j => exact ih j (by simpa using e)
      obtain ⟨a, ha, t, rfl⟩ := key i v pr hv
      refine wpAny_pyNext_list_item hit pv.isList (x := .str (T a) t) (by simpa using hv) fun h₃ hit₃ hs₃ => ?_
      have F3 : Fm w h₀ env m ((I, .it l (i + 1)) :: (D, .vl []) :: led) h₃ := F'.set .head (fun b o hb e => hs₃.extBut b o hb e) hit₃
      have hn₃ : h₃.Ns C m' := hn'.at' fun o e => hs₃.extBut _ o (Ne.symm OI) e
      refine wpAny_assign_Name (wpAny_storeName_local (lookup_relabel_local hx) hn₃ (fun h₄ hn₄ hs₄ => ?_) (by simp [compEnvC, relabel, hkind]))
      have F4 := F3.off (O2 _) fun b o hb e => hs₄.extBut b o hb e
      have V := (comp_vw (scope := scope) (cl := cl) F4 (C := C) hn₄ (fun b o _ e => e) (hcl.ok C)).1
      have F5 : Fm w h₀ env m led h₄ := F4.drop (.cons (_, _) (.cons (_, _) (.refl _)))
      have V5 : Vw w h₄ (compEnvC scope cl C env) (inM (compEnvC scope cl C env) _ m) led h₄ := ⟨V.base, V.keep, V.ns, V.cell, fun p hp => V.lst p (.tail _ hp)⟩
      refine wpAny_mono (te C a t _ _ _ (List.mem_of_getElem? ha) F5 V5 (inM_local (lookup_relabel_local hx) (by simp))) (fun ok s₄ h => ?_) fun _ _ e => e
      obtain ⟨rfl, h₅, tk₅, rfl, k5⟩ := h
      rw [if_neg Bool.false_ne_true]
      exact ⟨css.length + 1 - (i + 1), by (first | lia | omega), i + 1, h₅, tk₅, _, rfl, hlt, F4.slots k5, hn₄.at' fun o e => k5.other _ o (Ne.symm O.l) e, rfl⟩
  exact codeAny_compStart_list (loop _ rfl) (wpAny_pyIter_listiter (F2'.toVw.lst _ (.head _)) (loop _ rfl))
end
end
section
theorem calm_L7 : True := by
  w_top off
  trivial
local macro_rules | `(tactic| walk_at "m:pad") => `(tactic| skip)
section
local macro_rules | `(tactic| walk_at "eval ListComp") => `(tactic| (refine' ListComp_Z ?hclos ?hkind ?hnames ?hs ?mn; (case hclos => exact rfl); (case hkind => exact rfl); (case hnames => exact rfl); (case hs => exact fun _ => rfl); (case' mn => skip)))
theorem law_5d {prog : Program} {w : World} {A : Around} {E : Value → Shared → Prop} {Q : Flow → Shared → Prop} {s : Shared} {h₀ : Heap} {L : Addr} {m : Str → Option Value} {led : List (Addr × LV)} {cs : List Nat} {tr : Tok}
    (F : Fm w h₀ (lawEnv w.params L) m led s.heap) (hh : A.handled = none) (hroom : A.depth + 2 < recursionLimit) (hu : A.units + 64 < cLine) (hfr : A.frames = some [lawEnv w.params L]) (TB : ∃ p loose mean mg mb, Top p loose mean mg mb h₀)
    (hr : m "reply" = some (.str (T (50 :: 53 :: 55 :: cs)) tr)) (hz : cs.length ≤ 9000)
    (K : ∀ h' tk, Fm w h₀ (lawEnv w.params L) m led h' → wpAny (model prog w) A (execs ((lawBody w.params).drop 18) (lawEnv w.params L)) Q E { s with heap := h', toks := tk }) :
    wpAny (model prog w) A (execs ((lawBody w.params).drop 17) (lawEnv w.params L)) Q E s := by
  rw [show (lawBody w.params).drop 17 = st w.params 17 :: (lawBody w.params).drop 18 from rfl]
  generalize (lawBody w.params).drop 18 = rest at *
  show wpAny _ _ (execs (Stmt.If _ _ _ _ :: rest) _) _ _ _
  walk_at "m:go"
  rename Fm _ _ _ _ _ _ => G
  refine iterL_F G (let ⟨_, p, _⟩ := (G.toVw.lst (_, _) (.head _) : Holds _ _ (.sl _)); ⟨_, p.isList⟩) fun I h' tk G2 => ?_
  refine compZ_F (css := [[49, 53, 55], [50, 52, 55], [50, 53, 50]]) G2 ?hl (Nat.le_of_ble_eq_true rfl) hh rfl rfl rfl (by walk_at "m:clok") ?te ?fin
  case hl => exact .head _
  case te =>
    intro C a t s₃ m₃ E' ha F5 V hm'
    clear G G2
    have hO := Opq.mk F5
    clear F5
    refine tests_one ?_
    walk_at "m:go"
    refine sub_T_sn (P := fun h => Fm w h₀ (lawEnv w.params L) m _ h ∧ Ext s₃.heap h) (i := 3) (out := cs) rfl ?hi ?hz rfl ?hk ⟨hO.out, fun _ _ e => e⟩ (fun h' t' tk' hP => ?_) ?hs ?ht
    case hi => simp only [List.length_cons]; (first | lia | omega)
    case hz => simp only [List.length_cons]; (first | lia | omega)
    case hk => exact fun h ob p => ⟨p.1.ext (ext_push h ob), fun b o e => ext_push h ob b o (p.2 b o e)⟩
    case hs => with_unfolding_all rfl
    case ht => intro _; with_unfolding_all rfl
    clear hO
    obtain ⟨F6, k6⟩ := hP
    have ha3 : a.length = 3 := by
      simp only [List.mem_cons, List.not_mem_nil, or_false] at ha
      rcases ha with rfl | rfl | rfl <;> rfl
    walk_at "m:go"
    have key : ∀ x y z t s' P, a = [x, y, z] → ([x, y, z] != [50, 53, 55]) = true → Fm w h₀ (lawEnv w.params L) m P s'.heap → ∀ Q : Value → Shared → Prop, (∀ h' tk, Slt L s'.heap h' → Q (.bool true) { s' with heap := h', toks := tk }) →
        wpAny (model prog w) A (call (Value.ref 115) [Value.str (T (a ++ cs)) t]) Q E' s' := fun x y z t s' P e h1 h2 Q h3 => by
      subst e
      exact lr_F (cs := cs) h2 hh hroom hu hfr TB (by (first | lia | omega)) h1 h3
    have key2 : ∀ t s' P, Fm w h₀ (lawEnv w.params L) m P s'.heap → ∀ Q : Value → Shared → Prop, (∀ h' tk, Slt L s'.heap h' → Q (.bool true) { s' with heap := h', toks := tk }) →
        wpAny (model prog w) A (call (Value.ref 115) [Value.str (T (a ++ cs)) t]) Q E' s' := fun t s' P h2 Q h3 => by
      simp only [List.mem_cons, List.not_mem_nil, or_false] at ha
      rcases ha with e | e | e
      · exact key _ _ _ t s' P e rfl h2 Q h3
      · exact key _ _ _ t s' P e rfl h2 Q h3
      · exact key _ _ _ t s' P e rfl h2 Q h3
    refine key2 _ _ _ F6 _ fun h8 tk8 k8 => ?_
    clear key key2
    walk_at "m:go"
    exact ⟨rfl, _, _, rfl, (Slt.of_ext k6).trans k8⟩
  case fin =>
    intro D h' tk G3
    clear G G2
    walk_at "m:go"
    rename Fm _ _ _ _ _ _ => G5
    refine neI_X (il_nil (G5.toVw.lst (_, _) (.tail _ (.head _)))) (il_nil (G5.toVw.lst (_, _) (.head _))) rfl hu ?_
    walk_at "m:go"
    exact K _ _ (G5.drop (.cons (_, _) (.cons (_, _) (.cons (_, _) (.refl _)))))
end
end
section
section
variable {prog : Program} {w : World} {A : Around} {E : Value → Shared → Prop} {s : Shared} {Q : Value → Shared → Prop} {a : Addr} {xs : List Int} {value slice : Expr}
/-- a slice between two bounds, whatever the frame -/
theorem slice_X {z y : Int} {k l : Nat} {t u : Tok} (hk : z = k) (hl : y = l) (hkl : k ≤ l) (hll : l ≤ xs.length) (ha : Holds s.heap a (.il xs)) (hz : xs.length ≤ 1000000)
    (h : ∀ D h' tk, Ext s.heap h' → s.heap.get? D = none → Holds h' D (.il ((xs.drop k).take (l - k))) → Q (.ref D) { s with heap := h', toks := tk })
    (hs : subscripted slice false (.ref a) (.ref s.heap.objs.size) = operate [.ref s.heap.objs.size, .ref a] (getItem (.ref a) (.ref s.heap.objs.size))) :
    wpAny (model prog w) A (subscriptTail value slice (.ref a) (.ref s.heap.objs.size)) Q E { s with heap := s.heap.push { cls := .type "slice", data := .fields #[.int z t, .int y u, .none] } } := by
  subst hk hl
  obtain ⟨vs, hv, i⟩ := ha
  obtain ⟨us, hu, iu⟩ := pick_run' k l hkl hll vs i
  refine subTail_go (Heap.IsList.typeIs (s := { s with heap := s.heap.push { cls := .type "slice", data := .fields #[.int k t, .int l u, .none] } }) (hv.isList.push _)) list_getitem_lookup
    (wpAny_getItem_list_slice (hv.isList.push _) (Heap.IsSliceOf.new ..) (.int _ _) (.int _ _) .none (by simp) ?_ (by rw [List.size_toArray, IntsAre.length i, sizeLine_eq]; (first | lia | omega))) hs
  show Q (.ref (s.heap.push _).objs.size) _
  rw [Heap.size_push, hu]
  have hg : ((s.heap.push { cls := .type "slice", data := .fields #[.int k t, .int l u, .none] }).push { cls := .type "list", data := .seq us.toArray }).get? (s.heap.objs.size + 1) = some { cls := .type "list", data := .seq us.toArray } := by
    have := Heap.get?_push_size (s.heap.push { cls := .type "slice", data := .fields #[.int k t, .int l u, .none] }) (o := { cls := .type "list", data := .seq us.toArray }) rfl
    rw [Heap.size_push] at this
    exact this
  exact h _ _ s.toks (ext2 s.heap _ _) (get_none_of_ge (Nat.le_succ _)) ⟨us, ⟨_, hg⟩, iu⟩

/-- a quiet comprehension over ints, seen from a view -/
theorem compI_V {env : Env} {m : Str → Option Value} {led : List (Addr × LV)} {l : Addr} {scope : Scope} {cl : List (Str × Addr)} {x : Str} {ifs : List Expr} {elt : Expr} {pz : Int → Bool} {G : Int → Value → Prop}
    (V : Vw w s.heap env m led s.heap) (hl : (l, .il xs) ∈ led) (hn : xs.length ≤ 1000000) (hh : A.handled = none) (hx : ∀ C, (compEnvC scope cl C env).kindOf x = some .local) (hcl : ClOk env scope cl)
    (ok : CompOk prog w A s.heap env m led scope cl x ifs elt KI xs pz G)
    (fin : ∀ D h' tk ys, Ext s.heap h' → s.heap.get? D = none → h'.PlainList D ys.toArray → Paired G (xs.filter pz) ys → Q (.ref D) { s with heap := h', toks := tk }) :
    wpAny (model prog w) A (pyIter (.ref l)) (fun it s₂ => CompGoal prog w A env scope cl x ifs elt it s₂ Q) E s := by
  obtain ⟨vs, pv, iv⟩ := V.lst _ hl
  refine wpAny_pyIter_list pv.isList ?_
  generalize hob : ({ cls := .type "list_iterator", data := .fields #[.ref l, .int 0 0] } : Obj) = ob
  have hlt : l < s.heap.objs.size := by obtain ⟨n, p⟩ := pv; exact Heap.lt_size p
  have hpr := ints_paired iv
  have hlen : vs.toArray.size = xs.length := by rw [List.size_toArray]; exact (Paired.length hpr).symm
  have key : ∀ {as : List Int} {vs : List Value} (j : Nat) (v : Value), Paired KI as vs → vs[j]? = some v → ∃ a, as[j]? = some a ∧ KI a v := by
    intro as vs j v h
    induction h generalizing j with
    | nil => intro e; simp at e
    | cons h1 h2 ih =>
      intro e
      cases j with
      | zero => cases e; exact ⟨_, rfl, h1⟩
      | succ j => exact ih j (by simpa using e)
  have old : ∀ (h₃ : Heap), (∀ b o, b ∉ [s.heap.objs.size] → (s.heap.push ob).get? b = some o → h₃.get? b = some o) → Ext s.heap h₃ := fun h₃ hk b o e =>
    hk b o (fun q => Nat.lt_irrefl _ ((List.mem_singleton.mp q) ▸ Heap.lt_size e)) (Heap.get?_push_of_some _ e)
  have view : ∀ (C : Addr) (m₃ : Str → Option Value) (h₃ : Heap), h₃.Ns C m₃ → Ext s.heap h₃ → Vw w h₃ (compEnvC scope cl C env) (inM (compEnvC scope cl C env) m₃ m) led h₃ := fun C m₃ h₃ hn₃ k => by
    have V' := V.ext k
    refine ⟨V.base.keeps k, fun _ _ e => e, ⟨m₃, hn₃, fun x hx => ?_⟩, fun x c hc => ?_, V'.lst⟩
    · unfold inM; rw [if_pos hx]
    · obtain ⟨h1, h2⟩ := hcl.ok C x c hc
      unfold inM; rw [if_neg h2]
      exact V'.cell x c h1
  refine ⟨pI pz, fun v y => ∃ a, KI a v ∧ G a y, s.heap.objs.size, [s.heap.objs.size, l], [s.heap.objs.size], vs.toArray.size, (fun i v => vs.toArray[i]? = some v), _, rfl,
    Walks.list (prog := prog) (w := w) hh s.heap.objs.size l (Nat.ne_of_lt hlt) vs.toArray, by rw [hlen, sizeLine_eq]; (first | lia | omega), ⟨⟨ob, Heap.get?_push_size _ (by rw [← hob]; rfl), by rw [← hob], by rw [← hob]; rfl⟩, pv.isList.push _⟩, fun b hb => ?_,
    ⟨fun C i v s₃ m₃ E' hC hPv hns hm hk htk => ?_, fun C i v s₃ m₃ E' hC hPv hpv hns hm hk htk => ?_⟩, fun D h' tk ys vs' hD hl' hpl hlen' hPv hF hk => ?_⟩
  · show b < (s.heap.push ob).objs.size
    rw [Heap.size_push]
    rcases List.mem_cons.mp hb with rfl | hb
    · exact Nat.lt_succ_self _
    · rw [List.mem_singleton.mp hb]; exact Nat.lt_succ_of_lt hlt
  · obtain ⟨a, ha, hK⟩ := key i v hpr (by simpa using hPv)
    have k := old _ hk
    refine wpAny_mono (ok.tests C a v s₃ m₃ E' (List.mem_of_getElem? ha) hK (view C m₃ _ hns k) k (inM_local (hx C) hm)) (fun okb s₄ h => ⟨h.1.trans (pI_ok a v hK).symm, h.2⟩) fun _ _ e => e
  · obtain ⟨a, ha, hK⟩ := key i v hpr (by simpa using hPv)
    have k := old _ hk
    refine wpAny_mono (ok.elt C a v s₃ m₃ E' (List.mem_of_getElem? ha) ((pI_ok a v hK).symm.trans hpv) hK (view C m₃ _ hns k) k (inM_local (hx C) hm)) (fun y s₄ h => ⟨⟨a, hK, h.1⟩, h.2⟩) fun _ _ e => e
  · refine fin D h' tk ys.toList (old _ hk) ?_ (by rw [Array.toArray_toList]; exact hpl) (paired_filter KI.inj pI_ok (Paired.of_idx (hlen'.trans hlen) fun j v hj => key j v hpr (by simpa using hPv j v hj)) hF)
    cases q : s.heap.get? D with
    | none => rfl
    | some o => rw [show (s.heap.push ob).get? D = some o from Heap.get?_push_of_some _ q] at hD; cases hD
end
section
variable {w : World} {h₀ h : Heap} {env : Env} {m : Str → Option Value} {led : List (Addr × LV)}
/-- all that is not the frame's own, nor set apart, is now old -/
theorem Fm.rebase2 (F : Fm w h₀ env m led h) (own : List Addr) (ho : ∀ b ∈ own, h₀.get? b = none) : ∃ h₁, Fm w h₁ env m led h ∧ Ext h₀ h₁ ∧ (∀ b ∈ own, h₁.get? b = none) ∧
    ∀ b o, b ≠ env.locals → (∀ x c, (x, c) ∈ env.cells → b ≠ c) → (∀ p ∈ led, b ≠ p.1) → b ∉ own → h.get? b = some o → h₁.get? b = some o := by
  let as := own ++ env.locals :: (env.cells.map (·.2) ++ led.map (·.1))
  have hin : ∀ b, b ∈ as → h₀.get? b = none := by
    intro b hb
    rcases List.mem_append.mp hb with hb | hb
    · exact ho b hb
    rcases List.mem_cons.mp hb with rfl | hb
    · exact F.newL
    rcases List.mem_append.mp hb with hb | hb
    · obtain ⟨p, hp, rfl⟩ := List.mem_map.mp hb; exact F.newC p.1 p.2 hp
    · obtain ⟨p, hp, rfl⟩ := List.mem_map.mp hb; exact F.newA p hp
  have k1 : Ext h₀ (hideAll h as) := fun b o e => hideAll_get _ (F.toVw.keep b o e) fun hm => by rw [hin b hm] at e; cases e
  refine ⟨hideAll h as, ⟨⟨F.toVw.base.keeps k1, fun b o e => of_hideAll _ e, F.toVw.ns, F.toVw.cell, F.toVw.lst⟩, F.lap, hideAll_none _ (List.mem_append_right _ (.head _)),
    fun x c hx => hideAll_none _ (List.mem_append_right _ (.tail _ (List.mem_append_left _ (List.mem_map_of_mem (f := (·.2)) hx)))), F.cap,
    fun p hp => hideAll_none _ (List.mem_append_right _ (.tail _ (List.mem_append_right _ (List.mem_map_of_mem (f := (·.1)) hp))))⟩, k1, fun b hb => hideAll_none _ (List.mem_append_left _ hb), fun b o h1 h2 h3 h4 e => hideAll_get _ e fun hm => ?_⟩
  rcases List.mem_append.mp hm with hm | hm
  · exact h4 hm
  rcases List.mem_cons.mp hm with rfl | hm
  · exact h1 rfl
  rcases List.mem_append.mp hm with hm | hm
  · obtain ⟨p, hp, e'⟩ := List.mem_map.mp hm; exact h2 p.1 p.2 hp e'.symm
  · obtain ⟨p, hp, e'⟩ := List.mem_map.mp hm; exact h3 p hp e'.symm
end
/-- a list, held elsewhere -/
def LR (h : Heap) (f : Int → List Int) (a : Int) (v : Value) : Prop := ∃ T, v = .ref T ∧ Holds h T (.il (f a))
theorem LR.ext {h h' : Heap} {f : Int → List Int} {a : Int} {v : Value} (x : LR h f a v) (k : Ext h h') : LR h' f a v := let ⟨T, e, q⟩ := x; ⟨T, e, q.ext k⟩
theorem paired_imp {α β : Type} {F G : α → β → Prop} (h : ∀ a b, F a b → G a b) : ∀ {l₁ : List α} {l₂ : List β}, Paired F l₁ l₂ → Paired G l₁ l₂
  | _, _, .nil => .nil
  | _, _, .cons a b => .cons (h _ _ a) (paired_imp h b)
/-- addresses of one's own, beside a frame -/
structure Apart (own : List Addr) (h₀ : Heap) (env : Env) (ks : List Addr) : Prop where
  new : ∀ C ∈ own, h₀.get? C = none
  l : env.locals ∉ own
  cell : ∀ x c, env.cells.lookup x = some c → c ∉ own
  led : ∀ k ∈ ks, k ∉ own
theorem Apart.of {w : World} {h₀ h : Heap} {env : Env} {m : Str → Option Value} {led : List (Addr × LV)} {own : List Addr} (F : Fm w h₀ env m led h) (hC : ∀ b o, h.get? b = some o → b ∉ own) : Apart own h₀ env (led.map (·.1)) := by
  refine ⟨fun C hc => ?_, ?_, fun x c hc => ?_, fun k hk => ?_⟩
  · cases q : h₀.get? C with
    | none => rfl
    | some o => exact absurd hc (hC _ _ (F.toVw.keep _ _ q))
  · obtain ⟨ml, ⟨o, es, ep, ho, hd, _⟩, _⟩ := F.toVw.ns
    exact hC _ _ ho
  · obtain ⟨o', ho', hd'⟩ := F.toVw.cell x c hc
    exact hC _ _ ho'
  · obtain ⟨p, hp, rfl⟩ := List.mem_map.mp hk
    obtain ⟨o', ho', hd'⟩ := (F.toVw.lst p hp).some
    exact hC _ _ ho'
theorem Fm.apart {w : World} {h₀ h h' : Heap} {env : Env} {m : Str → Option Value} {led : List (Addr × LV)} {own : List Addr} {ks : List Addr} (F : Fm w h₀ env m led h) (O : Apart own h₀ env ks) (hk : ∀ p ∈ led, p.1 ∈ ks)
    (k : ∀ b o, b ∉ own → h.get? b = some o → h'.get? b = some o) : Fm w h₀ env m led h' :=
  F.turn' (· ∈ own) k (fun b o e q => by rw [O.new b q] at e; cases e) O.l O.cell fun p hp => O.led _ (hk p hp)

/-- what an element's walk ends in: a value that GG tells of in any heap that has the new objects -/
def EltG (GG : Heap → Int → Value → Prop) (s₃ : Shared) (a : Int) (y : Value) (s₄ : Shared) : Prop := ∃ h' tk, s₄ = { s₃ with heap := h', toks := tk } ∧ Ext s₃.heap h' ∧ ∀ h₂, (∀ b o, s₃.heap.get? b = none → h'.get? b = some o → h₂.get? b = some o) → GG h₂ a y
section
variable {prog : Program} {w : World} {A : Around} {R : Result → Shared → Prop}
/-- the loop of a comprehension whose elements are new lists of ints; cenv is its frame, own what it stores into -/
theorem compO_loop {s : Shared} {h₀ : Heap} {env cenv : Env} {m : Str → Option Value} {led : List (Addr × LV)} {l I D : Addr} {xs : List Int} {elt iter : Expr} {x : Str} {px : Pos} {scope : Scope} {pos : Pos} {own : List Addr} (Ow : Heap → Prop) (Vx : Value → Heap → Prop) (GG : Heap → Int → Value → Prop) (hG : ∀ h h' a v, GG h a v → Ext h h' → GG h' a v)
    (hlive : ∀ h, Ow h → ∀ b ∈ own, ∃ o, h.get? b = some o) (hst : ∀ h h', Ow h → (∀ b ∈ own, ∀ o, h.get? b = some o → h'.get? b = some o) → Ow h')
    (has : ∀ (v : Value) (s : Shared) E (Q : Unit → Shared → Prop), Ow s.heap → (∀ h' tk, (∀ b o, b ∉ own → s.heap.get? b = some o → h'.get? b = some o) → Ow h' → Vx v h' → Q () { s with heap := h', toks := tk }) → wpAny (model prog w) A (assign (.Name x px) cenv v) Q E s)
    (F : Fm w h₀ env m ((I, .it l 0) :: (D, .vl []) :: led) s.heap) (O : Apart own h₀ env (I :: D :: led.map (·.1))) (hO : Ow s.heap) (hcl : ∀ x c, (x, c) ∈ env.cells → env.cells.lookup x = some c)
    (hl : (l, .il xs) ∈ led) (hn : xs.length ≤ 1000) (hh : A.handled = none)
    (el : ∀ a t s₃ E', a ∈ xs → Vw w s₃.heap env m led s₃.heap → Ow s₃.heap → Vx (.int a t) s₃.heap → wpAny (model prog w) A (eval elt cenv) (EltG GG s₃ a) E' s₃)
    (fin : ∀ h₁ h' tk vs, Fm w h₁ env m ((D, .vl vs) :: led) h' → Ext h₀ h₁ → Ow h' → Apart own h₁ env (D :: led.map (·.1)) → Paired (GG h₁) xs vs → R (.ok .next) { s with heap := h', toks := tk }) :
    codeAny (model prog w) A (.compLoop (.ListComp elt [⟨.Name x px, iter, [], 0⟩] scope pos) 0 (.ref I) (.ref D) cenv) R s := by
  refine codeAny_compLoop_tests (fun k s' => ∃ i h' tk h₁ vs, s' = { s with heap := h', toks := tk } ∧ i ≤ xs.length ∧ Ext h₀ h₁ ∧ Fm w h₁ env m ((I, .it l i) :: (D, .vl vs) :: led) h' ∧ Ow h' ∧ Apart own h₁ env (I :: D :: led.map (·.1)) ∧ Paired (GG h₁) (xs.take i) vs ∧ k = xs.length + 1 - i) ?_ (xs.length + 1)
    ⟨0, s.heap, s.toks, h₀, [], rfl, Nat.zero_le _, fun _ _ e => e, F, hO, O, .nil, rfl⟩
  rintro k s' ⟨i, h', tk, h₁, vs, rfl, hi, kx, F', hO', O', hP, rfl⟩
  have hit : h'.IsListIter I l i := F'.toVw.lst _ (.head _)
  obtain ⟨us, pv, iv⟩ : Holds h' l (.il xs) := F'.toVw.lst (l, .il xs) (.tail _ (.tail _ hl))
  have pr := ints_paired iv
  have hlen : us.length = xs.length := (Paired.length pr).symm
  have hks : ∀ (v v' : LV), ∀ p ∈ (I, v) :: (D, v') :: led, p.1 ∈ I :: D :: led.map (·.1) := fun v v' p hp => by
    rcases List.mem_cons.mp hp with rfl | hp
    · exact .head _
    rcases List.mem_cons.mp hp with rfl | hp
    · exact .tail _ (.head _)
    exact .tail _ (.tail _ (List.mem_map_of_mem hp))
  cases hv : us[i]? with
  | none =>
    have e : i = xs.length := by
      have : us.length ≤ i := by simpa using hv
      (first | lia | omega)
    refine wpAny_pyNext_list_end hh hit pv.isList (by simpa using hv) fun h₃ he₃ => ?_
    subst e
    rw [List.take_length] at hP
    exact fin h₁ h₃ _ vs (F'.lose he₃) kx (hst _ _ hO' fun b hb o e => he₃ b o (fun q => O'.led I (.head _) (q ▸ hb)) e) ⟨O'.new, O'.l, O'.cell, fun k hk => O'.led k (.tail _ hk)⟩ hP
  | some v =>
    have hlt : i < xs.length := by
      have := (List.getElem?_eq_some_iff.mp hv).1
      (first | lia | omega)
    have key : ∀ {as : List Int} {vs : List Value} (j : Nat) (v : Value), Paired KI as vs → vs[j]? = some v → ∃ a, as[j]? = some a ∧ KI a v := by
      intro as vs j v h
      induction h generalizing j with
      | nil => intro e; simp at e
      | cons h1 h2 ih =>
        intro e
        cases j with
        | zero => cases e; exact ⟨_, rfl, h1⟩
        | succ j => exact ih j (by simpa using e)
    obtain ⟨a, ha, t, rfl⟩ := key i v pr hv
    refine wpAny_pyNext_list_item hit pv.isList (x := .int a t) (by simpa using hv) fun h₃ hit₃ hs₃ => ?_
    have F3 : Fm w h₁ env m ((I, .it l (i + 1)) :: (D, .vl vs) :: led) h₃ := F'.set .head (fun b o hb e => hs₃.extBut b o hb e) hit₃
    have hO3 : Ow h₃ := hst _ _ hO' fun b hb o e => hs₃.extBut _ o (fun q => O'.led I (.head _) (q ▸ hb)) e
    refine has (.int a t) _ _ _ hO3 fun h₄ tk₄ k4 hO4 hV4 => ?_
    have F4 := F3.apart O' (hks _ _) k4
    have F5 : Fm w h₁ env m led h₄ := F4.drop (.cons (_, _) (.cons (_, _) (.refl _)))
    refine tests_nil ?_ _
    rw [if_pos rfl]
    refine wpAny_mono (el a t _ _ (List.mem_of_getElem? ha) ⟨F5.bs, fun _ _ e => e, F5.toVw.ns, F5.toVw.cell, F5.toVw.lst⟩ hO4 hV4) (fun y s₄ h => ?_) fun _ _ e => e
    obtain ⟨h₅, tk₅, rfl, k5, hh5⟩ := h
    dsimp only at hh5 k5
    have F6 := F4.ext k5
    have hO5 : Ow h₅ := hst _ _ hO4 fun b _ o e => k5 b o e
    have hpD : h₅.PlainList D vs.toArray := F6.toVw.lst (D, .vl vs) (.tail _ (.head _))
    have hvl : vs.length = i := by
      have := Paired.length hP
      rw [List.length_take] at this
      (first | lia | omega)
    refine append_raw (s := { heap := h₅, gens := s.gens, drawn := s.drawn, toks := tk₅, os := s.os }) (x := y) hpD (by (first | lia | omega)) fun h₆ hp₆ k6 => ?_
    dsimp only at k6
    have F7 : Fm w h₁ env m ((I, .it l (i + 1)) :: (D, .vl (vs ++ [y])) :: led) h₆ := F6.set (.tail .head) k6 hp₆
    have hO6 : Ow h₆ := hst _ _ hO5 fun b hb o e => k6 b o (fun q => O'.led D (.tail _ (.head _)) (q ▸ hb)) e
    obtain ⟨h₂, F8, kx2, hn2, old2⟩ := F7.rebase2 own O'.new
    refine ⟨xs.length + 1 - (i + 1), by (first | lia | omega), i + 1, h₆, _, h₂, vs ++ [y], rfl, hlt, fun b o e => kx2 b o (kx b o e), F8, hO6, ⟨hn2, O'.l, O'.cell, O'.led⟩, ?_, rfl⟩
    rw [List.take_add_one, ha]
    refine Paired.snoc (paired_imp (fun _ _ q => hG _ _ _ _ q kx2) hP) (hh5 _ fun b o hb e => ?_)
    have notT : ∀ c o, h₄.get? c = some o → b ≠ c := fun c o e q => by rw [q, e] at hb; cases hb
    have hbD : b ≠ D := by obtain ⟨n, p⟩ := (F4.toVw.lst (D, .vl vs) (.tail _ (.head _)) : h₄.PlainList D vs.toArray); exact notT D _ p
    refine old2 b o ?_ ?_ ?_ ?_ (k6 _ _ hbD e)
    · obtain ⟨ml, ⟨o, es, ep, ho, hd, _⟩, _⟩ := F4.toVw.ns
      exact notT _ _ ho
    · intro x c hx q
      obtain ⟨o', ho', hd'⟩ := F4.toVw.cell x c (hcl x c hx)
      exact notT _ _ ho' q
    · intro p hp q
      have hp' : p.1 ∈ ((I, LV.it l (i + 1)) :: (D, .vl vs) :: led).map (·.1) := by
        have := List.mem_map_of_mem (f := (·.1)) hp
        simpa using this
      obtain ⟨p', hp', e'⟩ := List.mem_map.mp hp'
      obtain ⟨o', ho', hd'⟩ := (F4.toVw.lst p' hp').some
      exact notT _ _ ho' (q.trans e'.symm)
    · intro q
      obtain ⟨o', ho'⟩ := hlive _ hO4 _ q
      exact notT _ _ ho' rfl
variable {E : Value → Shared → Prop}
/-- a comprehension over a list of ints, behind its source -/
theorem compG_1 {s : Shared} {h₀ : Heap} {env : Env} {m : Str → Option Value} {led : List (Addr × LV)} {l : Addr} {xs : List Int} {elt iter : Expr} {x : Str} {px : Pos} {scope : Scope} {cl : List (Str × Addr)} {pos : Pos} {RR : Value → Addr → Result → Shared → Prop} (GG : Heap → Int → Value → Prop) (hG : ∀ h h' a v, GG h a v → Ext h h' → GG h' a v)
    (F : Fm w h₀ env m led s.heap) (hl : (l, .il xs) ∈ led) (hn : xs.length ≤ 1000) (hh : A.handled = none) (hcell : (scope.names.all fun y => y.2 != .cell) = true) (hkind : scope.kind = .function)
    (hx : scope.names.lookup x = some .local) (hcl : ClOk env scope cl) (hcc : ∀ x c, (x, c) ∈ env.cells → env.cells.lookup x = some c)
    (el : ∀ C a t s₃ m₃ E', a ∈ xs → Vw w s₃.heap (compEnvC scope cl C env) (inM (compEnvC scope cl C env) m₃ m) led s₃.heap → inM (compEnvC scope cl C env) m₃ m x = some (.int a t) →
      wpAny (model prog w) A (eval elt (compEnvC scope cl C env)) (EltG GG s₃ a) E' s₃)
    (fin : ∀ D C h₁ h' tk vs m', Fm w h₁ env m ((D, .vl vs) :: led) h' → Ext h₀ h₁ → Paired (GG h₁) xs vs → h'.Ns C m' → Apart [C] h₁ env (D :: led.map (·.1)) → RR (.ref D) C (.ok .next) { s with heap := h', toks := tk }) :
    wpAny (model prog w) A (pyIter (.ref l)) (fun it s₂ => wpAny (model prog w) A (newList []) (fun acc s₃ => wpAny (model prog w) A (newFunctionEnv scope env.globals cl [] env.qual none .none (some env)) (fun cenv s₄ =>
      codeAny (model prog w) A (.compStart (.ListComp elt [⟨.Name x px, iter, [], 0⟩] scope pos) 0 it acc { cenv with scope := relabel scope env }) (RR acc cenv.locals) s₄) E s₃) E s₂) E s := by
  refine iterL_F F (let ⟨_, p, _⟩ := (F.toVw.lst _ hl : Holds _ _ (.il _)); ⟨_, p.isList⟩) fun I h0 tk0 F0 => ?_
  refine listNew_F (v := .vl []) F0 (fun _ _ q => q) (Nat.zero_le _) fun D h₁ F1 => ?_
  have O := Apart.of (own := [h₁.objs.size]) F1 fun b o e q => Nat.ne_of_lt (Heap.lt_size e) (List.mem_singleton.mp q)
  refine wpAny_newFunctionEnv (fun y hy => by simpa using List.all_eq_true.mp hcell y hy) (by intro y hy; simp at hy) (fun h₂ hn₂ hs₂ => ?_) hkind
  dsimp only at hn₂ hs₂ ⊢
  have F2 : Fm w h₀ env m ((D, .vl []) :: (I, .it l 0) :: led) h₂ := F1.apart O (fun p hp => List.mem_map_of_mem hp) fun b o hb e => hs₂.extBut b o (fun q => hb (List.mem_singleton.mpr q)) (Heap.get?_push_of_some _ e)
  have F2' := F2.swap
  generalize hC : h₁.objs.size = C at *
  have O2 : Apart [C] h₀ env (I :: D :: led.map (·.1)) := ⟨O.new, O.l, O.cell, fun k hk => O.led k (by
    rcases List.mem_cons.mp hk with rfl | hk
    · exact .tail _ (.head _)
    rcases List.mem_cons.mp hk with rfl | hk
    · exact .head _
    exact .tail _ (.tail _ hk))⟩
  have hxl : (compEnvC scope cl C env).kindOf x = some .local := lookup_relabel_local hx
  have loop : ∀ s₃ : Shared, s₃ = { s with heap := h₂, toks := tk0 + ([] : List (Str × Value)).length } →
      codeAny (model prog w) A (.compLoop (.ListComp elt [⟨.Name x px, iter, [], 0⟩] scope pos) 0 (.ref I) (.ref D) (compEnvC scope cl C env)) (RR (.ref D) C) s₃ := by
    rintro s₃ rfl
    refine compO_loop (own := [C]) (fun h => ∃ m', h.Ns C m') (fun v h => ∃ m', h.Ns C m' ∧ m' x = some v) GG hG (fun h hO b hb => ?_) (fun h h' hO k => ?_) (fun v s E Q hO k => ?_) F2' O2 ⟨_, hn₂⟩ hcc hl hn hh (fun a t s₃ E' ha V hO hV => ?_) fun h₁' h' tk vs F' kx hO hA hP => ?_
    · obtain ⟨m', ⟨o, es, ep, ho, hd, _⟩⟩ := hO
      exact ⟨o, (List.mem_singleton.mp hb) ▸ ho⟩
    · obtain ⟨m', hn'⟩ := hO
      exact ⟨m', hn'.at' fun o e => k C (.head _) o e⟩
    · obtain ⟨m', hn'⟩ := hO
      exact wpAny_assign_Name (wpAny_storeName_local hxl hn' (fun h₄ hn₄ hs₄ => k h₄ _ (fun b o hb e => hs₄.extBut b o (fun q => hb (List.mem_singleton.mpr q)) e) ⟨_, hn₄⟩ ⟨_, hn₄, by simp⟩) (by simp [compEnvC, relabel, hkind]))
    · obtain ⟨m₃, hn₃, hm₃⟩ := hV
      refine el C a t s₃ m₃ E' ha ⟨V.base, V.keep, ⟨m₃, hn₃, fun y hy => by unfold inM; rw [if_pos hy]⟩, fun y c hc => ?_, V.lst⟩ (inM_local hxl hm₃)
      obtain ⟨h1, h2⟩ := hcl.ok (cl0 := cl) C y c hc
      unfold inM; rw [if_neg h2]
      exact V.cell y c h1
    · obtain ⟨m', hn'⟩ := hO
      exact fin D C h₁' h' tk vs m' F' kx hP hn' hA
  exact codeAny_compStart_list (loop _ rfl) (wpAny_pyIter_listiter (F2'.toVw.lst _ (.head _)) (loop _ rfl))
theorem keys_in {D : Addr} {v : LV} {led : List (Addr × LV)} : ∀ p ∈ (D, v) :: led, p.1 ∈ D :: led.map (·.1) := fun p hp => by
  rcases List.mem_cons.mp hp with rfl | hp
  · exact .head _
  exact .tail _ (List.mem_map_of_mem hp)
theorem postN {s : Shared} {D C : Addr} {h₁ h' : Heap} {tk : Nat} {env : Env} {m m' : Str → Option Value} {led : List (Addr × LV)} {v : LV} {own : List Addr} {Q : Value → Shared → Prop} (F' : Fm w h₁ env m ((D, v) :: led) h') (hn' : h'.Ns C m') (hA : Apart own h₁ env (D :: led.map (·.1))) (hC : C ∈ own)
    (k : ∀ h'', Fm w h₁ env m ((D, v) :: led) h'' → Q (.ref D) { s with heap := h'', toks := tk }) : compPost (model prog w) A E none Q (.ref D) C (.ok .next) { s with heap := h', toks := tk } :=
  ⟨m', hn', fun h'' hs'' => k h'' (F'.apart hA keys_in fun b o hb e => hs''.extBut b o (fun q => hb (q ▸ hC)) e)⟩
theorem postU {s : Shared} {D C : Addr} {h₁ h' : Heap} {tk : Nat} {env : Env} {m m' : Str → Option Value} {led : List (Addr × LV)} {v : LV} {own : List Addr} {y : Str} {py : Pos} {Q : Value → Shared → Prop} (F' : Fm w h₁ env m ((D, v) :: led) h') (hn' : h'.Ns C m') (hA : Apart own h₁ env (D :: led.map (·.1))) (hC : C ∈ own)
    (hy : env.kindOf y = some .local) (hyc : env.cells.lookup y = none) (hp : (env.scope.kind == .class || (env.scope.kind == .module && env.locals != env.globals)) = false)
    (k : ∀ h'' tk, Fm w h₁ env (upd m y (.ref D)) ((D, v) :: led) h'' → Q .none { s with heap := h'', toks := tk }) : compPost (model prog w) A E (some (assign (.Name y py) env)) Q (.ref D) C (.ok .next) { s with heap := h', toks := tk } := by
  show wpAny _ A (assign (.Name y py) env (.ref D)) _ _ _
  obtain ⟨ml, hn, hq⟩ := F'.toVw.ns
  refine wpAny_assign_Name (wpAny_storeName_local hy hn (fun h₂ hn₂ hs₂ => ?_) hp)
  have F2 : Fm w h₁ env (upd m y (.ref D)) ((D, v) :: led) h₂ := F'.storeL hyc hs₂ hn₂ fun ml' hn' z => by
    have : ml' = ml := by
      obtain ⟨o, es, ep, ho, hd, _, hf⟩ := hn
      obtain ⟨o', es', ep', ho', hd', _, hf'⟩ := hn'
      rw [ho] at ho'; cases ho'; rw [hd] at hd'; cases hd'
      funext z; rw [← hf, ← hf']
    rw [this]
  have hCL : C ≠ env.locals := fun q => hA.l (q ▸ hC)
  exact ⟨m', hn'.at' fun o e => hs₂.extBut _ o hCL e, fun h₃ hs₃ => k h₃ _ (F2.apart hA keys_in fun b o hb e => hs₃.extBut b o (fun q => hb (q ▸ hC)) e)⟩
theorem Assign_ZU {s : Shared} {env : Env} {elt iter : Expr} {x y : Str} {px py : Pos} {ifs : List Expr} {scope : Scope} {cl : List (Str × Addr)} {pos spos : Pos} {Q : Flow → Shared → Prop}
    (hsw : swapsWith (.ListComp elt [⟨.Name x px, iter, ifs, 0⟩] scope pos) (some (.Name y py)) spos.line env = pure true)
    (hclos : closureFor scope env = pure cl) (hkind : scope.kind = .function)
    (hnames : (scope.names.all fun y => y.2 != .local || scope.names.lookup y.1 == some .local) = true) (hs : ∀ x, foldedSetIterable iter env x = pure x)
    (h : wpAny (model prog w) A (eval iter env) (fun xv s₁ => wpAny (model prog w) A (pyIter xv) (fun it s₂ => wpAny (model prog w) A (newList []) (fun acc s₃ => wpAny (model prog w) A (newFunctionEnv scope env.globals cl [] env.qual none .none (some env)) (fun cenv s₄ =>
      codeAny (model prog w) A (.compStart (.ListComp elt [⟨.Name x px, iter, ifs, 0⟩] scope pos) 0 it acc { cenv with scope := relabel scope env }) (compPost (model prog w) A E (some (assign (.Name y py) env)) (fun _ s' => Q .next s') acc cenv.locals) s₄) E s₃) E s₂) E s₁) E s) :
    wpAny (model prog w) A (exec (.Assign [.Name y py] (.ListComp elt [⟨.Name x px, iter, ifs, 0⟩] scope pos) spos) env) Q E s := by
  rw [exec_Assign_Name_used _ _ _ _ hsw]
  refine wpAny_bind (wpAny_standAt (wpAny_bind ?_))
  show wpAny _ A (do let _ ← comprehension (.ListComp elt [⟨.Name x px, iter, ifs, 0⟩] scope pos) scope env _ (newList []) false (eval iter env) (some (assign (.Name y py) env))) _ _ s
  exact wpAny_bind (wpAny_mono (wpAny_comprehension_free (use := some (assign (.Name y py) env)) (Q := fun _ s' => Q .next s') rfl hs hclos hkind (fun y hy e => by simpa [e] using List.all_eq_true.mp hnames y hy)
    h) (fun _ s' hq => wpAny_pure (wpAny_pure hq)) fun _ _ e => e)
end
end
section
/-- the frame of a comprehension whose variable is a cell -/
def compEnvX (scope : Scope) (cl : List (Str × Addr)) (C : Addr) (x : Str) (cx : Addr) (env : Env) : Env :=
  { scope := relabel scope env, locals := C, globals := env.globals, cells := (x, cx) :: cl, qual := env.qual, func := none, code := env.code, frame := env.frame, builtins := env.builtins }
section
variable {prog : Program} {w : World} {A : Around} {E : Value → Shared → Prop}
theorem newEnv_X {M : Model} {s : Shared} {env : Env} {scope : Scope} {cl : List (Str × Addr)} {x n0 n2 : Str} {k0 k2 : NameKind} {globals : Addr} {qual : Str} {Q : Env → Shared → Prop} (hnm : scope.names = [(n0, k0), (x, .cell), (n2, k2)]) (h0 : (k0 == .cell) = false) (h2 : (k2 == .cell) = false)
    (h : Q { scope := scope, locals := s.heap.objs.size, globals := globals, cells := (x, s.heap.objs.size + 1) :: cl, qual := qual, func := none, code := env.code, frame := env.frame, builtins := env.builtins }
      { s with heap := (s.heap.push { cls := .type "dict", data := .dict #[] }).push { cls := .type "cell", data := .cell none } }) :
    wpAny M A (newFunctionEnv scope globals cl [] qual none .none (some env)) Q E s := by
  unfold newFunctionEnv
  refine wpAny_bind (wpAny_alloc ?_)
  rw [hnm]
  simp only [List.forIn_cons, List.forIn_nil, h0, h2, Bool.false_eq_true, if_false, beq_self_eq_true, if_true]
  simp only [bind_assoc, pure_bind]
  refine wpAny_bind (wpAny_alloc ?_)
  refine wpAny_pure ?_
  have e : ({ s with heap := s.heap.push { cls := .type "dict", data := .dict #[] } } : Shared).heap.objs.size = s.heap.objs.size + 1 := Heap.size_push ..
  rw [← e] at h
  exact h

/-- the names inside it -/
def inX (env' : Env) (x : Str) (v : Value) (m₃ m : Str → Option Value) : Str → Option Value := fun y => if env'.kindOf y = some .local then m₃ y else if y = x then some v else m y
theorem compO_2 {s : Shared} {h₀ : Heap} {env : Env} {m : Str → Option Value} {led : List (Addr × LV)} {l : Addr} {xs : List Int} {elt iter : Expr} {x n0 n2 : Str} {k0 k2 : NameKind} {px : Pos} {scope : Scope} {cl : List (Str × Addr)} {pos : Pos} {Q : Value → Shared → Prop} (GG : Heap → Int → Value → Prop) (hG : ∀ h h' a v, GG h a v → Ext h h' → GG h' a v)
    (F : Fm w h₀ env m led s.heap) (hl : (l, .il xs) ∈ led) (hn : xs.length ≤ 1000) (hh : A.handled = none) (hnm : scope.names = [(n0, k0), (x, .cell), (n2, k2)]) (h0 : (k0 == .cell) = false) (h2 : (k2 == .cell) = false) (hkind : scope.kind = .function)
    (hxk : ∀ C cx, (compEnvX scope cl C x cx env).kindOf x = some .cell) (hcl : ClOk env scope cl) (hcx : ∀ c, (x, c) ∉ cl) (hcc : ∀ x c, (x, c) ∈ env.cells → env.cells.lookup x = some c)
    (el : ∀ C cx a t s₃ m₃ E', a ∈ xs → Vw w s₃.heap (compEnvX scope cl C x cx env) (inX (compEnvX scope cl C x cx env) x (.int a t) m₃ m) led s₃.heap →
      wpAny (model prog w) A (eval elt (compEnvX scope cl C x cx env)) (EltG GG s₃ a) E' s₃)
    (fin : ∀ D h₁ h' tk vs, Fm w h₁ env m ((D, .vl vs) :: led) h' → Ext h₀ h₁ → Paired (GG h₁) xs vs → Q (.ref D) { s with heap := h', toks := tk }) :
    wpAny (model prog w) A (pyIter (.ref l)) (fun it s₂ => CompZ prog w A E env scope cl (.ListComp elt [⟨.Name x px, iter, [], 0⟩] scope pos) it s₂ Q) E s := by
  refine iterL_F F (let ⟨_, p, _⟩ := (F.toVw.lst _ hl : Holds _ _ (.il _)); ⟨_, p.isList⟩) fun I h0' tk0 F0 => ?_
  refine listNew_F (v := .vl []) F0 (fun _ _ q => q) (Nat.zero_le _) fun D h₁ F1 => ?_
  have O := Apart.of (own := [h₁.objs.size, h₁.objs.size + 1]) F1 fun b o e q => by
    have := Heap.lt_size e
    rcases List.mem_cons.mp q with rfl | q
    · exact Nat.lt_irrefl _ this
    · rw [List.mem_singleton.mp q] at this; exact Nat.lt_irrefl _ (Nat.lt_of_succ_lt this)
  refine newEnv_X hnm h0 h2 ?_
  dsimp only
  have hn₂ : ((h₁.push { cls := .type "dict", data := .dict #[] }).push { cls := .type "cell", data := .cell none }).Ns h₁.objs.size (fun _ => none) := (Heap.Ns.new h₁ (.type "dict")).push _
  have hc₂ : ((h₁.push { cls := .type "dict", data := .dict #[] }).push { cls := .type "cell", data := .cell none }).IsCell (h₁.objs.size + 1) none := by
    have := Heap.get?_push_size (h₁.push { cls := .type "dict", data := .dict #[] }) (o := { cls := .type "cell", data := .cell none }) rfl
    rw [Heap.size_push] at this
    exact ⟨_, this, rfl⟩
  have F2 : Fm w h₀ env m ((D, .vl []) :: (I, .it l 0) :: led) ((h₁.push { cls := .type "dict", data := .dict #[] }).push { cls := .type "cell", data := .cell none }) := F1.ext (ext2 _ _ _)
  have F2' := F2.swap
  generalize (h₁.push { cls := .type "dict", data := .dict #[] }).push { cls := .type "cell", data := .cell none } = h₂ at *
  have hne : h₁.objs.size ≠ h₁.objs.size + 1 := Nat.ne_of_lt (Nat.lt_succ_self _)
  generalize h₁.objs.size + 1 = cx at *
  generalize h₁.objs.size = C at *
  have O2 : Apart [C, cx] h₀ env (I :: D :: led.map (·.1)) := ⟨O.new, O.l, O.cell, fun k hk => O.led k (by
    rcases List.mem_cons.mp hk with rfl | hk
    · exact .tail _ (.head _)
    rcases List.mem_cons.mp hk with rfl | hk
    · exact .head _
    exact .tail _ (.tail _ hk))⟩
  have notin : ∀ {b : Addr}, b ≠ C → b ≠ cx → b ∉ [C, cx] := fun h1 h2 q => by
    rcases List.mem_cons.mp q with e | q
    · exact h1 e
    · exact h2 (List.mem_singleton.mp q)
  have loop : ∀ s₃ : Shared, s₃ = { s with heap := h₂, toks := tk0 } →
      codeAny (model prog w) A (.compLoop (.ListComp elt [⟨.Name x px, iter, [], 0⟩] scope pos) 0 (.ref I) (.ref D) (compEnvX scope cl C x cx env)) (compPost (model prog w) A E none Q (.ref D) C) s₃ := by
    rintro s₃ rfl
    refine compO_loop (own := [C, cx]) (fun h => (∃ m', h.Ns C m') ∧ ∃ v, h.IsCell cx v) (fun v h => (∃ m', h.Ns C m') ∧ h.IsCell cx (some v)) GG hG (fun h hO b hb => ?_) (fun h h' hO k => ?_) (fun v s E Q hO k => ?_) F2' O2 ⟨⟨_, hn₂⟩, _, hc₂⟩ hcc hl hn hh (fun a t s₃ E' ha V hO hV => ?_) fun h₁' h' tk vs F' kx hO hA hP => ?_
    · obtain ⟨⟨m', ⟨o, es, ep, ho, hd, _⟩⟩, v, o2, ho2, _⟩ := hO
      rcases List.mem_cons.mp hb with rfl | hb
      · exact ⟨o, ho⟩
      · exact ⟨o2, (List.mem_singleton.mp hb) ▸ ho2⟩
    · obtain ⟨⟨m', hn'⟩, v, o2, ho2, hd2⟩ := hO
      exact ⟨⟨m', hn'.at' fun o e => k C (.head _) o e⟩, v, o2, k cx (.tail _ (.head _)) o2 ho2, hd2⟩
    · obtain ⟨⟨m', hn'⟩, v', hc'⟩ := hO
      have hlk : (compEnvX scope cl C x cx env).cells.lookup x = some cx := by show List.lookup x ((x, cx) :: cl) = _; simp
      refine wpAny_assign_Name (wpAny_storeName_cell hkind (hxk C cx) hlk hc' fun h₄ hv₄ hs₄ => ?_)
      have hn4 : h₄.Ns C m' := hn'.at' fun o e => hs₄.extBut C o hne e
      exact k h₄ _ (fun b o hb e => hs₄.extBut b o (fun q => hb (q ▸ .tail _ (.head _))) e) ⟨⟨_, hn4⟩, _, hv₄⟩ ⟨⟨_, hn4⟩, hv₄⟩
    · obtain ⟨⟨m₃, hn₃⟩, hm₃⟩ := hV
      refine el C cx a t s₃ m₃ E' ha ⟨V.base, V.keep, ⟨m₃, hn₃, fun y hy => by unfold inX; rw [if_pos hy]⟩, fun y c hc => ?_, V.lst⟩
      have hc' : List.lookup y ((x, cx) :: cl) = some c := hc
      rw [List.lookup_cons] at hc'
      cases e : y == x with
      | true =>
        rw [e] at hc'
        cases hc'
        have ex : y = x := beq_iff_eq.mp e
        have hk : (compEnvX scope cl C x cx env).kindOf y ≠ some .local := by rw [ex, hxk C cx]; decide
        unfold inX; rw [if_neg hk, if_pos ex]
        exact hm₃
      | false =>
        rw [e] at hc'
        have ex : y ≠ x := fun q => by rw [q] at e; simp at e
        obtain ⟨h1, h2'⟩ := hcl.ok (cl0 := cl) C y c hc'
        have hk : (compEnvX scope cl C x cx env).kindOf y ≠ some .local := h2'
        unfold inX; rw [if_neg hk, if_neg ex]
        exact V.cell y c h1
    · obtain ⟨⟨m', hn'⟩, _⟩ := hO
      exact ⟨m', hn', fun h'' hs'' => fin D h₁' h'' tk vs (F'.apart hA (fun p hp => by
        rcases List.mem_cons.mp hp with rfl | hp
        · exact .head _
        exact .tail _ (List.mem_map_of_mem hp)) fun b o hb e => hs''.extBut b o (fun q => hb (q ▸ .head _)) e) kx hP⟩
  exact codeAny_compStart_list (loop _ rfl) (wpAny_pyIter_listiter (F2'.toVw.lst _ (.head _)) (loop _ rfl))
/-- a new list as an element -/
theorem eltL {s₃ : Shared} {f : Int → List Int} {a : Int} {T : Addr} {h' : Heap} {tk : Nat} (hT : s₃.heap.get? T = none) (k : Ext s₃.heap h') (hh : Holds h' T (.il (f a))) : EltG (fun h a v => LR h f a v) s₃ a (.ref T) { s₃ with heap := h', toks := tk } :=
  ⟨h', tk, rfl, k, fun h₂ k2 => ⟨T, rfl, hh.at fun o e => k2 T o hT e⟩⟩
theorem eltV {s₃ : Shared} {G : Int → Value → Prop} {a : Int} {y : Value} {h' : Heap} {tk : Nat} (k : Ext s₃.heap h') (hg : G a y) : EltG (fun _ => G) s₃ a y { s₃ with heap := h', toks := tk } := ⟨h', tk, rfl, k, fun _ _ => hg⟩
/-- reads of lists of lists -/
theorem rd_lists {h : Heap} {D : Addr} {f : Int → List Int} : ∀ {xs : List Int} {vs : List Value}, Paired (LR h f) xs vs → ∃ as, ReadsAll h vs (xs.map fun a => PyData.list ((f a).map PyData.int)) as
  | _, _, .nil => ⟨_, .nil⟩
  | _, _, .cons ⟨T, e, q⟩ r => by
    subst e
    obtain ⟨as, h2⟩ := rd_lists (D := D) r
    obtain ⟨us, p, i⟩ := q
    exact ⟨_, .cons (reads_newData p.isList (ke_carried i)) h2⟩
theorem rd_lists' {h : Heap} {D : Addr} {f : Int → List Int} {xs : List Int} {vs : List Value} (hp : h.PlainList D vs.toArray) (hP : Paired (LR h f) xs vs) : ∃ as, Reads h (.ref D) (.list (xs.map fun a => PyData.list ((f a).map PyData.int))) as := by
  obtain ⟨as, h2⟩ := rd_lists (D := D) hP
  obtain ⟨n, p⟩ := hp
  exact ⟨_, .list p rfl rfl (by simpa using h2)⟩
theorem neL_X {s : Shared} {Q : Value → Shared → Prop} {a b : Addr} {f g : Int → List Int} {xs : List Int} {us vs : List Value} (ha : s.heap.PlainList a us.toArray) (hb : s.heap.PlainList b vs.toArray) (pa : Paired (LR s.heap f) xs us) (pb : Paired (LR s.heap g) xs vs) (e : ∀ x ∈ xs, f x = g x)
    (hu : A.units + 64 < cLine) (h : Q (.bool false) s) : wpAny (model prog w) A (compareOp .NotEq (.ref a) (.ref b)) Q E s := by
  obtain ⟨as, ra⟩ := rd_lists' ha pa
  obtain ⟨bs, rb⟩ := rd_lists' hb pb
  have e2 : (xs.map fun a => PyData.list ((f a).map PyData.int)) = xs.map fun a => PyData.list ((g a).map PyData.int) := List.map_congr_left fun x hx => by rw [e x hx]
  rw [e2] at ra
  have hp := pd_lists (xs.map g)
  rw [List.map_map] at hp
  exact ne_same ra rb hp hu h
end
end
section
theorem blN_zero {p : Int} {xs : List Int} (h : ∀ x ∈ xs, p ≤ x) : blN p xs = 0 := List.countP_eq_zero.mpr fun x hx => by have := h x hx; simp; (first | lia | omega)
theorem brN_zero {p : Int} {xs : List Int} (h : ∀ x ∈ xs, p < x) : brN p xs = 0 := List.countP_eq_zero.mpr fun x hx => by have := h x hx; simp; (first | lia | omega)
theorem blN_le_br (p : Int) (xs : List Int) : blN p xs ≤ brN p xs := List.countP_mono_left fun x _ h => by simp at *; (first | lia | omega)
theorem brN_le (p : Int) (xs : List Int) : brN p xs ≤ xs.length := List.countP_le_length
theorem blN_le (p : Int) (xs : List Int) : blN p xs ≤ xs.length := List.countP_le_length
theorem sorted_slice (p : Int) : ∀ xs : List Int, xs.Pairwise (· ≤ ·) → (xs.drop (blN p xs)).take (brN p xs - blN p xs) = xs.filter (· == p)
  | [], _ => by simp
  | y :: r, h => by
    obtain ⟨h1, h2⟩ := List.pairwise_cons.mp h
    have ih := sorted_slice p r h2
    rcases Int.lt_trichotomy y p with q | q | q
    · have e1 : blN p (y :: r) = blN p r + 1 := List.countP_cons_of_pos (by simpa using q)
      have e2 : brN p (y :: r) = brN p r + 1 := List.countP_cons_of_pos (by simp; (first | lia | omega))
      rw [e1, e2, List.drop_succ_cons, Nat.add_sub_add_right, ih, List.filter_cons_of_neg (by simp; (first | lia | omega))]
    · have e0 : blN p r = 0 := blN_zero fun x hx => by have := h1 x hx; (first | lia | omega)
      have e1 : blN p (y :: r) = 0 := blN_zero fun x hx => by
        rcases List.mem_cons.mp hx with rfl | hx
        · (first | lia | omega)
        · have := h1 x hx; (first | lia | omega)
      have e2 : brN p (y :: r) = brN p r + 1 := List.countP_cons_of_pos (by simp; (first | lia | omega))
      rw [e0, List.drop_zero, Nat.sub_zero] at ih
      rw [e1, e2, List.drop_zero, Nat.sub_zero, List.take_succ_cons, ih, List.filter_cons_of_pos (by simp; (first | lia | omega))]
    · have e1 : blN p (y :: r) = 0 := blN_zero fun x hx => by
        rcases List.mem_cons.mp hx with rfl | hx
        · (first | lia | omega)
        · have := h1 x hx; (first | lia | omega)
      have e2 : brN p (y :: r) = 0 := brN_zero fun x hx => by
        rcases List.mem_cons.mp hx with rfl | hx
        · (first | lia | omega)
        · have := h1 x hx; (first | lia | omega)
      rw [e1, e2, List.drop_zero, Nat.sub_zero, List.take_zero]
      refine (List.filter_eq_nil_iff.mpr fun x hx => ?_).symm
      rcases List.mem_cons.mp hx with rfl | hx
      · simp; (first | lia | omega)
      · have := h1 x hx; simp; (first | lia | omega)
theorem lookup_of_nodup {α : Type} : ∀ (l : List (Str × α)), (l.map (·.1)).Nodup → ∀ x c, (x, c) ∈ l → l.lookup x = some c
  | [], _, _, _, h => nomatch h
  | (y, d) :: r, hn, x, c, h => by
    obtain ⟨h1, h2⟩ := List.nodup_cons.mp hn
    rw [List.lookup_cons]
    rcases List.mem_cons.mp h with e | h'
    · cases e; simp
    · have hne : (x == y) = false := by
        rw [beq_eq_false_iff_ne]
        intro q
        exact h1 (q ▸ List.mem_map_of_mem (f := (·.1)) h')
      rw [hne]
      exact lookup_of_nodup r h2 x c h'
theorem law_cells (P : Params) (L : Addr) : ∀ x c, (x, c) ∈ (lawEnv P L).cells → (lawEnv P L).cells.lookup x = some c :=
  lookup_of_nodup _ (of_decide_eq_true (by kernel_rfl))
section
variable {prog : Program} {w : World} {A : Around} {E : Value → Shared → Prop} {s : Shared} {Q : Value → Shared → Prop} {h₀ : Heap} {env : Env} {m : Str → Option Value} {led led' : List (Addr × LV)} {l : Addr}
theorem item_V {value slice : Expr} {k : Int} {u : Tok} {vs : List Value} {v : Value} (hl : s.heap.PlainList l vs.toArray) (h0 : 0 ≤ k) (hk : vs[k.toNat]? = some v) (hz : vs.length ≤ 1000000) (h : Q v s)
    (hs : subscripted slice false (.ref l) (.int k u) = operate [.ref l, .int k u] (getItem (.ref l) (.int k u))) :
    wpAny (model prog w) A (subscriptTail value slice (.ref l) (.int k u)) Q E s := by
  have hlt := (List.getElem?_eq_some_iff.mp hk).1
  exact subscriptTail_builtinR hl.isList.typeIs slot_list_getitem.lookup (wpAny_getItem_list (Q := fun r s' => r = v ∧ Q r s') hl.isList h0 (by (first | lia | omega)) (by simpa using hk) ⟨rfl, h⟩) hs
end
end
local macro_rules | `(tactic| walk_at "m:zu") => `(tactic| (refine' Assign_ZU ?hsw ?hclos ?hkind ?hnames ?hs ?mn; (case hsw => exact rfl); (case hclos => exact rfl); (case hkind => exact rfl); (case hnames => exact rfl); (case hs => exact fun _ => rfl); (case' mn => skip)))
section
theorem calm_L8 : True := by
  w_top off
  trivial
local macro_rules | `(tactic| walk_at "m:pad") => `(tactic| skip)
local macro_rules | `(tactic| walk_at "m:pad") => `(tactic| skip)
section
local macro_rules | `(tactic| walk_at "eval ListComp") => `(tactic| (refine' ListComp_Z ?hclos ?hkind ?hnames ?hs ?mn; (case hclos => exact rfl); (case hkind => exact rfl); (case hnames => exact rfl); (case hs => exact fun _ => rfl); (case' mn => skip)))
theorem law_6a {prog : Program} {w : World} {A : Around} {E : Value → Shared → Prop} {Q : Flow → Shared → Prop} {s : Shared} {h₀ : Heap} {L ln lm : Addr} {m : Str → Option Value} {led : List (Addr × LV)} {ns M : List Int}
    (F : Fm w h₀ (lawEnv w.params L) m ((ln, .il ns) :: (lm, .il M) :: led) s.heap) (hh : A.handled = none) (hroom : A.depth + 2 < recursionLimit) (hu : A.units + 64 < cLine) (hs : ns.Pairwise (· ≤ ·)) (hl1 : ns.length ≤ 100) (hl2 : M.length ≤ 100)
    (hn : m "noughts" = some (.ref ln)) (hm : m "marked" = some (.ref lm))
    (K : ∀ h' tk D, Fm w h₀ (lawEnv w.params L) (upd m "alike" (.ref D)) ((ln, .il ns) :: (lm, .il M) :: led) h' → wpAny (model prog w) A (execs ((lawBody w.params).drop 20) (lawEnv w.params L)) Q E { s with heap := h', toks := tk }) :
    wpAny (model prog w) A (execs ((lawBody w.params).drop 18) (lawEnv w.params L)) Q E s := by
  have hbase := F.toVw.base
  rw [show (lawBody w.params).drop 18 = st w.params 18 :: st w.params 19 :: (lawBody w.params).drop 20 from rfl]
  generalize (lawBody w.params).drop 20 = rest at *
  show wpAny _ _ (execs (Stmt.Assign _ _ _ :: Stmt.If _ _ _ _ :: rest) _) _ _ _
  walk_at "m:go"
  walk_at "m:zu"
  walk_at "m:go"
  rename Fm _ _ _ _ _ _ => G
  refine compG_1 (fun h a v => LR h (fun p => (ns.drop (blN p ns)).take (brN p ns - blN p ns)) a v) (fun _ _ _ _ q k => q.ext k) G (.tail _ (.head _)) (by (first | lia | omega)) hh rfl rfl rfl (by walk_at "m:clok") (law_cells _ _) ?el ?fin
  case el =>
    intro C a t s₃ m₃ E' ha V hm'
    clear G
    walk_at "m:go"
    refine bl_X V.bs (V.lst (_, _) (.head _)) hroom (by (first | lia | omega)) hs fun v h' tk kE => ?_
    have V2 := V.ext kE
    walk_at "m:go"
    refine br_X V2.bs (V2.lst (_, _) (.head _)) hroom (by (first | lia | omega)) hs fun v2 h2 tk2 kE2 => ?_
    have V3 := V2.ext kE2
    have kk : Ext s₃.heap h2 := fun b o e => kE2 b o (kE b o e)
    walk_at "m:go"
    refine slice_X rfl rfl (blN_le_br _ _) (brN_le _ _) (V3.lst (_, _) (.head _)) (by (first | lia | omega)) (fun D h3 tk3 k3 hD hH => ?_) ?hs
    case hs => with_unfolding_all rfl
    exact eltL (none_of_ext kk hD) (fun b o e => k3 b o (kk b o e)) hH
  case fin =>
    intro D C h₁ h' tk vs m' G3 kx hP hn' hA
    clear G
    refine postU G3 hn' hA (.head _) rfl rfl rfl fun h2 tk2 G4 => ?_
    clear G3
    walk_at "m:go"
    refine compO_2 (fun h a v => LR h (fun p => ns.filter (· == p)) a v) (fun _ _ _ _ q k => q.ext k) G4 (.tail _ (.tail _ (.head _))) (by (first | lia | omega)) hh rfl rfl rfl rfl (fun _ _ => rfl) (by walk_at "m:clok") ?hcx (law_cells _ _) ?el2 ?fin2
    case hcx => intro c hc; simp at hc; exact absurd hc.1 (by decide)
    case el2 =>
      intro C cx a t s₃ m₃ E' ha V
      clear G4
      refine' ListComp_M ?hclos ?hcell ?hkind ?hnames ?hx ?mn ?hs
      case hclos => exact rfl
      case hcell => exact rfl
      case hkind => exact rfl
      case hnames => exact rfl
      case hx => exact rfl
      case hs => exact fun _ => rfl
      walk_at "m:go"
      refine compI_V (pz := fun z => z == a) (G := KI) V (.tail _ (.head _)) (by (first | lia | omega)) hh (fun _ => rfl) (by walk_at "m:clok") ⟨?te, ?el3⟩ ?fin3
      case te =>
        intro C2 z v s₄ m₄ E2 hz hK V4 kx4 hm4
        obtain ⟨t4, rfl⟩ := hK
        clear V
        refine tests_one ?_
        walk_at "m:go"
        exact ⟨rfl, Keeps.rfl' _⟩
      case el3 =>
        intro C2 z v s₄ m₄ E2 hz hp hK V4 kx4 hm4
        obtain ⟨t4, rfl⟩ := hK
        clear V
        walk_at "m:go"
        exact ⟨⟨_, rfl⟩, Keeps.rfl' _⟩
      case fin3 =>
        intro D3 h4 tk4 ys k4 hD3 hp3 hP3
        refine eltL (f := fun p => ns.filter (· == p)) hD3 k4 ⟨ys, hp3, ?_⟩
        have := paired_ints' (f := fun z => z) (fun _ _ _ h => h) hP3
        rwa [List.map_id'] at this
    case fin2 =>
      intro D2 h₂ h3 tk3 us G5 kx2 hP2
      clear G4
      have hP' := paired_imp (fun _ _ q => LR.ext q kx2) hP
      refine neL_X (G5.toVw.lst (_, _) (.tail _ (.head _))) (G5.toVw.lst (_, _) (.head _)) (paired_imp (fun _ _ q => LR.ext q G5.toVw.keep) hP') (paired_imp (fun _ _ q => LR.ext q G5.toVw.keep) hP2) (fun x _ => sorted_slice x ns hs) hu ?_
      walk_at "m:go"
      exact K _ _ _ ((G5.drop (.cons (_, _) (.cons (_, _) (.refl _)))).under hbase fun b o e => kx2 b o (kx b o e))
end
end
section
theorem calm_L9 : True := by
  w_top off
  trivial
section
theorem flat_rep (b : Bool) : ∀ n, (List.replicate n [Value.bool b]).flatten = (List.replicate n b).map Value.bool
  | 0 => rfl
  | n + 1 => by rw [List.replicate_succ, List.replicate_succ, List.flatten_cons, flat_rep b n]; rfl
theorem map_rep (b : Bool) : ∀ P : List Int, (P.map fun _ => Value.bool b) = (List.replicate P.length b).map Value.bool
  | [] => rfl
  | _ :: r => by rw [List.map_cons, map_rep b r]; rfl
theorem law_6b {prog : Program} {w : World} {A : Around} {E : Value → Shared → Prop} {Q : Flow → Shared → Prop} {s : Shared} {h₀ : Heap} {L ln lp : Addr} {m : Str → Option Value} {led : List (Addr × LV)} {ns P : List Int} {b0 : Bool}
    (F : Fm w h₀ (lawEnv w.params L) m ((ln, .il ns) :: (lp, .il P) :: led) s.heap) (hh : A.handled = none) (hroom : A.depth + 2 < recursionLimit) (hu : A.units + 64 < cLine) (hl1 : ns.length ≤ 100) (hl2 : P.length ≤ 100) (hl3 : 1 ≤ P.length)
    (hb1 : ∀ x ∈ ns, 0 ≤ x ∧ x < 1000) (hb2 : ∀ x ∈ P, 0 ≤ x ∧ x < 1000) (hside : ∀ p ∈ P, decide (prodZ ns p > 0) = b0)
    (hn : m "noughts" = some (.ref ln)) (hp : m "plain" = some (.ref lp))
    (K : ∀ h' tk D, Fm w h₀ (lawEnv w.params L) (upd m "sides" (.ref D)) ((ln, .il ns) :: (lp, .il P) :: led) h' → wpAny (model prog w) A (execs ((lawBody w.params).drop 22) (lawEnv w.params L)) Q E { s with heap := h', toks := tk }) :
    wpAny (model prog w) A (execs ((lawBody w.params).drop 20) (lawEnv w.params L)) Q E s := by
  have hbase := F.toVw.base
  rw [show (lawBody w.params).drop 20 = st w.params 20 :: st w.params 21 :: (lawBody w.params).drop 22 from rfl]
  generalize (lawBody w.params).drop 22 = rest at *
  show wpAny _ _ (execs (Stmt.Assign _ _ _ :: Stmt.If _ _ _ _ :: rest) _) _ _ _
  walk_at "m:go"
  walk_at "m:zu"
  walk_at "m:go"
  rename Fm _ _ _ _ _ _ => G
  refine compG_1 (fun _ a v => v = Value.bool (decide (prodZ ns a > 0))) (fun _ _ _ _ q k => q) G (.tail _ (.head _)) (by (first | lia | omega)) hh rfl rfl rfl (by walk_at "m:clok") (law_cells _ _) ?el ?fin
  case el =>
    intro C a t s₃ m₃ E' ha V hm'
    clear G
    have ha2 := hb2 a ha
    walk_at "m:go"
    refine lp_X V.bs hh (V.lst (_, _) (.head _)) hroom ?hbb fun v h' tk kE => ?_
    case hbb =>
      intro y hy
      have := hb1 y hy
      (first | lia | omega)
    walk_at "m:go"
    exact eltV (G := fun a v => v = Value.bool (decide (prodZ ns a > 0))) kE rfl
  case fin =>
    intro D C h₁ h' tk vs m' G3 kx hP hn' hA
    clear G
    refine postU G3 hn' hA (.head _) rfl rfl rfl fun h2 tk2 G4 => ?_
    clear G3
    have hvs : vs = P.map fun _ => Value.bool b0 := by
      have key : ∀ {xs : List Int} {vs : List Value}, (∀ p ∈ xs, decide (prodZ ns p > 0) = b0) → Paired (fun a v => v = Value.bool (decide (prodZ ns a > 0))) xs vs → vs = xs.map fun _ => Value.bool b0 := by
        intro xs vs hx h
        induction h with
        | nil => rfl
        | cons h1 h2 ih => rw [h1, ih fun p hp => hx p (.tail _ hp), hx _ (.head _)]; rfl
      exact key hside hP
    subst hvs
    clear hP
    have h0 : (P.map fun _ => Value.bool b0)[(0 : Int).toNat]? = some (Value.bool b0) := by
      cases P with
      | nil => simp at hl3
      | cons a r => rfl
    have e2 : (P.map fun _ => Value.bool b0) = (List.replicate P.length b0).map Value.bool := map_rep b0 P
    walk_at "m:go"
    refine item_V (G4.toVw.lst (_, _) (.head _)) (Int.le_refl _) h0 (by rw [List.length_map]; (first | lia | omega)) ?_ ?hs
    case hs => with_unfolding_all rfl
    walk_at "m:go"
    rename Fm _ _ _ _ _ _ => G5
    refine mulV_F (vs := [Value.bool b0]) (n := P.length) rfl G5 (G5.toVw.lst (_, _) (.head _)) (by simp only [List.length_cons, List.length_nil]; (first | lia | omega)) (by simp) fun D2 h3 tk3 hF => ?_
    have G6 := hF (.vl ((List.replicate P.length b0).map Value.bool)) fun h a q => by
      rw [show (List.replicate P.length [Value.bool b0]).flatten = (List.replicate P.length b0).map Value.bool from flat_rep b0 _] at q
      exact q
    clear G5 hF
    rw [e2] at G6
    refine neB_X (G6.toVw.lst (_, _) (.tail _ (.tail _ (.head _)))) (G6.toVw.lst (_, _) (.head _)) rfl hu ?_
    walk_at "m:go"
    exact K _ _ _ ((G6.drop (.cons (_, _) (.cons (_, _) (.cons (_, _) (.refl _))))).under hbase kx)
end
end
section
theorem KS.of {cs ds : List Nat} {t : Tok} (e : cs = ds) : KS cs (.str (T ds) t) := ⟨t, by rw [e]⟩
theorem KI.of {a b : Int} {t : Tok} (e : a = b) : KI a (.int b t) := ⟨t, by rw [e]⟩
/-- what mail has for a letter -/
def pcOf (P : List Int) (i : Nat) : List Nat :=
  if P.getD i 0 % 3 = 0 then [ah.getD i 0] else if P.getD i 0 % 3 = 1 then [92, 34] ++ [ah.getD i 0] else [ah.getD i 0] ++ [92, 92]
def pcsOf (P : List Int) : List (List Nat) := (List.range P.length).map (pcOf P)
section
variable {prog : Program} {w : World} {A : Around} {E : Value → Shared → Prop} {s : Shared} {Q : Value → Shared → Prop} {l : Addr}
theorem newList_X {vs : List Value} (hz : vs.length ≤ 1000000) (h : ∀ D h', Ext s.heap h' → s.heap.get? D = none → h'.PlainList D vs.toArray → Q (.ref D) { s with heap := h' }) : wpAny (model prog w) A (newList vs) Q E s :=
  wpAny_newObj_type (h _ _ (ext_push _ _) (get_none_size _) ⟨_, Heap.get?_push_size _ rfl⟩) (by show vs.toArray.size ≤ sizeLine; rw [sizeLine_eq, List.size_toArray]; (first | lia | omega))
theorem strs_at : ∀ {vs : List Value} {css : List (List Nat)} (i : Nat), StrsAre vs (css.map T) → i < css.length → ∃ t, vs[i]? = some (.str (T (css.getD i [])) t)
  | _, [], _, _, h => by simp at h
  | _, c :: r, 0, .cons _ t _, _ => ⟨t, rfl⟩
  | _, c :: r, i + 1, .cons _ _ q, h => by
    obtain ⟨t, e⟩ := strs_at i q (by simpa using h)
    exact ⟨t, by simpa using e⟩
theorem item_S {value slice : Expr} {css : List (List Nat)} {k : Int} {i : Nat} {u : Tok} (hk : k = i) (hl : Holds s.heap l (.sl (css.map T))) (h1 : i < css.length) (hz : css.length ≤ 1000000) (h : ∀ t, Q (.str (T (css.getD i [])) t) s)
    (hs : subscripted slice false (.ref l) (.int k u) = operate [.ref l, .int k u] (getItem (.ref l) (.int k u))) :
    wpAny (model prog w) A (subscriptTail value slice (.ref l) (.int k u)) Q E s := by
  subst hk
  obtain ⟨vs, p, q⟩ := hl
  obtain ⟨t, e⟩ := strs_at i q h1
  have hlen : vs.length = css.length := by have := StrsAre.length q; rw [List.length_map] at this; exact this
  exact item_V p (by (first | lia | omega)) (by simpa using e) (by (first | lia | omega)) (h t) hs
/-- the generators that a call leaves behind -/
inductive GFin : Array GenState → Array GenState → Prop
  | refl (g) : GFin g g
  | push {g gs} : GFin g gs → GFin g (gs.push .finished)
theorem st_F {h₀ : Heap} {env : Env} {m : Str → Option Value} {led : List (Addr × LV)} {cs : List Nat} {t : Tok} {g : Array GenState} (hg : GFin g s.gens) (F : Fm w h₀ env m led s.heap) (hh : A.handled = none) (hroom : A.depth + 2 < recursionLimit) (hz : cs.length ≤ 10000)
    (h : ∀ v h' tk gs, GFin g gs → Fm w h₀ env m led h' → Q (.str (T (strip cs)) v) { s with heap := h', toks := tk, gens := gs }) : wpAny (model prog w) A (call (.ref 96) [.str (T cs) t]) Q E s :=
  wpAny_call (st_call F.bs hh (by (first | lia | omega)) hz fun t' h' tk gs hgs k => h t' h' tk gs (hgs.elim (fun e => e ▸ hg) fun e => e ▸ hg.push) (F.ext k))
end
theorem rng_map {α : Type} (n : Nat) (f : Nat → α) : (rng 0 n).map (fun i => f i.toNat) = (List.range n).map f := by
  unfold rng
  rw [List.map_map]
  refine List.map_congr_left fun i _ => ?_
  simp
end
section
theorem calm_L10 : True := by
  w_top off
  trivial
local macro_rules | `(tactic| walk_at "m:pad") => `(tactic| skip)
theorem law_7a {prog : Program} {w : World} {A : Around} {E : Value → Shared → Prop} {Q : Flow → Shared → Prop} {s : Shared} {h₀ : Heap} {L lp : Addr} {m : Str → Option Value} {led : List (Addr × LV)} {P : List Int}
    (F : Fm w h₀ (lawEnv w.params L) m ((lp, .il P) :: led) s.heap) (hh : A.handled = none) (hl2 : P.length ≤ 8) (hp : m "plain" = some (.ref lp))
    (K : ∀ h' tk D, Fm w h₀ (lawEnv w.params L) (upd m "pieces" (.ref D)) ((D, .sl ((pcsOf P).map T)) :: (lp, .il P) :: led) h' → wpAny (model prog w) A (execs ((lawBody w.params).drop 23) (lawEnv w.params L)) Q E { s with heap := h', toks := tk }) :
    wpAny (model prog w) A (execs ((lawBody w.params).drop 22) (lawEnv w.params L)) Q E s := by
  rw [show (lawBody w.params).drop 22 = st w.params 22 :: (lawBody w.params).drop 23 from rfl]
  generalize (lawBody w.params).drop 23 = rest at *
  show wpAny _ _ (execs (Stmt.Assign _ _ _ :: rest) _) _ _ _
  walk_at "m:go"
  rename Fm _ _ _ _ _ _ => G
  refine compR_S (n := P.length) (f := fun i => pcOf P i.toNat) G (by (first | lia | omega)) (by (first | lia | omega)) (by (first | lia | omega)) (by (first | lia | omega)) hh (fun _ => rfl) (by walk_at "m:clok") ?el ?fin
  case el =>
    intro C a t s₃ m₃ E' ha V hm'
    clear G
    have hr := mem_rng ha
    have hah : ah.length = 8 := rfl
    walk_at "m:go"
    refine newList_X (Nat.le_of_ble_eq_true rfl) fun D h' kE hD hp' => ?_
    dsimp only at kE
    have V2 := V.ext kE
    walk_at "m:go"
    have h3 : P.getD a.toNat 0 % 3 = 0 ∨ P.getD a.toNat 0 % 3 = 1 ∨ P.getD a.toNat 0 % 3 = 2 := by (first | lia | omega)
    rcases h3 with e | e | e
    · refine item_V hp' ?h01 (by rw [e]; exact rfl) (Nat.le_of_ble_eq_true rfl) ⟨KS.of ?hv1, _, _, rfl, kE⟩ ?hs1
      case h01 => (first | lia | omega)
      case hs1 => with_unfolding_all rfl
      case hv1 => unfold pcOf; rw [if_pos e]; exact rfl
    · refine item_V hp' ?h02 (by rw [e]; exact rfl) (Nat.le_of_ble_eq_true rfl) ⟨KS.of ?hv2, _, _, rfl, kE⟩ ?hs2
      case h02 => (first | lia | omega)
      case hs2 => with_unfolding_all rfl
      case hv2 => unfold pcOf; rw [if_neg (by (first | lia | omega)), if_pos e]; exact rfl
    · refine item_V hp' ?h03 (by rw [e]; exact rfl) (Nat.le_of_ble_eq_true rfl) ⟨KS.of ?hv3, _, _, rfl, kE⟩ ?hs3
      case h03 => (first | lia | omega)
      case hs3 => with_unfolding_all rfl
      case hv3 => unfold pcOf; rw [if_neg (by (first | lia | omega)), if_neg (by (first | lia | omega))]; exact rfl
  case fin =>
    intro D h' tk G3
    clear G
    rw [show (rng 0 P.length).map (fun a => T (pcOf P a.toNat)) = (pcsOf P).map T from by unfold pcsOf; rw [List.map_map, ← rng_map]; rfl] at G3
    walk_at "m:go"
    rename Fm _ _ _ _ _ _ => G4
    exact K _ _ _ G4
end
section
/-- what mail gets -/
def txE (ga : List Int) (pc : List (List Nat)) (i : Nat) : List Nat := List.replicate (ga.getD i 0).toNat 34 ++ pc.getD i []
def txOf (ga : List Int) (pc : List (List Nat)) (n k : Nat) : List Nat := ((List.range n).map (txE ga pc)).flatten ++ List.replicate k 34
theorem flatR_len {f : Nat → List Nat} {k n : Nat} (h : ∀ i, i < n → (f i).length ≤ k) : ((List.range n).map f).flatten.length ≤ n * k := by
  have := flat_len (f := f) (k := k) (List.range n) fun a ha => h a (List.mem_range.mp ha)
  rwa [List.length_range] at this
theorem pcOf_len (P : List Int) (i : Nat) : (pcOf P i).length ≤ 3 := by
  unfold pcOf
  split
  · simp
  · split <;> simp
theorem pcsOf_len (P : List Int) : (pcsOf P).length = P.length := by simp [pcsOf]
theorem pcsOf_at (P : List Int) {i : Nat} (h : i < P.length) : (pcsOf P).getD i [] = pcOf P i := by
  unfold pcsOf
  rw [List.getD_eq_getElem?_getD, List.getElem?_map, List.getElem?_range h]; rfl
theorem txE_len {ga : List Int} {P : List Int} (hb : ∀ r ∈ ga, 0 ≤ r ∧ r ≤ 8) {i : Nat} (h1 : i < ga.length) (h2 : i < P.length) : (txE ga (pcsOf P) i).length ≤ 11 := by
  unfold txE
  rw [pcsOf_at P h2, List.length_append, List.length_replicate]
  have := pcOf_len P i
  have := hb _ (getD_mem (d := 0) h1)
  (first | lia | omega)
end
section
theorem calm_L11 : True := by
  w_top off
  trivial
theorem law_7b {prog : Program} {w : World} {A : Around} {E : Value → Shared → Prop} {Q : Flow → Shared → Prop} {s : Shared} {h₀ : Heap} {L lp lg lc lm : Addr} {m : Str → Option Value} {led : List (Addr × LV)} {P ga M : List Int} {tail : Nat} {tt : Tok} {g : Array GenState} (hgf : GFin g s.gens)
    (F : Fm w h₀ (lawEnv w.params L) m ((lc, .sl ((pcsOf P).map T)) :: (lg, .il ga) :: (lp, .il P) :: (lm, .il M) :: led) s.heap) (hh : A.handled = none) (hroom : A.depth + 2 < recursionLimit) (hl2 : P.length ≤ 8) (hgl : ga.length = P.length) (hgb : ∀ r ∈ ga, 0 ≤ r ∧ r ≤ 8) (htb : tail ≤ 8) (hm8 : M.length ≤ 8)
    (hp : m "plain" = some (.ref lp)) (hg : m "gaps" = some (.ref lg)) (hc : m "pieces" = some (.ref lc)) (hm : m "marked" = some (.ref lm)) (ht : m "tail" = some (.int tail tt))
    (K : ∀ h' tk gs t1 t2, GFin g gs → Fm w h₀ (lawEnv w.params L) (upd (upd m "text" (.str (T (txOf ga (pcsOf P) P.length (tail + M.length % 2))) t1)) "left" (.str (T (strip (txOf ga (pcsOf P) P.length (tail + M.length % 2)))) t2)) ((lc, .sl ((pcsOf P).map T)) :: (lg, .il ga) :: (lp, .il P) :: (lm, .il M) :: led) h' →
      wpAny (model prog w) A (execs ((lawBody w.params).drop 25) (lawEnv w.params L)) Q E { s with heap := h', toks := tk, gens := gs }) :
    wpAny (model prog w) A (execs ((lawBody w.params).drop 23) (lawEnv w.params L)) Q E s := by
  rw [show (lawBody w.params).drop 23 = st w.params 23 :: st w.params 24 :: (lawBody w.params).drop 25 from rfl]
  generalize (lawBody w.params).drop 25 = rest at *
  show wpAny _ _ (execs (Stmt.Assign _ _ _ :: Stmt.Assign _ _ _ :: rest) _) _ _ _
  walk_at "m:go"
  rename Fm _ _ _ _ _ _ => G
  refine compR_S (n := P.length) (f := fun i => txE ga (pcsOf P) i.toNat) G (by (first | lia | omega)) (by (first | lia | omega)) (by (first | lia | omega)) (by (first | lia | omega)) hh (fun _ => rfl) (by walk_at "m:clok") ?el ?fin
  case el =>
    intro C a t s₃ m₃ E' ha V hm'
    clear G
    have hr := mem_rng ha
    have hgi := hgb _ (getD_mem (d := 0) (show a.toNat < ga.length by (first | lia | omega)))
    have hz1 : ga.getD a.toNat 0 = ((ga.getD a.toNat 0).toNat : Int) := by (first | lia | omega)
    have hpc := pcsOf_at P (i := a.toNat) (by (first | lia | omega))
    have hpl := pcOf_len P a.toNat
    walk_at "m:go"
    refine item_S (i := a.toNat) (by (first | lia | omega)) (V.lst (_, _) (.head _)) (by rw [pcsOf_len]; (first | lia | omega)) (by rw [pcsOf_len]; (first | lia | omega)) (fun t1 => ?_) ?hs
    case hs => with_unfolding_all rfl
    rw [hpc]
    walk_at "m:go"
    exact ⟨KS.of (by unfold txE; rw [hpc]), _, _, rfl, fun _ _ e => e⟩
  case fin =>
    intro D h' tk G3
    clear G
    rw [show (rng 0 P.length).map (fun a => T (txE ga (pcsOf P) a.toNat)) = ((List.range P.length).map (txE ga (pcsOf P))).map T from by rw [← rng_map, List.map_map]; rfl] at G3
    have hfl := flatR_len (f := txE ga (pcsOf P)) (k := 11) (n := P.length) fun i hi => txE_len hgb (by (first | lia | omega)) hi
    have hz2 : (tail : Int) + (M.length : Int) % 2 = ((tail + M.length % 2 : Nat) : Int) := by (first | lia | omega)
    walk_at "m:go"
    refine joinL_T (css := (List.range P.length).map (txE ga (pcsOf P))) (G3.toVw.lst (_, _) (.head _)) rfl (by (first | lia | omega)) fun t' tk' => ?_
    have hz3 : (tail + M.length % 2) ≤ 100 := by (first | lia | omega)
    walk_at "m:go"
    rename Fm _ _ _ _ _ _ => G4
    refine st_F hgf G4 hh hroom (by rw [List.length_append, List.length_replicate]; (first | lia | omega)) fun v h' tk gs hgs G5 => ?_
    clear G4
    walk_at "m:go"
    rename Fm _ _ _ _ _ _ => G6
    exact K _ _ _ _ _ hgs (G6.drop (.cons (_, _) (.refl _)))

theorem law_7c {prog : Program} {w : World} {A : Around} {E : Value → Shared → Prop} {Q : Flow → Shared → Prop} {s : Shared} {h₀ : Heap} {L lp lc lm : Addr} {m : Str → Option Value} {led : List (Addr × LV)} {P M : List Int} {lft : List Nat} {tt : Tok}
    (F : Fm w h₀ (lawEnv w.params L) m ((lc, .sl ((pcsOf P).map T)) :: (lp, .il P) :: (lm, .il M) :: led) s.heap) (hh : A.handled = none) (hroom : A.depth + 2 < recursionLimit) (hl2 : P.length ≤ 8)
    (hb1 : ∀ x ∈ M, 0 ≤ x ∧ x < 1000) (hb2 : ∀ x ∈ P, 0 ≤ x ∧ x < 1000)
    (hp : m "plain" = some (.ref lp)) (hc : m "pieces" = some (.ref lc)) (hm : m "marked" = some (.ref lm)) (ht : m "left" = some (.str (T lft) tt))
    (hl : lft = (((List.range P.length).filter fun i => decide (prodZ M (P.getD i 0) > 0)).map (pcOf P)).flatten)
    (K : ∀ h' tk, Fm w h₀ (lawEnv w.params L) m ((lc, .sl ((pcsOf P).map T)) :: (lp, .il P) :: (lm, .il M) :: led) h' →
      wpAny (model prog w) A (execs ((lawBody w.params).drop 26) (lawEnv w.params L)) Q E { s with heap := h', toks := tk }) :
    wpAny (model prog w) A (execs ((lawBody w.params).drop 25) (lawEnv w.params L)) Q E s := by
  rw [show (lawBody w.params).drop 25 = st w.params 25 :: (lawBody w.params).drop 26 from rfl]
  generalize (lawBody w.params).drop 26 = rest at *
  show wpAny _ _ (execs (Stmt.If _ _ _ _ :: rest) _) _ _ _
  walk_at "m:go"
  walk_at "m:iterR"
  rename Fm _ _ _ _ _ _ => G
  refine compR_F (n := P.length) (pz := fun i => decide (prodZ M (P.getD i.toNat 0) > 0)) (G := fun i => KS (pcOf P i.toNat)) (by (first | lia | omega)) (by (first | lia | omega)) hh G (fun _ => rfl) (ClOk.ok (by walk_at "m:clok")) ⟨?te, ?el⟩ ?fin
  case te =>
    intro C a v s₃ m₃ E' ha hK V kx hm'
    obtain ⟨t, rfl⟩ := hK
    clear G
    have hr := mem_rng ha
    have hpi := hb2 _ (getD_mem (d := 0) (show a.toNat < P.length by (first | lia | omega)))
    refine tests_one ?_
    walk_at "m:go"
    refine lp_X V.bs hh (V.lst (_, _) (.tail _ (.tail _ (.head _)))) hroom ?hbb fun v h' tk kE => ?_
    case hbb =>
      intro y hy
      have := hb1 y hy
      (first | lia | omega)
    walk_at "m:go"
    exact ⟨rfl, _, _, rfl, kE⟩
  case el =>
    intro C a v s₃ m₃ E' ha hpz hK V kx hm'
    obtain ⟨t, rfl⟩ := hK
    clear G
    have hr := mem_rng ha
    have hpc := pcsOf_at P (i := a.toNat) (by (first | lia | omega))
    walk_at "m:go"
    refine item_S (i := a.toNat) (by (first | lia | omega)) (V.lst (_, _) (.head _)) (by rw [pcsOf_len]; (first | lia | omega)) (by rw [pcsOf_len]; (first | lia | omega)) (fun t1 => ?_) ?hs
    case hs => with_unfolding_all rfl
    exact ⟨KS.of hpc.symm, Keeps.rfl' _⟩
  case fin =>
    intro D h' tk ys G3 hP
    clear G
    have G4 := G3.headS (paired_strs' (f := fun i : Int => pcOf P i.toNat) (fun _ _ _ h => h) hP)
    clear G3
    have e1 : ((rng 0 P.length).filter fun i : Int => decide (prodZ M (P.getD i.toNat 0) > 0)).map (fun a => T (pcOf P a.toNat)) = (((List.range P.length).filter fun i => decide (prodZ M (P.getD i 0) > 0)).map (pcOf P)).map T := by
      unfold rng
      rw [List.filter_map, List.map_map, List.map_map]
      have e2 : ((fun i : Int => decide (prodZ M (P.getD i.toNat 0) > 0)) ∘ fun i : Nat => 0 + (i : Int)) = fun i : Nat => decide (prodZ M (P.getD i 0) > 0) := by
        funext i
        show decide (prodZ M (P.getD (0 + (i : Int)).toNat 0) > 0) = _
        rw [show (0 + (i : Int)).toNat = i from by (first | lia | omega)]
      rw [e2]
      refine List.map_congr_left fun i _ => ?_
      show T (pcOf P (0 + (i : Int)).toNat) = T (pcOf P i)
      rw [show (0 + (i : Int)).toNat = i from by (first | lia | omega)]
    rw [e1] at G4
    walk_at "m:go"
    refine joinL_T (css := ((List.range P.length).filter fun i => decide (prodZ M (P.getD i 0) > 0)).map (pcOf P)) (G4.toVw.lst (_, _) (.head _)) rfl ?hz fun t' tk' => ?_
    case hz =>
      have h1 := flat_len (f := pcOf P) (k := 3) ((List.range P.length).filter fun i => decide (prodZ M (P.getD i 0) > 0)) fun a _ => pcOf_len P a
      have h2 := List.length_filter_le (fun i => decide (prodZ M (P.getD i 0) > 0)) (List.range P.length)
      rw [List.length_range] at h2
      (first | lia | omega)
    rw [← hl]
    walk_at "m:go"
    · exfalso
      rename _ = true => hx
      simp at hx
    · rename Fm _ _ _ _ _ _ => G5
      exact K _ _ (G5.drop (.cons (_, _) (.refl _)))

theorem law_7d {prog : Program} {w : World} {A : Around} {E : Value → Shared → Prop} {Q : Flow → Shared → Prop} {s : Shared} {h₀ : Heap} {L lc : Addr} {m : Str → Option Value} {led : List (Addr × LV)} {lft txt : List Nat} {pc : List (List Nat)} {tt tx : Tok} {g : Array GenState} (hgf : GFin g s.gens)
    (F : Fm w h₀ (lawEnv w.params L) m ((lc, .sl (pc.map T)) :: led) s.heap) (hh : A.handled = none) (hroom : A.depth + 2 < recursionLimit) (hz1 : txt.length ≤ 5000) (hz2 : lft.length ≤ 5000) (hz3 : 0 < pc.length) (hz4 : pc.length ≤ 8) (hz5 : (pc.getD 0 []).length ≤ 3)
    (hc : m "pieces" = some (.ref lc)) (ht : m "left" = some (.str (T lft) tt)) (hx : m "text" = some (.str (T txt) tx))
    (hl : strip (txt ++ [34] ++ pc.getD 0 []) = lft ++ [34] ++ pc.getD 0 [])
    (K : ∀ h' tk gs, GFin g gs → Fm w h₀ (lawEnv w.params L) m ((lc, .sl (pc.map T)) :: led) h' →
      wpAny (model prog w) A (execs ((lawBody w.params).drop 27) (lawEnv w.params L)) Q E { s with heap := h', toks := tk, gens := gs }) :
    wpAny (model prog w) A (execs ((lawBody w.params).drop 26) (lawEnv w.params L)) Q E s := by
  rw [show (lawBody w.params).drop 26 = st w.params 26 :: (lawBody w.params).drop 27 from rfl]
  generalize (lawBody w.params).drop 27 = rest at *
  show wpAny _ _ (execs (Stmt.If _ _ _ _ :: rest) _) _ _ _
  walk_at "m:go"
  rename Fm _ _ _ _ _ _ => G
  refine item_S (i := 0) rfl (G.toVw.lst (_, _) (.head _)) hz3 (by (first | lia | omega)) (fun t1 => ?_) ?hs
  case hs => with_unfolding_all rfl
  walk_at "m:go"
  refine st_F (by exact hgf) G hh hroom (by simp only [List.length_append, List.length_cons, List.length_nil]; (first | lia | omega)) fun v h' tk gs hgs G5 => ?_
  clear G
  rw [hl]
  walk_at "m:go"
  refine item_S (i := 0) rfl (G5.toVw.lst (_, _) (.head _)) hz3 (by (first | lia | omega)) (fun t2 => ?_) ?hs2
  case hs2 => with_unfolding_all rfl
  walk_at "m:go"
  · exfalso
    rename _ = true => hx
    simp at hx
  · exact K _ _ _ hgs G5
end
section
def KI' (f : Int → Int) (a : Int) (v : Value) : Prop := KI (f a) v
/-- does the letter open a stretch -/
def cnd (lft : List Nat) (i : Nat) : Bool := decide (i = 0) || (decide (ah.getD i 0 ∈ lft) != decide (ah.getD (i - 1) 0 ∈ lft))
def pkAt (P M : List Int) (lft : List Nat) : Nat → List Int × List Int
  | 0 => ([], M)
  | i + 1 => if cnd lft i then ((pkAt P M lft i).1 ++ [P.getD i 0], insL (P.getD i 0) (pkAt P M lft i).2) else pkAt P M lft i
theorem pk_sorted (P : List Int) {M : List Int} (lft : List Nat) (h : M.Pairwise (· ≤ ·)) : ∀ i, (pkAt P M lft i).2.Pairwise (· ≤ ·)
  | 0 => h
  | i + 1 => by
    unfold pkAt
    split
    · exact insL_sorted (pk_sorted P lft h i)
    · exact pk_sorted P lft h i
theorem pk_len (P M : List Int) (lft : List Nat) : ∀ i, (pkAt P M lft i).1.length ≤ i ∧ (pkAt P M lft i).2.length ≤ M.length + i
  | 0 => ⟨Nat.le_refl _, Nat.le_refl _⟩
  | i + 1 => by
    obtain ⟨h1, h2⟩ := pk_len P M lft i
    unfold pkAt
    split
    · simp only [List.length_append, List.length_cons, List.length_nil, insL_len]; (first | lia | omega)
    · (first | lia | omega)
theorem pk_t {P M : List Int} {lft : List Nat} {i : Nat} (h : cnd lft i = true) : pkAt P M lft (i + 1) = ((pkAt P M lft i).1 ++ [P.getD i 0], insL (P.getD i 0) (pkAt P M lft i).2) := by
  show (if cnd lft i then _ else _) = _
  rw [if_pos h]
theorem pk_f {P M : List Int} {lft : List Nat} {i : Nat} (h : cnd lft i = false) : pkAt P M lft (i + 1) = pkAt P M lft i := by
  show (if cnd lft i then _ else _) = _
  rw [if_neg (by rw [h]; decide)]
theorem ints_rep {v : Value} {x : Int} {t : Tok} (e : v = .int x t) : ∀ n, IntsAre (List.replicate n [v]).flatten (List.replicate n x)
  | 0 => .nil
  | n + 1 => by
    rw [List.replicate_succ, List.replicate_succ, List.flatten_cons, e]
    exact .cons x t (e ▸ ints_rep e n)
end
section
theorem calm_L12 : True := by
  w_top off
  trivial
local macro_rules | `(tactic| walk_at "m:pad") => `(tactic| skip)
theorem law_8a {prog : Program} {w : World} {A : Around} {E : Value → Shared → Prop} {Q : Flow → Shared → Prop} {s : Shared} {h₀ : Heap} {L ld lp ln lm : Addr} {m : Str → Option Value} {P M ns dr : List Int} {lft : List Nat} {tt : Tok}
    (F : Fm w h₀ (lawEnv w.params L) m [(ln, .il ns), (lp, .il P), (lm, .il M), (ld, .il dr)] s.heap) (hh : A.handled = none) (hroom : A.depth + 2 < recursionLimit) (hl1 : M.length ≤ 8) (hl2 : P.length ≤ 8) (hM : M.Pairwise (· ≤ ·)) (hlz : lft.length ≤ 5000)
    (hd : m "drawn" = some (.ref ld)) (hp : m "plain" = some (.ref lp)) (hn : m "noughts" = some (.ref ln)) (hm : m "marked" = some (.ref lm)) (ht : m "left" = some (.str (T lft) tt))
    (K : ∀ h' tk m' lk lu, Fm w h₀ (lawEnv w.params L) m' [(lk, .il (pkAt P M lft P.length).1), (lu, .il (pkAt P M lft P.length).2), (ln, .il ns), (ld, .il dr)] h' → m' "drawn" = some (.ref ld) → m' "noughts" = some (.ref ln) → m' "picks" = some (.ref lk) → m' "union" = some (.ref lu) →
      wpAny (model prog w) A (execs ((lawBody w.params).drop 30) (lawEnv w.params L)) Q E { s with heap := h', toks := tk }) :
    wpAny (model prog w) A (execs ((lawBody w.params).drop 27) (lawEnv w.params L)) Q E s := by
  rw [show (lawBody w.params).drop 27 = st w.params 27 :: st w.params 28 :: st w.params 29 :: (lawBody w.params).drop 30 from rfl]
  generalize (lawBody w.params).drop 30 = rest at *
  show wpAny _ _ (execs (Stmt.Assign _ _ _ :: Stmt.Assign _ _ _ :: Stmt.For (Expr.Name _ _) _ (lb w.params 29) [] _ :: rest) _) _ _ _
  walk_at "m:go"
  refine wpAny_For ?_
  walk_at "m:go"
  walk_at "m:iterR"
  rename Fm _ _ _ _ _ _ => G
  have G2 := (G.recast (v' := .il []) (.tail .head) (il_nil (G.toVw.lst (_, _) (.tail _ (.head _))))).pick [0, 1, 2, 3, 4, 6] (by decide) rfl
  clear G
  refine' loop_range (n := P.length) (by (first | lia | omega)) hh G2 (fun i m led => ∃ lk lu, led = [(lk, .il (pkAt P M lft i).1), (lu, .il (pkAt P M lft i).2), (ln, .il ns), (lp, .il P), (ld, .il dr)] ∧ m (Str.ofString "drawn") = some (.ref ld) ∧ m (Str.ofString "noughts") = some (.ref ln) ∧ m (Str.ofString "plain") = some (.ref lp) ∧
    m (Str.ofString "picks") = some (.ref lk) ∧ m (Str.ofString "union") = some (.ref lu) ∧ m (Str.ofString "left") = some (.str (T lft) tt)) ?k ?x ?c ?h0 ?turn ?fin
  case k => exact rfl
  case x => exact rfl
  case c => exact rfl
  case h0 => exact ⟨_, _, rfl, hd, hn, hp, rfl, rfl, ht⟩
  case fin =>
    rintro m' led' h' tk ⟨lk, lu, rfl, h1, h2, h3, h4, h5, h6⟩ F'
    exact K _ _ _ _ _ (F'.pick [0, 1, 2, 4] (by decide) rfl) h1 h2 h4 h5
  case turn =>
    rintro i t m' led' h' tk hi ⟨lk, lu, rfl, h1, h2, h3, h4, h5, h6⟩ F'
    clear G2 K hd hp hn hm ht
    have so := pk_sorted P lft hM i
    obtain ⟨z1, z2⟩ := pk_len P M lft i
    have ekt := pk_t (P := P) (M := M) (lft := lft) (i := i)
    have ekf := pk_f (P := P) (M := M) (lft := lft) (i := i)
    generalize pkAt P M lft (i + 1) = S1 at *
    generalize pkAt P M lft i = S at *
    obtain ⟨pk, un⟩ := S
    dsimp only at *
    have hah : ah.length = 8 := rfl
    rw [show lb w.params 29 = [sb w.params 29 0] from rfl]
    show wpAny _ _ (execs [Stmt.If _ _ _ _] _) _ _ _
    have e0 : (0 + (i : Int)).toNat = i := by (first | lia | omega)
    have e1 : (0 + (i : Int) - 1).toNat = i - 1 := by (first | lia | omega)
    walk_at "m:go"
    · rename Fm _ _ _ _ _ _ => G
      rename 0 + (i : Int) = 0 => hi0
      rw [e0] at G
      rw [ekt (by unfold cnd; rw [decide_eq_true (show i = 0 by (first | lia | omega))]; rfl)]
      refine ⟨_, _, _, _, rfl, ?_, G⟩
      exact ⟨_, _, rfl, h1, h2, h3, h4, h5, h6⟩
    · rename Fm _ _ _ _ _ _ => G
      rename 0 + (i : Int) ≠ 0 => hi0
      rename (_ != _) = true => hx
      rw [e0, e1] at hx
      rw [e0] at G
      rw [ekt (by unfold cnd; rw [decide_eq_false (show ¬ i = 0 by (first | lia | omega))]; exact hx)]
      refine ⟨_, _, _, _, rfl, ?_, G⟩
      exact ⟨_, _, rfl, h1, h2, h3, h4, h5, h6⟩
    · rename 0 + (i : Int) ≠ 0 => hi0
      rename (_ != _) = false => hx
      rw [e0, e1] at hx
      rw [ekf (by unfold cnd; rw [decide_eq_false (show ¬ i = 0 by (first | lia | omega))]; exact hx)]
      refine ⟨_, _, _, _, rfl, ?_, F'⟩
      exact ⟨_, _, rfl, h1, h2, h3, h4, h5, h6⟩

theorem law_8b {prog : Program} {w : World} {A : Around} {E : Value → Shared → Prop} {Q : Flow → Shared → Prop} {s : Shared} {h₀ : Heap} {L ld lk lu ln : Addr} {m : Str → Option Value} {pk un ns dr : List Int} {s0 : Int}
    (F : Fm w h₀ (lawEnv w.params L) m [(lk, .il pk), (lu, .il un), (ln, .il ns), (ld, .il dr)] s.heap) (hh : A.handled = none) (hroom : A.depth + 2 < recursionLimit) (hu : A.units + 64 < cLine) (hl1 : pk.length ≤ 100) (hl2 : un.length ≤ 100) (hl3 : ns.length ≤ 100) (hl4 : 1 ≤ pk.length) (hso : un.Pairwise (· ≤ ·))
    (hd : m "drawn" = some (.ref ld)) (hn : m "noughts" = some (.ref ln)) (hp : m "picks" = some (.ref lk)) (hun : m "union" = some (.ref lu)) (hlen : un.length = ns.length + 1) (hsg : ∀ p ∈ pk, ((un.length : Int) - (brN p un : Nat)) % 2 = s0)
    (K : ∀ h' tk m', Fm w h₀ (lawEnv w.params L) m' [(lu, .il un), (ld, .il dr)] h' → m' "drawn" = some (.ref ld) → m' "union" = some (.ref lu) →
      wpAny (model prog w) A (execs ((lawBody w.params).drop 32) (lawEnv w.params L)) Q E { s with heap := h', toks := tk }) :
    wpAny (model prog w) A (execs ((lawBody w.params).drop 30) (lawEnv w.params L)) Q E s := by
  have hbase := F.toVw.base
  rw [show (lawBody w.params).drop 30 = st w.params 30 :: st w.params 31 :: (lawBody w.params).drop 32 from rfl]
  generalize (lawBody w.params).drop 32 = rest at *
  show wpAny _ _ (execs (Stmt.Assign _ _ _ :: Stmt.If _ _ _ _ :: rest) _) _ _ _
  walk_at "m:go"
  walk_at "m:zu"
  walk_at "m:go"
  rename Fm _ _ _ _ _ _ => G
  refine compG_1 (fun _ => KI' fun p => ((un.length : Int) - (brN p un : Nat)) % 2) (fun _ _ _ _ q k => q) G (.head _) (by (first | lia | omega)) hh rfl rfl rfl (by walk_at "m:clok") (law_cells _ _) ?el ?fin
  case el =>
    intro C a t s₃ m₃ E' ha V hm'
    clear G
    walk_at "m:go"
    refine br_X V.bs (V.lst (_, _) (.tail _ (.head _))) hroom (by (first | lia | omega)) hso fun v h' tk kE => ?_
    walk_at "m:go"
    exact eltV (G := KI' fun p => ((un.length : Int) - (brN p un : Nat)) % 2) kE ⟨_, rfl⟩
  case fin =>
    intro D C h₁ h' tk vs m' G3 kx hP hn' hA
    clear G
    refine postU G3 hn' hA (.head _) rfl rfl rfl fun h2 tk2 G4 => ?_
    clear G3
    have G5 := G4.headI (paired_ints' (f := fun p => ((un.length : Int) - (brN p un : Nat)) % 2) (fun _ _ _ h => h) hP)
    clear G4 hP
    have e2 : pk.map (fun p => ((un.length : Int) - (brN p un : Nat)) % 2) = List.replicate pk.length s0 := by
      rw [List.eq_replicate_iff]
      refine ⟨List.length_map .., fun b hb => ?_⟩
      obtain ⟨p, hp, rfl⟩ := List.mem_map.mp hb
      exact hsg p hp
    rw [e2] at G5
    have hlr : (List.replicate pk.length s0).length = pk.length := List.length_replicate
    have hge : (List.replicate pk.length s0).getD (0 : Int).toNat 0 = s0 := by
      obtain ⟨k, hk⟩ : ∃ k, pk.length = k + 1 := ⟨pk.length - 1, by (first | lia | omega)⟩
      rw [hk]; rfl
    walk_at "m:go"
    · exfalso
      rename _ ≠ (ns.length : Int) + 1 => hx
      (first | lia | omega)
    · rename Fm _ _ _ _ _ _ => G6
      obtain ⟨us, pu, iu⟩ := (G6.toVw.lst (_, _) (.head _) : Holds _ _ (.il [_]))
      obtain ⟨t9, e9⟩ : ∃ t, us = [Value.int s0 t] := by
        rw [hge] at iu
        cases iu with
        | cons x t r => cases r; exact ⟨t, rfl⟩
      subst e9
      refine mulV_F (n := pk.length) rfl G6 pu (by simp only [List.length_cons, List.length_nil]; (first | lia | omega)) (by simp) fun D2 h3 tk3 hF => ?_
      have G7 := hF (.il (List.replicate pk.length s0)) fun h a q => ⟨_, q, ints_rep rfl _⟩
      clear G6 hF pu
      refine neI_X (G7.toVw.lst (_, _) (.tail _ (.tail _ (.head _)))) (G7.toVw.lst (_, _) (.head _)) rfl hu ?_
      walk_at "m:go"
      exact K _ _ _ ((G7.pick [4, 6] (by decide) rfl).under hbase kx) hd hun
end
section
/-- the products of all less a place, of a place less all -/
def prL : List Int → Int → Int
  | [], _ => 1
  | x :: r, p => (x - p) * prL r p
def qrL : List Int → Int → Int
  | [], _ => 1
  | x :: r, p => (p - x) * qrL r p
def vdm : List Int → Int
  | [] => 1
  | x :: r => prL r x * vdm r
def sgn : Nat → Int
  | 0 => 1
  | k + 1 => - sgn k
def spl (F : List Int → Int → List Int → Int) : List Int → List Int → Int
  | _, [] => 0
  | as, p :: bs => F as p bs + spl F (as ++ [p]) bs

theorem prL_append (p : Int) : ∀ a b : List Int, prL (a ++ b) p = prL a p * prL b p
  | [], b => by show prL b p = 1 * _; rw [Int.one_mul]
  | x :: a, b => by show (x - p) * prL (a ++ b) p = (x - p) * prL a p * _; rw [prL_append p a b, Int.mul_assoc]
theorem qrL_append (p : Int) : ∀ a b : List Int, qrL (a ++ b) p = qrL a p * qrL b p
  | [], b => by show qrL b p = 1 * _; rw [Int.one_mul]
  | x :: a, b => by show (p - x) * qrL (a ++ b) p = (p - x) * qrL a p * _; rw [qrL_append p a b, Int.mul_assoc]
theorem vdm_snoc (z : Int) : ∀ xs : List Int, vdm (xs ++ [z]) = vdm xs * qrL xs z
  | [] => by simp [vdm, prL, qrL]
  | x :: r => by
    show prL (r ++ [z]) x * vdm (r ++ [z]) = prL r x * vdm r * ((z - x) * qrL r z)
    rw [vdm_snoc z r, prL_append]
    simp only [prL]
    grind
theorem vdm_mid (p : Int) (b : List Int) : ∀ a : List Int, vdm (a ++ p :: b) = vdm (a ++ b) * (qrL a p * prL b p)
  | [] => by simp [vdm, qrL]; grind
  | x :: a => by
    show prL (a ++ p :: b) x * vdm (a ++ p :: b) = prL (a ++ b) x * vdm (a ++ b) * ((p - x) * qrL a p * prL b p)
    rw [vdm_mid p b a, prL_append, prL_append]
    simp only [prL]
    grind
theorem spl_snoc (F : List Int → Int → List Int → Int) (z : Int) : ∀ as bs : List Int, spl F as (bs ++ [z]) = spl (fun a p b => F a p (b ++ [z])) as bs + F (as ++ bs) z []
  | as, [] => by simp [spl]
  | as, p :: bs => by
    show F as p (bs ++ [z]) + spl F (as ++ [p]) (bs ++ [z]) = F as p (bs ++ [z]) + spl _ (as ++ [p]) bs + _
    rw [spl_snoc F z (as ++ [p]) bs]
    simp only [List.append_assoc, List.cons_append, List.nil_append]
    (first | lia | omega)
theorem spl_cons (F : List Int → Int → List Int → Int) (c : Int) : ∀ as bs : List Int, spl F (c :: as) bs = spl (fun a p b => F (c :: a) p b) as bs
  | as, [] => rfl
  | as, p :: bs => by
    show F (c :: as) p bs + spl F (c :: (as ++ [p])) bs = F (c :: as) p bs + spl _ (as ++ [p]) bs
    rw [spl_cons F c (as ++ [p]) bs]
theorem spl_congr {F G : List Int → Int → List Int → Int} : ∀ as bs : List Int, (∀ a p b, a ++ p :: b = as ++ bs → F a p b = G a p b) → spl F as bs = spl G as bs
  | as, [], _ => rfl
  | as, p :: bs, h => by
    show F as p bs + _ = G as p bs + _
    rw [h as p bs rfl, spl_congr (as ++ [p]) bs fun a q b e => h a q b (by rw [e]; simp)]
theorem spl_add (F G : List Int → Int → List Int → Int) : ∀ as bs : List Int, spl (fun a p b => F a p b + G a p b) as bs = spl F as bs + spl G as bs
  | as, [] => rfl
  | as, p :: bs => by
    show F as p bs + G as p bs + _ = F as p bs + _ + (G as p bs + _)
    rw [spl_add F G (as ++ [p]) bs]; (first | lia | omega)
theorem spl_mul (k : Int) (F : List Int → Int → List Int → Int) : ∀ as bs : List Int, spl (fun a p b => k * F a p b) as bs = k * spl F as bs
  | as, [] => by show (0 : Int) = k * 0; rw [Int.mul_zero]
  | as, p :: bs => by
    show k * F as p bs + _ = k * (F as p bs + _)
    rw [spl_mul k F (as ++ [p]) bs, Int.mul_add]

/-- all places, each weighed -/
def wgt (g : Int → Int) (xs : List Int) : Int := spl (fun a p b => sgn b.length * vdm (a ++ b) * g p) [] xs
theorem wgt_congr {f g : Int → Int} (xs : List Int) (h : ∀ p, f p = g p) : wgt f xs = wgt g xs := spl_congr _ _ fun a p b _ => by rw [h p]
theorem wgt_add (f g : Int → Int) (xs : List Int) : wgt (fun p => f p + g p) xs = wgt f xs + wgt g xs := by
  unfold wgt; rw [← spl_add]; exact spl_congr _ _ fun a p b _ => by rw [Int.mul_add]
theorem wgt_mul (k : Int) (g : Int → Int) (xs : List Int) : wgt (fun p => k * g p) xs = k * wgt g xs := by
  unfold wgt; rw [← spl_mul]; exact spl_congr _ _ fun a p b _ => by grind
theorem wgt_snoc (g : Int → Int) (z : Int) (ys : List Int) : wgt (fun p => (p - z) * g p) (ys ++ [z]) = qrL ys z * wgt g ys := by
  unfold wgt
  rw [spl_snoc, ← spl_mul]
  simp only [Int.sub_self, Int.zero_mul, Int.mul_zero, Int.add_zero]
  refine spl_congr _ _ fun a p b e => ?_
  have e' : a ++ p :: b = ys := e
  rw [← e', List.length_append, ← List.append_assoc, vdm_snoc, qrL_append, qrL_append]
  simp only [qrL, List.length_cons, List.length_nil, sgn, Nat.zero_add]
  grind
theorem wgt_cons (g : Int → Int) (x : Int) (ys : List Int) : wgt (fun p => (p - x) * g p) (x :: ys) = prL ys x * wgt g ys := by
  unfold wgt
  show sgn ys.length * vdm ([] ++ ys) * ((x - x) * g x) + spl _ ([] ++ [x]) ys = _
  rw [Int.sub_self, Int.zero_mul, Int.mul_zero, Int.zero_add, List.nil_append, spl_cons, ← spl_mul]
  refine spl_congr _ _ fun a p b e => ?_
  have e' : a ++ p :: b = ys := e
  rw [← e', prL_append]
  simp only [prL, vdm, List.cons_append]
  rw [prL_append]
  grind
theorem wgt_one : ∀ (n : Nat) (xs : List Int), xs.length = n → 2 ≤ n → xs.Pairwise (· ≠ ·) → wgt (fun _ => 1) xs = 0
  | 0, _, _, h, _ => by (first | lia | omega)
  | 1, _, _, h, _ => by (first | lia | omega)
  | n + 2, [], h, _, _ => by simp at h
  | n + 2, [x], h, _, _ => by simp at h
  | n + 2, x :: y :: r, h, _, hp => by
    obtain ⟨ys, z, e⟩ : ∃ ys z, y :: r = ys ++ [z] := ⟨(y :: r).dropLast, (y :: r).getLast (by simp), (List.dropLast_concat_getLast (by simp)).symm⟩
    have hl : ys.length = n := by
      have := congrArg List.length e
      simp only [List.length_append, List.length_cons, List.length_nil] at this h; (first | lia | omega)
    rw [e] at hp ⊢
    have hxz : x ≠ z := (List.pairwise_cons.mp hp).1 z (by simp)
    by_cases hn : n = 0
    · have : ys = [] := List.eq_nil_of_length_eq_zero (by (first | lia | omega))
      subst this
      simp [wgt, spl, vdm, prL, sgn]
    · have A : wgt (fun _ => 1) (x :: ys) = 0 := wgt_one (n + 1) (x :: ys) (by simp [hl]) (by (first | lia | omega)) (hp.sublist (by simp))
      have B : wgt (fun _ => 1) (ys ++ [z]) = 0 := wgt_one (n + 1) (ys ++ [z]) (by simp [hl]) (by (first | lia | omega)) (List.pairwise_cons.mp hp).2
      have h1 := wgt_snoc (fun _ => 1) z (x :: ys)
      have h2 := wgt_cons (fun _ => 1) x (ys ++ [z])
      rw [A] at h1
      rw [B] at h2
      rw [List.cons_append] at h1
      have h3 := wgt_add (fun p => (p - z) * 1) (fun p => (-1) * ((p - x) * 1)) (x :: (ys ++ [z]))
      rw [wgt_mul, h1, h2] at h3
      have h4 := wgt_mul (x - z) (fun _ => 1) (x :: (ys ++ [z]))
      rw [wgt_congr (f := fun p => (p - z) * 1 + (-1) * ((p - x) * 1)) (g := fun p => (x - z) * 1) _ (fun p => by (first | lia | omega)), h4] at h3
      simp only [Int.mul_zero, Int.add_zero] at h3
      rcases Int.mul_eq_zero.mp h3 with h5 | h5
      · (first | lia | omega)
      · exact h5
/-- the polynomial's value, by its first k figures -/
def hrn (d : Nat → Int) (p : Int) : Nat → Int
  | 0 => 0
  | k + 1 => hrn d p k * p + d k
theorem wgt_hrn (d : Nat → Int) : ∀ (k : Nat) (xs : List Int), 1 ≤ k → k ≤ xs.length → xs.Pairwise (· ≠ ·) → wgt (fun p => hrn d p k) xs = if k = xs.length then d 0 * vdm xs else 0
  | 0, _, h, _, _ => by (first | lia | omega)
  | 1, xs, _, h, hp => by
    rw [wgt_congr (g := fun p => d 0 * 1) xs fun p => by simp [hrn], wgt_mul (d 0) (fun _ => 1)]
    split
    · rename_i e
      match xs, e with
      | [x], _ => simp [wgt, spl, vdm, prL, sgn]
    · rw [wgt_one _ xs rfl (by (first | lia | omega)) hp, Int.mul_zero]
  | k + 2, xs, _, h, hp => by
    obtain ⟨ys, z, e⟩ : ∃ ys z, xs = ys ++ [z] := by
      have hne : xs ≠ [] := by intro q; rw [q] at h; simp at h
      exact ⟨xs.dropLast, xs.getLast hne, (List.dropLast_concat_getLast hne).symm⟩
    subst e
    have hl : (ys ++ [z]).length = ys.length + 1 := by simp
    have i1 := wgt_hrn d (k + 1) ys (by (first | lia | omega)) (by (first | lia | omega)) (hp.sublist (by simp))
    have i2 := wgt_hrn d (k + 1) (ys ++ [z]) (by (first | lia | omega)) (by (first | lia | omega)) hp
    have i3 := wgt_one _ (ys ++ [z]) rfl (by (first | lia | omega)) hp
    rw [if_neg (by (first | lia | omega))] at i2
    have h1 := wgt_snoc (fun p => hrn d p (k + 1)) z ys
    have h2 := wgt_add (fun p => (p - z) * hrn d p (k + 1)) (fun p => z * hrn d p (k + 1)) (ys ++ [z])
    have h3 := wgt_add (fun p => (p - z) * hrn d p (k + 1) + z * hrn d p (k + 1)) (fun p => d (k + 1) * 1) (ys ++ [z])
    rw [h2, h1, wgt_mul, wgt_mul (d (k + 1)) (fun _ => 1), i1, i2, i3] at h3
    rw [wgt_congr (g := fun p => (p - z) * hrn d p (k + 1) + z * hrn d p (k + 1) + d (k + 1) * 1) _ fun p => by show hrn d p (k + 1) * p + d (k + 1) = _; grind, h3, vdm_snoc]
    by_cases hk : k + 1 = ys.length
    · rw [if_pos hk, if_pos (by (first | lia | omega))]; grind
    · rw [if_neg hk, if_neg (by (first | lia | omega))]; simp
end
section
/-- the numbers of law's last loops -/
def whAt (un : List Int) : Nat → Int
  | 0 => 1
  | k + 1 => whAt un k * ((prodZ (un.take k) (un.getD k 0)).natAbs : Int)
def dgt (dr : List Int) (n k : Nat) : Int := dr.getD (n - 1 - k) 0 % 10
def othL (un : List Int) (p : Int) : List Int := un.take (blN p un) ++ un.drop (brN p un)
def sgP (un : List Int) (p : Int) : Int := 1 - 2 * (((un.length : Int) - (brN p un : Nat)) % 2)
def trm (un dr : List Int) (W p : Int) : Int := sgP un p * (W / ((prodZ (othL un p) p).natAbs : Int)) * hrn (dgt dr un.length) p un.length
def totAt (un dr : List Int) (W : Int) : Nat → Int
  | 0 => 0
  | j + 1 => totAt un dr W j + trm un dr W (un.getD j 0)

theorem foldl_b (p : Int) : ∀ (xs : List Int) (a : Int), (∀ x ∈ xs, (x - p).natAbs ≤ 256) → (xs.foldl (fun a x => a * (x - p)) a).natAbs ≤ a.natAbs * 256 ^ xs.length
  | [], a, _ => by simp
  | x :: r, a, h => by
    have ih := foldl_b p r (a * (x - p)) fun y hy => h y (.tail _ hy)
    rw [Int.natAbs_mul] at ih
    rw [List.foldl_cons, List.length_cons, Nat.pow_succ]
    have h1 := h x (.head _)
    refine Nat.le_trans ih ?_
    calc a.natAbs * (x - p).natAbs * 256 ^ r.length ≤ a.natAbs * 256 * 256 ^ r.length := Nat.mul_le_mul_right _ (Nat.mul_le_mul_left _ h1)
      _ = a.natAbs * (256 ^ r.length * 256) := by rw [Nat.mul_assoc, Nat.mul_comm 256]
theorem prodZ_b {xs : List Int} {p : Int} (h : ∀ x ∈ xs, (x - p).natAbs ≤ 256) (hl : xs.length ≤ 8) : (prodZ xs p).natAbs ≤ 256 ^ 8 := by
  have := foldl_b p xs 1 h
  refine Nat.le_trans this ?_
  rw [show (1 : Int).natAbs = 1 from rfl, Nat.one_mul]
  exact Nat.pow_le_pow_right (by decide) hl
theorem whAt_b {un : List Int} (h : ∀ x ∈ un, 0 ≤ x ∧ x < 256) (hl : un.length ≤ 8) : ∀ k, k ≤ un.length → (whAt un k).natAbs ≤ (256 ^ 8) ^ k
  | 0, _ => Nat.le_refl _
  | k + 1, hk => by
    have ih := whAt_b h hl k (by (first | lia | omega))
    have hx := h _ (getD_mem (d := 0) (show k < un.length by (first | lia | omega)))
    have hb := prodZ_b (xs := un.take k) (p := un.getD k 0) (fun y hy => by have := h y (List.mem_of_mem_take hy); (first | lia | omega)) (by rw [List.length_take]; (first | lia | omega))
    unfold whAt
    rw [Int.natAbs_mul, Int.natAbs_natCast, Nat.pow_succ]
    exact Nat.mul_le_mul ih hb
theorem big_le {a b : Nat} (h : a ≤ (256 ^ 8) ^ b) (hb : b ≤ 8) : a < 2 ^ 4096 := by
  refine Nat.lt_of_le_of_lt (Nat.le_trans h (Nat.pow_le_pow_right (by decide) hb)) ?_
  decide +kernel
theorem hrn_b {dr : List Int} {n : Nat} {p : Int} (h : 0 ≤ p ∧ p < 256) : ∀ k, 0 ≤ hrn (dgt dr n) p k ∧ hrn (dgt dr n) p k < 256 ^ k
  | 0 => ⟨Int.le_refl _, by show (0 : Int) < 256 ^ 0; decide⟩
  | k + 1 => by
    obtain ⟨h1, h2⟩ := hrn_b (dr := dr) (n := n) h k
    have hd : 0 ≤ dgt dr n k ∧ dgt dr n k ≤ 9 := by unfold dgt; (first | lia | omega)
    unfold hrn
    have h3 : 0 ≤ hrn (dgt dr n) p k * p := Int.mul_nonneg h1 h.1
    have h4 : hrn (dgt dr n) p k * p ≤ (256 ^ k - 1) * 255 := Int.mul_le_mul (by (first | lia | omega)) (by (first | lia | omega)) h.1 (by (first | lia | omega))
    have e : (256 : Int) ^ (k + 1) = 256 ^ k * 256 := Int.pow_succ ..
    have hp : (1 : Int) ≤ 256 ^ k := by have := Int.pow_pos (n := 256) (m := k) (by decide); (first | lia | omega)
    rw [e]
    constructor <;> (first | lia | omega)
theorem hrn_big {dr : List Int} {n k : Nat} {p : Int} (h : 0 ≤ p ∧ p < 256) (hk : k ≤ 8) : (hrn (dgt dr n) p k).natAbs < 2 ^ 4096 := by
  obtain ⟨h1, h2⟩ := hrn_b (dr := dr) (n := n) h k
  have h3 : (256 : Int) ^ k ≤ 256 ^ 8 := by
    have := Nat.pow_le_pow_right (n := 256) (by decide) hk
    exact_mod_cast this
  have h4 : (hrn (dgt dr n) p k).natAbs < 256 ^ 8 := by (first | lia | omega)
  exact Nat.lt_of_lt_of_le h4 (by decide +kernel)
theorem othL_len (un : List Int) (p : Int) : (othL un p).length ≤ un.length := by
  unfold othL
  rw [List.length_append, List.length_take, List.length_drop]
  have := blN_le_br p un
  have := brN_le p un
  (first | lia | omega)
theorem othL_mem {un : List Int} {p x : Int} (h : x ∈ othL un p) : x ∈ un := by
  rcases List.mem_append.mp h with h | h
  · exact List.mem_of_mem_take h
  · exact List.mem_of_mem_drop h
section
variable {prog : Program} {w : World} {A : Around} {E : Value → Shared → Prop} {s : Shared} {Q : Value → Shared → Prop} {a b : Int} {t u : Tok}
theorem floordiv_B (hb : 0 < b) (hs : b.natAbs < 2 ^ 4096) (h : ∀ t' tk, Q (.int (a / b) t') { s with toks := tk }) : wpAny (model prog w) A (binaryOp .FloorDiv (.int a t) (.int b u)) Q E s :=
  floordiv_int (by (first | lia | omega)) (by rw [Int.fdiv_eq_ediv_of_nonneg _ (by (first | lia | omega))]; exact h _ _) (.inl (PyProof.noPylong_of_log2 (by
    have := (Nat.log2_lt (show b.natAbs ≠ 0 by (first | lia | omega))).mpr hs
    (first | lia | omega))))
end
section
variable {prog : Program} {w : World} {A : Around} {E : Value → Shared → Prop} {R : Result → Shared → Prop} {s : Shared} {l I : Addr} {h₀ : Heap} {env : Env} {m : Str → Option Value} {led : List (Addr × LV)}
  {x : Str} {px : Pos} {body : List Stmt}
theorem loop_ints {xs : List Int} (hh : A.handled = none) (F : Fm w h₀ env m ((I, .it l 0) :: led) s.heap) (J : Nat → (Str → Option Value) → List (Addr × LV) → Prop)
    (hk : env.scope.kind = .function) (hx : env.kindOf x = some .local) (hc : env.cells.lookup x = none)
    (hold : ∀ i m' led' h', J i m' led' → Fm w h₀ env m' ((I, .it l i) :: led') h' → Holds h' l (.il xs))
    (h0 : J 0 m led)
    (turn : ∀ i n t m' led' h' tk, xs[i]? = some n → J i m' led' → Fm w h₀ env (upd m' x (.int n t)) ((I, .it l (i + 1)) :: led') h' →
      wpAny (model prog w) A (execs body env) (Turned w h₀ env s (J (i + 1)) I (.it l (i + 1)) R) (fun _ _ => False) { s with heap := h', toks := tk })
    (fin : ∀ m' led' h' tk, J xs.length m' led' → Fm w h₀ env m' led' h' → R (.ok .next) { s with heap := h', toks := tk }) :
    codeAny (model prog w) A (.forLoop (.Name x px) (.ref I) body [] env) R s := by
  refine codeAny_forLoop (fun k s' => ∃ i m' led' h' tk, s' = { s with heap := h', toks := tk } ∧ i ≤ xs.length ∧ J i m' led' ∧ Fm w h₀ env m' ((I, .it l i) :: led') h' ∧ k = xs.length - i) ?_ xs.length
    ⟨0, m, led, s.heap, s.toks, rfl, Nat.zero_le _, h0, F, rfl⟩
  rintro k s' ⟨i, m', led', h', tk, rfl, hi, hJ, F', rfl⟩
  obtain ⟨vs, pv, iv⟩ := hold i m' led' h' hJ F'
  have hlen : vs.length = xs.length := IntsAre.length iv
  have hit : h'.IsListIter I l i := F'.toVw.lst _ (.head _)
  cases hv : vs[i]? with
  | none =>
    have hlen2 : vs.length ≤ i := by simpa using hv
    have e : i = xs.length := by (first | lia | omega)
    subst e
    refine wpAny_pyNext_list_end hh hit pv.isList (by simpa using hv) fun h₁ he₁ => wpAny_execs_nil ?_
    exact fin m' led' h₁ tk hJ (F'.lose he₁)
  | some v =>
    have hlt : i < vs.length := (List.getElem?_eq_some_iff.mp hv).1
    obtain ⟨n, t, rfl, hn⟩ := IntsAre.at iv i v hv
    refine wpAny_pyNext_list_item hit pv.isList (x := .int n t) (by simpa using hv) fun h₁ hit₁ hs₁ => ?_
    have F₁ : Fm w h₀ env m' ((I, .it l (i + 1)) :: led') h₁ := F'.set .head (fun b o hb e => hs₁.extBut b o hb e) hit₁
    refine wpAny_assign_Name (F₁.store (s := { s with heap := h₁, toks := tk }) (.loc hx) hk (fun _ => hc) (by rw [hx]; decide) fun h₂ tk₂ F₂ => ?_)
    refine wpAny_mono (turn i n t m' led' h₂ tk₂ hn hJ F₂) (fun f s₃ h₃ => ?_) fun _ _ e => e.elim
    cases f with
    | next => obtain ⟨m₂, led₂, h₂, tk₂, rfl, hJ₂, F₃⟩ := h₃; exact ⟨xs.length - (i + 1), by (first | lia | omega), i + 1, m₂, led₂, h₂, tk₂, rfl, by (first | lia | omega), hJ₂, F₃, rfl⟩
    | cont => obtain ⟨m₂, led₂, h₂, tk₂, rfl, hJ₂, F₃⟩ := h₃; exact ⟨xs.length - (i + 1), by (first | lia | omega), i + 1, m₂, led₂, h₂, tk₂, rfl, by (first | lia | omega), hJ₂, F₃, rfl⟩
    | brk => exact h₃
    | ret v => exact h₃
end
end
section
theorem calm_L13 : True := by
  w_top off
  trivial
section
local macro_rules | `(tactic| walk_at "m:mulok") => `(tactic| first | exact mulok_b (by assumption) (by assumption) | exact mulok_r (by assumption) | exact mulok_r (by (first | lia | omega)))
theorem law_9a {prog : Program} {w : World} {A : Around} {E : Value → Shared → Prop} {Q : Flow → Shared → Prop} {s : Shared} {h₀ : Heap} {L ld lu : Addr} {m : Str → Option Value} {un dr : List Int}
    (F : Fm w h₀ (lawEnv w.params L) m [(lu, .il un), (ld, .il dr)] s.heap) (hh : A.handled = none) (hroom : A.depth + 2 < recursionLimit) (hl2 : un.length ≤ 8) (hb : ∀ x ∈ un, 0 ≤ x ∧ x < 256)
    (hd : m "drawn" = some (.ref ld)) (hun : m "union" = some (.ref lu))
    (K : ∀ h' tk m' t, Fm w h₀ (lawEnv w.params L) m' [(lu, .il un), (ld, .il dr)] h' → m' "drawn" = some (.ref ld) → m' "union" = some (.ref lu) → m' "whole" = some (.int (whAt un un.length) t) →
      wpAny (model prog w) A (execs ((lawBody w.params).drop 34) (lawEnv w.params L)) Q E { s with heap := h', toks := tk }) :
    wpAny (model prog w) A (execs ((lawBody w.params).drop 32) (lawEnv w.params L)) Q E s := by
  rw [show (lawBody w.params).drop 32 = st w.params 32 :: st w.params 33 :: (lawBody w.params).drop 34 from rfl]
  generalize (lawBody w.params).drop 34 = rest at *
  show wpAny _ _ (execs (Stmt.Assign _ _ _ :: Stmt.For (Expr.Name _ _) _ (lb w.params 33) [] _ :: rest) _) _ _ _
  walk_at "m:go"
  refine wpAny_For ?_
  walk_at "m:go"
  walk_at "m:iterR"
  rename Fm _ _ _ _ _ _ => G
  refine' loop_range (n := un.length) (by (first | lia | omega)) hh G (fun i m led => led = [(lu, .il un), (ld, .il dr)] ∧ m (Str.ofString "drawn") = some (.ref ld) ∧ m (Str.ofString "union") = some (.ref lu) ∧ ∃ t, m (Str.ofString "whole") = some (.int (whAt un i) t)) ?k ?x ?c ?h0 ?turn ?fin
  case k => exact rfl
  case x => exact rfl
  case c => exact rfl
  case h0 => exact ⟨rfl, hd, hun, _, rfl⟩
  case fin =>
    rintro m' led' h' tk ⟨rfl, h1, h2, t, h3⟩ F'
    exact K _ _ _ _ F' h1 h2 h3
  case turn =>
    rintro i t m' led' h' tk hi ⟨rfl, h1, h2, t3, h3⟩ F'
    clear G K hd hun
    have e0 : (0 + (i : Int)).toNat = i := by (first | lia | omega)
    have ez : 0 + (i : Int) = (i : Nat) := by (first | lia | omega)
    have ew : whAt un (i + 1) = whAt un i * ((prodZ (un.take (0 + i)) (un.getD (0 + (i : Int)).toNat 0)).natAbs : Int) := by rw [e0, Nat.zero_add]; rfl
    have hx := hb _ (getD_mem (d := 0) (show (0 + (i : Int)).toNat < un.length by (first | lia | omega)))
    have hb1 : ∀ y ∈ un.take (0 + i), (y - un.getD (0 + (i : Int)).toNat 0).natAbs < 2 ^ 62 := fun y hy => by have := hb y (List.mem_of_mem_take hy); (first | lia | omega)
    have hp8 := prodZ_b (xs := un.take (0 + i)) (p := un.getD (0 + (i : Int)).toNat 0) (fun y hy => by have := hb y (List.mem_of_mem_take hy); (first | lia | omega)) (by rw [List.length_take]; (first | lia | omega))
    have hp9 : ((prodZ (un.take (0 + i)) (un.getD (0 + (i : Int)).toNat 0)).natAbs : Int).natAbs < 2 ^ 4096 := by
      rw [Int.natAbs_natCast]
      exact Nat.lt_of_le_of_lt hp8 (by decide +kernel)
    have hw9 : (whAt un i).natAbs < 2 ^ 4096 := big_le (whAt_b hb hl2 i (by (first | lia | omega))) (by (first | lia | omega))
    rw [ew]
    generalize whAt un i = W at *
    rw [show lb w.params 33 = [sb w.params 33 0] from rfl]
    show wpAny _ _ (execs [Stmt.AugAssign _ _ _ _] _) _ _ _
    walk_at "m:go"
    rename Fm _ _ _ _ _ _ => G
    refine ⟨_, _, _, _, rfl, ?_, G.drop (.cons (_, _) (.refl _))⟩
    exact ⟨rfl, h1, h2, _, rfl⟩
end
end
section
theorem calm_L14 : True := by
  w_top off
  trivial
local macro_rules | `(tactic| walk_at "m:pad") => `(tactic| skip)
local macro_rules | `(tactic| walk_at "m:pad") => `(tactic| skip)
section
local macro_rules | `(tactic| walk_at "m:mulok") => `(tactic| first | exact mulok_b (by assumption) (by assumption) | exact mulok_r (by assumption) | exact mulok_r (by (first | lia | omega)))
local macro_rules | `(tactic| walk_at "binaryOp FloorDiv int int") => `(tactic| (refine' floordiv_B ?h0 ?h1 ?_; (case h0 => assumption); (case h1 => assumption); intro t' tk'))
noncomputable def lbn (P : Params) : List Stmt := match sb P 35 1 with | .For _ _ b _ _ => b | _ => []
theorem law_9t {prog : Program} {w : World} {A : Around} {E : Value → Shared → Prop} {Q : Flow → Shared → Prop} {s : Shared} {h₀ : Heap} {L ld lu : Addr} {m : Str → Option Value} {iv : Addr × LV} {un dr : List Int} {W tv p : Int} {t1 t2 t3 : Tok}
    (F : Fm w h₀ (lawEnv w.params L) m [iv, (lu, .il un), (ld, .il dr)] s.heap) (hh : A.handled = none) (hroom : A.depth + 2 < recursionLimit) (hl2 : un.length ≤ 8) (hdl : dr.length = 8) (hso : un.Pairwise (· ≤ ·)) (hb : ∀ x ∈ un, 0 ≤ x ∧ x < 256) (hpu : p ∈ un) (hpos : 0 < ((prodZ (othL un p) p).natAbs : Int)) (hW : W.natAbs < 2 ^ 4000)
    (hd : m "drawn" = some (.ref ld)) (hun : m "union" = some (.ref lu)) (hw : m "whole" = some (.int W t1)) (htot : m "total" = some (.int tv t2)) (hpt : m "point" = some (.int p t3))
    (K : ∀ h' tk m' t t4, Fm w h₀ (lawEnv w.params L) m' [iv, (lu, .il un), (ld, .il dr)] h' → m' "drawn" = some (.ref ld) → m' "union" = some (.ref lu) → m' "whole" = some (.int W t4) → m' "total" = some (.int (tv + trm un dr W p) t) →
      Q .next { s with heap := h', toks := tk }) :
    wpAny (model prog w) A (execs (lb w.params 35) (lawEnv w.params L)) Q E s := by
  rw [show lb w.params 35 = sb w.params 35 0 :: sb w.params 35 1 :: (lb w.params 35).drop 2 from rfl]
  generalize hrest : (lb w.params 35).drop 2 = rest at *
  show wpAny _ _ (execs (Stmt.Assign _ _ _ :: Stmt.For (Expr.Name _ _) _ (lbn w.params) [] _ :: rest) _) _ _ _
  walk_at "m:go"
  refine wpAny_For ?_
  walk_at "m:go"
  walk_at "m:iterR"
  rename Fm _ _ _ _ _ _ => G
  have hpb := hb p hpu
  refine' loop_range (n := un.length) (by (first | lia | omega)) hh G (fun i m led => led = [iv, (lu, .il un), (ld, .il dr)] ∧ m (Str.ofString "drawn") = some (.ref ld) ∧ m (Str.ofString "union") = some (.ref lu) ∧ m (Str.ofString "whole") = some (.int W t1) ∧ m (Str.ofString "total") = some (.int tv t2) ∧
    m (Str.ofString "point") = some (.int p t3) ∧ ∃ t, m (Str.ofString "value") = some (.int (hrn (dgt dr un.length) p i) t)) ?k ?x ?c ?h0 ?turn ?fin
  case k => exact rfl
  case x => exact rfl
  case c => exact rfl
  case h0 => exact ⟨rfl, hd, hun, hw, htot, hpt, _, rfl⟩
  case turn =>
    rintro i t m' led' h' tk hi ⟨rfl, h1, h2, h3, h4, h5, t6, h6⟩ F'
    clear G K hd hun hw htot hpt
    have hv9 : (hrn (dgt dr un.length) p i).natAbs < 2 ^ 4096 := hrn_big hpb (by (first | lia | omega))
    have hp62 : p.natAbs < 2 ^ 62 := by (first | lia | omega)
    have ev : hrn (dgt dr un.length) p (i + 1) = hrn (dgt dr un.length) p i * p + dr.getD ((un.length : Int) - 1 - (0 + (i : Int))).toNat 0 % 10 := by
      show _ * p + dr.getD (un.length - 1 - i) 0 % 10 = _
      rw [show ((un.length : Int) - 1 - (0 + (i : Int))).toNat = un.length - 1 - i from by (first | lia | omega)]
    rw [ev]
    generalize hrn (dgt dr un.length) p i = V at *
    rw [show lbn w.params = [(lbn w.params).getD 0 (.Pass ⟨0, 0, 0, 0⟩)] from rfl]
    show wpAny _ _ (execs [Stmt.Assign _ _ _] _) _ _ _
    walk_at "m:go"
    rename Fm _ _ _ _ _ _ => G
    refine ⟨_, _, _, _, rfl, ?_, G⟩
    exact ⟨rfl, h1, h2, h3, h4, h5, _, rfl⟩
  case fin =>
    rintro m' led' h' tk ⟨rfl, h1, h2, h3, h4, h5, t6, h6⟩ F'
    clear G hd hun hw htot hpt
    subst hrest
    have hv9 : (hrn (dgt dr un.length) p un.length).natAbs < 2 ^ 4096 := hrn_big hpb (by (first | lia | omega))
    have hox : ∀ y ∈ un.take (blN p un) ++ un.drop (brN p un), (y - p).natAbs < 2 ^ 62 := fun y hy => by have := hb y (othL_mem hy); (first | lia | omega)
    have ho8 := prodZ_b (xs := othL un p) (p := p) (fun y hy => by have := hb y (othL_mem hy); (first | lia | omega)) (Nat.le_trans (othL_len un p) hl2)
    have ho9 : ((prodZ (un.take (blN p un) ++ un.drop (brN p un)) p).natAbs : Int).natAbs < 2 ^ 4096 := by
      rw [Int.natAbs_natCast]
      exact Nat.lt_of_le_of_lt ho8 (by decide +kernel)
    have hpos' : 0 < ((prodZ (un.take (blN p un) ++ un.drop (brN p un)) p).natAbs : Int) := hpos
    have et : trm un dr W p = (1 - 2 * (((un.length : Int) - (brN p un : Nat)) % 2)) * (W / ((prodZ (un.take (blN p un) ++ un.drop (brN p un)) p).natAbs : Int)) * hrn (dgt dr un.length) p un.length := rfl
    have hdv : (W / ((prodZ (un.take (blN p un) ++ un.drop (brN p un)) p).natAbs : Int)).natAbs ≤ W.natAbs := Int.natAbs_ediv_le_natAbs _ _
    rw [et] at K
    have hm1 : (1 - 2 * (((un.length : Int) - (brN p un : Nat)) % 2)).natAbs ≤ 1 := by (first | lia | omega)
    have hm2 : (W / ((prodZ (un.take (blN p un) ++ un.drop (brN p un)) p).natAbs : Int)).natAbs < 2 ^ 4000 := Nat.lt_of_le_of_lt hdv hW
    have hm3 : ((1 - 2 * (((un.length : Int) - (brN p un : Nat)) % 2)) * (W / ((prodZ (un.take (blN p un) ++ un.drop (brN p un)) p).natAbs : Int))).natAbs < 2 ^ 4000 := by
      rw [Int.natAbs_mul]
      exact Nat.lt_of_le_of_lt (Nat.mul_le_mul_right _ hm1) (by rw [Nat.one_mul]; exact hm2)
    have h40 : (2 : Nat) ^ 4000 ≤ 2 ^ 4096 := Nat.pow_le_pow_right (by decide) (by decide)
    replace hm1 := Nat.lt_of_le_of_lt hm1 (show 1 < 2 ^ 4096 from Nat.one_lt_two_pow (by decide))
    replace hm2 := Nat.lt_of_lt_of_le hm2 h40
    replace hm3 := Nat.lt_of_lt_of_le hm3 h40
    clear h40 hdv ho8
    generalize hV : hrn (dgt dr un.length) p un.length = V at *
    show wpAny _ _ (execs [Stmt.Assign _ _ _, Stmt.Assign _ _ _, Stmt.AugAssign _ _ _ _] _) _ _ _
    walk_at "m:go"
    rename Fm _ _ _ _ _ _ => G
    exact K _ _ _ _ _ (G.pick [3, 4, 5] (by decide) rfl) h1 h2 h3 rfl
theorem law_9b {prog : Program} {w : World} {A : Around} {E : Value → Shared → Prop} {Q : Flow → Shared → Prop} {s : Shared} {h₀ : Heap} {L ld lu : Addr} {m : Str → Option Value} {un dr : List Int} {t1 : Tok} {g : Array GenState}
    (F : Fm w h₀ (lawEnv w.params L) m [(lu, .il un), (ld, .il dr)] s.heap) (hh : A.handled = none) (hroom : A.depth + 2 < recursionLimit) (hl1 : 1 ≤ un.length) (hl2 : un.length ≤ 8) (hdl : dr.length = 8) (hso : un.Pairwise (· ≤ ·)) (hb : ∀ x ∈ un, 0 ≤ x ∧ x < 256) (hpos : ∀ p ∈ un, 0 < ((prodZ (othL un p) p).natAbs : Int))
    (hd : m "drawn" = some (.ref ld)) (hun : m "union" = some (.ref lu)) (hw : m "whole" = some (.int (whAt un un.length) t1)) (htrue : totAt un dr (whAt un un.length) un.length = dgt dr un.length 0 * whAt un un.length)
    (K : ∀ h' tk, Ext h₀ h' → Q (.ret (.bool true)) { s with heap := h', toks := tk }) :
    wpAny (model prog w) A (execs ((lawBody w.params).drop 34) (lawEnv w.params L)) Q E s := by
  rw [show (lawBody w.params).drop 34 = [st w.params 34, st w.params 35, st w.params 36] from rfl]
  show wpAny _ _ (execs [Stmt.Assign _ _ _, Stmt.For (Expr.Name _ _) _ (lb w.params 35) [] _, Stmt.Return _ _] _) _ _ _
  have hwb := whAt_b hb hl2 un.length (Nat.le_refl _)
  have hW : (whAt un un.length).natAbs < 2 ^ 4000 := by
    refine Nat.lt_of_le_of_lt (Nat.le_trans hwb (Nat.pow_le_pow_right (by decide) hl2)) ?_
    decide +kernel
  generalize whAt un un.length = W at *
  walk_at "m:go"
  refine wpAny_For ?_
  walk_at "m:go"
  rename Fm _ _ _ _ _ _ => G
  obtain ⟨vs0, pv0, iv0⟩ := (G.toVw.lst (_, _) (.head _) : Holds _ lu (.il un))
  refine iterL_F G ⟨_, pv0.isList⟩ fun I h' tk G2 => ?_
  clear G
  refine' loop_ints (xs := un) hh G2 (fun i m led => led = [(lu, .il un), (ld, .il dr)] ∧ m (Str.ofString "drawn") = some (.ref ld) ∧ m (Str.ofString "union") = some (.ref lu) ∧ (∃ t, m (Str.ofString "whole") = some (.int W t)) ∧ ∃ t, m (Str.ofString "total") = some (.int (totAt un dr W i) t)) ?k ?x ?c ?hold ?h0 ?turn ?fin
  case k => exact rfl
  case x => exact rfl
  case c => exact rfl
  case hold =>
    rintro i m' led' h2 ⟨rfl, _⟩ F'
    exact F'.toVw.lst (lu, .il un) (.tail _ (.head _))
  case h0 => exact ⟨rfl, hd, hun, ⟨_, hw⟩, _, rfl⟩
  case turn =>
    rintro i p t' m' led' h2 tk2 hn ⟨rfl, h1, h2', ⟨t3, h3⟩, t4, h4⟩ F'
    clear G2 K hd hun hw
    have hpu : p ∈ un := List.mem_of_getElem? hn
    have hpi : un.getD i 0 = p := by rw [List.getD_eq_getElem?_getD, hn]; rfl
    refine law_9t F' hh hroom hl2 hdl hso hb hpu (hpos p hpu) hW h1 h2' h3 h4 rfl fun h5 tk5 m5 t5 t6 F5 q1 q2 q3 q4 => ?_
    refine ⟨_, _, _, _, rfl, ?_, F5⟩
    refine ⟨rfl, q1, q2, ⟨_, q3⟩, t5, ?_⟩
    rw [q4]
    show _ = some (Value.int (totAt un dr W i + trm un dr W (un.getD i 0)) t5)
    rw [hpi]
  case fin =>
    rintro m' led' h2 tk2 ⟨rfl, h1, h2', ⟨t3, h3⟩, t4, h4⟩ F'
    clear G2 hd hun hw
    rw [htrue] at h4
    have hW' : W.natAbs < 2 ^ 4096 := Nat.lt_of_lt_of_le hW (Nat.pow_le_pow_right (by decide) (by decide))
    have e1 : dgt dr un.length 0 = dr.getD ((un.length : Int) - 1).toNat 0 % 10 := by
      show dr.getD (un.length - 1 - 0) 0 % 10 = _
      rw [show ((un.length : Int) - 1).toNat = un.length - 1 - 0 from by (first | lia | omega)]
    rw [e1] at h4
    have hd9 : (dr.getD ((un.length : Int) - 1).toNat 0 % 10).natAbs < 2 ^ 4096 := Nat.lt_of_lt_of_le (show _ < 16 by (first | lia | omega)) (by decide +kernel)
    walk_at "m:go"
    dsimp only
    rw [beq_self_eq_true]
    exact K _ _ F'.toVw.keep
end
end
section
/-- a name by its blocks: so many marks, then a letter -/
def nmP : List (Nat × Nat) → Nat → List Nat
  | [], t => List.replicate t 34
  | x :: l, t => List.replicate x.1 34 ++ x.2 :: nmP l t
def tlP : List (Nat × Nat) → Nat → List Nat
  | [], t => List.replicate (t / 2) 34
  | x :: l, t => List.replicate (x.1 / 2) 34 ++ if x.1 % 2 = 0 then x.2 :: tlP l t else []
theorem p257_two (rest : List Nat) : ∀ q, p257 (List.replicate (2 * q) 34 ++ rest) = List.replicate q 34 ++ p257 rest
  | 0 => rfl
  | q + 1 => by
    rw [show 2 * (q + 1) = 2 * q + 1 + 1 from by (first | lia | omega), List.replicate_succ, List.replicate_succ, List.replicate_succ]
    show p257 (34 :: 34 :: (List.replicate (2 * q) 34 ++ rest)) = 34 :: (List.replicate q 34 ++ p257 rest)
    rw [← p257_two rest q]
    simp [p257]
theorem p257_let {c : Nat} (h : c ≠ 34) : ∀ rest, p257 (c :: rest) = c :: p257 rest
  | [] => by simp [p257, h]
  | d :: r => by simp [p257, h]
theorem p257_mark {c : Nat} (h : c ≠ 34) (rest : List Nat) : p257 (34 :: c :: rest) = [] := by simp [p257, h]
theorem p257_nm (t : Nat) : ∀ l : List (Nat × Nat), (∀ x ∈ l, x.2 ≠ 34) → p257 (nmP l t) = tlP l t
  | [], _ => by
    show p257 (List.replicate t 34) = List.replicate (t / 2) 34
    rcases Nat.mod_two_eq_zero_or_one t with h | h
    · have := p257_two [] (t / 2)
      rw [show 2 * (t / 2) = t from by (first | lia | omega), List.append_nil] at this
      rw [this]; simp [p257]
    · have := p257_two [34] (t / 2)
      rw [show List.replicate (2 * (t / 2)) 34 ++ [34] = List.replicate t 34 from by rw [← List.replicate_succ', show 2 * (t / 2) + 1 = t from by (first | lia | omega)]] at this
      rw [this]; simp [p257]
  | x :: l, h => by
    have hx := h x (.head _)
    show p257 (List.replicate x.1 34 ++ x.2 :: nmP l t) = List.replicate (x.1 / 2) 34 ++ if x.1 % 2 = 0 then x.2 :: tlP l t else []
    rcases Nat.mod_two_eq_zero_or_one x.1 with h2 | h2
    · have := p257_two (x.2 :: nmP l t) (x.1 / 2)
      rw [show 2 * (x.1 / 2) = x.1 from by (first | lia | omega)] at this
      rw [this, if_pos h2, p257_let hx, p257_nm t l fun y hy => h y (.tail _ hy)]
    · have := p257_two (34 :: x.2 :: nmP l t) (x.1 / 2)
      rw [show List.replicate (2 * (x.1 / 2)) 34 ++ 34 :: x.2 :: nmP l t = List.replicate x.1 34 ++ x.2 :: nmP l t from by
        rw [show x.1 = 2 * (x.1 / 2) + 1 from by (first | lia | omega), List.replicate_succ', show (2 * (x.1 / 2) + 1) / 2 = x.1 / 2 from by (first | lia | omega)]; simp] at this
      rw [this, if_neg (by (first | lia | omega)), p257_mark hx]
def ep : List (Nat × Nat) → Nat
  | [] => 0
  | x :: l => if x.1 % 2 = 0 then ep l + 1 else 0
theorem cntN_eq (cs : List Nat) : cntN cs = cs.countP fun c => c != 34 := by
  have h := List.length_eq_countP_add_countP (fun c : Nat => c != 34) (l := cs)
  have e : cs.countP (fun c => decide ¬(c != 34) = true) = cs.count 34 := by
    unfold List.count
    refine List.countP_congr fun c _ => ?_
    simp
  unfold cntN
  (first | lia | omega)
theorem cntN_tl (t : Nat) : ∀ l : List (Nat × Nat), (∀ x ∈ l, x.2 ≠ 34) → cntN (tlP l t) = ep l
  | [], _ => by
    rw [cntN_eq]
    show (List.replicate (t / 2) 34).countP _ = 0
    rw [List.countP_eq_zero]
    intro a ha
    rw [(List.mem_replicate.mp ha).2]; decide
  | x :: l, h => by
    have hx := h x (.head _)
    have ih := cntN_tl t l fun y hy => h y (.tail _ hy)
    rw [cntN_eq] at ih ⊢
    show (List.replicate (x.1 / 2) 34 ++ _).countP _ = if x.1 % 2 = 0 then ep l + 1 else 0
    rw [List.countP_append]
    have e : (List.replicate (x.1 / 2) 34).countP (fun c => c != 34) = 0 := by
      rw [List.countP_eq_zero]
      intro a ha
      rw [(List.mem_replicate.mp ha).2]; decide
    rw [e]
    split
    · rw [List.countP_cons_of_pos (by simpa using hx), ih]; (first | lia | omega)
    · simp
/-- blocks that are told whole -/
def fulP (l : List (Nat × Nat)) : List Nat := (l.map fun x => List.replicate (x.1 / 2) 34 ++ [x.2]).flatten
def rawP (l : List (Nat × Nat)) : List Nat := (l.map fun x => List.replicate x.1 34 ++ [x.2]).flatten
theorem nmP_raw (t : Nat) : ∀ l, nmP l t = rawP l ++ List.replicate t 34
  | [] => rfl
  | x :: l => by
    show List.replicate x.1 34 ++ x.2 :: nmP l t = _
    rw [nmP_raw t l]; simp [rawP]
theorem tlP_even (t : Nat) (l2 : List (Nat × Nat)) : ∀ l1 : List (Nat × Nat), (∀ x ∈ l1, x.1 % 2 = 0) → tlP (l1 ++ l2) t = fulP l1 ++ tlP l2 t
  | [], _ => rfl
  | x :: l, h => by
    show List.replicate (x.1 / 2) 34 ++ (if x.1 % 2 = 0 then x.2 :: tlP (l ++ l2) t else []) = _
    rw [if_pos (h x (.head _)), tlP_even t l2 l fun y hy => h y (.tail _ hy)]; simp [fulP]
theorem ep_even (l2 : List (Nat × Nat)) : ∀ l1 : List (Nat × Nat), (∀ x ∈ l1, x.1 % 2 = 0) → ep (l1 ++ l2) = l1.length + ep l2
  | [], _ => by simp
  | x :: l, h => by
    show (if x.1 % 2 = 0 then ep (l ++ l2) + 1 else 0) = _
    rw [if_pos (h x (.head _)), ep_even l2 l fun y hy => h y (.tail _ hy)]; simp; (first | lia | omega)
theorem dblq_append : ∀ a b : List Nat, dblq (a ++ b) = dblq a ++ dblq b
  | [], b => rfl
  | c :: a, b => by
    show dblq (c :: (a ++ b)) = _
    simp only [dblq]
    split <;> simp [dblq_append a b]
theorem dblq_rep : ∀ q, dblq (List.replicate q 34) = List.replicate (2 * q) 34
  | 0 => rfl
  | q + 1 => by
    rw [List.replicate_succ, show 2 * (q + 1) = 2 * q + 1 + 1 from by (first | lia | omega), List.replicate_succ, List.replicate_succ, ← dblq_rep q]
    simp [dblq]
theorem dblq_ful : ∀ l : List (Nat × Nat), (∀ x ∈ l, x.1 % 2 = 0) → (∀ x ∈ l, x.2 ≠ 34) → dblq (fulP l) = rawP l
  | [], _, _ => rfl
  | x :: l, h, h2 => by
    have ih := dblq_ful l (fun y hy => h y (.tail _ hy)) fun y hy => h2 y (.tail _ hy)
    have e1 : fulP (x :: l) = List.replicate (x.1 / 2) 34 ++ ([x.2] ++ fulP l) := by simp [fulP]
    have e2 : rawP (x :: l) = List.replicate x.1 34 ++ ([x.2] ++ rawP l) := by simp [rawP]
    have e3 : dblq [x.2] = [x.2] := by simp [dblq, h2 x (.head _)]
    have := h x (.head _)
    rw [e1, e2, dblq_append, dblq_append, dblq_rep, ih, e3, show 2 * (x.1 / 2) = x.1 from by (first | lia | omega)]
/-- the blocks of n letters -/
def blk (R : Nat → Nat) (n : Nat) : List (Nat × Nat) := (List.range n).map fun i => (R i, ah.getD i 0)
theorem ah_at {i : Nat} (h : i < 8) : ah.getD i 0 = 97 + i := by
  match i, h with
  | 0, _ | 1, _ | 2, _ | 3, _ | 4, _ | 5, _ | 6, _ | 7, _ => rfl
theorem blk_ne {R : Nat → Nat} {n : Nat} (hn : n ≤ 8) : ∀ x ∈ blk R n, x.2 ≠ 34 := by
  intro x hx
  obtain ⟨i, hi, rfl⟩ := List.mem_map.mp hx
  have := List.mem_range.mp hi
  show ah.getD i 0 ≠ 34
  rw [ah_at (by (first | lia | omega))]; (first | lia | omega)
theorem blk_split {R : Nat → Nat} {n c : Nat} (h : c < n) : ∃ r, blk R n = blk R c ++ (R c, ah.getD c 0) :: r := by
  obtain ⟨d, rfl⟩ : ∃ d, n = c + 1 + d := ⟨n - (c + 1), by (first | lia | omega)⟩
  unfold blk
  rw [List.range_add, List.range_succ, List.map_append, List.map_append]
  exact ⟨_, by rw [List.append_assoc]; rfl⟩
theorem blk_congr {R S : Nat → Nat} {n : Nat} (h : ∀ i, i < n → R i = S i) : blk R n = blk S n :=
  List.map_congr_left fun i hi => by rw [h i (List.mem_range.mp hi)]
theorem nmOf_blk (R : Nat → Nat) (n t : Nat) : nmOf ((List.range n).map fun i => (R i : Int)) t = nmP (blk R n) t := by
  rw [nmP_raw]
  unfold nmOf rawP blk
  rw [List.map_map, List.length_map, List.length_range]
  congr 1
  have h : ((rng 0 n).map (nmE ((List.range n).map fun i => (R i : Int)))) = (List.range n).map ((fun x : Nat × Nat => List.replicate x.1 34 ++ [x.2]) ∘ fun i => (R i, ah.getD i 0)) := by
    unfold rng
    rw [List.map_map]
    refine List.map_congr_left fun i hi => ?_
    have hi' := List.mem_range.mp hi
    show nmE _ (0 + (i : Int)) = _
    unfold nmE
    rw [show (0 + (i : Int)).toNat = i from by (first | lia | omega)]
    rw [List.getD_eq_getElem?_getD, List.getElem?_map, List.getElem?_range hi']
    rfl
  rw [h]
end
section
/-- runs at first; when all below c are even -/
def r0 (a : Nat → Nat) (i : Nat) : Nat := if i = 0 then 0 else a i - a (i - 1)
def Rc (a : Nat → Nat) (c i : Nat) : Nat := if i < c then r0 a i + r0 a i % 2 else r0 a i
def oc (a : Nat → Nat) : Nat → Nat
  | 0 => 0
  | c + 1 => oc a c + r0 a c % 2
def NSc (M : List Int) (a : Nat → Nat) : Nat → List Int
  | 0 => M
  | c + 1 => if r0 a c % 2 = 1 then insR (M.getD (a c - 1) 0) (NSc M a c) else NSc M a c
def Rl (a : Nat → Nat) (n c : Nat) : List Int := (List.range n).map fun i => (Rc a c i : Int)
def SSc (a : Nat → Nat) (n tail : Nat) : Nat → List (List Nat)
  | 0 => []
  | c + 1 => if r0 a c % 2 = 1 then SSc a n tail c ++ [telN tail (Rl a n c) ++ [34] ++ [ah.getD c 0]] else SSc a n tail c
def Fst (M : List Int) (a : Nat → Nat) (n tail c : Nat) : List Int × List Int × List (List Nat) := (Rl a n c, NSc M a c, SSc a n tail c)

theorem Rl_len (a : Nat → Nat) (n c : Nat) : (Rl a n c).length = n := by simp [Rl]
theorem Rl_at {a : Nat → Nat} {n c i : Nat} (h : i < n) : (Rl a n c).getD i 0 = (Rc a c i : Int) := by
  unfold Rl
  rw [List.getD_eq_getElem?_getD, List.getElem?_map, List.getElem?_range h]; rfl
theorem tel_Rl {a : Nat → Nat} {n c tail : Nat} (hn : n ≤ 8) : telN tail (Rl a n c) = tlP (blk (Rc a c) n) tail := by
  unfold telN Rl
  rw [nmOf_blk, p257_nm _ _ (blk_ne hn)]
theorem blk_even {a : Nat → Nat} {c : Nat} : ∀ x ∈ blk (Rc a c) c, x.1 % 2 = 0 := by
  intro x hx
  obtain ⟨i, hi, rfl⟩ := List.mem_map.mp hx
  have := List.mem_range.mp hi
  show Rc a c i % 2 = 0
  unfold Rc
  rw [if_pos this]; (first | lia | omega)
theorem tel_odd {a : Nat → Nat} {n c tail : Nat} (hn : n ≤ 8) (hc : c < n) (ho : r0 a c % 2 = 1) : telN tail (Rl a n c) = fulP (blk (Rc a c) c) ++ List.replicate (r0 a c / 2) 34 := by
  rw [tel_Rl hn]
  obtain ⟨r, e⟩ := blk_split (R := Rc a c) hc
  have hR : Rc a c c = r0 a c := by unfold Rc; rw [if_neg (Nat.lt_irrefl _)]
  rw [e, tlP_even _ _ _ blk_even]
  show _ ++ (List.replicate (Rc a c c / 2) 34 ++ if Rc a c c % 2 = 0 then _ else []) = _
  rw [hR, if_neg (by (first | lia | omega)), List.append_nil]
theorem cnt_odd {a : Nat → Nat} {n c tail : Nat} (hn : n ≤ 8) (hc : c < n) (ho : r0 a c % 2 = 1) : cntN (telN tail (Rl a n c)) = c := by
  rw [tel_Rl hn, cntN_tl _ _ (blk_ne hn)]
  obtain ⟨r, e⟩ := blk_split (R := Rc a c) hc
  have hR : Rc a c c = r0 a c := by unfold Rc; rw [if_neg (Nat.lt_irrefl _)]
  rw [e, ep_even _ _ blk_even]
  show _ + (if Rc a c c % 2 = 0 then _ else 0) = _
  rw [hR, if_neg (by (first | lia | omega))]
  simp [blk]
theorem tel_end {a : Nat → Nat} {n tail : Nat} (hn : n ≤ 8) : telN tail (Rl a n n) = fulP (blk (Rc a n) n) ++ List.replicate (tail / 2) 34 := by
  rw [tel_Rl hn]
  have := tlP_even tail [] (blk (Rc a n) n) blk_even
  rw [List.append_nil] at this
  rw [this]; rfl
theorem cnt_end {a : Nat → Nat} {n tail : Nat} (hn : n ≤ 8) : cntN (telN tail (Rl a n n)) = n := by
  rw [tel_Rl hn, cntN_tl _ _ (blk_ne hn)]
  have := ep_even [] (blk (Rc a n) n) blk_even
  rw [List.append_nil] at this
  rw [this]; simp [blk, ep]
theorem Rl_even {a : Nat → Nat} {n c : Nat} (h : r0 a c % 2 = 0) : Rl a n (c + 1) = Rl a n c := by
  unfold Rl
  refine List.map_congr_left fun i _ => ?_
  have : Rc a (c + 1) i = Rc a c i := by
    unfold Rc
    by_cases h1 : i < c
    · rw [if_pos h1, if_pos (by (first | lia | omega))]
    · by_cases h2 : i = c
      · subst h2; rw [if_pos (by (first | lia | omega)), if_neg h1]; (first | lia | omega)
      · rw [if_neg (by (first | lia | omega)), if_neg h1]
  rw [this]
theorem Rl_odd {a : Nat → Nat} {n c : Nat} (hc : c < n) (h : r0 a c % 2 = 1) : (Rl a n c).take c ++ [(Rl a n c).getD c 0 + 1] ++ (Rl a n c).drop (c + 1) = Rl a n (c + 1) := by
  have hl := Rl_len a n c
  have hl2 := Rl_len a n (c + 1)
  refine List.ext_getElem ?_ fun i h1 h2 => ?_
  · simp only [List.length_append, List.length_take, List.length_drop, List.length_cons, List.length_nil]; (first | lia | omega)
  · have hi : i < n := by (first | lia | omega)
    have e2 : (Rl a n (c + 1))[i] = (Rc a (c + 1) i : Int) := by simp [Rl]
    rw [e2]
    rcases Nat.lt_trichotomy i c with q | q | q
    · rw [List.getElem_append_left (by simp only [List.length_append, List.length_take, List.length_cons, List.length_nil]; (first | lia | omega)), List.getElem_append_left (by rw [List.length_take]; (first | lia | omega)), List.getElem_take]
      have e1 : (Rl a n c)[i]'(by (first | lia | omega)) = (Rc a c i : Int) := by simp [Rl]
      rw [e1]
      unfold Rc; rw [if_pos q, if_pos (by (first | lia | omega))]
    · subst q
      rw [List.getElem_append_left (by simp only [List.length_append, List.length_take, List.length_cons, List.length_nil]; (first | lia | omega)), List.getElem_append_right (by rw [List.length_take]; (first | lia | omega))]
      simp only [List.length_take, List.getElem_singleton]
      rw [Rl_at hi]
      unfold Rc; rw [if_neg (Nat.lt_irrefl _), if_pos (Nat.lt_succ_self _), h]; rfl
    · rw [List.getElem_append_right (by simp only [List.length_append, List.length_take, List.length_cons, List.length_nil]; (first | lia | omega)), List.getElem_drop]
      simp only [List.length_append, List.length_take, List.length_cons, List.length_nil]
      have e1 : (Rl a n c)[c + 1 + (i - (min c (Rl a n c).length + (0 + 1)))]'(by (first | lia | omega)) = (Rc a c (c + 1 + (i - (min c (Rl a n c).length + (0 + 1)))) : Int) := by simp [Rl]
      rw [e1, show c + 1 + (i - (min c (Rl a n c).length + (0 + 1))) = i from by (first | lia | omega)]
      unfold Rc; rw [if_neg (by (first | lia | omega)), if_neg (by (first | lia | omega))]
theorem Fst_even {M : List Int} {a : Nat → Nat} {n tail c : Nat} (h : r0 a c % 2 = 0) : Fst M a n tail (c + 1) = Fst M a n tail c := by
  unfold Fst
  rw [Rl_even h]
  show (_, (if r0 a c % 2 = 1 then _ else _), (if r0 a c % 2 = 1 then _ else _)) = _
  rw [if_neg (by (first | lia | omega)), if_neg (by (first | lia | omega))]
theorem Fst_odd {M av : List Int} {a : Nat → Nat} {n tail c : Nat} (hn : n ≤ 8) (hc : c < n) (hav : av.getD c 0 = (a c : Int)) (h : r0 a c % 2 = 1) : lstep M av tail (Fst M a n tail c) = Fst M a n tail (c + 1) := by
  unfold lstep Fst
  dsimp only
  rw [cnt_odd hn hc h, Rl_odd hc h, hav, show ((a c : Int) - 1).toNat = a c - 1 from by (first | lia | omega)]
  show _ = (_, (if r0 a c % 2 = 1 then _ else _), (if r0 a c % 2 = 1 then _ else _))
  rw [if_pos h, if_pos h]
theorem lsAt_Fst {M av ga : List Int} {a : Nat → Nat} {n tail : Nat} (hn : n ≤ 8) (hav : ∀ i, i < n → av.getD i 0 = (a i : Int)) (hga : [0] ++ ga.drop 1 = (List.range n).map fun i => (r0 a i : Int)) : ∀ c, c ≤ n → lsAt M av ga tail (oc a c) = Fst M a n tail c
  | 0, _ => by
    show ([0] ++ ga.drop 1, M, []) = (Rl a n 0, M, [])
    rw [hga]
    have : Rl a n 0 = (List.range n).map fun i => (r0 a i : Int) := List.map_congr_left fun i _ => by unfold Rc; rw [if_neg (Nat.not_lt_zero _)]
    rw [this]
  | c + 1, h => by
    have ih := lsAt_Fst (M := M) (tail := tail) hn hav hga c (by (first | lia | omega))
    rcases Nat.mod_two_eq_zero_or_one (r0 a c) with q | q
    · show lsAt M av ga tail (oc a c + r0 a c % 2) = _
      rw [q, Nat.add_zero, ih, Fst_even q]
    · show lsAt M av ga tail (oc a c + r0 a c % 2) = _
      rw [q]
      show lstep M av tail (lsAt M av ga tail (oc a c)) = _
      rw [ih, Fst_odd hn (by (first | lia | omega)) (hav c (by (first | lia | omega))) q]
theorem oc_at (a : Nat → Nat) : ∀ (c j : Nat), j ≤ oc a c → ∃ d, d ≤ c ∧ oc a d = j
  | 0, j, h => ⟨0, Nat.le_refl _, by show 0 = j; have : oc a 0 = 0 := rfl; (first | lia | omega)⟩
  | c + 1, j, h => by
    by_cases q : j ≤ oc a c
    · obtain ⟨d, h1, h2⟩ := oc_at a c j q
      exact ⟨d, by (first | lia | omega), h2⟩
    · have e : oc a (c + 1) = oc a c + r0 a c % 2 := rfl
      exact ⟨c + 1, Nat.le_refl _, by (first | lia | omega)⟩
theorem oc_lt (a : Nat → Nat) : ∀ (c j : Nat), j < oc a c → ∃ d, d < c ∧ oc a d = j ∧ r0 a d % 2 = 1
  | 0, j, h => by have : oc a 0 = 0 := rfl; (first | lia | omega)
  | c + 1, j, h => by
    have e : oc a (c + 1) = oc a c + r0 a c % 2 := rfl
    by_cases q : j < oc a c
    · obtain ⟨d, h1, h2, h3⟩ := oc_lt a c j q
      exact ⟨d, by (first | lia | omega), h2, h3⟩
    · exact ⟨c, Nat.lt_succ_self _, by (first | lia | omega), by (first | lia | omega)⟩
theorem oc_le (a : Nat → Nat) : ∀ c, 1 ≤ c → oc a c + 1 ≤ c
  | 0, h => by (first | lia | omega)
  | 1, _ => by
    have : oc a 1 = 0 + r0 a 0 % 2 := rfl
    have : r0 a 0 = 0 := rfl
    (first | lia | omega)
  | c + 2, _ => by
    have := oc_le a (c + 1) (by (first | lia | omega))
    have e : oc a (c + 2) = oc a (c + 1) + r0 a (c + 1) % 2 := rfl
    (first | lia | omega)
theorem NSc_len (M : List Int) (a : Nat → Nat) : ∀ c, (NSc M a c).length = M.length + oc a c
  | 0 => rfl
  | c + 1 => by
    have ih := NSc_len M a c
    have e : oc a (c + 1) = oc a c + r0 a c % 2 := rfl
    unfold NSc
    split
    · rw [insR_len]; (first | lia | omega)
    · (first | lia | omega)
theorem NSc_sorted {M : List Int} (h : M.Pairwise (· ≤ ·)) (a : Nat → Nat) : ∀ c, (NSc M a c).Pairwise (· ≤ ·)
  | 0 => h
  | c + 1 => by
    unfold NSc
    split
    · exact insR_sorted (NSc_sorted h a c)
    · exact NSc_sorted h a c
theorem SSc_len (a : Nat → Nat) (n tail : Nat) : ∀ c, (SSc a n tail c).length = oc a c
  | 0 => rfl
  | c + 1 => by
    have ih := SSc_len a n tail c
    have e : oc a (c + 1) = oc a c + r0 a c % 2 := rfl
    unfold SSc
    split
    · rw [List.length_append]; simp only [List.length_cons, List.length_nil]; (first | lia | omega)
    · (first | lia | omega)
theorem loop_ok {M av ga : List Int} {a : Nat → Nat} {n tail : Nat} (hn : n ≤ 8) (h1 : 1 ≤ n) (hM : M.Pairwise (· ≤ ·)) (hm8 : M.length ≤ 8) (ht : tail ≤ 8) (hal : av.length = n) (ham : ∀ i, i < n → a i ≤ M.length) (hav : ∀ i, i < n → av.getD i 0 = (a i : Int))
    (hga : [0] ++ ga.drop 1 = (List.range n).map fun i => (r0 a i : Int)) : LoopOk M av ga n tail (oc a n) := by
  have key : ∀ j, j ≤ oc a n → ∃ d, d ≤ n ∧ oc a d = j ∧ lsAt M av ga tail j = Fst M a n tail d := fun j hj => by
    obtain ⟨d, h1, h2⟩ := oc_at a n j hj
    exact ⟨d, h1, h2, h2 ▸ lsAt_Fst hn hav hga d h1⟩
  refine ⟨by have := oc_le a n h1; (first | lia | omega), hn, hm8, ht, hal, fun j hj => ?_, fun j hj => ?_, fun j hj => ?_, fun j hj => ?_, fun j hj => ?_, fun j hj => ?_, ?_⟩
  · obtain ⟨d, h1, h2, e⟩ := key j hj
    rw [e]; exact Rl_len a n d
  · obtain ⟨d, h1, h2, e⟩ := key j hj
    rw [e]
    intro r hr
    obtain ⟨i, hi, rfl⟩ := List.mem_map.mp hr
    have hi' := List.mem_range.mp hi
    have := ham i hi'
    have h3 : r0 a i ≤ 8 := by unfold r0; split <;> (first | lia | omega)
    have h4 : Rc a d i ≤ 9 := by unfold Rc; split <;> (first | lia | omega)
    (first | lia | omega)
  · obtain ⟨d, h1, h2, e⟩ := key j hj
    rw [e]; exact NSc_sorted hM a d
  · obtain ⟨d, h1, h2, e⟩ := key j hj
    rw [e, ← h2]; exact NSc_len M a d
  · obtain ⟨d, h1, h2, e⟩ := key j hj
    rw [e, ← h2]; exact SSc_len a n tail d
  · obtain ⟨d, h1, h2, h3⟩ := oc_lt a n j hj
    have e : lsAt M av ga tail j = Fst M a n tail d := h2 ▸ lsAt_Fst hn hav hga d (by (first | lia | omega))
    rw [e]
    show cntN (telN tail (Rl a n d)) < n ∧ 1 ≤ av.getD (cntN (telN tail (Rl a n d))) 0 ∧ av.getD (cntN (telN tail (Rl a n d))) 0 ≤ M.length
    rw [cnt_odd hn h1 h3, hav d h1]
    have := ham d h1
    have h5 : 1 ≤ a d := by
      unfold r0 at h3
      split at h3 <;> (first | lia | omega)
    (first | lia | omega)
  · rw [lsAt_Fst hn hav hga n (Nat.le_refl _)]
    exact cnt_end hn
end
section
theorem stops_pre {a : Nat → Nat} {n tail : Nat} (hn : n ≤ 8) : ∀ c, c ≤ n → ∀ st ∈ SSc a n tail c, st.isPrefixOf (telN tail (Rl a n n)) = true
  | 0, _, st, h => nomatch h
  | c + 1, hc, st, h => by
    unfold SSc at h
    split at h
    · rename_i ho
      rcases List.mem_append.mp h with h | h
      · exact stops_pre hn c (by (first | lia | omega)) st h
      · rw [List.mem_singleton.mp h, tel_odd hn (by (first | lia | omega)) ho, tel_end hn]
        obtain ⟨r, e⟩ := blk_split (R := Rc a n) (show c < n by (first | lia | omega))
        have e2 : blk (Rc a n) c = blk (Rc a c) c := blk_congr fun i hi => by unfold Rc; rw [if_pos (by (first | lia | omega)), if_pos hi]
        have e3 : Rc a n c / 2 = r0 a c / 2 + 1 := by unfold Rc; rw [if_pos (by (first | lia | omega))]; (first | lia | omega)
        rw [List.isPrefixOf_iff_prefix]
        rw [e, e2]
        have e4 : fulP (blk (Rc a c) c ++ (Rc a n c, ah.getD c 0) :: r) = fulP (blk (Rc a c) c) ++ (List.replicate (r0 a c / 2) 34 ++ ([34] ++ ([ah.getD c 0] ++ fulP r))) := by
          unfold fulP
          rw [List.map_append, List.flatten_append, List.map_cons, List.flatten_cons]
          dsimp only
          rw [e3, List.replicate_succ']
          simp
        rw [e4]
        exact ⟨fulP r ++ List.replicate (tail / 2) 34, by simp⟩
    · exact stops_pre hn c (by (first | lia | omega)) st h
theorem nm_end {a : Nat → Nat} {n tail : Nat} : nmOf (Rl a n n) tail = rawP (blk (Rc a n) n) ++ List.replicate tail 34 := by
  unfold Rl; rw [nmOf_blk, nmP_raw]
theorem written_ok {a : Nat → Nat} {n tail : Nat} (hn : n ≤ 8) : nmOf (Rl a n n) tail = dblq (telN tail (Rl a n n)) ∨ nmOf (Rl a n n) tail = dblq (telN tail (Rl a n n)) ++ [34] := by
  rw [nm_end, tel_end hn, dblq_append, dblq_ful _ blk_even (blk_ne hn), dblq_rep]
  rcases Nat.mod_two_eq_zero_or_one tail with q | q
  · left; rw [show 2 * (tail / 2) = tail from by (first | lia | omega)]
  · right
    rw [List.append_assoc, ← List.replicate_succ', show 2 * (tail / 2) + 1 = tail from by (first | lia | omega)]
theorem first_let {a : Nat → Nat} {n tail : Nat} (h1 : 1 ≤ n) : ∃ cs, nmOf (Rl a n n) tail = 97 :: cs := by
  rw [nm_end]
  obtain ⟨r, e⟩ := blk_split (R := Rc a n) (show 0 < n by (first | lia | omega))
  have e2 : Rc a n 0 = 0 := by unfold Rc r0; simp
  rw [e, e2]
  exact ⟨rawP r ++ List.replicate tail 34, rfl⟩

/-- how many lie below: inserting one -/
theorem countP_insR (f : Int → Bool) (x : Int) : ∀ xs : List Int, (insR x xs).countP f = xs.countP f + (if f x then 1 else 0)
  | [] => by simp [insR, List.countP_cons]
  | y :: r => by
    unfold insR
    split
    · rw [List.countP_cons]
    · rw [List.countP_cons, countP_insR f x r, List.countP_cons]; (first | lia | omega)
theorem countP_insL (f : Int → Bool) (x : Int) : ∀ xs : List Int, (insL x xs).countP f = xs.countP f + (if f x then 1 else 0)
  | [] => by simp [insL, List.countP_cons]
  | y :: r => by
    unfold insL
    split
    · rw [List.countP_cons]
    · rw [List.countP_cons, countP_insL f x r, List.countP_cons]; (first | lia | omega)

theorem prodZ_prL (p : Int) : ∀ (xs : List Int) (c : Int), xs.foldl (fun a x => a * (x - p)) c = c * prL xs p
  | [], c => by simp [prL]
  | x :: r, c => by
    rw [List.foldl_cons, prodZ_prL p r]
    simp only [prL]
    rw [Int.mul_assoc]
theorem prodZ_eq (xs : List Int) (p : Int) : prodZ xs p = prL xs p := by
  unfold prodZ; rw [prodZ_prL, Int.one_mul]
/-- the sign of a product -/
theorem prL_sign {p : Int} : ∀ {xs : List Int}, (∀ x ∈ xs, x ≠ p) → (blN p xs % 2 = 0 → 0 < prL xs p) ∧ (blN p xs % 2 = 1 → prL xs p < 0)
  | [], _ => ⟨fun _ => by simp [prL], fun h => by simp [blN] at h⟩
  | x :: r, h => by
    obtain ⟨i1, i2⟩ := prL_sign (xs := r) fun y hy => h y (.tail _ hy)
    have hx := h x (.head _)
    have e : blN p (x :: r) = blN p r + (if x < p then 1 else 0) := by
      unfold blN; rw [List.countP_cons]; simp
    rw [e]
    show (_ → 0 < (x - p) * prL r p) ∧ (_ → (x - p) * prL r p < 0)
    by_cases q : x < p
    · rw [if_pos q]
      exact ⟨fun z => Int.mul_pos_of_neg_of_neg (by (first | lia | omega)) (i2 (by (first | lia | omega))), fun z => Int.mul_neg_of_neg_of_pos (by (first | lia | omega)) (i1 (by (first | lia | omega)))⟩
    · rw [if_neg q]
      exact ⟨fun z => Int.mul_pos (by (first | lia | omega)) (i1 (by (first | lia | omega))), fun z => Int.mul_neg_of_pos_of_neg (by (first | lia | omega)) (i2 (by (first | lia | omega)))⟩
theorem prodZ_pos {p : Int} {xs : List Int} (h : ∀ x ∈ xs, x ≠ p) : decide (prodZ xs p > 0) = decide (blN p xs % 2 = 0) := by
  rw [prodZ_eq]
  obtain ⟨i1, i2⟩ := prL_sign h
  rcases Nat.mod_two_eq_zero_or_one (blN p xs) with q | q
  · rw [decide_eq_true (i1 q), decide_eq_true q]
  · have := i2 q
    rw [decide_eq_false (by (first | lia | omega)), decide_eq_false (by (first | lia | omega))]
end
section
/-- where mail stands: inside marks or not, what is left so far -/
structure Mach (cs : List Nat) (pos : Nat) (st : Nat × Option Nat × List (List Nat)) (ins : Bool) (outp : List Nat) : Prop where
  off : ins = false → st.2.1 = none ∧ st.1 ≤ pos ∧ outp = st.2.2.flatten ++ (cs.drop st.1).take (pos - st.1)
  on : ins = true → ∃ o, st.2.1 = some o ∧ st.1 ≤ o ∧ o < pos ∧ outp = st.2.2.flatten ++ (cs.drop st.1).take (o - st.1)
def par (k : Nat) : Bool := k % 2 == 1
theorem par_succ (k : Nat) : par (k + 1) = !par k := by
  unfold par
  rcases Nat.mod_two_eq_zero_or_one k with q | q
  · rw [q, show (k + 1) % 2 = 1 from by (first | lia | omega)]; rfl
  · rw [q, show (k + 1) % 2 = 0 from by (first | lia | omega)]; rfl
theorem mach_q {cs : List Nat} {pos : Nat} {st : Nat × Option Nat × List (List Nat)} {ins : Bool} {outp : List Nat} (m : Mach cs pos st ins outp) : Mach cs (pos + 1) (stStep cs st (pos, [34])) (!ins) outp := by
  cases ins with
  | false =>
    obtain ⟨h1, h2, h3⟩ := m.off rfl
    obtain ⟨a, b, c⟩ := st
    dsimp only at h1 h2 h3
    subst h1
    refine ⟨(fun q => nomatch q), fun _ => ⟨pos, by simp [stStep], by simpa [stStep] using h2, by (first | lia | omega), by simpa [stStep] using h3⟩⟩
  | true =>
    obtain ⟨o, h1, h2, h3, h4⟩ := m.on rfl
    obtain ⟨a, b, c⟩ := st
    dsimp only at h1 h2 h3 h4
    subst h1
    refine ⟨fun _ => ⟨by simp [stStep], by simp [stStep], ?_⟩, fun q => nomatch q⟩
    simp only [stStep, if_true]
    by_cases e : a = o
    · subst e
      rw [if_pos rfl]
      simpa using h4
    · rw [if_neg e]
      simpa using h4
theorem mach_t {cs pre chunk post : List Nat} {st : Nat × Option Nat × List (List Nat)} {ins : Bool} {outp : List Nat} (e : cs = pre ++ (chunk ++ post)) (m : Mach cs pre.length st ins outp) : Mach cs (pre.length + chunk.length) st ins (if ins then outp else outp ++ chunk) := by
  cases ins with
  | false =>
    obtain ⟨h1, h2, h3⟩ := m.off rfl
    refine ⟨fun _ => ⟨h1, by (first | lia | omega), ?_⟩, fun q => nomatch q⟩
    rw [if_neg (by decide), h3, List.append_assoc, show pre.length + chunk.length - st.1 = (pre.length - st.1) + chunk.length from by (first | lia | omega), List.take_add, List.drop_drop, show st.1 + (pre.length - st.1) = pre.length from by (first | lia | omega)]
    congr 2
    rw [e, List.drop_left, List.take_left]
  | true =>
    obtain ⟨o, h1, h2, h3, h4⟩ := m.on rfl
    exact ⟨(fun q => nomatch q), fun _ => ⟨o, h1, h2, by (first | lia | omega), h4⟩⟩
theorem fold_q {cs : List Nat} : ∀ (q : Nat) (pre post : List Nat) (st : Nat × Option Nat × List (List Nat)) (k : Nat) (outp : List Nat), cs = pre ++ (List.replicate q 34 ++ post) → Mach cs pre.length st (par k) outp →
    ∃ st', (escs false pre.length (List.replicate q 34 ++ post)).foldl (stStep cs) st = (escs false (pre.length + q) post).foldl (stStep cs) st' ∧ Mach cs (pre.length + q) st' (par (k + q)) outp
  | 0, pre, post, st, k, outp, _, m => ⟨st, rfl, m⟩
  | q + 1, pre, post, st, k, outp, e, m => by
    have m2 := mach_q m
    rw [← par_succ] at m2
    have e2 : cs = (pre ++ [34]) ++ (List.replicate q 34 ++ post) := by rw [e, List.replicate_succ]; simp
    have hl : (pre ++ [34]).length = pre.length + 1 := by simp
    obtain ⟨st', h1, h2⟩ := fold_q q (pre ++ [34]) post _ (k + 1) outp e2 (by rw [hl]; exact m2)
    rw [hl] at h1 h2
    refine ⟨st', ?_, ?_⟩
    · rw [List.replicate_succ, List.cons_append]
      have : escs false pre.length (34 :: (List.replicate q 34 ++ post)) = (pre.length, [34]) :: escs false (pre.length + 1) (List.replicate q 34 ++ post) := if_neg (by decide)
      rw [this, List.foldl_cons, h1, show pre.length + 1 + q = pre.length + (q + 1) from by (first | lia | omega)]
    · rw [show pre.length + (q + 1) = pre.length + 1 + q from by (first | lia | omega), show k + (q + 1) = k + 1 + q from by (first | lia | omega)]
      exact h2
def IsPc (pc : List Nat) : Prop := ∃ c, c ≠ 34 ∧ c ≠ 92 ∧ (pc = [c] ∨ pc = [92, 34, c] ∨ pc = [c, 92, 92])
theorem stStep_t {cs : List Nat} {st : Nat × Option Nat × List (List Nat)} {i : Nat} {t : List Nat} (h : t ≠ [34]) : stStep cs st (i, t) = st := if_neg h
theorem fold_pc {cs pc post : List Nat} {pos : Nat} {st : Nat × Option Nat × List (List Nat)} (h : IsPc pc) : (escs false pos (pc ++ post)).foldl (stStep cs) st = (escs false (pos + pc.length) post).foldl (stStep cs) st := by
  obtain ⟨c, h1, h2, e | e | e⟩ := h
  · subst e
    have : escs false pos ([c] ++ post) = (pos, [c]) :: escs false (pos + 1) post := if_neg h2
    rw [this, List.foldl_cons, stStep_t (by simpa using h1)]; rfl
  · subst e
    have e1 : escs false pos ([92, 34, c] ++ post) = escs true (pos + 1) (34 :: c :: post) := if_pos rfl
    have e2 : escs true (pos + 1) (34 :: c :: post) = (pos + 1, [92, 34]) :: escs false (pos + 1 + 1) (c :: post) := rfl
    have e3 : escs false (pos + 1 + 1) (c :: post) = (pos + 1 + 1, [c]) :: escs false (pos + 1 + 1 + 1) post := if_neg h2
    rw [e1, e2, e3, List.foldl_cons, List.foldl_cons, stStep_t (t := [92, 34]) (by simp), stStep_t (t := [c]) (by simpa using h1)]; rfl
  · subst e
    have e1 : escs false pos ([c, 92, 92] ++ post) = (pos, [c]) :: escs false (pos + 1) (92 :: 92 :: post) := if_neg h2
    have e2 : escs false (pos + 1) (92 :: 92 :: post) = escs true (pos + 1 + 1) (92 :: post) := if_pos rfl
    have e3 : escs true (pos + 1 + 1) (92 :: post) = (pos + 1 + 1, [92, 92]) :: escs false (pos + 1 + 1 + 1) post := rfl
    rw [e1, e2, e3, List.foldl_cons, List.foldl_cons, stStep_t (t := [c]) (by simpa using h1), stStep_t (t := [92, 92]) (by simp)]; rfl
/-- a mail's text, what is left of it -/
def flB (l : List (Nat × List Nat)) : List Nat := (l.map fun x => List.replicate x.1 34 ++ x.2).flatten
def sumB : List (Nat × List Nat) → Nat
  | [] => 0
  | x :: l => x.1 + sumB l
def outB : Nat → List (Nat × List Nat) → List Nat
  | _, [] => []
  | k, x :: l => (if par (k + x.1) then [] else x.2) ++ outB (k + x.1) l
theorem fold_B {cs : List Nat} : ∀ (l : List (Nat × List Nat)) (pre post : List Nat) (st : Nat × Option Nat × List (List Nat)) (k : Nat) (outp : List Nat), cs = pre ++ (flB l ++ post) → (∀ x ∈ l, IsPc x.2) → Mach cs pre.length st (par k) outp →
    ∃ st', (escs false pre.length (flB l ++ post)).foldl (stStep cs) st = (escs false (pre.length + (flB l).length) post).foldl (stStep cs) st' ∧ Mach cs (pre.length + (flB l).length) st' (par (k + sumB l)) (outp ++ outB k l)
  | [], pre, post, st, k, outp, _, _, m => ⟨st, rfl, by simpa [flB, sumB, outB] using m⟩
  | x :: l, pre, post, st, k, outp, e, hp, m => by
    have ef : flB (x :: l) = List.replicate x.1 34 ++ (x.2 ++ flB l) := by simp [flB]
    rw [ef] at e ⊢
    have ea : (List.replicate x.1 34 ++ (x.2 ++ flB l)) ++ post = List.replicate x.1 34 ++ (x.2 ++ (flB l ++ post)) := by simp
    rw [ea] at e ⊢
    obtain ⟨st1, h1, m1⟩ := fold_q x.1 pre (x.2 ++ (flB l ++ post)) st k outp e m
    have e2 : cs = (pre ++ List.replicate x.1 34) ++ (x.2 ++ (flB l ++ post)) := by rw [e]; simp
    have hl2 : (pre ++ List.replicate x.1 34).length = pre.length + x.1 := by simp
    have m2 := mach_t e2 (by rw [hl2]; exact m1)
    have e3 : cs = (pre ++ List.replicate x.1 34 ++ x.2) ++ (flB l ++ post) := by rw [e2]; simp
    have hl3 : (pre ++ List.replicate x.1 34 ++ x.2).length = pre.length + x.1 + x.2.length := by simp; (first | lia | omega)
    obtain ⟨st3, h3, m3⟩ := fold_B l (pre ++ List.replicate x.1 34 ++ x.2) post st1 (k + x.1) _ e3 (fun y hy => hp y (.tail _ hy)) (by rw [hl3, ← hl2]; exact m2)
    rw [hl3] at h3 m3
    refine ⟨st3, ?_, ?_⟩
    · rw [h1, fold_pc (hp x (.head _)), h3]
      simp only [List.length_append, List.length_replicate]
      rw [show pre.length + (x.1 + (x.2.length + (flB l).length)) = pre.length + x.1 + x.2.length + (flB l).length from by (first | lia | omega)]
    · simp only [List.length_append, List.length_replicate]
      rw [show pre.length + (x.1 + (x.2.length + (flB l).length)) = pre.length + x.1 + x.2.length + (flB l).length from by (first | lia | omega)]
      show Mach _ _ _ (par (k + (x.1 + sumB l))) (outp ++ ((if par (k + x.1) then [] else x.2) ++ outB (k + x.1) l))
      rw [← Nat.add_assoc, ← List.append_assoc]
      have : (if par (k + x.1) = true then outp else outp ++ x.2) = outp ++ (if par (k + x.1) = true then [] else x.2) := by split <;> simp
      rw [this] at m3
      exact m3
theorem escs_no {cs : List Nat} (h : 34 ∉ cs) : ∀ (i : Nat) (e : Bool), ∀ x ∈ escs e i cs, x.2 ≠ [34] := by
  induction cs with
  | nil =>
    intro i e x hx
    cases e with
    | true => have : x = (i - 1, [92]) := List.mem_singleton.mp hx
              rw [this]; simp
    | false => cases hx
  | cons c r ih =>
    intro i e x hx
    have hr : 34 ∉ r := fun q => h (.tail _ q)
    have hc : c ≠ 34 := fun q => h (q ▸ .head _)
    cases e with
    | true =>
      rcases List.mem_cons.mp (show x ∈ (i, [92, c]) :: escs false (i + 1) r from hx) with q | q
      · rw [q]; simp
      · exact ih hr _ _ x q
    | false =>
      by_cases h92 : c = 92
      · have e : escs false i (c :: r) = escs true (i + 1) r := if_pos h92
        rw [e] at hx; exact ih hr _ _ x hx
      · have e : escs false i (c :: r) = (i, [c]) :: escs false (i + 1) r := if_neg h92
        rw [e] at hx
        rcases List.mem_cons.mp hx with q | q
        · rw [q]; simpa using hc
        · exact ih hr _ _ x q
theorem fold_none {cs : List Nat} {st : Nat × Option Nat × List (List Nat)} : ∀ l : List (Nat × List Nat), (∀ x ∈ l, x.2 ≠ [34]) → l.foldl (stStep cs) st = st
  | [], _ => rfl
  | x :: l, h => by
    rw [List.foldl_cons, show stStep cs st x = st from if_neg (h x (.head _))]
    exact fold_none l fun y hy => h y (.tail _ hy)
theorem strip_eq (cs : List Nat) : strip cs = (stEnd cs ((escs false 0 cs).foldl (stStep cs) (0, none, []))).flatten := by
  unfold strip
  split
  · rfl
  · rename_i h
    rw [fold_none _ (escs_no h 0 false)]
    unfold stEnd
    cases cs with
    | nil => rfl
    | cons c r => simp
theorem mach_start (cs : List Nat) : Mach cs 0 (0, none, []) (par 0) [] := ⟨fun _ => ⟨rfl, Nat.le_refl _, by simp⟩, fun q => nomatch q⟩
theorem strip_even {l : List (Nat × List Nat)} {t : Nat} (hp : ∀ x ∈ l, IsPc x.2) (he : (sumB l + t) % 2 = 0) : strip (flB l ++ List.replicate t 34) = outB 0 l := by
  rw [strip_eq]
  generalize hcs : flB l ++ List.replicate t 34 = cs
  obtain ⟨st1, h1, m1⟩ := fold_B (cs := cs) l [] (List.replicate t 34) (0, none, []) 0 [] hcs.symm hp (mach_start cs)
  have e2 : cs = flB l ++ (List.replicate t 34 ++ []) := by rw [← hcs]; simp
  simp only [List.length_nil, Nat.zero_add, List.nil_append] at h1 m1
  obtain ⟨st2, h2, m2⟩ := fold_q (cs := cs) t (flB l) [] st1 (sumB l) _ e2 m1
  rw [List.append_nil] at h2
  rw [hcs] at h1
  rw [h1, h2]
  show (stEnd cs st2).flatten = _
  have hpar : par (sumB l + t) = false := by unfold par; rw [he]; rfl
  rw [hpar] at m2
  obtain ⟨a1, a2, a3⟩ := m2.off rfl
  have hlen : cs.length = (flB l).length + t := by rw [← hcs]; simp
  rw [a3]
  unfold stEnd
  split
  · rw [List.flatten_append, ← hlen, List.take_of_length_le (by rw [List.length_drop]; (first | lia | omega))]; simp
  · rw [show (flB l).length + t - st2.1 = 0 from by (first | lia | omega), List.take_zero, List.append_nil]
theorem strip_odd {l : List (Nat × List Nat)} {t : Nat} {pc : List Nat} (hp : ∀ x ∈ l, IsPc x.2) (hpc : IsPc pc) (he : (sumB l + t) % 2 = 0) : strip (flB l ++ List.replicate t 34 ++ [34] ++ pc) = outB 0 l ++ [34] ++ pc := by
  rw [strip_eq]
  have hrep : List.replicate t 34 ++ [34] = List.replicate (t + 1) 34 := (List.replicate_succ' (n := t) (a := 34)).symm
  have hcs0 : flB l ++ List.replicate t 34 ++ [34] ++ pc = flB l ++ (List.replicate (t + 1) 34 ++ pc) := by rw [← hrep]; simp
  rw [hcs0]
  generalize hcs : flB l ++ (List.replicate (t + 1) 34 ++ pc) = cs
  obtain ⟨st1, h1, m1⟩ := fold_B (cs := cs) l [] (List.replicate (t + 1) 34 ++ pc) (0, none, []) 0 [] hcs.symm hp (mach_start cs)
  simp only [List.length_nil, Nat.zero_add, List.nil_append] at h1 m1
  have e2 : cs = flB l ++ (List.replicate t 34 ++ (34 :: pc)) := by rw [← hcs, ← hrep]; simp
  obtain ⟨st2, h2, m2⟩ := fold_q (cs := cs) t (flB l) (34 :: pc) st1 (sumB l) _ e2 m1
  have hpar : par (sumB l + t) = false := by unfold par; rw [he]; rfl
  rw [hpar] at m2
  have m3 := mach_q m2
  rw [hcs] at h1
  rw [h1, ← hrep, List.append_assoc]
  show (stEnd cs ((escs false (flB l).length (List.replicate t 34 ++ (34 :: pc))).foldl (stStep cs) st1)).flatten = _
  rw [h2]
  have e4 : escs false ((flB l).length + t) (34 :: pc) = ((flB l).length + t, [34]) :: escs false ((flB l).length + t + 1) pc := if_neg (by decide)
  have e5 := fold_pc (cs := cs) (post := []) (pos := (flB l).length + t + 1) (st := stStep cs st2 ((flB l).length + t, [34])) hpc
  rw [List.append_nil] at e5
  rw [e4, List.foldl_cons, e5]
  show (stEnd cs (stStep cs st2 ((flB l).length + t, [34]))).flatten = _
  obtain ⟨a1, a2, a3⟩ := m2.off rfl
  obtain ⟨s, op, res⟩ := st2
  dsimp only at a1 a2 a3
  subst a1
  have hlen : cs.length = (flB l).length + t + 1 + pc.length := by rw [e2]; simp; (first | lia | omega)
  have e6 : stStep cs (s, none, res) ((flB l).length + t, [34]) = (s, some ((flB l).length + t), res) := if_pos rfl
  rw [e6]
  unfold stEnd
  rw [if_pos (by show s < cs.length; (first | lia | omega)), List.flatten_append, a3, List.append_assoc, List.append_assoc]
  congr 1
  have h8 : cs.drop s = (cs.drop s).take ((flB l).length + t - s) ++ cs.drop ((flB l).length + t) := by
    have := (List.take_append_drop ((flB l).length + t - s) (cs.drop s)).symm
    rwa [List.drop_drop, show s + ((flB l).length + t - s) = (flB l).length + t from by (first | lia | omega)] at this
  have h9 : cs.drop ((flB l).length + t) = [34] ++ pc := by
    rw [e2, ← List.append_assoc]
    have : (flB l ++ List.replicate t 34).length = (flB l).length + t := by simp
    rw [← this, List.drop_left]; rfl
  show [cs.drop s].flatten = _
  rw [List.flatten_cons, List.flatten_nil, List.append_nil]
  rw [h9] at h8
  exact h8
end
section
theorem getD_mem' {xs : List Int} {i : Nat} (h : i < xs.length) : xs.getD i 0 ∈ xs := getD_mem h
theorem lt_getD {xs : List Int} (hs : xs.Pairwise (· < ·)) {i j : Nat} (hij : i < j) (hj : j < xs.length) : xs.getD i 0 < xs.getD j 0 := by
  have hi : i < xs.length := by (first | lia | omega)
  have := List.pairwise_iff_getElem.mp hs i j hi hj hij
  rw [List.getD_eq_getElem?_getD, List.getD_eq_getElem?_getD, List.getElem?_eq_getElem hi, List.getElem?_eq_getElem hj]
  exact this
theorem blN_mono {p q : Int} (h : p ≤ q) (xs : List Int) : blN p xs ≤ blN q xs := List.countP_mono_left fun x _ hx => by simp at *; (first | lia | omega)
theorem below_iff {p : Int} : ∀ {xs : List Int} {k : Nat}, xs.Pairwise (· < ·) → k < xs.length → (xs.getD k 0 < p ↔ k < blN p xs)
  | [], k, _, h => by simp at h
  | y :: r, 0, hs, _ => by
    obtain ⟨h1, h2⟩ := List.pairwise_cons.mp hs
    show y < p ↔ 0 < blN p (y :: r)
    unfold blN
    rw [List.countP_cons]
    constructor
    · intro h; rw [if_pos (by simpa using h)]; (first | lia | omega)
    · intro h
      by_cases q : y < p
      · exact q
      · exfalso
        rw [if_neg (by simpa using q), Nat.add_zero] at h
        have : r.countP (fun y => decide (y < p)) = 0 := List.countP_eq_zero.mpr fun x hx => by have := h1 x hx; simp; (first | lia | omega)
        (first | lia | omega)
  | y :: r, k + 1, hs, hk => by
    obtain ⟨h1, h2⟩ := List.pairwise_cons.mp hs
    have ih := below_iff (p := p) (k := k) h2 (by simpa using hk)
    show r.getD k 0 < p ↔ k + 1 < blN p (y :: r)
    unfold blN at ih ⊢
    rw [List.countP_cons]
    have hy := h1 _ (getD_mem (d := 0) (show k < r.length by simpa using hk))
    by_cases q : y < p
    · rw [if_pos (by simpa using q), ih]; (first | lia | omega)
    · rw [if_neg (by simpa using q)]
      have : r.countP (fun y => decide (y < p)) = 0 := List.countP_eq_zero.mpr fun x hx => by have := h1 x hx; simp; (first | lia | omega)
      (first | lia | omega)
/-- what the plain law knows of the points -/
structure Pts (M P : List Int) : Prop where
  m : M.Pairwise (· < ·)
  p : P.Pairwise (· < ·)
  mp : ∀ x ∈ M, ∀ y ∈ P, x ≠ y
  len : M.length + P.length = 8
  one : 1 ≤ P.length
  mb : ∀ x ∈ M, 0 ≤ x ∧ x < 256
  pb : ∀ x ∈ P, 0 ≤ x ∧ x < 256
def av (M P : List Int) (i : Nat) : Nat := blN (P.getD i 0) M
section
variable {M P : List Int} (H : Pts M P)
theorem lt_le {xs : List Int} (h : xs.Pairwise (· < ·)) : xs.Pairwise (· ≤ ·) := h.imp fun h => Int.le_of_lt h
include H
theorem av_mono {i j : Nat} (h : i ≤ j) (hj : j < P.length) : av M P i ≤ av M P j := by
  rcases Nat.lt_or_eq_of_le h with q | q
  · exact blN_mono (Int.le_of_lt (lt_getD H.p q hj)) M
  · rw [q]; exact Nat.le_refl _
theorem av_le (i : Nat) : av M P i ≤ M.length := blN_le _ _
theorem r0_succ {i : Nat} (hi : i + 1 < P.length) : av M P (i + 1) = av M P i + r0 (av M P) (i + 1) := by
  have : av M P i ≤ av M P (i + 1) := av_mono H (Nat.le_succ i) hi
  unfold r0
  rw [if_neg (Nat.succ_ne_zero _), Nat.add_sub_cancel]; (first | lia | omega)
theorem odd_pos {c : Nat} (hc : c < P.length) (h : r0 (av M P) c % 2 = 1) : 1 ≤ c ∧ av M P (c - 1) < av M P c := by
  unfold r0 at h
  split at h
  · (first | lia | omega)
  · exact ⟨by (first | lia | omega), by (first | lia | omega)⟩
theorem NSc_mem {c : Nat} (hc : c ≤ P.length) : ∀ x ∈ NSc M (av M P) c, x ∈ M := by
  induction c with
  | zero => exact fun x hx => hx
  | succ c ih =>
    intro x hx
    unfold NSc at hx
    split at hx
    · rename_i ho
      rcases insR_mem.mp hx with rfl | hx
      · have := odd_pos H (by (first | lia | omega)) ho
        have := av_le H c
        exact getD_mem (by (first | lia | omega))
      · exact ih (by (first | lia | omega)) x hx
    · exact ih (by (first | lia | omega)) x hx
theorem NSc_below {i : Nat} (hi : i < P.length) : ∀ c, c ≤ P.length → blN (P.getD i 0) (NSc M (av M P) c) = av M P i + oc (av M P) (min c (i + 1))
  | 0, _ => by rw [Nat.zero_min]; rfl
  | c + 1, hc => by
    have ih := NSc_below hi c (by (first | lia | omega))
    unfold NSc
    split
    · rename_i ho
      have h1 := odd_pos H (by (first | lia | omega)) ho
      have h2 := av_le H c
      unfold blN at ih ⊢
      rw [countP_insR, ih]
      have e := below_iff (p := P.getD i 0) (k := av M P c - 1) H.m (by (first | lia | omega))
      by_cases q : c ≤ i
      · have h3 := av_mono H q hi
        rw [if_pos (by simpa using e.mpr (by show av M P c - 1 < av M P i; (first | lia | omega))), Nat.min_eq_left (by (first | lia | omega)), Nat.min_eq_left (by (first | lia | omega))]
        show _ = _ + (oc (av M P) c + r0 (av M P) c % 2)
        (first | lia | omega)
      · have h3 := av_mono H (show i ≤ c - 1 by (first | lia | omega)) (by (first | lia | omega))
        rw [if_neg (by
          intro z
          have := e.mp (by simpa using z)
          have : av M P c - 1 < av M P i := this
          (first | lia | omega)), Nat.min_eq_right (by (first | lia | omega)), Nat.min_eq_right (by (first | lia | omega))]
        rfl
    · rename_i ho
      rw [ih]
      by_cases q : c ≤ i
      · rw [Nat.min_eq_left (by (first | lia | omega)), Nat.min_eq_left (by (first | lia | omega))]
        show _ = _ + (oc (av M P) c + r0 (av M P) c % 2)
        (first | lia | omega)
      · rw [Nat.min_eq_right (by (first | lia | omega)), Nat.min_eq_right (by (first | lia | omega))]
theorem par_const : ∀ i, i < P.length → (av M P i + oc (av M P) (i + 1)) % 2 = av M P 0 % 2
  | 0, _ => by
    show (av M P 0 + (0 + r0 (av M P) 0 % 2)) % 2 = _
    have : r0 (av M P) 0 = 0 := rfl
    rw [this]; (first | lia | omega)
  | i + 1, hi => by
    have ih := par_const i (by (first | lia | omega))
    have e := r0_succ H hi
    show (av M P (i + 1) + (oc (av M P) (i + 1) + r0 (av M P) (i + 1) % 2)) % 2 = _
    (first | lia | omega)
theorem sides_ok : ∀ p ∈ P, decide (prodZ (NSc M (av M P) P.length) p > 0) = decide (av M P 0 % 2 = 0) := by
  intro p hp
  obtain ⟨i, hi, rfl⟩ := List.getElem_of_mem hp
  have e : P.getD i 0 = P[i] := by rw [List.getD_eq_getElem?_getD, List.getElem?_eq_getElem hi]; rfl
  have hm : P.getD i 0 ∈ P := getD_mem hi
  rw [← e]
  rw [prodZ_pos fun x hx => H.mp x (NSc_mem H (Nat.le_refl _) x hx) _ hm, NSc_below H hi _ (Nat.le_refl _), Nat.min_eq_right (by (first | lia | omega)), par_const H i hi]
theorem even_iff {i : Nat} (hi : i < P.length) : decide (prodZ M (P.getD i 0) > 0) = decide (av M P i % 2 = 0) :=
  prodZ_pos fun x hx => H.mp x hx _ (getD_mem hi)
end
/-- the mail's blocks -/
def gp (a : Nat → Nat) (i : Nat) : Nat := if i = 0 then a 0 else a i - a (i - 1)
def blB (M P : List Int) (n : Nat) : List (Nat × List Nat) := (List.range n).map fun i => (gp (av M P) i, pcOf P i)
theorem sumB_snoc (x : Nat × List Nat) : ∀ l, sumB (l ++ [x]) = sumB l + x.1
  | [] => by simp [sumB]
  | y :: l => by simp [sumB, sumB_snoc x l]; (first | lia | omega)
theorem outB_snoc (x : Nat × List Nat) : ∀ (k : Nat) (l : List (Nat × List Nat)), outB k (l ++ [x]) = outB k l ++ if par (k + sumB l + x.1) then [] else x.2
  | k, [] => by
    show (if par (k + x.1) then [] else x.2) ++ [] = [] ++ if par (k + 0 + x.1) then [] else x.2
    rw [List.append_nil, List.nil_append, Nat.add_zero]
  | k, y :: l => by
    show _ ++ outB (k + y.1) (l ++ [x]) = (_ ++ outB (k + y.1) l) ++ _
    rw [outB_snoc x (k + y.1) l, List.append_assoc]
    show _ = _ ++ (_ ++ if par (k + (y.1 + sumB l) + x.1) then [] else x.2)
    rw [show k + y.1 + sumB l + x.1 = k + (y.1 + sumB l) + x.1 from by (first | lia | omega)]
theorem blB_succ (M P : List Int) (n : Nat) : blB M P (n + 1) = blB M P n ++ [(gp (av M P) n, pcOf P n)] := by
  unfold blB; rw [List.range_succ, List.map_append]; rfl
theorem par_false (k : Nat) : par k = !decide (k % 2 = 0) := by
  unfold par
  rcases Nat.mod_two_eq_zero_or_one k with q | q <;> rw [q] <;> rfl
def lftOf (M P : List Int) (n : Nat) : List Nat := (((List.range n).filter fun i => decide (av M P i % 2 = 0)).map (pcOf P)).flatten
section
variable {M P : List Int} (H : Pts M P)
include H
theorem sumB_blB : ∀ n, n + 1 ≤ P.length → sumB (blB M P (n + 1)) = av M P n
  | 0, _ => by simp [blB, sumB, gp]
  | n + 1, h => by
    rw [blB_succ, sumB_snoc, sumB_blB n (by (first | lia | omega))]
    have : av M P n ≤ av M P (n + 1) := av_mono H (Nat.le_succ n) (by (first | lia | omega))
    show _ + gp (av M P) (n + 1) = _
    unfold gp
    rw [if_neg (Nat.succ_ne_zero _), Nat.add_sub_cancel]; (first | lia | omega)
theorem outB_blB : ∀ n, n ≤ P.length → outB 0 (blB M P n) = lftOf M P n
  | 0, _ => rfl
  | n + 1, h => by
    have ih := outB_blB n (by (first | lia | omega))
    have hs : sumB (blB M P n) + gp (av M P) n = av M P n := by
      have := sumB_blB H n h
      rw [blB_succ, sumB_snoc] at this
      exact this
    rw [blB_succ, outB_snoc, ih]
    unfold lftOf
    rw [List.range_succ, List.filter_append, List.map_append, List.flatten_append]
    congr 1
    show (if par (0 + sumB (blB M P n) + gp (av M P) n) then [] else pcOf P n) = _
    rw [show 0 + sumB (blB M P n) + gp (av M P) n = av M P n from by (first | lia | omega), par_false]
    by_cases q : av M P n % 2 = 0
    · simp [q]
    · simp [q]
theorem lftOf_eq : lftOf M P P.length = (((List.range P.length).filter fun i => decide (prodZ M (P.getD i 0) > 0)).map (pcOf P)).flatten := by
  unfold lftOf
  congr 2
  refine List.filter_congr fun i hi => ?_
  rw [even_iff H (List.mem_range.mp hi)]
end
theorem pcOf_pc (P : List Int) {i : Nat} (h : i < 8) : IsPc (pcOf P i) := by
  refine ⟨ah.getD i 0, by rw [ah_at h]; (first | lia | omega), by rw [ah_at h]; (first | lia | omega), ?_⟩
  unfold pcOf
  split
  · exact .inl rfl
  · split
    · exact .inr (.inl rfl)
    · exact .inr (.inr rfl)
theorem pcOf_mem {P : List Int} {i x : Nat} (h : x ∈ pcOf P i) : x = ah.getD i 0 ∨ x = 92 ∨ x = 34 := by
  unfold pcOf at h
  split at h
  · simp at h; exact .inl h
  · split at h
    · simp at h; rcases h with h | h | h <;> simp [h]
    · simp at h; rcases h with h | h <;> simp [h]
theorem pcOf_has (P : List Int) (i : Nat) : ah.getD i 0 ∈ pcOf P i := by
  unfold pcOf
  split
  · simp
  · split <;> simp
theorem let_mem {M P : List Int} {n i : Nat} (hn : n ≤ 8) (hi : i < n) : decide (ah.getD i 0 ∈ lftOf M P n) = decide (av M P i % 2 = 0) := by
  have : ah.getD i 0 ∈ lftOf M P n ↔ av M P i % 2 = 0 := by
    unfold lftOf
    rw [List.mem_flatten]
    constructor
    · rintro ⟨l, hl, hx⟩
      obtain ⟨j, hj, rfl⟩ := List.mem_map.mp hl
      obtain ⟨hj1, hj2⟩ := List.mem_filter.mp hj
      have hj3 := List.mem_range.mp hj1
      have hx := pcOf_mem hx
      rw [ah_at (by (first | lia | omega)), ah_at (by (first | lia | omega))] at hx
      have : i = j := by (first | lia | omega)
      subst this
      simpa using hj2
    · intro h
      exact ⟨pcOf P i, List.mem_map.mpr ⟨i, List.mem_filter.mpr ⟨List.mem_range.mpr hi, by simpa using h⟩, rfl⟩, pcOf_has P i⟩
  exact decide_eq_decide.mpr this
end
section
/-- a letter opens a stretch -/
theorem cnd_eq {M P : List Int} (H : Pts M P) {lft : List Nat} {n : Nat} (hn : n = P.length) (hl : lft = lftOf M P n) {i : Nat} (hi : i < n) : cnd lft i = (decide (i = 0) || decide (r0 (av M P) i % 2 = 1)) := by
  have hn8 : n ≤ 8 := by have := H.len; (first | lia | omega)
  unfold cnd
  by_cases q : i = 0
  · rw [decide_eq_true q]; rfl
  · rw [decide_eq_false q, Bool.false_or, Bool.false_or, hl, let_mem hn8 hi, let_mem hn8 (show i - 1 < n by (first | lia | omega))]
    have h := r0_succ H (i := i - 1) (by (first | lia | omega))
    rw [show i - 1 + 1 = i from by (first | lia | omega)] at h
    have e : (decide (av M P i % 2 = 0) != decide (av M P (i - 1) % 2 = 0)) = true ↔ r0 (av M P) i % 2 = 1 := by
      rcases Nat.mod_two_eq_zero_or_one (av M P i) with q1 | q1 <;> rcases Nat.mod_two_eq_zero_or_one (av M P (i - 1)) with q2 | q2 <;> rw [q1, q2] <;> simp <;> (first | lia | omega)
    rw [Bool.eq_iff_iff, e, decide_eq_true_eq]
/-- picks so far, by number -/
def pn (a : Nat → Nat) (c : Nat) : Nat := if c = 0 then 0 else 1 + oc a c
section
variable {M P : List Int} (H : Pts M P) {lft : List Nat} (hl : lft = lftOf M P P.length)
include H hl
theorem pn_succ {c : Nat} (hc : c < P.length) : pn (av M P) (c + 1) = pn (av M P) c + (if cnd lft c then 1 else 0) := by
  rw [cnd_eq H rfl hl hc]
  unfold pn
  rw [if_neg (Nat.succ_ne_zero _)]
  have e : oc (av M P) (c + 1) = oc (av M P) c + r0 (av M P) c % 2 := rfl
  by_cases q : c = 0
  · subst q
    have : r0 (av M P) 0 = 0 := rfl
    have : oc (av M P) 0 = 0 := rfl
    simp [e, *]
  · rw [decide_eq_false q, if_neg q, Bool.false_or]
    rcases Nat.mod_two_eq_zero_or_one (r0 (av M P) c) with h | h
    · rw [decide_eq_false (by (first | lia | omega)), if_neg (by decide)]; (first | lia | omega)
    · rw [decide_eq_true h, if_pos rfl]; (first | lia | omega)
theorem pk_lens : ∀ c, c ≤ P.length → (pkAt P M lft c).1.length = pn (av M P) c ∧ (pkAt P M lft c).2.length = M.length + pn (av M P) c
  | 0, _ => ⟨rfl, rfl⟩
  | c + 1, h => by
    obtain ⟨h1, h2⟩ := pk_lens c (by (first | lia | omega))
    rw [pn_succ H hl (by (first | lia | omega))]
    unfold pkAt
    split
    · rename_i q
      simp only [List.length_append, List.length_cons, List.length_nil, insL_len]
      constructor <;> (first | lia | omega)
    · rename_i q
      constructor <;> (first | lia | omega)
theorem pk_mem : ∀ c, c ≤ P.length → ∀ x ∈ (pkAt P M lft c).1, ∃ j, j < c ∧ x = P.getD j 0
  | 0, _, x, hx => nomatch hx
  | c + 1, h, x, hx => by
    unfold pkAt at hx
    split at hx
    · rcases List.mem_append.mp hx with hx | hx
      · obtain ⟨j, h1, h2⟩ := pk_mem c (by (first | lia | omega)) x hx
        exact ⟨j, by (first | lia | omega), h2⟩
      · exact ⟨c, Nat.lt_succ_self _, List.mem_singleton.mp hx⟩
    · obtain ⟨j, h1, h2⟩ := pk_mem c (by (first | lia | omega)) x hx
      exact ⟨j, by (first | lia | omega), h2⟩
theorem un_mem : ∀ c, ∀ x ∈ (pkAt P M lft c).2, x ∈ M ∨ x ∈ (pkAt P M lft c).1
  | 0, x, hx => .inl hx
  | c + 1, x, hx => by
    unfold pkAt at hx ⊢
    split at hx
    · rename_i q
      rw [if_pos q]
      rcases insL_mem.mp hx with rfl | hx
      · exact .inr (List.mem_append_right _ (.head _))
      · exact (un_mem c x hx).imp id (List.mem_append_left _)
    · rename_i q
      rw [if_neg q]
      exact un_mem c x hx
theorem un_count (f : Int → Bool) : ∀ c, (pkAt P M lft c).2.countP f = M.countP f + (pkAt P M lft c).1.countP f
  | 0 => rfl
  | c + 1 => by
    have ih := un_count f c
    unfold pkAt
    split
    · rw [countP_insL, List.countP_append, ih, List.countP_cons, List.countP_nil]; (first | lia | omega)
    · exact ih
theorem pk_below {i : Nat} (hi : i < P.length) : ∀ c, c ≤ P.length → brN (P.getD i 0) (pkAt P M lft c).1 = pn (av M P) (min c (i + 1))
  | 0, _ => by rw [Nat.zero_min]; rfl
  | c + 1, hc => by
    have ih := pk_below hi c (by (first | lia | omega))
    have hs := pn_succ H hl (show c < P.length by (first | lia | omega))
    by_cases q : c ≤ i
    · rw [Nat.min_eq_left (by (first | lia | omega))] at ih ⊢
      rw [hs]
      unfold pkAt
      split
      · have hle : P.getD c 0 ≤ P.getD i 0 := by
          rcases Nat.lt_or_eq_of_le q with z | z
          · exact Int.le_of_lt (lt_getD H.p z hi)
          · rw [z]; exact Int.le_refl _
        unfold brN at ih ⊢
        rw [List.countP_append, ih, List.countP_cons, List.countP_nil, if_pos (decide_eq_true hle), Nat.zero_add]
      · rename_i q2
        exact ih
    · rw [Nat.min_eq_right (by (first | lia | omega))] at ih ⊢
      unfold pkAt
      split
      · have hlt := lt_getD H.p (show i < c by (first | lia | omega)) (by (first | lia | omega))
        unfold brN at ih ⊢
        rw [List.countP_append, ih, List.countP_cons, List.countP_nil, if_neg (by rw [decide_eq_true_eq]; (first | lia | omega))]; rfl
      · exact ih
theorem br_un {i : Nat} (hi : i < P.length) : brN (P.getD i 0) (pkAt P M lft P.length).2 = av M P i + 1 + oc (av M P) (i + 1) := by
  have h1 := un_count H hl (fun y => decide (y ≤ P.getD i 0)) P.length
  have h2 := pk_below H hl hi P.length (Nat.le_refl _)
  rw [Nat.min_eq_right (by (first | lia | omega))] at h2
  have h3 : M.countP (fun y => decide (y ≤ P.getD i 0)) = av M P i := by
    unfold av blN
    refine List.countP_congr fun x hx => ?_
    have := H.mp x hx _ (getD_mem (d := 0) hi)
    rw [decide_eq_true_eq, decide_eq_true_eq]; (first | lia | omega)
  unfold brN at h2 ⊢
  rw [h1, h2, h3]
  unfold pn
  rw [if_neg (Nat.succ_ne_zero _)]; (first | lia | omega)
theorem signs_ok : ∀ p ∈ (pkAt P M lft P.length).1, (((pkAt P M lft P.length).2.length : Int) - (brN p (pkAt P M lft P.length).2 : Nat)) % 2 = (((pkAt P M lft P.length).2.length : Int) - 1 - (av M P 0 : Nat)) % 2 := by
  intro p hp
  obtain ⟨i, hi, rfl⟩ := pk_mem H hl P.length (Nat.le_refl _) p hp
  rw [br_un H hl hi]
  have := par_const H i hi
  (first | lia | omega)
theorem insL_strict {x : Int} : ∀ {xs : List Int}, xs.Pairwise (· < ·) → x ∉ xs → (insL x xs).Pairwise (· < ·)
  | [], _, _ => List.pairwise_singleton ..
  | y :: r, h, hx => by
    obtain ⟨h1, h2⟩ := List.pairwise_cons.mp h
    have hne : x ≠ y := fun q => hx (q ▸ .head _)
    unfold insL
    split
    · refine List.pairwise_cons.mpr ⟨fun z hz => ?_, h⟩
      rcases List.mem_cons.mp hz with rfl | hz
      · (first | lia | omega)
      · have := h1 z hz; (first | lia | omega)
    · refine List.pairwise_cons.mpr ⟨fun z hz => ?_, insL_strict h2 fun q => hx (.tail _ q)⟩
      rcases insL_mem.mp hz with rfl | hz
      · (first | lia | omega)
      · exact h1 z hz
theorem un_strict : ∀ c, c ≤ P.length → (pkAt P M lft c).2.Pairwise (· < ·)
  | 0, _ => H.m
  | c + 1, hc => by
    have ih := un_strict c (by (first | lia | omega))
    unfold pkAt
    split
    · refine insL_strict H hl ih fun q => ?_
      rcases un_mem H hl c _ q with q | q
      · exact H.mp _ q _ (getD_mem (d := 0) (show c < P.length by (first | lia | omega))) rfl
      · obtain ⟨j, h1, h2⟩ := pk_mem H hl c (by (first | lia | omega)) _ q
        have := lt_getD H.p h1 (by (first | lia | omega))
        (first | lia | omega)
    · exact ih
theorem un_bounds : ∀ x ∈ (pkAt P M lft P.length).2, 0 ≤ x ∧ x < 256 := by
  intro x hx
  rcases un_mem H hl P.length x hx with h | h
  · exact H.mb x h
  · obtain ⟨j, h1, rfl⟩ := pk_mem H hl P.length (Nat.le_refl _) x h
    exact H.pb _ (getD_mem h1)
end

/-- the numbers -/
theorem prL_below {x : Int} : ∀ {ys : List Int}, (∀ y ∈ ys, y < x) → ((prL ys x).natAbs : Int) = qrL ys x ∧ 0 < qrL ys x
  | [], _ => by simp [prL, qrL]
  | y :: r, h => by
    obtain ⟨h1, h2⟩ := prL_below (ys := r) fun z hz => h z (.tail _ hz)
    have hy := h y (.head _)
    show (((y - x) * prL r x).natAbs : Int) = (x - y) * qrL r x ∧ 0 < (x - y) * qrL r x
    refine ⟨?_, Int.mul_pos (by (first | lia | omega)) h2⟩
    rw [Int.natAbs_mul, Int.natCast_mul, h1]
    congr 1
    (first | lia | omega)
theorem prL_above {x : Int} : ∀ {ys : List Int}, (∀ y ∈ ys, x < y) → ((prL ys x).natAbs : Int) = prL ys x ∧ 0 < prL ys x
  | [], _ => by simp [prL]
  | y :: r, h => by
    obtain ⟨h1, h2⟩ := prL_above (ys := r) fun z hz => h z (.tail _ hz)
    have hy := h y (.head _)
    show (((y - x) * prL r x).natAbs : Int) = (y - x) * prL r x ∧ 0 < (y - x) * prL r x
    refine ⟨?_, Int.mul_pos (by (first | lia | omega)) h2⟩
    rw [Int.natAbs_mul, Int.natCast_mul, h1]
    congr 1
    (first | lia | omega)
theorem take_getD {xs : List Int} {k : Nat} (h : k < xs.length) : xs.take (k + 1) = xs.take k ++ [xs.getD k 0] := by
  rw [List.take_add_one, List.getElem?_eq_getElem h, List.getD_eq_getElem?_getD, List.getElem?_eq_getElem h]; rfl
theorem whAt_vdm {un : List Int} (hs : un.Pairwise (· < ·)) : ∀ k, k ≤ un.length → whAt un k = vdm (un.take k)
  | 0, _ => rfl
  | k + 1, h => by
    have ih := whAt_vdm hs k (by (first | lia | omega))
    rw [take_getD (by (first | lia | omega)), vdm_snoc, ← ih]
    show whAt un k * _ = _
    have hb : ∀ y ∈ un.take k, y < un.getD k 0 := fun y hy => by
      obtain ⟨i, hi, rfl⟩ := List.getElem_of_mem hy
      rw [List.length_take] at hi
      rw [List.getElem_take]
      have := lt_getD hs (show i < k by (first | lia | omega)) (by (first | lia | omega))
      rw [List.getD_eq_getElem?_getD, List.getElem?_eq_getElem (by (first | lia | omega))] at this
      exact this
    rw [prodZ_eq, (prL_below hb).1]
theorem split_at {un : List Int} (hs : un.Pairwise (· < ·)) {j : Nat} (hj : j < un.length) : (∀ y ∈ un.take j, y < un.getD j 0) ∧ (∀ y ∈ un.drop (j + 1), un.getD j 0 < y) ∧ blN (un.getD j 0) un = j ∧ brN (un.getD j 0) un = j + 1 ∧ un = un.take j ++ un.getD j 0 :: un.drop (j + 1) := by
  have h1 : ∀ y ∈ un.take j, y < un.getD j 0 := fun y hy => by
    obtain ⟨i, hi, rfl⟩ := List.getElem_of_mem hy
    rw [List.length_take] at hi
    rw [List.getElem_take]
    have := lt_getD hs (show i < j by (first | lia | omega)) hj
    rw [List.getD_eq_getElem?_getD, List.getElem?_eq_getElem (by (first | lia | omega))] at this
    exact this
  have h2 : ∀ y ∈ un.drop (j + 1), un.getD j 0 < y := fun y hy => by
    obtain ⟨i, hi, rfl⟩ := List.getElem_of_mem hy
    rw [List.length_drop] at hi
    rw [List.getElem_drop]
    have := lt_getD hs (show j < j + 1 + i by (first | lia | omega)) (by (first | lia | omega))
    rw [List.getD_eq_getElem?_getD (i := j + 1 + i), List.getElem?_eq_getElem (by (first | lia | omega))] at this
    exact this
  have h3 : un = un.take j ++ un.getD j 0 :: un.drop (j + 1) := by
    have e : un.drop j = un.getD j 0 :: un.drop (j + 1) := by
      rw [List.drop_eq_getElem_cons hj, List.getD_eq_getElem?_getD, List.getElem?_eq_getElem hj]; rfl
    rw [← e, List.take_append_drop]
  refine ⟨h1, h2, ?_, ?_, h3⟩
  · have e1 : blN (un.getD j 0) un = blN (un.getD j 0) (un.take j ++ un.getD j 0 :: un.drop (j + 1)) := congrArg _ h3
    rw [e1]
    unfold blN
    rw [List.countP_append, List.countP_cons]
    have z1 : (un.take j).countP (fun y => decide (y < un.getD j 0)) = (un.take j).length := List.countP_eq_length.mpr fun y hy => by simpa using h1 y hy
    have z2 : (un.drop (j + 1)).countP (fun y => decide (y < un.getD j 0)) = 0 := List.countP_eq_zero.mpr fun y hy => by have := h2 y hy; simp at *; (first | lia | omega)
    rw [z1, z2, List.length_take, if_neg (by simp)]; (first | lia | omega)
  · have e1 : brN (un.getD j 0) un = brN (un.getD j 0) (un.take j ++ un.getD j 0 :: un.drop (j + 1)) := congrArg _ h3
    rw [e1]
    unfold brN
    rw [List.countP_append, List.countP_cons]
    have z1 : (un.take j).countP (fun y => decide (y ≤ un.getD j 0)) = (un.take j).length := List.countP_eq_length.mpr fun y hy => by have := h1 y hy; simp at *; (first | lia | omega)
    have z2 : (un.drop (j + 1)).countP (fun y => decide (y ≤ un.getD j 0)) = 0 := List.countP_eq_zero.mpr fun y hy => by have := h2 y hy; simp at *; (first | lia | omega)
    rw [z1, z2, List.length_take, if_pos (by simp)]; (first | lia | omega)
theorem oth_val {un : List Int} (hs : un.Pairwise (· < ·)) {j : Nat} (hj : j < un.length) : othL un (un.getD j 0) = un.take j ++ un.drop (j + 1) ∧
    ((prodZ (othL un (un.getD j 0)) (un.getD j 0)).natAbs : Int) = qrL (un.take j) (un.getD j 0) * prL (un.drop (j + 1)) (un.getD j 0) ∧ 0 < qrL (un.take j) (un.getD j 0) * prL (un.drop (j + 1)) (un.getD j 0) := by
  obtain ⟨h1, h2, h3, h4, h5⟩ := split_at hs hj
  obtain ⟨a1, a2⟩ := prL_below h1
  obtain ⟨b1, b2⟩ := prL_above h2
  have e : othL un (un.getD j 0) = un.take j ++ un.drop (j + 1) := by unfold othL; rw [h3, h4]
  refine ⟨e, ?_, Int.mul_pos a2 b2⟩
  rw [e, prodZ_eq, prL_append, Int.natAbs_mul, Int.natCast_mul, a1, b1]
theorem sgn_eq : ∀ k : Nat, (1 : Int) - 2 * ((k : Int) % 2) = sgn k
  | 0 => rfl
  | k + 1 => by
    have ih := sgn_eq k
    show _ = - sgn k
    rw [← ih]; (first | lia | omega)
theorem trm_eq {un dr : List Int} (hs : un.Pairwise (· < ·)) {j : Nat} (hj : j < un.length) : trm un dr (vdm un) (un.getD j 0) = sgn (un.drop (j + 1)).length * vdm (un.take j ++ un.drop (j + 1)) * hrn (dgt dr un.length) (un.getD j 0) un.length := by
  obtain ⟨e1, e2, e3⟩ := oth_val hs hj
  obtain ⟨h1, h2, h3, h4, h5⟩ := split_at hs hj
  unfold trm
  rw [e2]
  have hv : vdm un = vdm (un.take j ++ un.drop (j + 1)) * (qrL (un.take j) (un.getD j 0) * prL (un.drop (j + 1)) (un.getD j 0)) := by
    have := vdm_mid (un.getD j 0) (un.drop (j + 1)) (un.take j)
    rwa [← h5] at this
  rw [hv, Int.mul_ediv_cancel _ (by (first | lia | omega))]
  congr 2
  unfold sgP
  rw [h4, ← sgn_eq, List.length_drop]
  congr 2
  (first | lia | omega)
theorem tot_spl {un dr : List Int} (hs : un.Pairwise (· < ·)) : ∀ j, j ≤ un.length → totAt un dr (vdm un) j + spl (fun a p b => sgn b.length * vdm (a ++ b) * hrn (dgt dr un.length) p un.length) (un.take j) (un.drop j) =
    spl (fun a p b => sgn b.length * vdm (a ++ b) * hrn (dgt dr un.length) p un.length) [] un
  | 0, _ => by show 0 + spl _ [] un = _; rw [Int.zero_add]
  | j + 1, h => by
    have ih := tot_spl (dr := dr) hs j (by (first | lia | omega))
    have e : un.drop j = un.getD j 0 :: un.drop (j + 1) := by
      rw [List.drop_eq_getElem_cons (by (first | lia | omega)), List.getD_eq_getElem?_getD, List.getElem?_eq_getElem (by (first | lia | omega))]; rfl
    rw [e] at ih
    rw [← ih, take_getD (by (first | lia | omega))]
    have e2 := trm_eq (dr := dr) hs (j := j) (by (first | lia | omega))
    show totAt un dr (vdm un) j + trm un dr (vdm un) (un.getD j 0) + _ = _ + (sgn (un.drop (j + 1)).length * vdm (un.take j ++ un.drop (j + 1)) * hrn (dgt dr un.length) (un.getD j 0) un.length + _)
    rw [e2, Int.add_assoc]
theorem total_ok {un dr : List Int} (hs : un.Pairwise (· < ·)) (h1 : 1 ≤ un.length) : totAt un dr (whAt un un.length) un.length = dgt dr un.length 0 * whAt un un.length := by
  rw [whAt_vdm hs un.length (Nat.le_refl _), List.take_length]
  have h := tot_spl (dr := dr) hs un.length (Nat.le_refl _)
  rw [List.take_length, List.drop_length] at h
  have hw := wgt_hrn (dgt dr un.length) un.length un h1 (Nat.le_refl _) (hs.imp fun {a b} h => by (first | lia | omega))
  rw [if_pos rfl] at hw
  unfold wgt at hw
  rw [← hw, ← h]
  show _ = _ + 0
  (first | lia | omega)
theorem oth_pos {un : List Int} (hs : un.Pairwise (· < ·)) : ∀ p ∈ un, 0 < ((prodZ (othL un p) p).natAbs : Int) := by
  intro p hp
  obtain ⟨j, hj, rfl⟩ := List.getElem_of_mem hp
  have e : un.getD j 0 = un[j] := by rw [List.getD_eq_getElem?_getD, List.getElem?_eq_getElem hj]; rfl
  rw [← e]
  obtain ⟨_, e2, e3⟩ := oth_val hs hj
  rw [e2]; exact e3
end
section
theorem insR_strict {x : Int} : ∀ {xs : List Int}, xs.Pairwise (· < ·) → x ∉ xs → (insR x xs).Pairwise (· < ·)
  | [], _, _ => List.pairwise_singleton ..
  | y :: r, h, hx => by
    obtain ⟨h1, h2⟩ := List.pairwise_cons.mp h
    have hne : x ≠ y := fun q => hx (q ▸ .head _)
    unfold insR
    split
    · refine List.pairwise_cons.mpr ⟨fun z hz => ?_, h⟩
      rcases List.mem_cons.mp hz with rfl | hz
      · (first | lia | omega)
      · have := h1 z hz; (first | lia | omega)
    · refine List.pairwise_cons.mpr ⟨fun z hz => ?_, insR_strict h2 fun q => hx (.tail _ q)⟩
      rcases insR_mem.mp hz with rfl | hz
      · (first | lia | omega)
      · exact h1 z hz
theorem insL_strict' {x : Int} : ∀ {xs : List Int}, xs.Pairwise (· < ·) → x ∉ xs → (insL x xs).Pairwise (· < ·)
  | [], _, _ => List.pairwise_singleton ..
  | y :: r, h, hx => by
    obtain ⟨h1, h2⟩ := List.pairwise_cons.mp h
    have hne : x ≠ y := fun q => hx (q ▸ .head _)
    unfold insL
    split
    · refine List.pairwise_cons.mpr ⟨fun z hz => ?_, h⟩
      rcases List.mem_cons.mp hz with rfl | hz
      · (first | lia | omega)
      · have := h1 z hz; (first | lia | omega)
    · refine List.pairwise_cons.mpr ⟨fun z hz => ?_, insL_strict' h2 fun q => hx (.tail _ q)⟩
      rcases insL_mem.mp hz with rfl | hz
      · (first | lia | omega)
      · exact h1 z hz
theorem ptAt_mod (dr : List Int) {j : Nat} (h : j < 8) : ptAt dr j % 8 = j := by unfold ptAt; (first | lia | omega)
theorem ptAt_b (dr : List Int) {j : Nat} (h : j < 8) : 0 ≤ ptAt dr j ∧ ptAt dr j < 256 := by unfold ptAt; (first | lia | omega)
theorem ptAt_ne (dr : List Int) {i j : Nat} (hi : i < 8) (hj : j < 8) (h : i ≠ j) : ptAt dr i ≠ ptAt dr j := by
  intro q
  have h1 := ptAt_mod dr hi
  have h2 := ptAt_mod dr hj
  rw [q] at h1; (first | lia | omega)
theorem mp_mem (dr : List Int) : ∀ k, (∀ x ∈ (mpOf dr k).1, ∃ j, j < k ∧ x = ptAt dr j) ∧ ∀ x ∈ (mpOf dr k).2, ∃ j, j < k ∧ x = ptAt dr j
  | 0 => ⟨(fun x h => nomatch h), fun x h => nomatch h⟩
  | k + 1 => by
    obtain ⟨h1, h2⟩ := mp_mem dr k
    have up : ∀ {x : Int}, (∃ j, j < k ∧ x = ptAt dr j) → ∃ j, j < k + 1 ∧ x = ptAt dr j := fun ⟨j, a, b⟩ => ⟨j, by (first | lia | omega), b⟩
    unfold mpOf
    split
    · refine ⟨fun x hx => ?_, fun x hx => up (h2 x hx)⟩
      rcases insR_mem.mp hx with q | q
      · exact ⟨k, Nat.lt_succ_self _, q⟩
      · exact up (h1 x q)
    · refine ⟨fun x hx => up (h1 x hx), fun x hx => ?_⟩
      rcases insL_mem.mp hx with q | q
      · exact ⟨k, Nat.lt_succ_self _, q⟩
      · exact up (h2 x q)
theorem mp_strict (dr : List Int) : ∀ k, k ≤ 8 → (mpOf dr k).1.Pairwise (· < ·) ∧ (mpOf dr k).2.Pairwise (· < ·) ∧ ∀ x ∈ (mpOf dr k).1, ∀ y ∈ (mpOf dr k).2, x ≠ y
  | 0, _ => ⟨.nil, .nil, fun x h => nomatch h⟩
  | k + 1, hk => by
    obtain ⟨h1, h2, h3⟩ := mp_strict dr k (by (first | lia | omega))
    obtain ⟨m1, m2⟩ := mp_mem dr k
    have n1 : ∀ x ∈ (mpOf dr k).1, x ≠ ptAt dr k := fun x hx => by
      obtain ⟨j, hj, rfl⟩ := m1 x hx
      exact ptAt_ne dr (by (first | lia | omega)) (by (first | lia | omega)) (by (first | lia | omega))
    have n2 : ∀ x ∈ (mpOf dr k).2, x ≠ ptAt dr k := fun x hx => by
      obtain ⟨j, hj, rfl⟩ := m2 x hx
      exact ptAt_ne dr (by (first | lia | omega)) (by (first | lia | omega)) (by (first | lia | omega))
    unfold mpOf
    split
    · refine ⟨insR_strict h1 fun q => n1 _ q rfl, h2, fun x hx y hy => ?_⟩
      rcases insR_mem.mp hx with q | q
      · rw [q]; exact (n2 y hy).symm
      · exact h3 x q y hy
    · refine ⟨h1, insL_strict' h2 fun q => n2 _ q rfl, fun x hx y hy => ?_⟩
      rcases insL_mem.mp hy with q | q
      · rw [q]; exact n1 x hx
      · exact h3 x hx y q
theorem pts (dr : List Int) : Pts (mpOf dr 8).1 (mpOf dr 8).2 := by
  obtain ⟨h1, h2, h3⟩ := mp_strict dr 8 (Nat.le_refl _)
  obtain ⟨m1, m2⟩ := mp_mem dr 8
  refine ⟨h1, h2, h3, mp_len dr 8, ?_, fun x hx => ?_, fun x hx => ?_⟩
  · have e : mpOf dr 8 = ((mpOf dr 7).1, insL (ptAt dr 7) (mpOf dr 7).2) := mp_p fun h => absurd h (by decide)
    rw [e]; show 1 ≤ (insL _ _).length; rw [insL_len]; (first | lia | omega)
  · obtain ⟨j, hj, rfl⟩ := m1 x hx; exact ptAt_b dr hj
  · obtain ⟨j, hj, rfl⟩ := m2 x hx; exact ptAt_b dr hj
theorem ahead_len (M P : List Int) : (aheadL M P).length = P.length := by simp [aheadL]
theorem ahead_at {M P : List Int} {i : Nat} (h : i < P.length) : (aheadL M P).getD i 0 = (av M P i : Int) := by
  unfold aheadL av
  rw [List.getD_eq_getElem?_getD, List.getElem?_map, List.getElem?_eq_getElem h, List.getD_eq_getElem?_getD, List.getElem?_eq_getElem h]; rfl
section
variable {M P : List Int} (H : Pts M P)
include H
theorem gaps_eq : gapsL (aheadL M P) = (List.range P.length).map fun i => (gp (av M P) i : Int) := by
  have h1 := H.one
  obtain ⟨n, hn⟩ : ∃ n, P.length = n + 1 := ⟨P.length - 1, by (first | lia | omega)⟩
  unfold gapsL
  rw [ahead_len, hn, Nat.add_sub_cancel, ahead_at (by (first | lia | omega)), List.range_succ_eq_map, List.map_cons, List.map_map]
  show _ :: _ = _
  congr 1
  unfold rng
  rw [List.map_map]
  refine List.map_congr_left fun i hi => ?_
  have hi' := List.mem_range.mp hi
  show (aheadL M P).getD (1 + (i : Int)).toNat 0 - (aheadL M P).getD (1 + (i : Int) - 1).toNat 0 = (gp (av M P) (i + 1) : Int)
  rw [show (1 + (i : Int)).toNat = i + 1 from by (first | lia | omega), show (1 + (i : Int) - 1).toNat = i from by (first | lia | omega), ahead_at (by (first | lia | omega)), ahead_at (by (first | lia | omega))]
  have : av M P i ≤ av M P (i + 1) := av_mono H (Nat.le_succ i) (by (first | lia | omega))
  unfold gp
  rw [if_neg (Nat.succ_ne_zero _), Nat.add_sub_cancel]; (first | lia | omega)
theorem gaps_len : (gapsL (aheadL M P)).length = P.length := by rw [gaps_eq H]; simp
theorem gaps_at {i : Nat} (h : i < P.length) : (gapsL (aheadL M P)).getD i 0 = (gp (av M P) i : Int) := by
  rw [gaps_eq H, List.getD_eq_getElem?_getD, List.getElem?_map, List.getElem?_range h]; rfl
theorem gaps_b : ∀ r ∈ gapsL (aheadL M P), 0 ≤ r ∧ r ≤ 8 := by
  intro r hr
  rw [gaps_eq H] at hr
  obtain ⟨i, hi, rfl⟩ := List.mem_map.mp hr
  have hi' := List.mem_range.mp hi
  have h1 : av M P i ≤ M.length := blN_le _ _
  have h2 := H.len
  have : gp (av M P) i ≤ av M P i := by unfold gp; split <;> rename_i q <;> first | (rw [q]; exact Nat.le_refl _) | (first | lia | omega)
  (first | lia | omega)
theorem gaps_runs : [0] ++ (gapsL (aheadL M P)).drop 1 = (List.range P.length).map fun i => (r0 (av M P) i : Int) := by
  have h1 := H.one
  obtain ⟨n, hn⟩ : ∃ n, P.length = n + 1 := ⟨P.length - 1, by (first | lia | omega)⟩
  rw [gaps_eq H, hn, List.range_succ_eq_map, List.map_cons, List.map_cons, List.drop_succ_cons, List.drop_zero, List.map_map, List.map_map]
  show 0 :: _ = _
  congr 1
theorem text_eq (k : Nat) : txOf (gapsL (aheadL M P)) (pcsOf P) P.length k = flB (blB M P P.length) ++ List.replicate k 34 := by
  unfold txOf flB blB
  rw [List.map_map]
  congr 2
  refine List.map_congr_left fun i hi => ?_
  have hi' := List.mem_range.mp hi
  show List.replicate ((gapsL (aheadL M P)).getD i 0).toNat 34 ++ (pcsOf P).getD i [] = List.replicate (gp (av M P) i) 34 ++ pcOf P i
  rw [gaps_at H hi', pcsOf_at P hi', Int.toNat_natCast]
def tlOf (M P : List Int) : Nat := M.length - av M P (P.length - 1)
omit H in
theorem av_le' (i : Nat) : av M P i ≤ M.length := blN_le _ _
theorem tail_eq : (M.length : Int) - (aheadL M P).getD (-1 + ((aheadL M P).length : Int)).toNat 0 = (tlOf M P : Nat) := by
  have h1 := H.one
  rw [ahead_len, show (-1 + (P.length : Int)).toNat = P.length - 1 from by (first | lia | omega), ahead_at (by (first | lia | omega))]
  have := av_le' (M := M) (P := P) (P.length - 1)
  unfold tlOf; (first | lia | omega)
theorem mail_sum : (sumB (blB M P P.length) + (tlOf M P + M.length % 2)) % 2 = 0 := by
  have h1 := H.one
  obtain ⟨n, hn⟩ : ∃ n, P.length = n + 1 := ⟨P.length - 1, by (first | lia | omega)⟩
  have h2 := sumB_blB H n (by (first | lia | omega))
  rw [← hn] at h2
  have := av_le' (M := M) (P := P) n
  rw [h2]
  unfold tlOf
  rw [hn, Nat.add_sub_cancel]; (first | lia | omega)
theorem blB_pc : ∀ x ∈ blB M P P.length, IsPc x.2 := by
  intro x hx
  obtain ⟨i, hi, rfl⟩ := List.mem_map.mp hx
  have hi' := List.mem_range.mp hi
  have := H.len
  exact pcOf_pc P (by (first | lia | omega))
theorem strip_1 : strip (txOf (gapsL (aheadL M P)) (pcsOf P) P.length (tlOf M P + M.length % 2)) = lftOf M P P.length := by
  rw [text_eq H, strip_even (blB_pc H) (mail_sum H), outB_blB H _ (Nat.le_refl _)]
theorem strip_2 : strip (txOf (gapsL (aheadL M P)) (pcsOf P) P.length (tlOf M P + M.length % 2) ++ [34] ++ (pcsOf P).getD 0 []) = lftOf M P P.length ++ [34] ++ (pcsOf P).getD 0 [] := by
  have h1 := H.one
  rw [text_eq H, pcsOf_at P (by (first | lia | omega)), strip_odd (blB_pc H) (pcOf_pc P (by decide)) (mail_sum H), outB_blB H _ (Nat.le_refl _)]
theorem txt_len : (txOf (gapsL (aheadL M P)) (pcsOf P) P.length (tlOf M P + M.length % 2)).length ≤ 5000 := by
  have h2 := H.len
  have hfl := flatR_len (f := txE (gapsL (aheadL M P)) (pcsOf P)) (k := 11) (n := P.length) fun i hi => txE_len (gaps_b H) (by rw [gaps_len H]; exact hi) hi
  unfold txOf
  rw [List.length_append, List.length_replicate]
  have : tlOf M P ≤ 8 := by unfold tlOf; (first | lia | omega)
  (first | lia | omega)
theorem lft_len : (lftOf M P P.length).length ≤ 5000 := by
  have h2 := H.len
  unfold lftOf
  have h1 := flat_len (f := pcOf P) (k := 3) ((List.range P.length).filter fun i => decide (av M P i % 2 = 0)) fun a _ => pcOf_len P a
  have h3 := List.length_filter_le (fun i => decide (av M P i % 2 = 0)) (List.range P.length)
  rw [List.length_range] at h3
  (first | lia | omega)
theorem the_loop : LoopOk M (aheadL M P) (gapsL (aheadL M P)) P.length (tlOf M P) (oc (av M P) P.length) := by
  have h2 := H.len
  refine loop_ok (by (first | lia | omega)) H.one (lt_le H.m) (by (first | lia | omega)) (by unfold tlOf; (first | lia | omega)) (ahead_len M P) (fun i _ => av_le' i) (fun i hi => ahead_at hi) (gaps_runs H)
theorem the_end : lsAt M (aheadL M P) (gapsL (aheadL M P)) (tlOf M P) (oc (av M P) P.length) = Fst M (av M P) P.length (tlOf M P) P.length := by
  have h2 := H.len
  exact lsAt_Fst (by (first | lia | omega)) (fun i hi => ahead_at hi) (gaps_runs H) P.length (Nat.le_refl _)
end
end
section
theorem law_all {prog : Program} {w : World} {A : Around} {E : Value → Shared → Prop} {Q : Flow → Shared → Prop} {s : Shared} {h₀ : Heap} {L l : Addr} {m : Str → Option Value} {sc : List Int}
    (F : Fm w h₀ (lawEnv w.params L) m [] s.heap) (hh : A.handled = none) (hroom : A.depth + 2 < recursionLimit) (hu : A.units + 64 < cLine) (hfr : A.frames = some [lawEnv w.params L]) (TB : ∃ p loose mean mg mb, Top p loose mean mg mb h₀)
    (hl : Holds h₀ l (.il sc)) (hn : sc.length ≤ 63) (hm : m "script" = some (.ref l))
    (K : ∀ h' tk gs, GFin s.gens gs → Ext h₀ h' → Q (.ret (.bool true)) { s with heap := h', toks := tk, gens := gs }) :
    wpAny (model prog w) A (execs (lawBody w.params) (lawEnv w.params L)) Q E s := by
  have H := pts (drawnOf sc)
  have hdl := drawn_len sc
  refine law_1 F hh hroom hl hn hm fun h1 tk1 m1 ld lm lp F1 a1 a2 a3 => ?_
  generalize drawnOf sc = dr at *
  generalize (mpOf dr 8).1 = M at *
  generalize (mpOf dr 8).2 = P at *
  have hone := H.one
  have hlen := H.len
  refine law_2 F1 hh hroom (lt_le H.m) (by (first | lia | omega)) (by (first | lia | omega)) hone a1 a2 a3 fun h2 tk2 m2 la lg F2 b1 b2 b3 b4 b5 => ?_
  refine law_3 F2 hh hroom (by (first | lia | omega)) (by rw [gaps_len H]; (first | lia | omega)) (by rw [ahead_len]; exact hone) (by rw [ahead_len]; (first | lia | omega)) (tail_eq H) b1 b2 b3 b4 b5 fun h3 tk3 m3 lr ln ls tt F3 c1 c2 c3 c4 c5 c6 c7 c8 c9 => ?_
  refine law_4 F3 hh hroom (the_loop H) c1 c2 c3 c4 c5 c6 c7 c8 c9 fun h4 tk4 m4 t1 t2 F4 d1 d2 d3 d4 d5 d6 d7 d8 d9 d10 => ?_
  have O := the_loop H
  rw [the_end H] at F4 d9 d10
  have hrb := O.bnd _ (Nat.le_refl _)
  rw [the_end H] at hrb
  have hn8 : P.length ≤ 8 := by (first | lia | omega)
  have hnm : (nmOf (Rl (av M P) P.length P.length) (tlOf M P)).length ≤ 8016 := nmOf_len hrb (by show (Rl _ _ _).length ≤ 8; rw [Rl_len]; exact hn8) O.tb
  have htl : (telN (tlOf M P) (Rl (av M P) P.length P.length)).length ≤ 8016 := Nat.le_trans (p257_len _) hnm
  obtain ⟨cs, hcs⟩ := first_let (a := av M P) (n := P.length) (tail := tlOf M P) hone
  change Fm w h₀ (lawEnv w.params L) m4 [(ls, .sl ((SSc (av M P) P.length (tlOf M P) P.length).map T)), (ln, .il (NSc M (av M P) P.length)), (lg, .il (gapsL (aheadL M P))), (la, .il (aheadL M P)), (lp, .il P), (lm, .il M), (ld, .il dr)] h4 at F4
  change m4 _ = some (.str (T ([50, 53, 55, 32, 34] ++ nmOf (Rl (av M P) P.length P.length) (tlOf M P))) t1) at d9
  change m4 _ = some (.str (T (telN (tlOf M P) (Rl (av M P) P.length P.length))) t2) at d10
  have hpre := stops_pre (a := av M P) (n := P.length) (tail := tlOf M P) hn8 P.length (Nat.le_refl _)
  have hwr := written_ok (a := av M P) (n := P.length) (tail := tlOf M P) hn8
  have hocn := oc_le (av M P) P.length hone
  have hsl := SSc_len (av M P) P.length (tlOf M P) P.length
  refine law_5a F4 hh hu d8 d10 (by (first | lia | omega)) hpre fun h5 tk5 F5 => ?_
  refine law_5b F5 hh d10 d9 (by (first | lia | omega)) hwr fun h6 tk6 t6 F6 => ?_
  generalize hm6 : upd m4 "written" (.str (T ([50, 53, 55, 32, 34] ++ dblq (telN (tlOf M P) (Rl (av M P) P.length P.length)))) t6) = m6 at F6
  have u6 : ∀ x, x ≠ Str.ofString "written" → m6 x = m4 x := fun x hx => by rw [← hm6]; exact if_neg hx
  have e1 := (u6 _ (by decide)).trans d1
  have e2 := (u6 _ (by decide)).trans d2
  have e3 := (u6 _ (by decide)).trans d3
  have e5 := (u6 _ (by decide)).trans d5
  have e6 := (u6 _ (by decide)).trans d6
  have e7 := (u6 _ (by decide)).trans d7
  have e9 := (u6 _ (by decide)).trans d9
  rw [hcs] at e9 hnm
  have hcl : cs.length ≤ 9000 := by simp only [List.length_cons] at hnm; (first | lia | omega)
  refine law_5c F6 hh hroom hu e9 hcl fun h7 tk7 F7 => ?_
  refine law_5d (cs := 32 :: 34 :: 97 :: cs) F7 hh hroom hu hfr TB e9 (by simp only [List.length_cons] at *; (first | lia | omega)) fun h8 tk8 F8 => ?_
  have G8 := F8.pick [1, 5, 2, 4, 6] (by decide) rfl
  have nl := NSc_len M (av M P) P.length
  refine law_6a G8 hh hroom hu (NSc_sorted (lt_le H.m) _ _) (by (first | lia | omega)) (by (first | lia | omega)) e7 e2 fun h9 tk9 D9 F9 => ?_
  have G9 := F9.pick [0, 3, 1, 2, 4] (by decide) rfl
  refine law_6b (b0 := decide (av M P 0 % 2 = 0)) G9 hh hroom hu (by (first | lia | omega)) (by (first | lia | omega)) hone (fun x hx => by have := H.mb x (NSc_mem H (Nat.le_refl _) x hx); (first | lia | omega)) (fun x hx => by have := H.pb x hx; (first | lia | omega)) (sides_ok H) e7 e3 fun h10 tk10 D10 F10 => ?_
  have G10 := F10.pick [1, 3, 2, 0, 4] (by decide) rfl
  refine law_7a G10 hh hn8 e3 fun h11 tk11 D11 F11 => ?_
  have G11 := F11.pick [0, 2, 1, 3, 4, 5] (by decide) rfl
  refine law_7b (GFin.refl _) G11 hh hroom hn8 (gaps_len H) (gaps_b H) O.tb (by (first | lia | omega)) e3 e5 rfl e2 e6 fun h12 tk12 gs12 t3 t4 hg12 F12 => ?_
  rw [strip_1 H] at F12
  have G12 := F12.pick [0, 2, 3, 4, 5] (by decide) rfl
  refine law_7c (lft := lftOf M P P.length) G12 hh hroom hn8 (fun x hx => by have := H.mb x hx; (first | lia | omega)) (fun x hx => by have := H.pb x hx; (first | lia | omega)) e3 rfl e2 rfl (lftOf_eq H) fun h13 tk13 F13 => ?_
  refine law_7d (lft := lftOf M P P.length) hg12 F13 hh hroom (txt_len H) (lft_len H) (by rw [pcsOf_len]; (first | lia | omega)) (by rw [pcsOf_len]; (first | lia | omega)) (by rw [pcsOf_at P (by (first | lia | omega))]; exact pcOf_len P 0) rfl rfl rfl (strip_2 H) fun h14 tk14 gs14 hg14 F14 => ?_
  have G14 := F14.pick [3, 1, 2, 4] (by decide) rfl
  refine law_8a (lft := lftOf M P P.length) G14 hh hroom (by (first | lia | omega)) hn8 (lt_le H.m) (lft_len H) e1 e3 e7 e2 rfl fun h15 tk15 m15 lk lu F15 f1 f2 f3 f4 => ?_
  obtain ⟨pl1, pl2⟩ := pk_lens H rfl P.length (Nat.le_refl _)
  have hpn : pn (av M P) P.length = 1 + oc (av M P) P.length := if_neg (by (first | lia | omega))
  have hus := un_strict H rfl P.length (Nat.le_refl _)
  have hub := un_bounds H rfl
  refine law_8b (s0 := ((((pkAt P M (lftOf M P P.length) P.length).2.length : Int) - 1 - (av M P 0 : Nat)) % 2)) F15 hh hroom hu (by (first | lia | omega)) (by (first | lia | omega)) (by (first | lia | omega)) (by (first | lia | omega)) (lt_le hus) f1 f2 f3 f4 (by (first | lia | omega)) (signs_ok H rfl) fun h16 tk16 m16 F16 g1 g2 => ?_
  generalize (pkAt P M (lftOf M P P.length) P.length).2 = un at *
  refine law_9a F16 hh hroom (by (first | lia | omega)) hub g1 g2 fun h17 tk17 m17 t17 F17 k1 k2 k3 => ?_
  refine law_9b (g := s.gens) F17 hh hroom (by (first | lia | omega)) (by (first | lia | omega)) hdl (lt_le hus) hub (oth_pos hus) k1 k2 k3 (total_ok hus (by (first | lia | omega))) fun h18 tk18 kx => ?_
  exact K _ _ _ hg14 kx
end
section
theorem well_list {P : Params} {h : Heap} {l : Addr} {ws : List Value} {sc : List Int} (w1 : Well P h (.ref l) (ofPy (.list (sc.map PyData.int)))) (hL : h.IsList l ws.toArray) (hI : IntsAre ws sc) : Holds h l (.il sc) := by
  cases w1 with
  | list e _ =>
    obtain ⟨o, ho, hc, n, hd⟩ := hL
    rw [e] at ho
    cases ho
    exact ⟨ws, ⟨_, e.trans (by
      injection hd with h1 h2
      rw [h1])⟩, hI⟩
theorem gfin_bare {g gs : Array GenState} (h : GFin g gs) (hg : g = #[]) : AllBare gs := by
  induction h with
  | refl => exact AllBare.of_eq hg
  | push _ ih => exact AllBare.push ih rfl
theorem fin : PySem.Challenge.rw_ux0015_01.Holds := by
  refine hd ?_
  intro w s₀ s₁ mg mb G Y fa o pm cd doc dV kV ho hd hcd hD hmg hg args vals as hpre hlay hrd hwl hlo
  have KX := kIn_of Y
  clear hd hcd hD
  have hmg' : mg "law" = some (Value.ref fa) := hmg
  clear hmg
  have T := G.T
  clear G Y
  wrow_args hpre hlay hrd hwl hlo
  all_goals (
    rename List Int => sc
    rename s₁.heap.IsList _ _ => hL
    rename Well _ _ _ _ => hW
    rename IntsAre _ _ => hI
    have hlst := well_list hW hL hI
    have h120 : mg (Str.ofString "law") = some (Value.ref 120) := mg_of KX T.g (by rfl)
    have e120 : Value.ref fa = Value.ref 120 := Option.some.inj (hmg'.symm.trans h120)
    rw [e120]
    have B : Base w s₁.heap := ⟨KX, _, _, _, _, topRead_of T⟩
    refine wpAny_call (enter_fmC' (binds := [(Str.ofString "script", _)]) (E := fun _ _ => False) B (of_decide_eq_true rfl) rfl rfl rfl rfl rfl rfl rfl rfl rfl rfl rfl fun h₁ tk F => ?_)
    refine law_all F rfl (of_decide_eq_true rfl) (of_decide_eq_true rfl) rfl ⟨_, _, _, _, _, T⟩ hlst (by omega) rfl fun h' tk' gs hgs kx => ?_
    show GoodWG _ _ _ _ _ (.ok (.ret (.bool true))) _
    exact ⟨.inl ⟨.bool true, .bool true, [], rfl, fun _ => rfl, .bool true, by with_unfolding_all rfl, fun _ => ⟨.nil, fun _ h => nomatch h⟩⟩, .of_keep kx, rfl, gfin_bare hgs hg⟩)
end
end Mine
theorem PySem.Challenge.cw_ux0015_01_holds : PySem.Challenge.rw_ux0015_01.Holds := by
  exact Mine.fin
