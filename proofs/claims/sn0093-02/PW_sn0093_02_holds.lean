import PyProof.Rows.All
import Wide.All
import OpenK.AllK
import Wide.FinOn
import PySem.Challenge.RW_sn0093_02
set_option maxRecDepth 100000
set_option Elab.async false
set_option linter.unusedVariables false
set_option linter.deprecated false
set_option maxHeartbeats 8000000
namespace Mine
open PySem PySem.W PyProof.Rows
/-! the text's top, run over a tree of objects, in one go -/
def runT (tb : String → Option Builtin) (p : Program) (w : World) (n₀ : Nat) (ann : Option Value) : Nat → SharedT → Thread → Option SharedT
  | 0, _, _ => none
  | n + 1, s, t => match through t with
    | true => some s
    | false => match stepOk n₀ ann t with
      | false => none
      | true => match stepT (denote tb) p w s t with
        | some (s', t') => runT tb p w n₀ ann n s' t'
        | none => none
theorem runT_of {tb : String → Option Builtin} {p : Program} {w : World} {n₀ : Nat} {ann : Option Value} : ∀ {n : Nat} {s s' : SharedT} {t : Thread}, runT tb p w n₀ ann n s t = some s' → topRun tb p w n₀ ann n s.abs t = some s'.abs
  | 0, _, _, _, h => by cases h
  | n + 1, s, s', t, h => by
    unfold runT at h
    unfold topRun
    cases he : through t with
    | true => rw [he] at h; cases h; rfl
    | false =>
      rw [he] at h
      cases hk : stepOk n₀ ann t with
      | false => rw [hk] at h; cases h
      | true =>
        rw [hk] at h
        cases hs : stepT (denote tb) p w s t with
        | none => rw [hs] at h; cases h
        | some r => obtain ⟨s₂, t₂⟩ := r; rw [hs] at h; rw [stepT_spec hs]; exact runT_of h
noncomputable def runQ (p : Program) (w : World) (n₀ : Nat) (ann : Option Value) : Nat → SharedT → Thread → Option SharedT
  | 0, _, _ => none
  | n + 1, s, t => match through t with
    | true => some s
    | false => match Fast.tw6613529449190102663 n₀ ann t with
      | false => none
      | true => match Fast.tw10156331382660048174 (Fast.tw11892475500146522536 Fast.tw14364793385576792824) p w s t with
        | some (s', t') => runQ p w n₀ ann n s' t'
        | none => none
theorem runQ_eq (p : Program) (w : World) (n₀ : Nat) (ann : Option Value) : ∀ (n : Nat) (s : SharedT) (t : Thread), runQ p w n₀ ann n s t = runT treeTable p w n₀ ann n s t
  | 0, _, _ => rfl
  | n + 1, s, t => by
    unfold runQ runT
    rw [← Fast.te6613529449190102663, ← Fast.te10156331382660048174, ← Fast.te11892475500146522536, ← Fast.te14364793385576792824]
    simp only [runQ_eq p w n₀ ann n]
def grow : List Obj → BT → Nat → Option BT
  | [], t, _ => some t
  | o :: r, t, n => match ((t.ins n o).get n).isSome with
    | true => grow r (t.ins n o) (n + 1)
    | false => none
theorem grow_of {life : Life} : ∀ {l : List Obj} {t t' : BT} {n : Nat}, grow l t n = some t' → l.foldl Heap.push (absHeap t n life) = absHeap t' (n + l.length) life
  | [], t, t', n, h => by cases h; rfl
  | o :: r, t, t', n, h => by
    unfold grow at h
    cases hk : ((t.ins n o).get n).isSome with
    | false => rw [hk] at h; cases h
    | true =>
      rw [hk] at h
      rw [List.foldl_cons, ← absHeap_ins hk, grow_of h, List.length_cons]
      congr 1; omega
theorem push_all (life : Life) : ∀ (l : List Obj) (a : Array Obj), l.foldl Heap.push ⟨a, life⟩ = ⟨a ++ l.toArray, life⟩
  | [], a => by simp
  | o :: r, a => by
    rw [List.foldl_cons]
    show r.foldl Heap.push ⟨a.push o, life⟩ = _
    rw [push_all life r]
    congr 1
    simp
noncomputable def topQ (p : Program) (w : World) (N : Nat) (s : Shared) : Option SharedT := match grow s.heap.objs.toList .nil 0 with
  | none => none
  | some t => runQ p w s.heap.objs.size (s.heap.nsMap mainGlobals "__annotations__") N ⟨t, s.heap.objs.size, s.heap.life, s.gens, s.drawn, s.toks, s.os⟩ (topStub p)
theorem topQ_of {p : Program} {w : World} {N : Nat} {s : Shared} {s' : SharedT} (h : topQ p w N s = some s') : topRun treeTable p w s.heap.objs.size (s.heap.nsMap mainGlobals "__annotations__") N s (topStub p) = some s'.abs := by
  obtain ⟨⟨objs, life⟩, gens, drawn, toks, os⟩ := s
  unfold topQ at h
  cases hg : grow objs.toList .nil 0 with
  | none => rw [hg] at h; cases h
  | some t =>
    rw [hg] at h
    have hr : runQ p w objs.size ((⟨objs, life⟩ : Heap).nsMap mainGlobals "__annotations__") N ⟨t, objs.size, life, gens, drawn, toks, os⟩ (topStub p) = some s' := h
    rw [runQ_eq] at hr
    have e := runT_of hr
    have ha : SharedT.abs ⟨t, objs.size, life, gens, drawn, toks, os⟩ = ⟨⟨objs, life⟩, gens, drawn, toks, os⟩ := by
      unfold SharedT.abs
      have g := grow_of (life := life) hg
      have z : absHeap .nil 0 life = ⟨#[], life⟩ := rfl
      rw [z, push_all, Nat.zero_add] at g
      have : (#[] ++ objs.toList.toArray : Array Obj) = objs := by simp
      rw [this] at g
      show (⟨absHeap t objs.size life, gens, drawn, toks, os⟩ : Shared) = _
      rw [show objs.size = objs.toList.length from by simp, ← g]
    rw [ha] at e
    exact e
noncomputable def endsQ (p : Program) (w : World) (N : Nat) : Option SharedT :=
  ((Fast.tw10274390034422433532 Fast.tw14364793385576792824 (opening p) w N (Fast.tw1435165496053646825 (opening p)).1 (Fast.tw1435165496053646825 (opening p)).2).bind (Fast.tw14289696077712309145 p)).bind fun s =>
    match s.heap.isNs mainGlobals && s.gens.size == 0 with
    | true => (topQ p w N s).bind fun s₁ => match staticsOk (importedModules p.main.body) s.heap s₁.abs.heap && namesBound p s₁.abs.heap && gensDone s₁.abs && laidKept s.heap s₁.abs.heap with
      | true => some s₁
      | false => none
    | false => none
theorem endsQ_of {p : Program} {w : World} {N : Nat} {s : SharedT} (h : endsQ p w N = some s) : openEnds treeTable p w N = some s.abs := by
  unfold endsQ at h
  rw [← Fast.te10274390034422433532, ← Fast.te14364793385576792824, ← Fast.te1435165496053646825, ← Fast.te14289696077712309145] at h
  unfold openEnds fencedOpening
  obtain ⟨s₀, h0, h1⟩ := Option.bind_eq_some_iff.mp h
  rw [h0]
  show topFrom treeTable p w N s₀ = some s.abs
  unfold topFrom
  cases hk : (s₀.heap.isNs mainGlobals && s₀.gens.size == 0) with
  | false => rw [hk] at h1; cases h1
  | true =>
    rw [hk] at h1
    obtain ⟨s₁, h2, h3⟩ := Option.bind_eq_some_iff.mp h1
    show (topRun treeTable p w s₀.heap.objs.size (s₀.heap.nsMap mainGlobals "__annotations__") N s₀ (topStub p)).bind _ = some s.abs
    rw [topQ_of h2]
    show (match staticsOk (importedModules p.main.body) s₀.heap s₁.abs.heap && namesBound p s₁.abs.heap && gensDone s₁.abs && laidKept s₀.heap s₁.abs.heap with | true => some s₁.abs | false => none) = some s.abs
    cases hz : (staticsOk (importedModules p.main.body) s₀.heap s₁.abs.heap && namesBound p s₁.abs.heap && gensDone s₁.abs && laidKept s₀.heap s₁.abs.heap) with
    | false => rw [hz] at h3; cases h3
    | true => rw [hz] at h3; cases h3; rfl
/-- one object, looked up in the tree -/
def seeT (s : SharedT) (a : Addr) : Option Obj := match s.tree.get a, Nat.blt a s.n with
  | some o, true => alive o
  | _, _ => s.abs.heap.get? a
theorem seeT_eq (s : SharedT) (a : Addr) : seeT s a = s.abs.heap.get? a := by
  unfold seeT
  split
  · rename_i o h1 h2
    exact (abs_get (by simpa [Nat.blt_eq] using h2) h1).symm
  · rfl
theorem endsQ_map {p : Program} {w : World} {N : Nat} {α : Type} {f : Shared → α} {as : List Addr} {r : α × List (Option Obj)} (h : (endsQ p w N).map (fun s => (f s.abs, as.map (seeT s))) = some r) : (openEnds treeTable p w N).map (fun s => (f s, as.map s.heap.get?)) = some r := by
  obtain ⟨s, h1, rfl⟩ := Option.map_eq_some_iff.mp h
  rw [endsQ_of h1, show seeT s = s.abs.heap.get? from funext (seeT_eq s)]; rfl

open PySem PySem.W PyProof.Rows
theorem said1 : PySem.Challenge.rw_sn0093_02.wellSaid = true := by
  rw [Fast.te9446332074065402090]
  kernel_rfl
/-- the program less what the view leaves out -/
def view1 : Program := { PySem.Challenge.pw_sn0093_02 with main := { PySem.Challenge.pw_sn0093_02.main with
  body := let b := PySem.Challenge.pw_sn0093_02.main.body
    b.take 2 ++ ((b.drop 3).take 1 ++ ((b.drop 5).take 1 ++ ((b.drop 7).take 53 ++ ((b.drop 61).take 3 ++ ((b.drop 65).take 1 ++ b.drop 67))))) } }
section
set_option hygiene false in
local macro_rules | `(tactic| o_head $H) => `(tactic| refine (fun (x : _) (y : True) => x) ?hc ?hw)
set_option hygiene false in
local macro_rules | `(tactic| o_law) => `(tactic| refine holds_law Mine.said1 fun said => ?_)
local macro_rules | `(tactic| w_witness2) => `(tactic| trivial)
open_top hd0 for PySem.Challenge.rw_sn0093_02
end
def as1 : List Addr := [2, 3, 32, 34, 35, 37, 38, 39, 41, 42, 44, 45, 56, 58, 59, 61, 62, 63, 65, 66, 68, 69, 70, 72, 73, 75, 76, 77, 79, 80, 82, 83, 84, 86, 87, 89, 90, 91, 93, 94, 96, 97, 98, 100, 101, 103, 104, 105, 106, 107, 108, 109, 112, 115, 117, 118, 120, 121, 122, 124, 125, 127, 128, 132, 133, 137, 138, 142, 143, 144, 145, 147, 148, 150, 151, 159, 160, 162, 163, 165, 166, 167, 169, 170, 172, 173, 174, 176, 177, 179, 180, 181, 183, 184, 186, 187, 188, 191, 192, 193, 195, 196, 198, 199, 200, 202, 203, 205, 206, 207, 210, 211, 212, 213, 215, 216, 218, 219, 220, 223, 224, 225, 228, 229, 230, 232, 233, 235, 236, 237, 239, 240, 242, 243, 244, 247, 248, 249, 251, 252, 254, 255, 256, 258, 259, 261, 262, 263, 265, 266, 268, 269, 270, 271, 272, 273, 274, 277, 279, 280, 282, 283, 284, 286, 287, 289, 290, 291, 293, 294, 296, 297, 298, 300, 301, 303, 304, 305, 308, 309, 310, 312, 313, 315, 316, 317, 320, 321]
theorem keys1 : ∀ P, as1 = (hd0.heap_1 P).map (·.1) := fun _ => by kernel_rfl
abbrev Side (b : Bool) (w : World) : Prop := ((openEnds treeTable PySem.Challenge.pw_sn0093_02 (w.withFollow "special-get-raises" b) 6690).map fun s => (openSeen view1 ["Whitespace", "EXACT_TOKEN_TYPES", "tspecials", "_name_disallowed_re", "_value_disallowed_re", "_formatparam"] (importedModules PySem.Challenge.pw_sn0093_02.main.body) (fun s => xlAt view1 [] s && recOk [] s) true s, (kHook hd0.heap_1 as1 keys1).obs s)) =
    some (openGood view1 ["Whitespace", "EXACT_TOKEN_TYPES", "tspecials", "_name_disallowed_re", "_value_disallowed_re", "_formatparam"], (kHook hd0.heap_1 as1 keys1).val (w.withFollow "special-get-raises" b))
theorem sideQ (b : Bool) (w : World) (h : ((endsQ PySem.Challenge.pw_sn0093_02 (w.withFollow "special-get-raises" b) 6690).map fun s => (Fast.tw4187177175401517315 view1 ["Whitespace", "EXACT_TOKEN_TYPES", "tspecials", "_name_disallowed_re", "_value_disallowed_re", "_formatparam"] (Fast.tw5923862056798008813 PySem.Challenge.pw_sn0093_02.main.body) (fun s => xlAt view1 [] s && recOk [] s) true s.abs, as1.map (seeT s))) =
    some (openGood view1 ["Whitespace", "EXACT_TOKEN_TYPES", "tspecials", "_name_disallowed_re", "_value_disallowed_re", "_formatparam"], (kHook hd0.heap_1 as1 keys1).val (w.withFollow "special-get-raises" b))) : Side b w := by
  rw [← Fast.te4187177175401517315, ← Fast.te5923862056798008813] at h
  exact endsQ_map h
theorem sideF (w : World) : Side false w := sideQ _ _ (by kernel_rfl)
theorem sideT (w : World) : Side true w := sideQ _ _ (by kernel_rfl)
theorem left1 : LeftO PySem.Challenge.pw_sn0093_02 view1 ["Whitespace", "EXACT_TOKEN_TYPES", "tspecials", "_name_disallowed_re", "_value_disallowed_re", "_formatparam"] (fun s => xlAt view1 [] s && recOk [] s) (kHook hd0.heap_1 as1 keys1).obs (kHook hd0.heap_1 as1 keys1).val 6690 :=
  byRow2 (P := fun w => ((openEnds treeTable PySem.Challenge.pw_sn0093_02 w 6690).map fun s => (openSeen view1 ["Whitespace", "EXACT_TOKEN_TYPES", "tspecials", "_name_disallowed_re", "_value_disallowed_re", "_formatparam"] (importedModules PySem.Challenge.pw_sn0093_02.main.body) (fun s => xlAt view1 [] s && recOk [] s) true s, (kHook hd0.heap_1 as1 keys1).obs s)) =
    some (openGood view1 ["Whitespace", "EXACT_TOKEN_TYPES", "tspecials", "_name_disallowed_re", "_value_disallowed_re", "_formatparam"], (kHook hd0.heap_1 as1 keys1).val w)) "special-get-raises" sideF sideT
section
set_option hygiene false in
local macro_rules | `(tactic| o_head $H) => `(tactic|
  refine holds_open (q := Mine.view1) (loose := ["Whitespace", "EXACT_TOKEN_TYPES", "tspecials", "_name_disallowed_re", "_value_disallowed_re", "_formatparam"]) (Xt := fun s => xlAt Mine.view1 [] s && recOk [] s) (XP := XL Mine.view1 []) (Yf := Hook.obs (kHook hd0.heap_1 as1 keys1)) (Ya := Hook.val (kHook hd0.heap_1 as1 keys1)) (YP := Hook.says (kHook hd0.heap_1 as1 keys1)) (N := 6690) Mine.left1 (Hook.of (kHook hd0.heap_1 as1 keys1)) (Hook.keeps (kHook hd0.heap_1 as1 keys1))
    (fun s e => xl_of s (Bool.and_eq_true_iff.mp e).1) XL.keeps (by rfl) (by rfl) (by rfl) (fun s e => recFacts_of (Bool.and_eq_true_iff.mp e).2) (by rfl) (by assumption) (by decide +kernel) ⟨rfl, rfl, rfl, rfl, rfl, by decide +kernel⟩ ?hw ?hc)
set_option hygiene false in
local macro_rules | `(tactic| o_law) => `(tactic| refine holds_law Mine.said1 fun said => ?_)
open_top hd1 for PySem.Challenge.rw_sn0093_02
end

end Mine
namespace Mine
open PySem PySem.W PySem.Spec PySem.Calls PyProof.Rows

/-- virtual values: immutable data, or a raw value (a reference to an owned object, a static one) -/
inductive V where
  | none | bool (b : Bool) | int (i : Int) | str (x : Str) | tup (vs : List V) | lst (vs : List V) | obj (C : Addr) (fs : List (Str × V)) | raw (v : Value) | rng (a b s : Int)

mutual
inductive VRel (h : Heap) (P : List Addr) : V → Value → Prop where
  | none : VRel h P .none .none
  | bool (b : Bool) : VRel h P (.bool b) (.bool b)
  | int (i : Int) (t : Tok) : VRel h P (.int i) (.int i t)
  | str (x : Str) (t : Tok) : VRel h P (.str x) (.str x t)
  | raw (v : Value) : VRel h P (.raw v) v
  | rng {r : Addr} {a b s : Int} {t u v : Tok} : IsRange h r a b s t u v → r ∉ P → VRel h P (.rng a b s) (.ref r)
  | tup {a : Addr} {vs : List V} {Vs : List Value} : IsTup h a Vs.toArray → a ∉ P → VRels h P vs Vs → VRel h P (.tup vs) (.ref a)
  | lst {a : Addr} {vs : List V} {Vs : List Value} : h.PlainList a Vs.toArray → a ∉ P → VRels h P vs Vs → VRel h P (.lst vs) (.ref a)
  | obj {a d C : Addr} {fs : List (Str × V)} {es : List DictEntry} {n : Nat} : h.get? a = some (instObj C d) → h.get? d = some (dictOf es n) → a ∉ P → d ∉ P → FRels h P fs es → VRel h P (.obj C fs) (.ref a)
inductive VRels (h : Heap) (P : List Addr) : List V → List Value → Prop where
  | nil : VRels h P [] []
  | cons {v : V} {a : Value} {vs : List V} {as : List Value} : VRel h P v a → VRels h P vs as → VRels h P (v :: vs) (a :: as)
inductive FRels (h : Heap) (P : List Addr) : List (Str × V) → List DictEntry → Prop where
  | nil : FRels h P [] []
  | cons {x : Str} {t : Tok} {hs : Int} {v : V} {a : Value} {fs : List (Str × V)} {es : List DictEntry} : VRel h P v a → FRels h P fs es → FRels h P ((x, v) :: fs) (⟨hs, .str x t, a⟩ :: es)
end

structure Tr (W : List Addr) (h : Heap) (W' : List Addr) (h' : Heap) : Prop where
  keep : ∀ b o, b ∉ W → h.get? b = some o → h'.get? b = some o
  grow : ∀ b ∈ W', b ∈ W ∨ h.get? b = none

theorem Tr.refl (W : List Addr) (h : Heap) : Tr W h W h := ⟨fun _ _ _ e => e, fun _ hb => .inl hb⟩
theorem Tr.out {W W' : List Addr} {h h' : Heap} (t : Tr W h W' h') {b : Addr} {o : Obj} (hb : b ∉ W) (e : h.get? b = some o) : b ∉ W' := fun q => by
  rcases t.grow b q with q | q
  · exact hb q
  · rw [e] at q; cases q
theorem Tr.trans {W₁ W₂ W₃ : List Addr} {h₁ h₂ h₃ : Heap} (x : Tr W₁ h₁ W₂ h₂) (y : Tr W₂ h₂ W₃ h₃) : Tr W₁ h₁ W₃ h₃ := by
  refine ⟨fun b o hb e => y.keep b o (x.out hb e) (x.keep b o hb e), fun b hb => ?_⟩
  rcases y.grow b hb with q | q
  · exact x.grow b q
  · by_cases hw : b ∈ W₁
    · exact .inl hw
    · refine .inr ?_
      cases e : h₁.get? b with
      | none => rfl
      | some o => rw [x.keep b o hw e] at q; cases q
theorem Tr.app {W W' : List Addr} {h h' : Heap} (t : Tr W h W' h') (R : List Addr) : Tr (R ++ W) h (R ++ W') h' :=
  ⟨fun b o hb e => t.keep b o (fun q => hb (List.mem_append_right _ q)) e, fun b hb => by
    rcases List.mem_append.mp hb with q | q
    · exact .inl (List.mem_append_left _ q)
    · rcases t.grow b q with q | q
      · exact .inl (List.mem_append_right _ q)
      · exact .inr q⟩
theorem Tr.con {W W' : List Addr} {h h' : Heap} (t : Tr W h W' h') (L : Addr) : Tr (L :: W) h (L :: W') h' := t.app [L]
/-- a smaller write set behind -/
theorem Tr.less {W W' W'' : List Addr} {h h' : Heap} (t : Tr W h W' h') (s : ∀ b ∈ W'', b ∈ W') : Tr W h W'' h' := ⟨t.keep, fun b hb => t.grow b (s b hb)⟩
/-- a greater write set ahead -/
theorem Tr.more {W W' W'' : List Addr} {h h' : Heap} (t : Tr W h W' h') (s : ∀ b ∈ W, b ∈ W'') : Tr W'' h W' h' := ⟨fun b o hb e => t.keep b o (fun q => hb (s b q)) e, fun b hb => (t.grow b hb).imp (s b) id⟩
theorem Tr.of_keeps {W : List Addr} {h h' : Heap} (k : ∀ b o, b ∉ W → h.get? b = some o → h'.get? b = some o) : Tr W h W h' := ⟨k, fun _ hb => .inl hb⟩
theorem Tr.push (W : List Addr) (h : Heap) (o : Obj) : Tr W h W (h.push o) := .of_keeps fun _ _ _ e => Heap.get?_push_of_some _ e
theorem size_none (h : Heap) : h.get? h.objs.size = none := by
  cases e : h.get? h.objs.size with
  | none => rfl
  | some o => exact absurd (Heap.lt_size e) (Nat.lt_irrefl _)
theorem Tr.pushW (W : List Addr) (h : Heap) (o : Obj) : Tr W h (h.objs.size :: W) (h.push o) :=
  ⟨fun _ _ _ e => Heap.get?_push_of_some _ e, fun b hb => by
    rcases List.mem_cons.mp hb with rfl | hb
    · exact .inr (size_none h)
    · exact .inl hb⟩
theorem Tr.same {W : List Addr} {h h' : Heap} {a : Addr} (ha : a ∈ W) (s : Heap.SameBut a h h') : Tr W h W h' :=
  .of_keeps fun b o hb e => (s.2 b (fun q => hb (q ▸ ha))).trans e

theorem isTup_at {h h' : Heap} {a : Addr} {its : Array Value} (x : IsTup h a its) (k : ∀ o, h.get? a = some o → h'.get? a = some o) : IsTup h' a its := let ⟨o, ho, r⟩ := x; ⟨o, k _ ho, r⟩

mutual
theorem VRel.mono {h h' : Heap} {P P' : List Addr} (t : Tr P h P' h') : ∀ {v : V} {a : Value}, VRel h P v a → VRel h' P' v a
  | _, _, .none => .none
  | _, _, .bool b => .bool b
  | _, _, .int i u => .int i u
  | _, _, .str x u => .str x u
  | _, _, .raw v => .raw v
  | _, _, .rng x q => .rng (t.keep _ _ q x) (t.out q x)
  | _, _, .tup (a := a) x q r => .tup (isTup_at x fun o e => t.keep a o q e) (by obtain ⟨o, e, _⟩ := x; exact t.out q e) (VRels.mono t r)
  | _, _, .lst (a := a) x q r => .lst (x.at fun o e => t.keep a o q e) (by obtain ⟨_, e⟩ := x; exact t.out q e) (VRels.mono t r)
  | _, _, .obj x y q q' r => .obj (t.keep _ _ q x) (t.keep _ _ q' y) (t.out q x) (t.out q' y) (FRels.mono t r)
theorem VRels.mono {h h' : Heap} {P P' : List Addr} (t : Tr P h P' h') : ∀ {v : List V} {a : List Value}, VRels h P v a → VRels h' P' v a
  | _, _, .nil => .nil
  | _, _, .cons x r => .cons (VRel.mono t x) (VRels.mono t r)
theorem FRels.mono {h h' : Heap} {P P' : List Addr} (t : Tr P h P' h') : ∀ {v : List (Str × V)} {a : List DictEntry}, FRels h P v a → FRels h' P' v a
  | _, _, .nil => .nil
  | _, _, .cons x r => .cons (VRel.mono t x) (FRels.mono t r)
end

theorem intE {h : Heap} {P : List Addr} {i : Int} {A : Value} (r : VRel h P (.int i) A) : ∃ t, A = .int i t := by cases r; exact ⟨_, rfl⟩
theorem strE {h : Heap} {P : List Addr} {i : Str} {A : Value} (r : VRel h P (.str i) A) : ∃ t, A = .str i t := by cases r; exact ⟨_, rfl⟩
theorem boolE {h : Heap} {P : List Addr} {i : Bool} {A : Value} (r : VRel h P (.bool i) A) : A = .bool i := by cases r; rfl
theorem rawE {h : Heap} {P : List Addr} {v A : Value} (r : VRel h P (.raw v) A) : A = v := by cases r; rfl
theorem noneE {h : Heap} {P : List Addr} {A : Value} (r : VRel h P .none A) : A = .none := by cases r; rfl
theorem consE {h : Heap} {P : List Addr} {v : V} {vs : List V} {As : List Value} (r : VRels h P (v :: vs) As) : ∃ a as, As = a :: as ∧ VRel h P v a ∧ VRels h P vs as := by
  cases r with
  | cons x y => exact ⟨_, _, rfl, x, y⟩
theorem consI {h : Heap} {P : List Addr} {v : V} {vs : List V} {As : List Value} (r : VRels h P (v :: vs) As) {C : List Value → Prop} (k : ∀ a as, VRel h P v a → VRels h P vs as → C (a :: as)) : C As := by
  cases r with
  | cons x y => exact k _ _ x y
theorem nilE {h : Heap} {P : List Addr} {As : List Value} (r : VRels h P [] As) : As = [] := by cases r; rfl

theorem VRels.length {h : Heap} {P : List Addr} : ∀ {vs : List V} {as : List Value}, VRels h P vs as → as.length = vs.length
  | _, _, .nil => rfl
  | _, _, .cons _ r => by simp [r.length]
theorem VRels.get {h : Heap} {P : List Addr} : ∀ {vs : List V} {as : List Value}, VRels h P vs as → ∀ {i : Nat} {v : V}, vs[i]? = some v → ∃ a, as[i]? = some a ∧ VRel h P v a
  | _, _, .nil, _, _, e => by cases e
  | _, _, .cons x _, 0, _, e => by cases e; exact ⟨_, rfl, x⟩
  | _, _, .cons _ r, i + 1, _, e => by simpa using r.get (i := i) (by simpa using e)
theorem VRels.getR {h : Heap} {P : List Addr} : ∀ {vs : List V} {as : List Value}, VRels h P vs as → ∀ {i : Nat} {a : Value}, as[i]? = some a → ∃ v, vs[i]? = some v ∧ VRel h P v a
  | _, _, .nil, _, _, e => by cases e
  | _, _, .cons x _, 0, _, e => by cases e; exact ⟨_, rfl, x⟩
  | _, _, .cons _ r, i + 1, _, e => by simpa using r.getR (i := i) (by simpa using e)
theorem VRels.append {h : Heap} {P : List Addr} : ∀ {vs ws : List V} {as bs : List Value}, VRels h P vs as → VRels h P ws bs → VRels h P (vs ++ ws) (as ++ bs)
  | _, _, _, _, .nil, y => y
  | _, _, _, _, .cons x r, y => .cons x (r.append y)
theorem VRels.snoc {h : Heap} {P : List Addr} {vs : List V} {v : V} {as : List Value} {a : Value} (x : VRels h P vs as) (y : VRel h P v a) : VRels h P (vs ++ [v]) (as ++ [a]) := x.append (.cons y .nil)
theorem VRels.take {h : Heap} {P : List Addr} : ∀ {vs : List V} {as : List Value} (n : Nat), VRels h P vs as → VRels h P (vs.take n) (as.take n)
  | _, _, 0, _ => by simpa using .nil
  | _, _, _ + 1, .nil => by simpa using .nil
  | _, _, n + 1, .cons x r => by simpa using .cons x (r.take n)
theorem VRels.drop {h : Heap} {P : List Addr} : ∀ {vs : List V} {as : List Value} (n : Nat), VRels h P vs as → VRels h P (vs.drop n) (as.drop n)
  | _, _, 0, x => x
  | _, _, _ + 1, .nil => by simpa using .nil
  | _, _, n + 1, .cons _ r => by simpa using r.drop n
theorem VRels.reverse {h : Heap} {P : List Addr} : ∀ {vs : List V} {as : List Value}, VRels h P vs as → VRels h P vs.reverse as.reverse
  | _, _, .nil => .nil
  | _, _, .cons x r => by simpa using r.reverse.snoc x
theorem VRels.set {h : Heap} {P : List Addr} : ∀ {vs : List V} {as : List Value} (i : Nat) {v : V} {a : Value}, VRels h P vs as → VRel h P v a → VRels h P (vs.set i v) (as.set i a)
  | _, _, _, _, _, .nil, _ => by simpa using .nil
  | _, _, 0, _, _, .cons _ r, y => by simpa using .cons y r
  | _, _, i + 1, _, _, .cons x r, y => by simpa using .cons x (r.set i y)

/-- owned objects -/
inductive O where
  | list (items : List V)
  | cell (v : Option V)
  | iter (items : List V) (i : Nat)
  | ins (x C : Addr) (fs : List (Str × V))
  | raw (ob : Obj)

def ORel (h : Heap) (P : List Addr) (a : Addr) : O → Prop
  | .list items => ∃ Vs, h.PlainList a Vs.toArray ∧ VRels h P items Vs
  | .cell v => ∃ w, h.IsCell a w ∧ ∀ x, v = some x → ∃ X, w = some X ∧ VRel h P x X
  | .ins x C fs => h.get? x = some (instObj C a) ∧ x ∉ P ∧ ∃ es n, h.get? a = some (dictOf es n) ∧ FRels h P fs es
  | .iter items i => ∃ l Vs, h.IsListIter a l i ∧ h.IsList l Vs.toArray ∧ l ∉ P ∧ VRels h P items Vs
  | .raw ob => h.get? a = some ob

abbrev Frame := List (Str × Option V)
abbrev Store := List (Addr × O)
def keys (σ : Store) : List Addr := σ.map (·.1)

structure Act where
  prog : Program
  w : World
  A : Around
  env : Env
  G : Heap
  prot : List Addr
  gens : Array GenState
  drawn : Drawn
  os : OsState
def Act.W (c : Act) (σ : Store) : List Addr := c.env.locals :: keys σ
def Act.P (c : Act) (σ : Store) : List Addr := c.prot ++ c.W σ

structure St (c : Act) (fr : Frame) (σ : Store) (s : Shared) : Prop where
  sh : ∃ h tk, s = ⟨h, c.gens, c.drawn, tk, c.os⟩
  ns : ∃ m, s.heap.Ns c.env.locals m ∧ ∀ x v, (x, some v) ∈ fr → ∃ a, m x = some a ∧ VRel s.heap (c.P σ) v a
  names : (fr.map (·.1)).Nodup
  kinds : ∀ p ∈ fr, c.env.kindOf p.1 = some .local
  pr : ∀ b ∈ c.prot, b ∉ c.W σ ∧ ∃ o, s.heap.get? b = some o
  old : ∀ b o, c.G.get? b = some o → s.heap.get? b = some o
  own : ∀ p ∈ σ, ORel s.heap (c.P σ) p.1 p.2
  nd : (c.W σ).Nodup
  wG : ∀ b ∈ c.W σ, c.G.get? b = none

/-- what every step of a call needs of where it stands; n: frames that may still be laid -/
structure Act.Ok (c : Act) (n : Nat) : Prop where
  hh : c.A.handled = none
  dep : c.A.depth + n < 800
  un : c.A.units + 40 * n + 200 < cLine
  fn : c.env.scope.kind = .function
  gl : c.env.globals = mainGlobals
  bl : c.env.builtins = builtinsNs

def Post {α β : Type} (rel : Heap → List Addr → β → α → Prop) (c : Act) (fr : Frame) (σ : Store) (h : Heap) (Φ : β → Store → Prop) (a : α) (s' : Shared) : Prop :=
  ∃ b σ', Φ b σ' ∧ St c fr σ' s' ∧ Tr (keys σ) h (keys σ') s'.heap ∧ rel s'.heap (c.P σ') b a
abbrev NoE : Value → Shared → Prop := fun _ _ => False
structure Tri {α β : Type} (rel : Heap → List Addr → β → α → Prop) (c : Act) (t : Sem α) (fr : Frame) (σ : Store) (Φ : β → Store → Prop) : Prop where
  run : ∀ s, St c fr σ s → wpAny (model c.prog c.w) c.A t (Post rel c fr σ s.heap Φ) NoE s
def Ev (c : Act) (e : Expr) (fr : Frame) (σ : Store) (Φ : V → Store → Prop) : Prop := Tri VRel c (eval e c.env) fr σ Φ

theorem Post.trans {α β : Type} {rel : Heap → List Addr → β → α → Prop} {c : Act} {fr : Frame} {σ σ₁ : Store} {h h₁ : Heap} {Φ : β → Store → Prop} {a : α} {s' : Shared}
    (t : Tr (keys σ) h (keys σ₁) h₁) (x : Post rel c fr σ₁ h₁ Φ a s') : Post rel c fr σ h Φ a s' := by
  obtain ⟨b, σ', hΦ, hs, ht, hr⟩ := x
  exact ⟨b, σ', hΦ, hs, t.trans ht, hr⟩
theorem Post.mk {α β : Type} {rel : Heap → List Addr → β → α → Prop} {c : Act} {fr : Frame} {σ σ' : Store} {h : Heap} {Φ : β → Store → Prop} {a : α} {s' : Shared} (b : β)
    (hΦ : Φ b σ') (hs : St c fr σ' s') (t : Tr (keys σ) h (keys σ') s'.heap) (r : rel s'.heap (c.P σ') b a) : Post rel c fr σ h Φ a s' := ⟨b, σ', hΦ, hs, t, r⟩

theorem Act.P_tr {c : Act} {σ σ' : Store} {h h' : Heap} (t : Tr (keys σ) h (keys σ') h') : Tr (c.P σ) h (c.P σ') h' := (t.con c.env.locals).app c.prot

theorem St.heap {c : Act} {fr : Frame} {σ : Store} {s : Shared} (x : St c fr σ s) : s = ⟨s.heap, c.gens, c.drawn, s.toks, c.os⟩ := by
  obtain ⟨h, tk, e⟩ := x.sh; subst e; rfl
/-- other tokens -/
theorem St.toks {c : Act} {fr : Frame} {σ : Store} {s : Shared} (x : St c fr σ s) (tk : Nat) : St c fr σ { s with toks := tk } := by
  obtain ⟨h, t, e⟩ := x.sh
  subst e
  exact ⟨⟨h, tk, rfl⟩, x.ns, x.names, x.kinds, x.pr, x.old, x.own, x.nd, x.wG⟩

theorem ORel.mono {h h' : Heap} {P P' : List Addr} (t : Tr P h P' h') {a : Addr} (ka : ∀ o, h.get? a = some o → h'.get? a = some o) : ∀ {o : O}, ORel h P a o → ORel h' P' a o
  | .list _, ⟨Vs, x, r⟩ => ⟨Vs, x.at ka, r.mono t⟩
  | .cell _, ⟨w, ⟨o, e, d⟩, r⟩ => ⟨w, ⟨o, ka o e, d⟩, fun x hx => let ⟨X, e, r⟩ := r x hx; ⟨X, e, r.mono t⟩⟩
  | .iter _ _, ⟨l, Vs, x, y, q, r⟩ => ⟨l, Vs, x.at ka, y.at fun o e => t.keep l o q e, (by obtain ⟨o, e, _⟩ := y; exact t.out q e), r.mono t⟩
  | .ins _ _ _, ⟨x, q, es, n, e, r⟩ => ⟨t.keep _ _ q x, t.out q x, es, n, ka _ e, r.mono t⟩
  | .raw ob, x => ka ob x
theorem ORel.there {h : Heap} {P : List Addr} {a : Addr} : ∀ {o : O}, ORel h P a o → ∃ ob, h.get? a = some ob
  | .list _, ⟨_, ⟨_, e⟩, _⟩ => ⟨_, e⟩
  | .cell _, ⟨_, ⟨o, e, _⟩, _⟩ => ⟨o, e⟩
  | .iter _ _, ⟨_, _, ⟨o, e, _⟩, _⟩ => ⟨o, e⟩
  | .ins _ _ _, ⟨_, _, _, _, e, _⟩ => ⟨_, e⟩
  | .raw ob, x => ⟨ob, x⟩
theorem St.there {c : Act} {fr : Frame} {σ : Store} {s : Shared} (x : St c fr σ s) {b : Addr} (hb : b ∈ c.W σ) : ∃ o, s.heap.get? b = some o := by
  rcases List.mem_cons.mp hb with rfl | hb
  · obtain ⟨m, ⟨o, _, _, e, _⟩, _⟩ := x.ns; exact ⟨o, e⟩
  · obtain ⟨p, hp, rfl⟩ := List.mem_map.mp hb
    exact (x.own p hp).there
theorem St.fresh {c : Act} {fr : Frame} {σ : Store} {s : Shared} (x : St c fr σ s) : s.heap.objs.size ∉ c.W σ := fun hb => by
  obtain ⟨o, e⟩ := x.there hb
  exact absurd (Heap.lt_size e) (Nat.lt_irrefl _)

theorem St.freshP {c : Act} {fr : Frame} {σ : Store} {s : Shared} (x : St c fr σ s) : s.heap.objs.size ∉ c.P σ := fun hb => by
  rcases List.mem_append.mp hb with q | q
  · obtain ⟨_, o, e⟩ := x.pr _ q
    exact absurd (Heap.lt_size e) (Nat.lt_irrefl _)
  · exact x.fresh q

/-- the heap has changed at owned places only (which ones hold what is told anew); the frame's own namespace stands -/
theorem St.move {c : Act} {fr : Frame} {σ σ' : Store} {s s' : Shared} (x : St c fr σ s) (hs : ∃ h tk, s' = ⟨h, c.gens, c.drawn, tk, c.os⟩) (t : Tr (keys σ) s.heap (keys σ') s'.heap)
    (own : ∀ p ∈ σ', ORel s'.heap (c.P σ') p.1 p.2) (nd : (c.W σ').Nodup) : St c fr σ' s' := by
  have tp := Act.P_tr (c := c) t
  have hL : c.env.locals ∉ keys σ := by have := x.nd; unfold Act.W at this; exact (List.nodup_cons.mp this).1
  refine ⟨hs, ?_, x.names, x.kinds, fun b hb => ?_, fun b o e => ?_, own, nd, fun b hb => ?_⟩
  · obtain ⟨m, hm, hv⟩ := x.ns
    refine ⟨m, hm.at' fun o e => t.keep _ o hL e, fun y v hy => ?_⟩
    obtain ⟨a, e, r⟩ := hv y v hy
    exact ⟨a, e, r.mono tp⟩
  · obtain ⟨nb, o, e⟩ := x.pr b hb
    refine ⟨fun q => ?_, o, t.keep b o (fun q => nb (List.mem_cons_of_mem _ q)) e⟩
    rcases List.mem_cons.mp q with rfl | q
    · exact nb (List.mem_cons_self ..)
    · rcases t.grow b q with q | q
      · exact nb (List.mem_cons_of_mem _ q)
      · rw [e] at q; cases q
  · refine t.keep b o (fun hb => ?_) (x.old b o e)
    have := x.wG b (List.mem_cons_of_mem _ hb)
    rw [e] at this; cases this
  · rcases List.mem_cons.mp hb with rfl | hb
    · exact x.wG _ (List.mem_cons_self ..)
    · rcases t.grow b hb with q | q
      · exact x.wG b (List.mem_cons_of_mem _ q)
      · cases e : c.G.get? b with
        | none => rfl
        | some o => rw [x.old b o e] at q; cases q
/-- nothing owned is touched -/
theorem St.keep {c : Act} {fr : Frame} {σ : Store} {s s' : Shared} (x : St c fr σ s) (hs : ∃ h tk, s' = ⟨h, c.gens, c.drawn, tk, c.os⟩) (k : ∀ b o, s.heap.get? b = some o → s'.heap.get? b = some o) : St c fr σ s' :=
  x.move hs (.of_keeps fun b o _ e => k b o e) (fun p hp => (x.own p hp).mono (.of_keeps fun b o _ e => k b o e) fun o e => k _ o e) x.nd
theorem St.push {c : Act} {fr : Frame} {σ : Store} {s : Shared} (x : St c fr σ s) (o : Obj) : St c fr σ { s with heap := s.heap.push o } :=
  x.keep (by obtain ⟨h, t, e⟩ := x.sh; subst e; exact ⟨_, _, rfl⟩) fun _ _ e => Heap.get?_push_of_some _ e
/-- a new owned object -/
theorem St.pushW {c : Act} {fr : Frame} {σ : Store} {s : Shared} (x : St c fr σ s) (ob : Obj) {o : O} (ho : ORel (s.heap.push ob) (c.P ((s.heap.objs.size, o) :: σ)) s.heap.objs.size o) :
    St c fr ((s.heap.objs.size, o) :: σ) { s with heap := s.heap.push ob } := by
  have t : Tr (keys σ) s.heap (keys ((s.heap.objs.size, o) :: σ)) (s.heap.push ob) := Tr.pushW _ _ _
  refine x.move (by obtain ⟨h, t, e⟩ := x.sh; subst e; exact ⟨_, _, rfl⟩) t (fun p hp => ?_) ?_
  · rcases List.mem_cons.mp hp with rfl | hp
    · exact ho
    · exact (x.own p hp).mono (Act.P_tr t) fun o e => Heap.get?_push_of_some _ e
  · have nd := x.nd
    have hf := x.fresh
    unfold Act.W at nd hf ⊢
    obtain ⟨n1, n2⟩ := List.nodup_cons.mp nd
    refine List.nodup_cons.mpr ⟨fun q => ?_, List.nodup_cons.mpr ⟨fun q => hf (List.mem_cons_of_mem _ q), n2⟩⟩
    rcases List.mem_cons.mp q with q | q
    · exact hf (q ▸ List.mem_cons_self ..)
    · exact n1 q

theorem tri_mono {α β : Type} {rel : Heap → List Addr → β → α → Prop} {c : Act} {t : Sem α} {fr : Frame} {σ : Store} {Φ Φ' : β → Store → Prop} (x : Tri rel c t fr σ Φ) (h : ∀ b σ', Φ b σ' → Φ' b σ') : Tri rel c t fr σ Φ' :=
  .mk fun s hs => wpAny_mono (x.run s hs) (fun _ _ ⟨b, σ', p, r⟩ => ⟨b, σ', h _ _ p, r⟩) fun _ _ e => e

/-! names -/
inductive Put : Frame → Str → V → Frame → Prop where
  | head {x : Str} {o : Option V} {v : V} {l : Frame} : Put ((x, o) :: l) x v ((x, some v) :: l)
  | tail {x : Str} {v : V} {p : Str × Option V} {l l' : Frame} : Put l x v l' → Put (p :: l) x v (p :: l')
theorem Put.names {fr fr' : Frame} {x : Str} {v : V} (p : Put fr x v fr') : fr'.map (·.1) = fr.map (·.1) := by
  induction p with
  | head => rfl
  | tail _ ih => simp [ih]
theorem Put.mem {fr fr' : Frame} {x : Str} {v : V} (p : Put fr x v fr') (nd : (fr.map (·.1)).Nodup) : x ∈ fr.map (·.1) ∧ ∀ y o, (y, o) ∈ fr' → (y = x ∧ o = some v) ∨ (y ≠ x ∧ (y, o) ∈ fr) := by
  induction p with
  | @head x o v l =>
    refine ⟨by simp, fun y o' hy => ?_⟩
    rcases List.mem_cons.mp hy with e | hy2
    · cases e; exact .inl ⟨rfl, rfl⟩
    · refine .inr ⟨fun e => ?_, List.mem_cons_of_mem _ hy2⟩
      rw [List.map_cons, List.nodup_cons] at nd
      exact nd.1 (e ▸ List.mem_map.mpr ⟨_, hy2, rfl⟩)
  | @tail x v p l l' q ih =>
    rw [List.map_cons, List.nodup_cons] at nd
    obtain ⟨h1, h2⟩ := ih nd.2
    refine ⟨by simp [h1], fun y o hy => ?_⟩
    rcases List.mem_cons.mp hy with e | hy
    · refine .inr ⟨fun e' => ?_, e ▸ List.mem_cons_self ..⟩
      subst e' e
      exact nd.1 h1
    · rcases h2 y o hy with r | ⟨r1, r2⟩
      · exact .inl r
      · exact .inr ⟨r1, List.mem_cons_of_mem _ r2⟩

/-! owned objects, replaced -/
inductive PutA : Store → Addr → O → Store → Prop where
  | head {a : Addr} {o o' : O} {l : Store} : PutA ((a, o) :: l) a o' ((a, o') :: l)
  | tail {a : Addr} {o' : O} {p : Addr × O} {l l' : Store} : PutA l a o' l' → PutA (p :: l) a o' (p :: l')
theorem PutA.keys {σ σ' : Store} {a : Addr} {o : O} (p : PutA σ a o σ') : keys σ' = keys σ := by
  induction p with
  | head => rfl
  | tail _ ih => unfold Mine.keys at ih ⊢; simp [ih]
theorem PutA.mem {σ σ' : Store} {a : Addr} {o : O} (p : PutA σ a o σ') (nd : (Mine.keys σ).Nodup) : a ∈ Mine.keys σ ∧ ∀ b ob, (b, ob) ∈ σ' → (b = a ∧ ob = o) ∨ (b ≠ a ∧ (b, ob) ∈ σ) := by
  unfold Mine.keys at nd ⊢
  induction p with
  | @head a o o' l =>
    refine ⟨by simp, fun y ob hy => ?_⟩
    rcases List.mem_cons.mp hy with e | hy2
    · cases e; exact .inl ⟨rfl, rfl⟩
    · refine .inr ⟨fun e => ?_, List.mem_cons_of_mem _ hy2⟩
      rw [List.map_cons, List.nodup_cons] at nd
      exact nd.1 (e ▸ List.mem_map.mpr ⟨_, hy2, rfl⟩)
  | @tail a o' p l l' q ih =>
    rw [List.map_cons, List.nodup_cons] at nd
    obtain ⟨h1, h2⟩ := ih nd.2
    refine ⟨by simp [h1], fun y ob hy => ?_⟩
    rcases List.mem_cons.mp hy with e | hy
    · refine .inr ⟨fun e' => ?_, e ▸ List.mem_cons_self ..⟩
      subst e' e
      exact nd.1 h1
    · rcases h2 y ob hy with r | ⟨r1, r2⟩
      · exact .inl r
      · exact .inr ⟨r1, List.mem_cons_of_mem _ r2⟩

/-- one owned object is changed in place -/
theorem St.put {c : Act} {fr : Frame} {σ σ' : Store} {s : Shared} {a : Addr} {o : O} {h' : Heap} {tk : Nat} (x : St c fr σ s) (p : PutA σ a o σ') (sb : Heap.SameBut a s.heap h') (ho : ORel h' (c.P σ) a o) :
    St c fr σ' { s with heap := h', toks := tk } ∧ Tr (keys σ) s.heap (keys σ') h' := by
  have nd2 : (keys σ).Nodup := by have := x.nd; unfold Act.W at this; exact (List.nodup_cons.mp this).2
  obtain ⟨ha, hm⟩ := p.mem nd2
  have ek : keys σ' = keys σ := p.keys
  have t : Tr (keys σ) s.heap (keys σ') h' := by rw [ek]; exact Tr.same ha sb
  have eP : c.P σ' = c.P σ := by unfold Act.P Act.W; rw [ek]
  refine ⟨x.move (by obtain ⟨h, t, e⟩ := x.sh; subst e; exact ⟨_, _, rfl⟩) t (fun q hq => ?_) (by have := x.nd; unfold Act.W at this ⊢; rw [ek]; exact this), t⟩
  rcases hm q.1 q.2 hq with ⟨e1, e2⟩ | ⟨ne, hq⟩
  · rw [e1, e2, eP]; exact ho
  · exact (x.own q hq).mono (Act.P_tr t) fun o e => (sb.2 _ ne).trans e

open PySem PySem.W PySem.Spec PySem.Calls PyProof.Rows

section
variable {c : Act} {fr : Frame} {σ : Store} {Φ : V → Store → Prop}

theorem Post.here {α β : Type} {rel : Heap → List Addr → β → α → Prop} {Φ : β → Store → Prop} {s : Shared} {a : α} {tk : Nat} (b : β) (hs : St c fr σ s) (hΦ : Φ b σ) (r : rel s.heap (c.P σ) b a) :
    Post rel c fr σ s.heap Φ a { s with toks := tk } := ⟨b, σ, hΦ, hs.toks tk, Tr.refl _ _, r⟩
theorem Post.here' {α β : Type} {rel : Heap → List Addr → β → α → Prop} {Φ : β → Store → Prop} {s : Shared} {a : α} (b : β) (hs : St c fr σ s) (hΦ : Φ b σ) (r : rel s.heap (c.P σ) b a) :
    Post rel c fr σ s.heap Φ a s := ⟨b, σ, hΦ, hs, Tr.refl _ _, r⟩

/-! operations on values that stand -/
structure Bin (c : Act) (op : Operator) (a b : V) (fr : Frame) (σ : Store) (Φ : V → Store → Prop) : Prop where
  run : ∀ s A B, St c fr σ s → VRel s.heap (c.P σ) a A → VRel s.heap (c.P σ) b B → wpAny (model c.prog c.w) c.A (binaryOp op A B) (Post VRel c fr σ s.heap Φ) NoE s
structure IBin (c : Act) (op : Operator) (a b : V) (fr : Frame) (σ : Store) (Φ : V → Store → Prop) : Prop where
  run : ∀ s A B, St c fr σ s → VRel s.heap (c.P σ) a A → VRel s.heap (c.P σ) b B → wpAny (model c.prog c.w) c.A (inplaceOp op A B) (Post VRel c fr σ s.heap Φ) NoE s
structure Cmp (c : Act) (op : CmpOp) (a b : V) (fr : Frame) (σ : Store) (Φ : V → Store → Prop) : Prop where
  run : ∀ s A B, St c fr σ s → VRel s.heap (c.P σ) a A → VRel s.heap (c.P σ) b B → wpAny (model c.prog c.w) c.A (compareOp op A B) (Post VRel c fr σ s.heap Φ) NoE s
structure Un (c : Act) (op : UnaryOp) (a : V) (fr : Frame) (σ : Store) (Φ : V → Store → Prop) : Prop where
  run : ∀ s A, St c fr σ s → VRel s.heap (c.P σ) a A → wpAny (model c.prog c.w) c.A (unaryOp op A) (Post VRel c fr σ s.heap Φ) NoE s
abbrev relB : Heap → List Addr → Bool → Bool → Prop := fun _ _ b a => a = b
structure Tru (c : Act) (a : V) (fr : Frame) (σ : Store) (Φ : Bool → Store → Prop) : Prop where
  run : ∀ s A, St c fr σ s → VRel s.heap (c.P σ) a A → wpAny (model c.prog c.w) c.A (truthy A) (Post relB c fr σ s.heap Φ) NoE s
structure Sub (c : Act) (value slice : Expr) (a b : V) (fr : Frame) (σ : Store) (Φ : V → Store → Prop) : Prop where
  run : ∀ s A B, St c fr σ s → VRel s.heap (c.P σ) a A → VRel s.heap (c.P σ) b B → wpAny (model c.prog c.w) c.A (subscriptTail value slice A B) (Post VRel c fr σ s.heap Φ) NoE s
def Te (c : Act) (e : Expr) (fr : Frame) (σ : Store) (Φ : Bool → Store → Prop) : Prop := Tri relB c (isTrue e c.env (eval e c.env)) fr σ Φ
def EvL (c : Act) (pos : Pos) (es : List Expr) (fr : Frame) (σ : Store) (Φ : List V → Store → Prop) : Prop := Tri VRels c (spliced (backTo pos (starEach es c.env))) fr σ Φ
structure Cl (c : Act) (f : Value) (vs : List V) (fr : Frame) (σ : Store) (Φ : V → Store → Prop) : Prop where
  run : ∀ s As, St c fr σ s → VRels s.heap (c.P σ) vs As → wpAny (model c.prog c.w) c.A (call f As) (Post VRel c fr σ s.heap Φ) NoE s

/-- from a value that stands to an operation on it: the general joint -/
theorem joint {α β γ δ : Type} {rel : Heap → List Addr → β → α → Prop} {rel2 : Heap → List Addr → δ → γ → Prop} {t : α → Sem γ} {Φ : β → Store → Prop} {Ψ : δ → Store → Prop} {s s₁ : Shared} {a : α}
    (x : Post rel c fr σ s.heap Φ a s₁) (h : ∀ b σ₁, Φ b σ₁ → St c fr σ₁ s₁ → Tr (keys σ) s.heap (keys σ₁) s₁.heap → rel s₁.heap (c.P σ₁) b a → wpAny (model c.prog c.w) c.A (t a) (Post rel2 c fr σ₁ s₁.heap Ψ) NoE s₁) :
    wpAny (model c.prog c.w) c.A (t a) (Post rel2 c fr σ s.heap Ψ) NoE s₁ := by
  obtain ⟨b, σ₁, hΦ, hs, ht, hr⟩ := x
  exact wpAny_mono (h b σ₁ hΦ hs ht hr) (fun _ _ p => p.trans ht) fun _ _ e => e

/-! constants, names -/
theorem ev_int {i : Int} {k : Nat} {pos : Pos} (h : Φ (.int i) σ) : Ev c (.Constant (.int i) k pos) fr σ Φ := Tri.mk fun s hs => wpAny_Constant_int (Post.here (.int i) hs h (.int _ _))
theorem ev_str {x : Str} {k : Nat} {pos : Pos} (h : Φ (.str x) σ) : Ev c (.Constant (.str x) k pos) fr σ Φ := Tri.mk fun s hs => Constant_str (Post.here (.str x) hs h (.str _ _))
theorem ev_bool {b : Bool} {k : Nat} {pos : Pos} (h : Φ (.bool b) σ) : Ev c (.Constant (.bool b) k pos) fr σ Φ := Tri.mk fun s hs => wpAny_Constant_bool (Post.here' (.bool b) hs h (.bool _))
theorem ev_none {k : Nat} {pos : Pos} (h : Φ .none σ) : Ev c (.Constant .none k pos) fr σ Φ := Tri.mk fun s hs => wpAny_Constant_none (Post.here' .none hs h .none)

theorem loadLocal {x : Str} {v : V} (hk : c.env.scope.kind = .function) (hm : (x, some v) ∈ fr) {s : Shared} (hs : St c fr σ s) {Q : Value → Shared → Prop} (h : ∀ a, VRel s.heap (c.P σ) v a → Q a s) :
    wpAny (model c.prog c.w) c.A (loadName c.env x) Q NoE s := by
  obtain ⟨m, hn, hv⟩ := hs.ns
  obtain ⟨a, e, r⟩ := hv x v hm
  exact wpAny_loadName_local hk (hs.kinds _ hm) hn e (h a r)
theorem ev_local {x : Str} {pos : Pos} {v : V} (hk : c.env.scope.kind = .function) (hm : (x, some v) ∈ fr) (h : Φ v σ) (hd : (x == ("__debug__" : Str)) = false := by with_unfolding_all rfl) : Ev c (.Name x pos) fr σ Φ :=
  Tri.mk fun s hs => wpAny_Name (loadLocal hk hm hs fun a r => Post.here' v hs h r) hd
theorem ev_cell {x : Str} {pos : Pos} {v : V} {a : Addr} (hk : c.env.scope.kind = .function) (hx : c.env.kindOf x = some .cell) (hc : c.env.cells.lookup x = some a) (hm : (a, O.cell (some v)) ∈ σ) (h : Φ v σ)
    (hd : (x == ("__debug__" : Str)) = false := by with_unfolding_all rfl) : Ev c (.Name x pos) fr σ Φ := Tri.mk fun s hs => by
  obtain ⟨w, hw, hv⟩ := hs.own _ hm
  obtain ⟨X, e, r⟩ := hv v rfl
  subst e
  exact wpAny_Name (wpAny_loadName_cell hk hx hc hw (Post.here' v hs h r)) hd
theorem ev_glob {K : Frag} {mg : Str → Option Value} {x : Str} {pos : Pos} {v : V} {a : Value} (hk : c.env.scope.kind = .function) (hg : c.env.globals = mainGlobals) (hx : c.env.kindOf x = some .globalImplicit)
    (X : K.In c.G) (G : c.G.Ns mainGlobals mg) (e : nsIn K mainGlobals x = some (some a)) (hr : ∀ h P, VRel h P v a) (h : Φ v σ) (hd : (x == ("__debug__" : Str)) = false := by with_unfolding_all rfl) : Ev c (.Name x pos) fr σ Φ :=
  Tri.mk fun s hs => Name_function_global hk hx (loadGlobal_global (by rw [hg]; exact G.keeps hs.old) (mg_of X G e) (Post.here' v hs h (hr _ _))) hd
theorem ev_built {K : Frag} {mg mb : Str → Option Value} {x : Str} {pos : Pos} {a : Value} (hk : c.env.scope.kind = .function) (hg : c.env.globals = mainGlobals) (hb : c.env.builtins = builtinsNs) (hx : c.env.kindOf x = some .globalImplicit)
    (X : K.In c.G) (G : c.G.Ns mainGlobals mg) (B : c.G.Ns builtinsNs mb) (e : nsIn K mainGlobals x = some none) (hv : mb x = some a) (h : Φ (.raw a) σ) (hd : (x == ("__debug__" : Str)) = false := by with_unfolding_all rfl) : Ev c (.Name x pos) fr σ Φ :=
  Tri.mk fun s hs => Name_function_global hk hx (loadGlobal_builtin (by rw [hg]; exact G.keeps hs.old) (mg_none_of X G e) (by rw [hb]; exact B.keeps hs.old) hv (Post.here' (.raw a) hs h (.raw _))) hd

/-! operators -/
theorem ev_bin {l r : Expr} {op : Operator} {pos : Pos} (h : Ev c l fr σ fun a σ₁ => Ev c r fr σ₁ fun b σ₂ => Bin c op a b fr σ₂ Φ) : Ev c (.BinOp l op r pos) fr σ Φ := Tri.mk fun s hs =>
  wpAny_BinOp (wpAny_mono (h.run s hs) (fun A s₁ x => by
    obtain ⟨a, σ₁, h₁, hs₁, t₁, ra⟩ := x
    refine wpAny_mono (h₁.run s₁ hs₁) (fun B s₂ y => ?_) fun _ _ e => e
    obtain ⟨b, σ₂, h₂, hs₂, t₂, rb⟩ := y
    exact wpAny_mono (h₂.run s₂ A B hs₂ (ra.mono (Act.P_tr t₂)) rb) (fun _ _ p => (p.trans t₂).trans t₁) fun _ _ e => e) fun _ _ e => e)
theorem ev_un {x : Expr} {op : UnaryOp} {pos : Pos} (h : Ev c x fr σ fun a σ₁ => Un c op a fr σ₁ Φ) : Ev c (.UnaryOp op x pos) fr σ Φ := Tri.mk fun s hs =>
  wpAny_UnaryOp (wpAny_mono (h.run s hs) (fun A s₁ x => joint x fun a σ₁ h₁ hs₁ _ ra => h₁.run s₁ A hs₁ ra) fun _ _ e => e)
theorem ev_cmp {l r : Expr} {op : CmpOp} {pos : Pos} (h : Ev c l fr σ fun a σ₁ => Ev c r fr σ₁ fun b σ₂ => Cmp c op a b fr σ₂ Φ) (hm : behindInMarks op r = false := by with_unfolding_all rfl) : Ev c (.Compare l [op] [r] pos) fr σ Φ := Tri.mk fun s hs =>
  wpAny_Compare1 (wpAny_mono (h.run s hs) (fun A s₁ x => by
    obtain ⟨a, σ₁, h₁, hs₁, t₁, ra⟩ := x
    refine wpAny_mono (h₁.run s₁ hs₁) (fun B s₂ y => ?_) fun _ _ e => e
    obtain ⟨b, σ₂, h₂, hs₂, t₂, rb⟩ := y
    exact wpAny_mono (h₂.run s₂ A B hs₂ (ra.mono (Act.P_tr t₂)) rb) (fun _ _ p => (p.trans t₂).trans t₁) fun _ _ e => e) fun _ _ e => e) hm
theorem ev_sub {value slice : Expr} {pos : Pos} (h : Ev c value fr σ fun a σ₁ => Ev c slice fr σ₁ fun b σ₂ => Sub c value slice a b fr σ₂ Φ) : Ev c (.Subscript value slice pos) fr σ Φ := Tri.mk fun s hs =>
  Subscript_ (wpAny_mono (h.run s hs) (fun A s₁ x => by
    obtain ⟨a, σ₁, h₁, hs₁, t₁, ra⟩ := x
    refine wpAny_mono (h₁.run s₁ hs₁) (fun B s₂ y => ?_) fun _ _ e => e
    obtain ⟨b, σ₂, h₂, hs₂, t₂, rb⟩ := y
    exact wpAny_mono (h₂.run s₂ A B hs₂ (ra.mono (Act.P_tr t₂)) rb) (fun _ _ p => (p.trans t₂).trans t₁) fun _ _ e => e) fun _ _ e => e)

/-! tests -/
/-- both ways of a test, each under what it says -/
def IfB (b : Bool) (p q : Prop) : Prop := (b = true → p) ∧ (b = false → q)
theorem ifb_t {p q : Prop} (h : p) : IfB true p q := ⟨fun _ => h, (fun e => by cases e)⟩
theorem ifb_f {p q : Prop} (h : q) : IfB false p q := ⟨(fun e => by cases e), fun _ => h⟩
theorem te_cmp {l r : Expr} {op : CmpOp} {pos : Pos} {Φ : Bool → Store → Prop} (h : Ev c l fr σ fun a σ₁ => Ev c r fr σ₁ fun b σ₂ => Cmp c op a b fr σ₂ fun v σ₃ => Tru c v fr σ₃ Φ) (hm : behindInMarks op r = false := by with_unfolding_all rfl) : Te c (.Compare l [op] [r] pos) fr σ Φ := Tri.mk fun s hs =>
  wpAny_isTrue_Compare1 (wpAny_mono (h.run s hs) (fun A s₁ x => by
    obtain ⟨a, σ₁, h₁, hs₁, t₁, ra⟩ := x
    refine wpAny_mono (h₁.run s₁ hs₁) (fun B s₂ y => ?_) fun _ _ e => e
    obtain ⟨b, σ₂, h₂, hs₂, t₂, rb⟩ := y
    refine wpAny_mono (h₂.run s₂ A B hs₂ (ra.mono (Act.P_tr t₂)) rb) (fun C s₃ z => ?_) fun _ _ e => e
    obtain ⟨v, σ₃, h₃, hs₃, t₃, rv⟩ := z
    exact wpAny_mono (h₃.run s₃ C hs₃ rv) (fun _ _ p => ((p.trans t₃).trans t₂).trans t₁) fun _ _ e => e) fun _ _ e => e) hm
theorem te_plain {e : Expr} {Φ : Bool → Store → Prop} (h : Ev c e fr σ fun v σ₁ => Tru c v fr σ₁ Φ)
    (hp : isTrue e c.env (eval e c.env) = (do let v ← eval e c.env; standAt e.pos; holding [v] (truthy v)) := by with_unfolding_all rfl) : Te c e fr σ Φ := Tri.mk fun s hs =>
  isTrue_plain (wpAny_mono (h.run s hs) (fun A s₁ x => joint x fun a σ₁ h₁ hs₁ _ ra => h₁.run s₁ A hs₁ ra) fun _ _ e => e) hp
theorem te_not {x : Expr} {pos : Pos} {Φ : Bool → Store → Prop} (h : Te c x fr σ fun b σ₁ => Φ (!b) σ₁) : Te c (.UnaryOp .Not x pos) fr σ Φ := Tri.mk fun s hs =>
  isTrue_not (wpAny_mono (h.run s hs) (fun b s₁ x => by
    obtain ⟨b', σ₁, h₁, hs₁, t₁, rb⟩ := x
    cases rb
    exact ⟨_, σ₁, h₁, hs₁, t₁, rfl⟩) fun _ _ e => e)
theorem te_or {x : Expr} {rest : List Expr} {pos : Pos} {Φ : Bool → Store → Prop} (h : Te c x fr σ fun b σ₁ => IfB b (Φ true σ₁) (∀ w, Tri relB c (isTrue (.BoolOp .Or rest pos) c.env w) fr σ₁ Φ)) :
    ∀ w, Tri relB c (isTrue (.BoolOp .Or (x :: rest) pos) c.env w) fr σ Φ := fun w => Tri.mk fun s hs =>
  isTrue_or (wpAny_mono (h.run s hs) (fun b s₁ x => by
    obtain ⟨b', σ₁, h₁, hs₁, t₁, rb⟩ := x
    cases rb
    cases b with
    | true => exact ⟨true, σ₁, h₁.1 rfl, hs₁, t₁, rfl⟩
    | false =>
      rw [if_neg (by decide)]
      exact wpAny_mono ((h₁.2 rfl w).run s₁ hs₁) (fun _ _ p => p.trans t₁) fun _ _ e => e) fun _ _ e => e)
theorem te_or_nil {pos : Pos} {Φ : Bool → Store → Prop} (h : Φ false σ) : ∀ w, Tri relB c (isTrue (.BoolOp .Or [] pos) c.env w) fr σ Φ := fun w => Tri.mk fun s hs => isTrue_or_nil (Post.here' false hs h rfl)
theorem te_of {e : Expr} {Φ : Bool → Store → Prop} (h : ∀ w, Tri relB c (isTrue e c.env w) fr σ Φ) : Te c e fr σ Φ := h _

/-- the join of two plain values -/
theorem ev_ife {test body orelse : Expr} {pos : Pos} (h : Te c test fr σ fun b σ₁ => IfB b (Ev c body fr σ₁ Φ) (Ev c orelse fr σ₁ Φ)) : Ev c (.IfExp test body orelse pos) fr σ Φ := Tri.mk fun s hs =>
  IfExp_ (wpAny_mono (h.run s hs) (fun b s₁ x => by
    obtain ⟨b', σ₁, h₁, hs₁, t₁, rb⟩ := x
    cases rb
    cases b with
    | true => rw [if_pos rfl]; exact wpAny_mono ((h₁.1 rfl).run s₁ hs₁) (fun _ _ p => p.trans t₁) fun _ _ e => e
    | false => rw [if_neg (by decide)]; exact wpAny_mono ((h₁.2 rfl).run s₁ hs₁) (fun _ _ p => p.trans t₁) fun _ _ e => e) fun _ _ e => e)
/-- both ways hand back a value each and leave the store: one value -/
theorem ev_ifj {test body orelse : Expr} {pos : Pos} {b : Bool} {u v w : V} (h : Te c test fr σ fun b' σ₁ => b' = b ∧ σ₁ = σ) (h1 : Ev c body fr σ fun x σ₁ => x = u ∧ σ₁ = σ) (h2 : Ev c orelse fr σ fun x σ₁ => x = v ∧ σ₁ = σ)
    (hw : (bif b then u else v) = w) (hΦ : Φ w σ) : Ev c (.IfExp test body orelse pos) fr σ Φ := ev_ife (tri_mono h fun b' σ₁ e => by
  obtain ⟨rfl, rfl⟩ := e
  subst hw
  cases b' with
  | true => exact ifb_t (tri_mono h1 fun x σ₂ e => by obtain ⟨rfl, rfl⟩ := e; exact hΦ)
  | false => exact ifb_f (tri_mono h2 fun x σ₂ e => by obtain ⟨rfl, rfl⟩ := e; exact hΦ))

/-! lists of expressions -/
theorem evl_nil {pos : Pos} {Φ : List V → Store → Prop} (h : Φ [] σ) : EvL c pos [] fr σ Φ := Tri.mk fun s hs => spliced_none (Post.here' [] hs h .nil)
theorem evl_cons {pos : Pos} {e : Expr} {es : List Expr} {Φ : List V → Store → Prop} (h : Ev c e fr σ fun v σ₁ => EvL c pos es fr σ₁ fun vs σ₂ => Φ (v :: vs) σ₂)
    (hq : starEach (e :: es) c.env = (false, eval e c.env) :: starEach es c.env := by with_unfolding_all rfl) : EvL c pos (e :: es) fr σ Φ := Tri.mk fun s hs =>
  spliced_more (wpAny_mono (h.run s hs) (fun A s₁ x => by
    obtain ⟨a, σ₁, h₁, hs₁, t₁, ra⟩ := x
    refine wpAny_mono (h₁.run s₁ hs₁) (fun Bs s₂ y => ?_) fun _ _ e => e
    obtain ⟨bs, σ₂, h₂, hs₂, t₂, rb⟩ := y
    exact ⟨_, σ₂, h₂, hs₂, t₁.trans t₂, .cons (ra.mono (Act.P_tr t₂)) rb⟩) fun _ _ e => e) hq

/-! displays -/
theorem ev_tup {es : List Expr} {k : Nat} {pos : Pos} (h : EvL c pos es fr σ fun vs σ₁ => vs.length ≤ 1000 ∧ Φ (.tup vs) σ₁) : Ev c (.Tuple es k pos) fr σ Φ := Tri.mk fun s hs =>
  Tuple_ (wpAny_mono (h.run s hs) (fun As s₁ x => by
    obtain ⟨vs, σ₁, ⟨hl, h₁⟩, hs₁, t₁, r⟩ := x
    have hsz : As.length ≤ sizeLine := by rw [r.length, sizeLine_eq]; omega
    refine wpAny_newObj_type ⟨_, σ₁, h₁, hs₁.push _, t₁.trans (Tr.push _ _ _), .tup ⟨_, Heap.get?_push_size _ rfl, rfl, _, rfl⟩ hs₁.freshP (r.mono (Tr.push _ _ _))⟩ (by show As.toArray.size ≤ sizeLine; simpa using hsz)) fun _ _ e => e)
/-- a list that nobody will change -/
theorem ev_lstF {es : List Expr} {pos : Pos} (h : EvL c pos es fr σ fun vs σ₁ => vs.length ≤ 1000 ∧ Φ (.lst vs) σ₁) : Ev c (.List es pos) fr σ Φ := Tri.mk fun s hs =>
  List_ (wpAny_mono (h.run s hs) (fun As s₁ x => by
    obtain ⟨vs, σ₁, ⟨hl, h₁⟩, hs₁, t₁, r⟩ := x
    have hsz : As.length ≤ sizeLine := by rw [r.length, sizeLine_eq]; omega
    refine wpAny_newObj_type ⟨_, σ₁, h₁, hs₁.push _, t₁.trans (Tr.push _ _ _), .lst ⟨_, Heap.get?_push_size _ rfl⟩ hs₁.freshP (r.mono (Tr.push _ _ _))⟩ (by show As.toArray.size ≤ sizeLine; simpa using hsz)) fun _ _ e => e)
/-- a new owned list -/
theorem ev_lst {es : List Expr} {pos : Pos} (h : EvL c pos es fr σ fun vs σ₁ => vs.length ≤ 1000 ∧ ∀ a, Φ (.raw (.ref a)) ((a, .list vs) :: σ₁)) : Ev c (.List es pos) fr σ Φ := Tri.mk fun s hs =>
  List_ (wpAny_mono (h.run s hs) (fun As s₁ x => by
    obtain ⟨vs, σ₁, ⟨hl, h₁⟩, hs₁, t₁, r⟩ := x
    have hsz : As.length ≤ sizeLine := by rw [r.length, sizeLine_eq]; omega
    refine wpAny_newObj_type ⟨_, _, h₁ _, hs₁.pushW _ ⟨As, ⟨_, Heap.get?_push_size _ rfl⟩, r.mono (Act.P_tr (Tr.pushW _ _ _))⟩, t₁.trans (Tr.pushW _ _ _), .raw _⟩ (by show As.toArray.size ≤ sizeLine; simpa using hsz)) fun _ _ e => e)
end

open PySem PySem.W PySem.Spec PySem.Calls PyProof.Rows

section
variable {c : Act} {fr : Frame} {σ : Store} {Φ : V → Store → Prop} {i j : Int} {x y : Str} {b d : Bool}

/-! ints -/
theorem bin_add (h : Φ (.int (i + j)) σ) : Bin c .Add (.int i) (.int j) fr σ Φ := Bin.mk fun s A B hs ra rb => by obtain ⟨_, rfl⟩ := intE ra; obtain ⟨_, rfl⟩ := intE rb; with_reducible exact P.add_int (Post.here _ hs h (.int _ _))
theorem bin_sub (h : Φ (.int (i - j)) σ) : Bin c .Sub (.int i) (.int j) fr σ Φ := Bin.mk fun s A B hs ra rb => by obtain ⟨_, rfl⟩ := intE ra; obtain ⟨_, rfl⟩ := intE rb; with_reducible exact P.sub_int (Post.here _ hs h (.int _ _))
theorem bin_mul (hm : IntMulOk i j) (h : Φ (.int (i * j)) σ) : Bin c .Mult (.int i) (.int j) fr σ Φ := Bin.mk fun s A B hs ra rb => by obtain ⟨_, rfl⟩ := intE ra; obtain ⟨_, rfl⟩ := intE rb; with_reducible exact PyProof.Rows.mul_int (Post.here _ hs h (.int _ _)) hm
theorem bin_mod (hj : 0 < j) (h : Φ (.int (i % j)) σ) : Bin c .Mod (.int i) (.int j) fr σ Φ := Bin.mk fun s A B hs ra rb => by
  obtain ⟨_, rfl⟩ := intE ra
  obtain ⟨_, rfl⟩ := intE rb
  have e := Int.fmod_eq_emod_of_nonneg i (Int.le_of_lt hj)
  have h' : Φ (.int (Int.fmod i j)) σ := by rw [e]; exact h
  have hn : j ≠ 0 := by lia
  with_reducible exact PyProof.Rows.mod_int' hn (Post.here _ hs h' (.int _ _))
theorem bin_div (hj : 0 < j) (hs : j < 1000000000000) (h : Φ (.int (i / j)) σ) : Bin c .FloorDiv (.int i) (.int j) fr σ Φ := Bin.mk fun s A B hs' ra rb => by
  obtain ⟨_, rfl⟩ := intE ra
  obtain ⟨_, rfl⟩ := intE rb
  have e := Int.fdiv_eq_ediv_of_nonneg i (Int.le_of_lt hj)
  have h' : Φ (.int (Int.fdiv i j)) σ := by rw [e]; exact h
  have hn : j ≠ 0 := by lia
  have hl : j.natAbs.log2 < 9000 := by
    have h1 : j.natAbs < 2 ^ 40 := by lia
    by_cases h0 : j.natAbs = 0
    · lia
    · have := (Nat.log2_lt h0).mpr h1; lia
  with_reducible exact PyProof.Rows.floordiv_int hn (Post.here _ hs' h' (.int _ _)) (.inl (PyProof.noPylong_of_log2 hl))
theorem bin_pow {n : Nat} (hb : Builtin.Int.intBits i * n ≤ 2 ^ 27) (h : Φ (.int (i ^ n)) σ) : Bin c .Pow (.int i) (.int n) fr σ Φ := Bin.mk fun s A B hs ra rb => by
  obtain ⟨_, rfl⟩ := intE ra
  obtain ⟨_, rfl⟩ := intE rb
  have hb' : (Builtin.Int.intBits i : Int) * (n : Int) ≤ 2 ^ 27 := by exact_mod_cast hb
  have h' : Φ (.int (i ^ (n : Int).toNat)) σ := by simpa using h
  with_reducible exact PyProof.Rows.pow_int (Int.natCast_nonneg _) hb' (Post.here _ hs h' (.int _ _))
theorem bin_and (h : Φ (.int (Builtin.bitAnd i j)) σ) : Bin c .BitAnd (.int i) (.int j) fr σ Φ := Bin.mk fun s A B hs ra rb => by obtain ⟨_, rfl⟩ := intE ra; obtain ⟨_, rfl⟩ := intE rb; with_reducible exact PyProof.Rows.and_int (Post.here _ hs h (.int _ _))
theorem ibin_add (h : Φ (.int (i + j)) σ) : IBin c .Add (.int i) (.int j) fr σ Φ := IBin.mk fun s A B hs ra rb => by obtain ⟨_, rfl⟩ := intE ra; obtain ⟨_, rfl⟩ := intE rb; with_reducible exact P.iadd_int (Post.here _ hs h (.int _ _))
theorem ibin_sub (h : Φ (.int (i - j)) σ) : IBin c .Sub (.int i) (.int j) fr σ Φ := IBin.mk fun s A B hs ra rb => by obtain ⟨_, rfl⟩ := intE ra; obtain ⟨_, rfl⟩ := intE rb; with_reducible exact P.isub_int (Post.here _ hs h (.int _ _))
theorem ibin_mul (hm : IntMulOk i j) (h : Φ (.int (i * j)) σ) : IBin c .Mult (.int i) (.int j) fr σ Φ := IBin.mk fun s A B hs ra rb => by obtain ⟨_, rfl⟩ := intE ra; obtain ⟨_, rfl⟩ := intE rb; with_reducible exact P.imul_int (Post.here _ hs h (.int _ _)) hm
theorem ibin_or (h : Φ (.int (Builtin.bitOr i j)) σ) : IBin c .BitOr (.int i) (.int j) fr σ Φ := IBin.mk fun s A B hs ra rb => by obtain ⟨_, rfl⟩ := intE ra; obtain ⟨_, rfl⟩ := intE rb; with_reducible exact PyProof.Rows.ior_int (Post.here _ hs h (.int _ _))
theorem ibin_shl {n : Nat} (hb : Builtin.Int.intBits i + n ≤ 2 ^ 27) (h : Φ (.int (i * 2 ^ n)) σ) : IBin c .LShift (.int i) (.int n) fr σ Φ := IBin.mk fun s A B hs ra rb => by
  obtain ⟨_, rfl⟩ := intE ra
  obtain ⟨_, rfl⟩ := intE rb
  have hb' : (Builtin.Int.intBits i : Int) + (n : Int) ≤ 2 ^ 27 := by exact_mod_cast hb
  have h' : Φ (.int (i * 2 ^ (n : Int).toNat)) σ := by simpa using h
  with_reducible exact PyProof.Rows.ilshift_int (Int.natCast_nonneg _) hb' (Post.here _ hs h' (.int _ _))
theorem un_neg (h : Φ (.int (-i)) σ) : Un c .USub (.int i) fr σ Φ := Un.mk fun s A hs ra => by obtain ⟨_, rfl⟩ := intE ra; with_reducible exact P.neg_int (Post.here _ hs h (.int _ _))
theorem cmp_lt (h : Φ (.bool (decide (i < j))) σ) : Cmp c .Lt (.int i) (.int j) fr σ Φ := Cmp.mk fun s A B hs ra rb => by obtain ⟨_, rfl⟩ := intE ra; obtain ⟨_, rfl⟩ := intE rb; with_reducible exact P.lt_int (Post.here' _ hs h (.bool _))
theorem cmp_gt (h : Φ (.bool (decide (i > j))) σ) : Cmp c .Gt (.int i) (.int j) fr σ Φ := Cmp.mk fun s A B hs ra rb => by obtain ⟨_, rfl⟩ := intE ra; obtain ⟨_, rfl⟩ := intE rb; with_reducible exact P.gt_int (Post.here' _ hs h (.bool _))
theorem cmp_le (h : Φ (.bool (decide (i ≤ j))) σ) : Cmp c .LtE (.int i) (.int j) fr σ Φ := Cmp.mk fun s A B hs ra rb => by obtain ⟨_, rfl⟩ := intE ra; obtain ⟨_, rfl⟩ := intE rb; with_reducible exact PyProof.Rows.le_int (Post.here' _ hs h (.bool _))
theorem cmp_ge (h : Φ (.bool (decide (i ≥ j))) σ) : Cmp c .GtE (.int i) (.int j) fr σ Φ := Cmp.mk fun s A B hs ra rb => by obtain ⟨_, rfl⟩ := intE ra; obtain ⟨_, rfl⟩ := intE rb; with_reducible exact P.ge_int (Post.here' _ hs h (.bool _))
theorem cmp_eq (h : Φ (.bool (decide (i = j))) σ) : Cmp c .Eq (.int i) (.int j) fr σ Φ := Cmp.mk fun s A B hs ra rb => by
  obtain ⟨_, rfl⟩ := intE ra
  obtain ⟨_, rfl⟩ := intE rb
  have e : (i == j) = decide (i = j) := rfl
  with_reducible exact P.eq_int (Post.here' _ hs h (e ▸ .bool _))
theorem cmp_ne (h : Φ (.bool (decide (i ≠ j))) σ) : Cmp c .NotEq (.int i) (.int j) fr σ Φ := Cmp.mk fun s A B hs ra rb => by
  obtain ⟨_, rfl⟩ := intE ra
  obtain ⟨_, rfl⟩ := intE rb
  have e : (i != j) = decide (i ≠ j) := by
    by_cases q : i = j <;> simp [q]
  with_reducible exact P.ne_int (Post.here' _ hs h (e ▸ .bool _))

/-! texts -/
theorem str_eq_list (x y : Str) : (x.cps.toList == y.cps.toList) = decide (x = y) := by
  by_cases h : x = y
  · subst h; simp
  · have : x.cps.toList ≠ y.cps.toList := fun e => h (by cases x; cases y; simp only [Str.mk.injEq]; exact Array.ext' e)
    rw [decide_eq_false h]
    exact beq_eq_false_iff_ne.mpr this
theorem cmp_seq (h : Φ (.bool (decide (x = y))) σ) : Cmp c .Eq (.str x) (.str y) fr σ Φ := Cmp.mk fun s A B hs ra rb => by
  obtain ⟨_, rfl⟩ := strE ra
  obtain ⟨_, rfl⟩ := strE rb
  with_reducible exact P.eq_str (Post.here' _ hs h (str_eq_list x y ▸ .bool _))
theorem cmp_sne (h : Φ (.bool (decide (x ≠ y))) σ) : Cmp c .NotEq (.str x) (.str y) fr σ Φ := Cmp.mk fun s A B hs ra rb => by
  obtain ⟨_, rfl⟩ := strE ra
  obtain ⟨_, rfl⟩ := strE rb
  have e : (x.cps.toList != y.cps.toList) = decide (x ≠ y) := by rw [bne, str_eq_list, decide_not]
  with_reducible exact P.ne_str (Post.here' _ hs h (e ▸ .bool _))
theorem cmp_beq (h : Φ (.bool (b == d)) σ) : Cmp c .Is (.bool b) (.bool d) fr σ Φ := Cmp.mk fun s A B hs ra rb => by obtain rfl := boolE ra; obtain rfl := boolE rb; with_reducible exact PyProof.Rows.is_bool (Post.here' _ hs h (.bool _))
theorem bin_sadd (hl : x.length + y.length ≤ 1000000) (h : Φ (.str (x ++ y)) σ) : Bin c .Add (.str x) (.str y) fr σ Φ := Bin.mk fun s A B hs ra rb => by
  obtain ⟨_, rfl⟩ := strE ra
  obtain ⟨_, rfl⟩ := strE rb
  with_reducible exact SBL.add (fun t' k _ => Post.here _ hs h (.str _ _)) (by rw [sizeLine_eq]; lia)
theorem ibin_sadd (hl : x.length + y.length ≤ 1000000) (h : Φ (.str (x ++ y)) σ) : IBin c .Add (.str x) (.str y) fr σ Φ := IBin.mk fun s A B hs ra rb => by
  obtain ⟨_, rfl⟩ := strE ra
  obtain ⟨_, rfl⟩ := strE rb
  exact SB.iadd (fun t' k => Post.here _ hs h (.str _ _)) (by rw [sizeLine_eq]; lia)

/-! truth -/
theorem tru_bool {Φ : Bool → Store → Prop} (h : Φ b σ) : Tru c (.bool b) fr σ Φ := Tru.mk fun s A hs ra => by obtain rfl := boolE ra; with_reducible exact wpAny_truthy_bool (Post.here' _ hs h rfl)
theorem tru_int {Φ : Bool → Store → Prop} (h : Φ (decide (i ≠ 0)) σ) : Tru c (.int i) fr σ Φ := Tru.mk fun s A hs ra => by
  obtain ⟨_, rfl⟩ := intE ra
  have e : (i != 0) = decide (i ≠ 0) := by by_cases q : i = 0 <;> simp [q]
  with_reducible exact P.truthy_int (Post.here' _ hs h e)
theorem cmp_is_none {v : V} {r : Bool} (hv : (v = .none ∧ r = true) ∨ ((∃ i, v = .int i) ∨ (∃ x, v = .str x) ∨ (∃ b, v = .bool b) ∨ (∃ l, v = .lst l) ∨ (∃ l, v = .tup l) ∨ (∃ a, v = .raw (.ref a))) ∧ r = false) (h : Φ (.bool r) σ) : Cmp c .Is v .none fr σ Φ := Cmp.mk fun s A B hs ra rb => by
  cases rb
  rcases hv with ⟨rfl, rfl⟩ | ⟨hv, rfl⟩
  · cases ra
    with_reducible exact PyProof.Rows.is_none_gen (Post.here' _ hs h (.bool _))
  · refine PyProof.Rows.is_none_ne ?_ (Post.here' _ hs h (.bool _))
    rcases hv with ⟨i, rfl⟩ | ⟨i, rfl⟩ | ⟨i, rfl⟩ | ⟨i, rfl⟩ | ⟨i, rfl⟩ | ⟨i, rfl⟩ <;> cases ra <;> (intro e; cases e)

/-! lists in sight -/
inductive View (σ : Store) : V → List V → Prop where
  | lst {vs : List V} : View σ (.lst vs) vs
  | own {a : Addr} {vs : List V} : (a, O.list vs) ∈ σ → View σ (.raw (.ref a)) vs
theorem View.at {v : V} {vs : List V} (w : View σ v vs) {s : Shared} {A : Value} (hs : St c fr σ s) (ra : VRel s.heap (c.P σ) v A) : ∃ a Vs, A = .ref a ∧ s.heap.IsList a Vs.toArray ∧ VRels s.heap (c.P σ) vs Vs := by
  cases w with
  | lst => cases ra with | lst x _ r => exact ⟨_, _, rfl, x.isList, r⟩
  | own hm =>
    cases ra
    obtain ⟨Vs, x, r⟩ := hs.own _ hm
    exact ⟨_, Vs, rfl, x.isList, r⟩
theorem View.plain {v : V} {vs : List V} (w : View σ v vs) {s : Shared} {A : Value} (hs : St c fr σ s) (ra : VRel s.heap (c.P σ) v A) : ∃ a Vs n, A = .ref a ∧ IsL s.heap a Vs.toArray n ∧ VRels s.heap (c.P σ) vs Vs := by
  cases w with
  | lst => cases ra with | lst x _ r => obtain ⟨n, e⟩ := x; exact ⟨_, _, n, rfl, e, r⟩
  | own hm =>
    cases ra
    obtain ⟨Vs, ⟨n, e⟩, r⟩ := hs.own _ hm
    exact ⟨_, Vs, n, rfl, e, r⟩
theorem sub_list {value slice : Expr} {v u : V} {vs : List V} (w : View σ v vs) (h0 : 0 ≤ i) (hi : i < 1000000) (hx : vs[i.toNat]? = some u) (h : Φ u σ)
    (hsl : ∀ o k, subscripted slice false o k = operate [o, k] (getItem o k) := by intros; with_unfolding_all rfl) : Sub c value slice v (.int i) fr σ Φ := Sub.mk fun s A B hs ra rb => by
  obtain ⟨a, Vs, rfl, l, r⟩ := w.at hs ra
  cases rb
  obtain ⟨X, e, rx⟩ := r.get hx
  exact tail_any l.typeIs slot_list_getitem.lookup (wpAny_getItem_list l h0 (by lia) (by simpa using e) (Post.here' _ hs h rx)) (hsl _ _)
theorem seqIndex_nat {n : Nat} (h0 : 0 ≤ i) (h : i.toNat < n) : seqIndex? i n = some i.toNat := by
  unfold seqIndex?
  rw [if_neg (by lia : ¬ i < 0)]
  have : i < (n : Int) := by lia
  simp only [h0, this, decide_true, Bool.and_self, if_true]
theorem sub_tup {value slice : Expr} {u : V} {vs : List V} (h0 : 0 ≤ i) (hi : i < 1000000) (hx : vs[i.toNat]? = some u) (h : Φ u σ)
    (hsl : ∀ o k, subscripted slice false o k = operate [o, k] (getItem o k) := by intros; with_unfolding_all rfl) : Sub c value slice (.tup vs) (.int i) fr σ Φ := Sub.mk fun s A B hs ra rb => by
  cases ra with
  | tup l _ r =>
    cases rb
    obtain ⟨X, e, rx⟩ := r.get hx
    refine item_tupleT (j := i.toNat) l (by lia) (by lia) ?_ e (Post.here' _ hs h rx) (hsl _ _)
    have hlt : i.toNat < vs.length := by
      obtain ⟨q, _⟩ := List.getElem?_eq_some_iff.mp hx; exact q
    have hl := r.length
    exact seqIndex_nat h0 (by lia)
theorem sub_str {value slice : Expr} {k : Nat} (h0 : 0 ≤ i) (hi : i < 1000000) (hx : x.cps[i.toNat]? = some k) (h : Φ (.str ⟨#[k]⟩) σ)
    (hsl : ∀ o k, subscripted slice false o k = operate [o, k] (getItem o k) := by intros; with_unfolding_all rfl) : Sub c value slice (.str x) (.int i) fr σ Φ := Sub.mk fun s A B hs ra rb => by
  cases ra; cases rb
  refine tail_any (T := "str") (typeIs_str _ _ _) slot_str_getitem.lookup (P.getItem_str ?_ ?_ (Post.here _ hs h (.str _ _))) (hsl _ _)
  · have h1 : ¬ i < -(2 ^ 63) := by lia
    have h2 : ¬ i ≥ 2 ^ 63 := by lia
    simp only [h1, h2, decide_false, Bool.or_false]
  · have hlt : i.toNat < x.cps.size := by
      obtain ⟨q, _⟩ := Array.getElem?_eq_some_iff.mp hx; exact q
    have hlt' : i.toNat < x.length := hlt
    rw [seqIndex_nat h0 hlt']; exact hx
end

open PySem PySem.W PySem.Spec PySem.Calls PyProof.Rows

/-- the built-in names, and the list that the law was given -/
structure MB where
  m : Str → Option Value
  a : Addr
  vs : List Value
  w : World

/-- the facts of where a piece of text runs; only the frames' room and what is protected differ along the way -/
structure Fact (K : Frag) (mg : Str → Option Value) (mb : MB) (E : Env) (n : Nat) (c : Act) : Prop where
  env : c.env = E
  hh : c.A.handled = none
  dep : c.A.depth + n < 800
  un : c.A.units + 40 * n + 200 < cLine
  fn : E.scope.kind = .function
  gl : E.globals = mainGlobals
  bl : E.builtins = builtinsNs
  X : K.In c.G
  g : c.G.Ns mainGlobals mg
  b : c.G.Ns builtinsNs mb.m
  bb : ∀ x : Str, x ≠ "__name__" → mb.m x = bootBuiltins x
  lim : c.G.NoLimit
  scr : c.G.IsList mb.a mb.vs.toArray
  wd : c.w = mb.w
theorem Fact.prot {K : Frag} {mg : Str → Option Value} {mb : MB} {E : Env} {n : Nat} {c : Act} (F : Fact K mg mb E n c) (p : List Addr) : Fact K mg mb E n { c with prot := p } :=
  ⟨F.env, F.hh, F.dep, F.un, F.fn, F.gl, F.bl, F.X, F.g, F.b, F.bb, F.lim, F.scr, F.wd⟩

inductive Fl where
  | next | brk | cont | ret (v : V)
inductive FlRel (h : Heap) (P : List Addr) : Fl → Flow → Prop where
  | next : FlRel h P .next .next
  | brk : FlRel h P .brk .brk
  | cont : FlRel h P .cont .cont
  | ret {v : V} {a : Value} : VRel h P v a → FlRel h P (.ret v) (.ret a)
def PostS (c : Act) (σ : Store) (h : Heap) (Φ : Fl → Frame → Store → Prop) (F : Flow) (s' : Shared) : Prop :=
  ∃ fl fr' σ', Φ fl fr' σ' ∧ St c fr' σ' s' ∧ Tr (c.W σ) h (c.W σ') s'.heap ∧ FlRel s'.heap (c.P σ') fl F
structure Ex (c : Act) (ss : List Stmt) (fr : Frame) (σ : Store) (Φ : Fl → Frame → Store → Prop) : Prop where
  run : ∀ s, St c fr σ s → wpAny (model c.prog c.w) c.A (execs ss c.env) (PostS c σ s.heap Φ) NoE s
structure Ex1 (c : Act) (st : Stmt) (fr : Frame) (σ : Store) (Φ : Fl → Frame → Store → Prop) : Prop where
  run : ∀ s, St c fr σ s → wpAny (model c.prog c.w) c.A (exec st c.env) (PostS c σ s.heap Φ) NoE s
def Then (c : Act) (rest : List Stmt) (Φ : Fl → Frame → Store → Prop) (fl : Fl) (fr : Frame) (σ : Store) : Prop := match fl with
  | .next => Ex c rest fr σ Φ
  | f => Φ f fr σ
/-- to assign a value to a target -/
structure Asg (c : Act) (t : Expr) (v : V) (fr : Frame) (σ : Store) (Φ : Frame → Store → Prop) : Prop where
  run : ∀ s a, St c fr σ s → VRel s.heap (c.P σ) v a → wpAny (model c.prog c.w) c.A (assign t c.env a) (fun _ s' => ∃ fr' σ', Φ fr' σ' ∧ St c fr' σ' s' ∧ Tr (c.W σ) s.heap (c.W σ') s'.heap) NoE s

theorem PostS.trans {c : Act} {σ σ₁ : Store} {h h₁ : Heap} {Φ : Fl → Frame → Store → Prop} {F : Flow} {s' : Shared} (x : PostS c σ₁ h₁ Φ F s') (t : Tr (c.W σ) h (c.W σ₁) h₁) : PostS c σ h Φ F s' := by
  obtain ⟨fl, fr', σ', a, b, t', d⟩ := x
  exact ⟨fl, fr', σ', a, b, t.trans t', d⟩
theorem trW {c : Act} {σ σ' : Store} {h h' : Heap} (t : Tr (keys σ) h (keys σ') h') : Tr (c.W σ) h (c.W σ') h' := t.con c.env.locals

section
variable {c : Act} {fr : Frame} {σ : Store} {Φ : Fl → Frame → Store → Prop} {rest : List Stmt}

theorem ex_mono {ss : List Stmt} {Φ' : Fl → Frame → Store → Prop} (x : Ex c ss fr σ Φ) (h : ∀ fl fr' σ', Φ fl fr' σ' → Φ' fl fr' σ') : Ex c ss fr σ Φ' :=
  .mk fun s hs => wpAny_mono (x.run s hs) (fun _ _ ⟨fl, fr', σ', p, r⟩ => ⟨fl, fr', σ', h _ _ _ p, r⟩) fun _ _ e => e
theorem ex_nil (h : Φ .next fr σ) : Ex c [] fr σ Φ := .mk fun s hs => wpAny_execs_nil ⟨.next, fr, σ, h, hs, Tr.refl _ _, .next⟩
theorem ex_cons {st : Stmt} (h : Ex1 c st fr σ (Then c rest Φ)) : Ex c (st :: rest) fr σ Φ := .mk fun s hs => wpAny_execs_cons (wpAny_mono (h.run s hs) (fun F s₁ x => by
  obtain ⟨fl, fr', σ', p, hs', t, r⟩ := x
  cases r with
  | next => exact wpAny_mono (Ex.run p s₁ hs') (fun _ _ q => q.trans t) fun _ _ e => e
  | brk => exact ⟨.brk, fr', σ', p, hs', t, .brk⟩
  | cont => exact ⟨.cont, fr', σ', p, hs', t, .cont⟩
  | ret r => exact ⟨.ret _, fr', σ', p, hs', t, .ret r⟩) fun _ _ e => e)

/-- the frame's own name is stored -/
theorem St.name {s : Shared} (hs : St c fr σ s) {fr' : Frame} {x : Str} {v : V} (p : Put fr x v fr') {a : Value} (r : VRel s.heap (c.P σ) v a) {Q : Unit → Shared → Prop}
    (h : ∀ h' tk, St c fr' σ { s with heap := h', toks := tk } → Tr (c.W σ) s.heap (c.W σ) h' → Q () { s with heap := h', toks := tk })
    (hp : (c.env.scope.kind == .class || (c.env.scope.kind == .module && c.env.locals != c.env.globals)) = false) : wpAny (model c.prog c.w) c.A (storeName c.env x a) Q NoE s := by
  obtain ⟨m, hm, hv⟩ := hs.ns
  have hx : c.env.kindOf x = some .local := by
    have := (p.mem hs.names).1
    obtain ⟨q, hq, e⟩ := List.mem_map.mp this
    exact e ▸ hs.kinds q hq
  refine wpAny_storeName_local hx hm (fun h' hn sb => ?_) hp
  have t : Tr (c.W σ) s.heap (c.W σ) h' := Tr.same (List.mem_cons_self ..) sb
  have tp : Tr (c.P σ) s.heap (c.P σ) h' := t.app c.prot
  refine h h' _ ⟨by obtain ⟨h, t, e⟩ := hs.sh; subst e; exact ⟨_, _, rfl⟩, ⟨_, hn, fun y w hy => ?_⟩, by rw [p.names]; exact hs.names, fun q hq => ?_, fun b hb => ?_, fun b o e => ?_, fun q hq => ?_, hs.nd, hs.wG⟩ t
  · rcases (p.mem hs.names).2 y _ hy with ⟨e1, e2⟩ | ⟨ne, hy⟩
    · cases e2; subst e1
      exact ⟨a, by simp, r.mono tp⟩
    · obtain ⟨b, e, rb⟩ := hv y w hy
      exact ⟨b, by rw [if_neg ne]; exact e, rb.mono tp⟩
  · have : q.1 ∈ fr'.map (·.1) := List.mem_map.mpr ⟨q, hq, rfl⟩
    rw [p.names] at this
    obtain ⟨q', hq', e⟩ := List.mem_map.mp this
    exact e ▸ hs.kinds q' hq'
  · obtain ⟨nb, o, e⟩ := hs.pr b hb
    exact ⟨nb, o, t.keep b o nb e⟩
  · refine t.keep b o (fun hb => ?_) (hs.old b o e)
    have := hs.wG b hb; rw [e] at this; cases this
  · refine (hs.own q hq).mono tp fun o e => (sb.2 _ fun e' => ?_).trans e
    have nd := hs.nd
    unfold Act.W at nd
    exact (List.nodup_cons.mp nd).1 (e' ▸ List.mem_map.mpr ⟨q, hq, rfl⟩)

theorem plainScope {E : Env} (hk : E.scope.kind = .function) : (E.scope.kind == .class || (E.scope.kind == .module && E.locals != E.globals)) = false := by rw [hk]; rfl

theorem asg_name {K : Frag} {mg : Str → Option Value} {mb : MB} {E : Env} {n : Nat} (F : Fact K mg mb E n c) {x : Str} {pos : Pos} {v : V} {fr' : Frame} {Φ : Frame → Store → Prop} (p : Put fr x v fr') (h : Φ fr' σ) : Asg c (.Name x pos) v fr σ Φ :=
  .mk fun s a hs ra => wpAny_assign_Name (hs.name p ra (fun h' tk hs' t => ⟨fr', σ, h, hs', t⟩) (plainScope (by rw [F.env]; exact F.fn)))

/-- several targets in a row -/
inductive AsgL (c : Act) : List Expr → List V → Frame → Store → (Frame → Store → Prop) → Prop where
  | nil {fr : Frame} {σ : Store} {Φ : Frame → Store → Prop} : Φ fr σ → AsgL c [] [] fr σ Φ
  | cons {t : Expr} {ts : List Expr} {v : V} {vs : List V} {fr : Frame} {σ : Store} {Φ Ψ : Frame → Store → Prop} : Asg c t v fr σ Ψ → (∀ fr' σ', Ψ fr' σ' → AsgL c ts vs fr' σ' Φ) → AsgL c (t :: ts) (v :: vs) fr σ Φ
theorem asgL_run {ts : List Expr} {vs : List V} {Φ : Frame → Store → Prop} (x : AsgL c ts vs fr σ Φ) : ∀ s as, St c fr σ s → VRels s.heap (c.P σ) vs as →
    wpAny (model c.prog c.w) c.A (assignInOrder (ts.map fun t => assign t c.env) as) (fun _ s' => ∃ fr' σ', Φ fr' σ' ∧ St c fr' σ' s' ∧ Tr (c.W σ) s.heap (c.W σ') s'.heap) NoE s := by
  induction x with
  | nil h => intro s as hs r; cases r; exact assignInOrder_nil ⟨_, _, h, hs, Tr.refl _ _⟩
  | cons a f ih =>
    intro s as hs r
    cases r with
    | cons r rs =>
      refine assignInOrder_cons (wpAny_mono (a.run s _ hs r) (fun _ s₁ y => ?_) fun _ _ e => e)
      obtain ⟨fr', σ', h, hs', t⟩ := y
      refine wpAny_mono (ih fr' σ' h s₁ _ hs' (rs.mono (t.app c.prot))) (fun _ s₂ z => ?_) fun _ _ e => e
      obtain ⟨fr₂, σ₂, h₂, hs₂, t₂⟩ := z
      exact ⟨fr₂, σ₂, h₂, hs₂, t.trans t₂⟩
end

open PySem PySem.W PySem.Spec PySem.Calls PyProof.Rows

section
variable {c : Act} {fr : Frame} {σ : Store} {Φ : Fl → Frame → Store → Prop} {rest : List Stmt} {K : Frag} {mg : Str → Option Value} {mb : MB} {E : Env} {n : Nat}

theorem extBut_keeps {h h' : Heap} (e : Heap.ExtBut h.objs.size h h') : ∀ b o, h.get? b = some o → h'.get? b = some o := fun b o x => e b o (Nat.ne_of_lt (Heap.lt_size x)) x
theorem St.ext {s : Shared} (hs : St c fr σ s) {h' : Heap} {tk : Nat} (e : ∀ b o, s.heap.get? b = some o → h'.get? b = some o) : St c fr σ { s with heap := h', toks := tk } ∧ ∀ W, Tr W s.heap W h' :=
  ⟨hs.keep (by obtain ⟨h, t, e⟩ := hs.sh; subst e; exact ⟨_, _, rfl⟩) e, fun W => .of_keeps fun b o _ x => e b o x⟩

theorem asg_cell (F : Fact K mg mb E n c) {x : Str} {pos : Pos} {a : Addr} {v : V} {σ' : Store} {w : Option V} {Φ : Frame → Store → Prop} (hx : E.kindOf x = some .cell) (hc : E.cells.lookup x = some a) (hm : (a, O.cell w) ∈ σ) (p : PutA σ a (.cell (some v)) σ') (h : Φ fr σ') :
    Asg c (.Name x pos) v fr σ Φ := .mk fun s A hs ra => by
  obtain ⟨w', hw, _⟩ := hs.own _ hm
  have hk : c.env.scope.kind = .function := by rw [F.env]; exact F.fn
  refine wpAny_assign_Name (wpAny_storeName_cell hk (by rw [F.env]; exact hx) (by rw [F.env]; exact hc) hw fun h' hc' sb => ?_)
  have t0 : Tr (c.P σ) s.heap (c.P σ) h' := Tr.same (List.mem_append_right _ (List.mem_cons_of_mem _ (List.mem_map.mpr ⟨_, hm, rfl⟩))) sb
  obtain ⟨hs', t⟩ := hs.put (tk := s.toks) p sb ⟨_, hc', fun y e => by cases e; exact ⟨A, rfl, ra.mono t0⟩⟩
  exact ⟨fr, σ', h, hs', trW t⟩

theorem asg_tup (F : Fact K mg mb E n c) {elts : List Expr} {k : Nat} {pos : Pos} {vs : List V} {Φ : Frame → Store → Prop} (x : AsgL c elts vs fr σ Φ) (hl : elts.length = vs.length)
    (hq : assignEach elts c.env = elts.map fun t => (false, assign t c.env) := by with_unfolding_all rfl) : Asg c (.Tuple elts k pos) (.tup vs) fr σ Φ := .mk fun s A hs ra => by
  cases ra with
  | @tup a _ Vs l nP r =>
    rw [assign_Tuple]
    refine wpAny_bind (wpAny_standAt ?_)
    have e1 : (assignEach elts c.env).length = Vs.toArray.size := by rw [hq]; simp [hl, r.length]
    have e2 : (assignEach elts c.env).findIdx? (·.1) = none := by rw [hq]; simp [List.findIdx?_eq_none_iff]
    refine PyProof.Rows.unpack_tuple F.hh l e1 e2 fun h' e => ?_
    obtain ⟨hs', t⟩ := hs.ext (tk := s.toks) (extBut_keeps e)
    have e3 : (assignEach elts c.env).map (·.2) = elts.map fun t => assign t c.env := by rw [hq]; simp
    rw [e3]
    refine wpAny_mono (asgL_run x _ _ hs' (r.mono (t _))) (fun _ s₂ z => ?_) fun _ _ e => e
    obtain ⟨fr', σ', h, hs₂, t₂⟩ := z
    exact ⟨fr', σ', h, hs₂, (t _).trans t₂⟩
theorem asg_lst (F : Fact K mg mb E n c) {elts : List Expr} {k : Nat} {pos : Pos} {v : V} {vs : List V} {Φ : Frame → Store → Prop} (w : View σ v vs) (x : AsgL c elts vs fr σ Φ) (hl : elts.length = vs.length)
    (hq : assignEach elts c.env = elts.map fun t => (false, assign t c.env) := by with_unfolding_all rfl) : Asg c (.Tuple elts k pos) v fr σ Φ := .mk fun s A hs ra => by
  obtain ⟨a, Vs, rfl, l, r⟩ := w.at hs ra
  rw [assign_Tuple]
  refine wpAny_bind (wpAny_standAt ?_)
  have e1 : (assignEach elts c.env).length = Vs.toArray.size := by rw [hq]; simp [hl, r.length]
  have e2 : (assignEach elts c.env).findIdx? (·.1) = none := by rw [hq]; simp [List.findIdx?_eq_none_iff]
  unfold unpack
  rw [e1, e2]
  refine wpAny_bind (wpAny_holding (W.kun_itemsOf F.hh l fun h' e => ?_))
  obtain ⟨hs', t⟩ := hs.ext (tk := s.toks) (extBut_keeps e)
  have e3 : (assignEach elts c.env).map (·.2) = elts.map fun t => assign t c.env := by rw [hq]; simp
  rw [e3]
  refine wpAny_mono (asgL_run x _ _ hs' (r.mono (t _))) (fun _ s₂ z => ?_) fun _ _ e => e
  obtain ⟨fr', σ', h, hs₂, t₂⟩ := z
  exact ⟨fr', σ', h, hs₂, (t _).trans t₂⟩

/-- from a value to an assignment -/
theorem toAsg {t : Expr} {v : Expr} {Ψ : Frame → Store → Prop} (h : Ev c v fr σ fun v σ₁ => Asg c t v fr σ₁ Ψ) {s : Shared} (hs : St c fr σ s) {Q : Flow → Shared → Prop}
    (hq : ∀ fr' σ' s', Ψ fr' σ' → St c fr' σ' s' → Tr (c.W σ) s.heap (c.W σ') s'.heap → Q .next s') :
    wpAny (model c.prog c.w) c.A (eval v c.env) (fun a s₁ => wpAny (model c.prog c.w) c.A (assign t c.env a) (fun _ s₂ => Q .next s₂) NoE s₁) NoE s :=
  wpAny_mono (h.run s hs) (fun A s₁ x => by
    obtain ⟨v, σ₁, h₁, hs₁, t₁, r⟩ := x
    refine wpAny_mono (h₁.run s₁ A hs₁ r) (fun _ s₂ z => ?_) fun _ _ e => e
    obtain ⟨fr', σ', hΨ, hs₂, t₂⟩ := z
    exact hq fr' σ' s₂ hΨ hs₂ ((trW t₁).trans t₂)) fun _ _ e => e

theorem ex_assign {t value : Expr} {pos : Pos} (h : Ev c value fr σ fun v σ₁ => Asg c t v fr σ₁ fun fr' σ' => Ex c rest fr' σ' Φ)
    (h1 : swapsWithSole [t] value pos.line c.env = pure false := by with_unfolding_all rfl) (h2 : swappedStores [t] value c.env = pure none := by with_unfolding_all rfl) (h3 : (assignEach [t] c.env).map (·.2) = [assign t c.env] := by with_unfolding_all rfl) :
    Ex c (.Assign [t] value pos :: rest) fr σ Φ := ex_cons (.mk fun s hs => wpAny_Assign_stores (by
  rw [h3]
  exact toAsg h hs fun fr' σ' s' hΨ hs' t => ⟨.next, fr', σ', hΨ, hs', t, .next⟩) h1 h2)
theorem asg_run2 {t : Expr} {v : V} {Ψ : Frame → Store → Prop} (h : Asg c t v fr σ Ψ) {s : Shared} {a : Value} (hs : St c fr σ s) (r : VRel s.heap (c.P σ) v a) {Q : Unit → Shared → Prop}
    (hq : ∀ fr' σ' s', Ψ fr' σ' → St c fr' σ' s' → Tr (c.W σ) s.heap (c.W σ') s'.heap → VRel s'.heap (c.P σ') v a → Q () s') : wpAny (model c.prog c.w) c.A (assign t c.env a) Q NoE s :=
  wpAny_mono (h.run s a hs r) (fun _ s₂ z => by
    obtain ⟨fr', σ', hΨ, hs₂, t₂⟩ := z
    exact hq fr' σ' s₂ hΨ hs₂ t₂ (r.mono (t₂.app c.prot))) fun _ _ e => e
theorem ex_assign3 {t₁ t₂ t₃ value : Expr} {pos : Pos} (h : Ev c value fr σ fun v σ₁ => Asg c t₁ v fr σ₁ fun fr₁ σ₂ => Asg c t₂ v fr₁ σ₂ fun fr₂ σ₃ => Asg c t₃ v fr₂ σ₃ fun fr' σ' => Ex c rest fr' σ' Φ)
    (h1 : (assignEach [t₁, t₂, t₃] c.env).map (·.2) = [assign t₁ c.env, assign t₂ c.env, assign t₃ c.env] := by with_unfolding_all rfl) (h2 : swappedStores [t₁, t₂, t₃] value c.env = pure none := by with_unfolding_all rfl) :
    Ex c (.Assign [t₁, t₂, t₃] value pos :: rest) fr σ Φ := ex_cons (.mk fun s hs => wpAny_Assign_three (wpAny_mono (h.run s hs) (fun A s₁ x => by
      obtain ⟨v, σ₁, h₁, hs₁, tr₁, r⟩ := x
      exact asg_run2 h₁ hs₁ r fun fr₁ σ₂ s₂ h₂ hs₂ tr₂ r₂ => asg_run2 h₂ hs₂ r₂ fun fr₂ σ₃ s₃ h₃ hs₃ tr₃ r₃ => asg_run2 h₃ hs₃ r₃ fun fr₄ σ₄ s₄ h₄ hs₄ tr₄ r₄ =>
        ⟨.next, fr₄, σ₄, h₄, hs₄, (((trW tr₁).trans tr₂).trans tr₃).trans tr₄, .next⟩) fun _ _ e => e) h1 h2)
theorem ex_aug (F : Fact K mg mb E n c) {x : Str} {pos' : Pos} {op : Operator} {value : Expr} {pos : Pos} {old : V} (hm : (x, some old) ∈ fr)
    (h : Ev c value fr σ fun v σ₁ => IBin c op old v fr σ₁ fun u σ₂ => ∃ fr', Put fr x u fr' ∧ Ex c rest fr' σ₂ Φ) : Ex c (.AugAssign (.Name x pos') op value pos :: rest) fr σ Φ :=
  ex_cons (.mk fun s hs => wpAny_AugAssign_Name (loadLocal (by rw [F.env]; exact F.fn) hm hs fun a ra => wpAny_mono (h.run s hs) (fun B s₁ x => by
    obtain ⟨v, σ₁, h₁, hs₁, t₁, rv⟩ := x
    refine wpAny_mono (h₁.run s₁ a B hs₁ (ra.mono (Act.P_tr t₁)) rv) (fun C s₂ y => ?_) fun _ _ e => e
    obtain ⟨u, σ₂, ⟨fr', p, h₂⟩, hs₂, t₂, ru⟩ := y
    exact hs₂.name p ru (fun h' tk hs₃ t₃ => ⟨.next, fr', σ₂, h₂, hs₃, ((trW t₁).trans (trW t₂)).trans t₃, .next⟩) (plainScope (by rw [F.env]; exact F.fn))) fun _ _ e => e))

theorem ex_expr {e : Expr} {pos : Pos} (h : Ev c e fr σ fun _ σ₁ => Ex c rest fr σ₁ Φ) (h1 : interactive c.env = false) (h2 : swapsWith e none pos.line c.env = pure false := by with_unfolding_all rfl) : Ex c (.Expr e pos :: rest) fr σ Φ :=
  ex_cons (.mk fun s hs => wpAny_Expr_any (wpAny_mono (h.run s hs) (fun A s₁ x => by
    obtain ⟨v, σ₁, h₁, hs₁, t₁, r⟩ := x
    exact ⟨.next, fr, σ₁, h₁, hs₁, trW t₁, .next⟩) fun _ _ e => e) h1 h2)
theorem ex_ret {e : Expr} {pos : Pos} (h : Ev c e fr σ fun v σ₁ => Φ (.ret v) fr σ₁) : Ex c (.Return (some e) pos :: rest) fr σ Φ :=
  ex_cons (.mk fun s hs => wpAny_Return_some (wpAny_mono (h.run s hs) (fun A s₁ x => by
    obtain ⟨v, σ₁, h₁, hs₁, t₁, r⟩ := x
    exact ⟨.ret v, fr, σ₁, h₁, hs₁, trW t₁, .ret r⟩) fun _ _ e => e))
theorem ex_brk {pos : Pos} (h : Φ .brk fr σ) : Ex c (.Break pos :: rest) fr σ Φ := ex_cons (.mk fun s hs => wpAny_Break ⟨.brk, fr, σ, h, hs, Tr.refl _ _, .brk⟩)
theorem ex_if {test : Expr} {body orelse : List Stmt} {pos : Pos} (h : Te c test fr σ fun b σ₁ => IfB b (Ex c body fr σ₁ (Then c rest Φ)) (Ex c orelse fr σ₁ (Then c rest Φ))) : Ex c (.If test body orelse pos :: rest) fr σ Φ :=
  ex_cons (.mk fun s hs => wpAny_If (wpAny_mono (h.run s hs) (fun b s₁ x => by
    obtain ⟨b', σ₁, h₁, hs₁, t₁, rb⟩ := x
    cases rb
    cases b with
    | true => rw [if_pos rfl]; exact wpAny_mono ((h₁.1 rfl).run s₁ hs₁) (fun _ _ p => p.trans (trW t₁)) fun _ _ e => e
    | false => rw [if_neg (by decide)]; exact wpAny_mono ((h₁.2 rfl).run s₁ hs₁) (fun _ _ p => p.trans (trW t₁)) fun _ _ e => e) fun _ _ e => e))
theorem then_next {fr' : Frame} {σ' : Store} (h : Ex c rest fr' σ' Φ) : Then c rest Φ .next fr' σ' := h
theorem then_ret {fr' : Frame} {σ' : Store} {v : V} (h : Φ (.ret v) fr' σ') : Then c rest Φ (.ret v) fr' σ' := h
theorem then_brk {fr' : Frame} {σ' : Store} (h : Φ .brk fr' σ') : Then c rest Φ .brk fr' σ' := h

/-- fewer owned objects -/
def Less (σ' σ : Store) : Prop := List.Sublist σ' σ
theorem St.less {σ' : Store} {s : Shared} (hs : St c fr σ s) (l : Less σ' σ) : St c fr σ' s ∧ Tr (c.W σ) s.heap (c.W σ') s.heap := by
  have lk : List.Sublist (keys σ') (keys σ) := l.map _
  have t : Tr (keys σ) s.heap (keys σ') s.heap := ⟨fun _ _ _ e => e, fun b hb => .inl (lk.subset hb)⟩
  refine ⟨hs.move hs.sh t (fun p hp => (hs.own p (l.subset hp)).mono (Act.P_tr t) fun o e => e) ?_, trW t⟩
  exact hs.nd.sublist (List.Sublist.cons₂ _ lk)
theorem ex_less {ss : List Stmt} {σ' : Store} (l : Less σ' σ) (h : Ex c ss fr σ' Φ) : Ex c ss fr σ Φ := .mk fun s hs => by
  obtain ⟨hs', t⟩ := hs.less l
  exact wpAny_mono (h.run s hs') (fun _ _ p => p.trans t) fun _ _ e => e

/-- a list that nobody will change any more: the name stands for its items -/
theorem St.freeze {s : Shared} (hs : St c fr σ s) {x : Str} {a : Addr} {vs : List V} {fr' : Frame} {σ' : Store} (hx : (x, some (V.raw (.ref a))) ∈ fr) (hm : (a, O.list vs) ∈ σ) (p : Put fr x (.lst vs) fr') (l : Less σ' σ) (ha : a ∉ keys σ') : St c fr' σ' s ∧ Tr (c.W σ) s.heap (c.W σ') s.heap := by
  obtain ⟨hs', t⟩ := hs.less l
  refine ⟨⟨hs'.sh, ?_, by rw [p.names]; exact hs'.names, fun q hq => ?_, hs'.pr, hs'.old, hs'.own, hs'.nd, hs'.wG⟩, t⟩
  · obtain ⟨m, hm', hv⟩ := hs'.ns
    refine ⟨m, hm', fun y w hy => ?_⟩
    rcases (p.mem hs.names).2 y _ hy with ⟨e1, e2⟩ | ⟨ne, hy⟩
    · cases e2; subst e1
      obtain ⟨b, e, r⟩ := hv y _ hx
      cases r
      obtain ⟨Vs, pl, r⟩ := hs.own _ hm
      have tp : Tr (c.P σ) s.heap (c.P σ') s.heap := t.app c.prot
      refine ⟨_, e, .lst pl (fun q => ?_) (r.mono tp)⟩
      have hW : a ∈ c.W σ := List.mem_cons_of_mem _ (List.mem_map.mpr ⟨_, hm, rfl⟩)
      rcases List.mem_append.mp q with q | q
      · exact (hs.pr a q).1 hW
      · rcases List.mem_cons.mp q with q | q
        · have nd := hs.nd
          unfold Act.W at nd
          exact (List.nodup_cons.mp nd).1 (q ▸ List.mem_map.mpr ⟨_, hm, rfl⟩)
        · exact ha q
    · exact hv y w hy
  · have : q.1 ∈ fr'.map (·.1) := List.mem_map.mpr ⟨q, hq, rfl⟩
    rw [p.names] at this
    obtain ⟨q', hq', e⟩ := List.mem_map.mp this
    exact e ▸ hs.kinds q' hq'
theorem nodup_drop {s : Shared} (hs : St c fr σ s) {pre post : Store} {a : Addr} {o : O} (e : σ = pre ++ (a, o) :: post) : a ∉ keys (pre ++ post) := fun q => by
  have nd := hs.nd
  unfold Act.W at nd
  have nd := (List.nodup_cons.mp nd).2
  subst e
  unfold keys at nd q
  simp only [List.map_append, List.map_cons] at nd q
  rw [List.nodup_append] at nd
  obtain ⟨_, n2, n3⟩ := nd
  rw [List.nodup_cons] at n2
  rcases List.mem_append.mp q with q | q
  · exact n3 a q a (List.mem_cons_self ..) rfl
  · exact n2.1 q
/-- one owned object, dropped -/
inductive DropA : Store → Addr → Store → Prop where
  | head {a : Addr} {o : O} {l : Store} : DropA ((a, o) :: l) a l
  | tail {a : Addr} {p : Addr × O} {l l' : Store} : DropA l a l' → DropA (p :: l) a (p :: l')
theorem DropA.split {σ σ' : Store} {a : Addr} (d : DropA σ a σ') : ∃ pre o post, σ = pre ++ (a, o) :: post ∧ σ' = pre ++ post := by
  induction d with
  | head => exact ⟨[], _, _, rfl, rfl⟩
  | @tail a p l l' _ ih =>
    obtain ⟨pre, o, post, e1, e2⟩ := ih
    exact ⟨p :: pre, o, post, by simp [e1], by simp [e2]⟩
theorem DropA.less {σ σ' : Store} {a : Addr} (d : DropA σ a σ') : Less σ' σ := by
  induction d with
  | head => exact List.sublist_cons_self _ _
  | tail _ ih => exact List.Sublist.cons₂ _ ih
theorem ex_freeze {ss : List Stmt} (x : Str) {a : Addr} {vs : List V} {fr' : Frame} {σ' : Store} (hx : (x, some (V.raw (.ref a))) ∈ fr) (hm : (a, O.list vs) ∈ σ) (p : Put fr x (.lst vs) fr') (d : DropA σ a σ') (h : Ex c ss fr' σ' Φ) : Ex c ss fr σ Φ := .mk fun s hs => by
  obtain ⟨pre, o, post, e1, e2⟩ := d.split
  obtain ⟨hs', t⟩ := hs.freeze hx hm p d.less (e2 ▸ nodup_drop hs e1)
  exact wpAny_mono (h.run s hs') (fun _ _ q => q.trans t) fun _ _ e => e

/-! stores into lists -/
theorem plain_set {h h' : Heap} {a : Addr} {its its' : Array Value} (x : h.PlainList a its) (y : h'.IsList a its') (hs : h'.get? a = (h.get? a).map (Obj.mapSeq fun _ => its')) : h'.PlainList a its' := by
  obtain ⟨n, e⟩ := x
  rw [e] at hs
  exact ⟨_, hs⟩
theorem get_update {h : Heap} {a : Addr} {o : Obj} {f : Obj → Obj} (e : h.get? a = some o) (hf : (f o).isFreed = false) : (h.update a f).get? a = some (f o) := Heap.get?_update_self f e hf

/-- xs[i] = v upon an owned list -/
theorem set_at {s : Shared} (hs : St c fr σ s) {a : Addr} {vs : List V} {i : Int} {t : Tok} {v : V} {A : Value} {σ' : Store} (hm : (a, O.list vs) ∈ σ) (h0 : 0 ≤ i) (hi : i.toNat < vs.length) (hb : i < 1000000) (r : VRel s.heap (c.P σ) v A)
    (p : PutA σ a (.list (vs.set i.toNat v)) σ') {Q : Unit → Shared → Prop} (h : ∀ h', St c fr σ' { s with heap := h' } → Tr (keys σ) s.heap (keys σ') h' → Q () { s with heap := h' }) :
    wpAny (model c.prog c.w) c.A (setItem (.ref a) (.int i t) A) Q NoE s := by
  obtain ⟨Vs, ⟨k, e⟩, rs⟩ := hs.own _ hm
  have hl := rs.length
  refine W.ki_setAt e h0 (by lia) (by simp; lia) ?_
  have ge := get_update (f := Obj.mapSeq fun x => x.setIfInBounds i.toNat A) e rfl
  have sb : Heap.SameBut a s.heap (s.heap.update a (Obj.mapSeq fun x => x.setIfInBounds i.toNat A)) := Heap.SameBut.update ..
  have ha : a ∈ c.P σ := List.mem_append_right _ (List.mem_cons_of_mem _ (List.mem_map.mpr ⟨_, hm, rfl⟩))
  have t0 : Tr (c.P σ) s.heap (c.P σ) (s.heap.update a (Obj.mapSeq fun x => x.setIfInBounds i.toNat A)) := Tr.same ha sb
  have es : Vs.toArray.setIfInBounds i.toNat A = (Vs.set i.toNat A).toArray := by simp
  obtain ⟨hs', t⟩ := hs.put (tk := s.toks) p sb ⟨Vs.set i.toNat A, ⟨_, by rw [ge]; show some (Obj.mk _ _ (Data.seq (Vs.toArray.setIfInBounds i.toNat A) _) _) = _; rw [es]⟩, (rs.mono t0).set _ (r.mono t0)⟩
  exact h _ hs' t
theorem asg_sub {o i : Expr} {pos : Pos} {v : V} {Ψ : Frame → Store → Prop} (hp : ∀ s A, St c fr σ s → VRel s.heap (c.P σ) v A → True)
    (h : Ev c o fr σ fun ov σ₁ => ∃ a, ov = .raw (.ref a) ∧ Ev c i fr σ₁ fun iv σ₂ => ∃ k vs σ', iv = .int k ∧ (a, O.list vs) ∈ σ₂ ∧ 0 ≤ k ∧ k.toNat < vs.length ∧ k < 1000000 ∧ PutA σ₂ a (.list (vs.set k.toNat v)) σ' ∧ Ψ fr σ') :
    Asg c (.Subscript o i pos) v fr σ Ψ := .mk fun s A hs ra => W.kas_sub (wpAny_mono (h.run s hs) (fun O₁ s₁ x => by
      obtain ⟨ov, σ₁, ⟨a, rfl, h₁⟩, hs₁, t₁, r₁⟩ := x
      cases r₁
      refine wpAny_mono (h₁.run s₁ hs₁) (fun I s₂ y => ?_) fun _ _ e => e
      obtain ⟨iv, σ₂, ⟨k, vs, σ', rfl, hm, h0, hk, hb, p, hΨ⟩, hs₂, t₂, r₂⟩ := y
      cases r₂
      refine set_at hs₂ hm h0 hk hb ((ra.mono (Act.P_tr t₁)).mono (Act.P_tr t₂)) p fun h' hs' t' => ⟨fr, σ', hΨ, hs', trW ((t₁.trans t₂).trans t')⟩) fun _ _ e => e)
theorem ex_augsub {o i : Expr} {pos' : Pos} {op : Operator} {value : Expr} {pos : Pos}
    (h : Ev c o fr σ fun ov σ₁ => ∃ a, ov = .raw (.ref a) ∧ Ev c i fr σ₁ fun iv σ₂ => ∃ k vs old, iv = .int k ∧ (a, O.list vs) ∈ σ₂ ∧ 0 ≤ k ∧ vs[k.toNat]? = some old ∧ k < 1000000 ∧
      Ev c value fr σ₂ fun v σ₃ => IBin c op old v fr σ₃ fun u σ₄ => ∃ us σ', (a, O.list us) ∈ σ₄ ∧ k.toNat < us.length ∧ PutA σ₄ a (.list (us.set k.toNat u)) σ' ∧ Ex c rest fr σ' Φ)
    (hq : ∀ (ov iv new : Value), augStore i ov iv new = (do holding [new, ov, iv] (setItem ov iv new); release [new, ov, iv] []; pure Flow.next) := by intros; with_unfolding_all rfl) :
    Ex c (.AugAssign (.Subscript o i pos') op value pos :: rest) fr σ Φ := ex_cons (.mk fun s hs => PyProof.Rows.wpAny_AugAssign_Subscript_any (wpAny_mono (h.run s hs) (fun O₁ s₁ x => by
      obtain ⟨ov, σ₁, ⟨a, rfl, h₁⟩, hs₁, t₁, r₁⟩ := x
      cases r₁
      refine wpAny_mono (h₁.run s₁ hs₁) (fun I s₂ y => ?_) fun _ _ e => e
      obtain ⟨iv, σ₂, ⟨k, vs, old, rfl, hm, h0, hk, hb, h₂⟩, hs₂, t₂, r₂⟩ := y
      cases r₂
      obtain ⟨Vs, pl, rs⟩ := hs₂.own _ hm
      obtain ⟨X, e, rx⟩ := rs.get hk
      refine wpAny_getItem_list pl.isList h0 (by lia) (by simpa using e) (wpAny_mono (h₂.run s₂ hs₂) (fun B s₃ z => ?_) fun _ _ e => e)
      obtain ⟨v, σ₃, h₃, hs₃, t₃, rv⟩ := z
      refine wpAny_mono (h₃.run s₃ X B hs₃ (rx.mono (Act.P_tr t₃)) rv) (fun C s₄ y => ?_) fun _ _ e => e
      obtain ⟨u, σ₄, ⟨us, σ', hm', hk', p, h₄⟩, hs₄, t₄, ru⟩ := y
      exact set_at hs₄ hm' h0 hk' hb ru p fun h' hs' t' => ⟨.next, fr, σ', h₄, hs', trW ((((t₁.trans t₂).trans t₃).trans t₄).trans t'), .next⟩) fun _ _ e => e) hq)
end

open PySem PySem.W PySem.Spec PySem.Calls PyProof.Rows

structure ClK (c : Act) (f : Value) (vs : List V) (kn : List Str) (kv : List V) (fr : Frame) (σ : Store) (Φ : V → Store → Prop) : Prop where
  run : ∀ s As Ks, St c fr σ s → VRels s.heap (c.P σ) vs As → VRels s.heap (c.P σ) kv Ks → wpAny (model c.prog c.w) c.A (call f As (kn.zip Ks)) (Post VRel c fr σ s.heap Φ) NoE s
structure CdK (c : Act) (f : Value) (vs : List V) (kn : List Str) (kv : List V) (fr : Frame) (σ : Store) (Φ : V → Store → Prop) : Prop where
  run : ∀ s As Ks, St c fr σ s → VRels s.heap (c.P σ) vs As → VRels s.heap (c.P σ) kv Ks → codeAny (model c.prog c.w) c.A (.call f ⟨As, kn.zip Ks⟩) (fun r s' => match r with | .ok (.ret v) => Post VRel c fr σ s.heap Φ v s' | .ok _ => False | .error e => NoE e s') s
theorem CdK.cl {c : Act} {f : Value} {vs : List V} {kn : List Str} {kv : List V} {fr : Frame} {σ : Store} {Φ : V → Store → Prop} (h : CdK c f vs kn kv fr σ Φ) : ClK c f vs kn kv fr σ Φ := .mk fun s As Ks hs ra rk => wpAny_call (h.run s As Ks hs ra rk)
theorem cl_of {c : Act} {f : Value} {vs : List V} {fr : Frame} {σ : Store} {Φ : V → Store → Prop} (h : ClK c f vs [] [] fr σ Φ) : Cl c f vs fr σ Φ := .mk fun s As hs r => h.run s As [] hs r .nil

def RetV (fl : Fl) (v : V) : Prop := fl = .ret v ∨ (fl = .next ∧ v = .none)

theorem bindL_not {k : Str → Option NameKind} {x : Str} : ∀ (binds : List (Str × Value)) (m : Str → Option Value), x ∉ binds.map (·.1) → bindL k binds m x = m x
  | [], m, _ => rfl
  | (n, v) :: r, m, h => by
    unfold bindL
    rw [bindL_not r _ fun q => h (List.mem_cons_of_mem _ q)]
    split
    · show (if x = n then some v else m x) = m x
      rw [if_neg]; intro e; exact h (e ▸ List.mem_cons_self ..)
    · rfl
theorem bindL_get {k : Str → Option NameKind} {x : Str} {v : Value} (hk : k x = some .local) : ∀ (binds : List (Str × Value)) (m : Str → Option Value), (binds.map (·.1)).Nodup → (x, v) ∈ binds → bindL k binds m x = some v
  | (n, w) :: r, m, nd, h => by
    rw [List.map_cons, List.nodup_cons] at nd
    unfold bindL
    rcases List.mem_cons.mp h with e | h
    · cases e
      rw [bindL_not r _ nd.1, if_pos hk, if_pos rfl]
    · exact bindL_get hk r _ nd.2 h
theorem bindC_not {k : Str → Option NameKind} {x : Str} : ∀ (binds : List (Str × Value)) (m : Str → Option Value), x ∉ binds.map (·.1) → bindC k binds m x = m x
  | [], m, _ => rfl
  | (n, v) :: r, m, h => by
    unfold bindC
    rw [bindC_not r _ fun q => h (List.mem_cons_of_mem _ q)]
    split
    · rfl
    · show (if x = n then some v else m x) = m x
      rw [if_neg]; intro e; exact h (e ▸ List.mem_cons_self ..)
theorem bindC_get {k : Str → Option NameKind} {x : Str} {v : Value} (hk : k x ≠ some .local) : ∀ (binds : List (Str × Value)) (m : Str → Option Value), (binds.map (·.1)).Nodup → (x, v) ∈ binds → bindC k binds m x = some v
  | (n, w) :: r, m, nd, h => by
    rw [List.map_cons, List.nodup_cons] at nd
    unfold bindC
    rcases List.mem_cons.mp h with e | h
    · cases e
      rw [bindC_not r _ nd.1, if_neg hk, if_pos rfl]
    · exact bindC_get hk r _ nd.2 h

theorem zip_rel {h : Heap} {P : List Addr} : ∀ {names : List Str} {vs : List V} {As : List Value}, VRels h P vs As → ∀ {x : Str} {v : V}, (x, v) ∈ names.zip vs → ∃ A, (x, A) ∈ names.zip As ∧ VRel h P v A
  | [], _, _, _, _, _, hm => by simp at hm
  | _ :: _, _, _, .nil, _, _, hm => by simp at hm
  | nm :: names, _, _, .cons r rs, x, v, hm => by
    rw [List.zip_cons_cons] at hm
    rcases List.mem_cons.mp hm with e | hm
    · cases e; exact ⟨_, List.mem_cons_self .., r⟩
    · obtain ⟨A, q, r'⟩ := zip_rel rs hm
      exact ⟨A, List.mem_cons_of_mem _ q, r'⟩

/-- the written facts of a def -/
structure DefIs (K : Frag) (f : Addr) (qual : Str) (body : List Stmt) (scope : Scope) (cdv : Value) (fd : FuncData) : Prop where
  look : ∃ oc od osl, K.lookup f = some ⟨oc, od, .func fd, osl⟩
  bd : fd.body = .stmts body
  q : fd.qualname = qual
  sc : fd.scope = scope
  cd : fd.code = cdv
  gl : fd.globals = mainGlobals
  bl : fd.builtins = builtinsNs
  cl : fd.closure = []
  code : codeIn K cdv qual = true
  co : scope.isCoroutine = false
  gen : scope.isGenerator = false
  kind : scope.kind = .function

section
variable {c : Act} {fr : Frame} {σ : Store} {K : Frag} {mg : Str → Option Value} {mb : MB} {E : Env} {n : Nat}

theorem fact_deeper (F : Fact K mg mb E (n + 1) c) {qual : Str} {scope : Scope} {L f : Addr} {cdv : Value} (hk : scope.kind = .function) (p : List Addr) :
    Fact K mg mb (envOfC qual scope L f cdv) n { c with A := c.A.deeper (envOfC qual scope L f cdv), env := envOfC qual scope L f cdv, prot := p } :=
  ⟨rfl, F.hh, (by have := F.dep; show c.A.depth + 1 + n < 800; lia), (by have := F.un; show c.A.units + 3 + 40 * n + 200 < cLine; lia), hk, rfl, rfl, F.X, F.g, F.b, F.bb, F.lim, F.scr, F.wd⟩

theorem cdk_env (F : Fact K mg mb E (n + 1) c) {f : Addr} {qual : Str} {body : List Stmt} {scope : Scope} {cdv : Value} (hkd : scope.kind = .function)
    {names : List Str} {ws : List V} {Φ : V → Store → Prop} {fr0 : Frame} {σc : Addr → Store} {s : Shared} {Bs : List Value} (hs : St c fr σ s) (rb : VRels s.heap (c.P σ) ws Bs)
    (hnd : names.Nodup) (hlen : names.length = ws.length)
    (hkind : ∀ x ∈ names, scope.names.lookup x = some .local ∨ (scope.names.lookup x = some .cell ∧ ∀ m, ((cellsFrom m scope.names []).lookup x).isSome = true))
    (hfr : ∀ x v, (x, some v) ∈ fr0 → (x, v) ∈ names.zip ws) (hfk : ∀ p ∈ fr0, scope.names.lookup p.1 = some .local) (hfn : (fr0.map (·.1)).Nodup)
    (hσc : ∀ L, ∀ p ∈ σc L, ∃ x o, (cellsFrom (L + 1) scope.names []).lookup x = some p.1 ∧ p.2 = .cell o ∧ ((o = none) ∨ ∃ v, o = some v ∧ (x, v) ∈ names.zip ws ∧ scope.names.lookup x ≠ some .local))
    (hσn : ∀ L, (keys (σc L)).Nodup)
    (h : ∀ L c', Fact K mg mb (envOfC qual scope L f cdv) n c' → Ex c' body fr0 (σc L ++ σ) fun fl _ σ' => ∃ v σ'', RetV fl v ∧ Less σ'' σ' ∧ Φ v σ'') {R : Result → Shared → Prop} {E₂ : Value → Shared → Prop}
    (hR : ∀ v s', Post VRel c fr σ s.heap Φ v s' → R (.ok (.ret v)) s') :
    wpAny (model c.prog c.w) c.A.in1 (newFunctionEnv scope mainGlobals [] (names.zip Bs) (qual ++ ".<locals>.") (some f) cdv none builtinsNs) (fun env' s₂ => s₂.heap.NoLimit ∧ codeAny (model c.prog c.w) c.A (.func body env') R s₂) E₂ s := by
  have kz : ∀ {m : Nat}, ∀ x ∈ names.zip Bs, scope.names.lookup x.1 = some .local ∨ (scope.names.lookup x.1 = some .cell ∧ ((cellsFrom m scope.names []).lookup x.1).isSome = true) := fun x hx =>
    (hkind x.1 (List.of_mem_zip (a := x.1) (b := x.2) hx).1).imp id fun q => ⟨q.1, q.2 _⟩
  refine wpAny_newFunctionEnv_cells hkd kz fun env' he s' x => ?_
  subst he
  refine ⟨(F.lim.keeps hs.old).keeps x.toInCall.keep, codeAny_func ?_⟩
  obtain ⟨h₁, tk, rfl, hk₁⟩ := x.done
  -- the callee's ground
  let L := s.heap.objs.size
  let E' := envOfC qual scope L f cdv
  let c' : Act := { c with A := c.A.deeper E', env := E', prot := c.env.locals :: c.prot }
  have F' : Fact K mg mb E' n c' := fact_deeper F hkd _
  have hLf : ∀ b, b ∈ c.P σ → ∃ o, s.heap.get? b = some o := fun b hb => by
    rcases List.mem_append.mp hb with q | q
    · exact (hs.pr b q).2
    · exact hs.there q
  have newN : ∀ b, (b = L ∨ b ∈ keys (σc L)) → s.heap.get? b = none := fun b hb => by
    rcases hb with rfl | hb
    · exact size_none _
    · obtain ⟨p, hp, rfl⟩ := List.mem_map.mp hb
      obtain ⟨y, o, hl, _, _⟩ := hσc L p hp
      have lt : L < p.1 := x.above y p.1 (mem_of_lookup hl)
      cases e : s.heap.get? p.1 with
      | none => rfl
      | some o => exact absurd (Heap.lt_size e) (Nat.not_lt.mpr (Nat.le_of_lt lt))
  have hnot : ∀ b, (b = L ∨ b ∈ keys (σc L)) → b ∉ c.P σ := fun b hb q => by
    obtain ⟨o, e⟩ := hLf b q
    rw [newN b hb] at e; cases e
  -- from the caller's protected set to the callee's
  have tp : Tr (c.P σ) s.heap (c'.P (σc L ++ σ)) h₁ := ⟨fun b o _ e => hk₁ b o e, fun b hb => by
    have hb' : b ∈ (c.env.locals :: c.prot) ++ (L :: keys (σc L ++ σ)) := hb
    rcases List.mem_append.mp hb' with q | q
    · rcases List.mem_cons.mp q with rfl | q
      · exact .inl (List.mem_append_right _ (List.mem_cons_self ..))
      · exact .inl (List.mem_append_left _ q)
    · rcases List.mem_cons.mp q with q | q
      · exact .inr (newN b (.inl q))
      · unfold keys at q
        rw [List.map_append] at q
        rcases List.mem_append.mp q with q | q
        · exact .inr (newN b (.inr q))
        · exact .inl (List.mem_append_right _ (List.mem_cons_of_mem _ q))⟩
  have rb₁ := rb.mono tp
  have nz : ((names.zip Bs).map (·.1)).Nodup := by
    have : (names.zip Bs).map (·.1) = names := by
      rw [show ((names.zip Bs).map (·.1)) = (names.zip Bs).map Prod.fst from rfl, List.map_fst_zip]
      rw [rb.length, hlen]; exact Nat.le_refl _
    rw [this]; exact hnd
  have LW : (c'.W (σc L ++ σ)).Nodup := by
    show (L :: keys (σc L ++ σ)).Nodup
    have nd := hs.nd
    unfold Act.W at nd
    unfold keys
    rw [List.map_append]
    refine List.nodup_cons.mpr ⟨fun q => ?_, List.nodup_append.mpr ⟨hσn L, (List.nodup_cons.mp nd).2, fun a ha b hb e => ?_⟩⟩
    · rcases List.mem_append.mp q with q | q
      · obtain ⟨p, hp, e⟩ := List.mem_map.mp q
        obtain ⟨y, o, hl, _, _⟩ := hσc L p hp
        have lt : L < p.1 := x.above y p.1 (mem_of_lookup hl)
        rw [e] at lt; exact Nat.lt_irrefl _ lt
      · exact hnot L (.inl rfl) (List.mem_append_right _ (List.mem_cons_of_mem _ q))
    · subst e
      exact hnot a (.inr ha) (List.mem_append_right _ (List.mem_cons_of_mem _ hb))
  have S' : St c' fr0 (σc L ++ σ) { s with heap := h₁, toks := tk } := by
    refine ⟨by obtain ⟨h, t, e⟩ := hs.sh; rw [e]; exact ⟨_, _, rfl⟩, ⟨_, x.toInCall.ns, fun y v hy => ?_⟩, hfn, hfk, fun b hb => ?_, fun b o e => hk₁ b o (hs.old b o e), fun p hp => ?_, LW, fun b hb => ?_⟩
    · obtain ⟨A, hA, rA⟩ := zip_rel rb₁ (hfr y v hy)
      exact ⟨A, bindL_get (hfk _ hy) _ _ nz hA, rA⟩
    · have hbP : b ∈ c.P σ := by
        rcases List.mem_cons.mp hb with rfl | q
        · exact List.mem_append_right _ (List.mem_cons_self ..)
        · exact List.mem_append_left _ q
      obtain ⟨o, e⟩ := hLf b hbP
      refine ⟨fun q => ?_, o, hk₁ b o e⟩
      have q' : b ∈ L :: keys (σc L ++ σ) := q
      rcases List.mem_cons.mp q' with q | q
      · exact hnot b (.inl q) hbP
      · unfold keys at q
        rw [List.map_append] at q
        rcases List.mem_append.mp q with q | q
        · exact hnot b (.inr q) hbP
        · have nd := hs.nd
          unfold Act.W at nd
          rcases List.mem_cons.mp hb with rfl | r
          · exact (List.nodup_cons.mp nd).1 q
          · exact (hs.pr b r).1 (List.mem_cons_of_mem _ q)
    · rcases List.mem_append.mp hp with hp | hp
      · obtain ⟨y, o, hl, ho, hv⟩ := hσc L p hp
        rw [ho]
        refine ⟨_, x.cell y p.1 hl, fun u hu => ?_⟩
        rcases hv with rfl | ⟨v, rfl, hz, hnl⟩
        · cases hu
        · cases hu
          obtain ⟨A, hA, rA⟩ := zip_rel rb₁ hz
          exact ⟨A, bindC_get hnl _ _ nz hA, rA⟩
      · exact (hs.own p hp).mono tp fun o e => hk₁ _ o e
    · cases e : c.G.get? b with
      | none => rfl
      | some o =>
        have e' := hs.old b o e
        have q' : b ∈ L :: keys (σc L ++ σ) := hb
        rcases List.mem_cons.mp q' with q | q
        · rw [newN b (.inl q)] at e'; cases e'
        · unfold keys at q
          rw [List.map_append] at q
          rcases List.mem_append.mp q with q | q
          · rw [newN b (.inr q)] at e'; cases e'
          · have := hs.wG b (List.mem_cons_of_mem _ q); rw [e] at this; cases this
  refine wpAny_mono ((h L c' F').run _ S') (fun fl s₂ y => ?_) fun _ _ e => e.elim
  obtain ⟨fv, fr', σ', ⟨v, σ'', hr, hl, hΦ⟩, hs₂, t₂, rel⟩ := y
  obtain ⟨hs₃, t₃⟩ := hs₂.less hl
  have t₄ : Tr (c'.W (σc L ++ σ)) h₁ (c'.W σ'') s₂.heap := t₂.trans t₃
  -- back
  have tk' : Tr (keys σ) s.heap (keys σ'') s₂.heap := by
    refine ⟨fun b o hb e => t₄.keep b o (fun q => ?_) (hk₁ b o e), fun b hb => ?_⟩
    · have q' : b ∈ L :: keys (σc L ++ σ) := q
      rcases List.mem_cons.mp q' with q | q
      · rw [newN b (.inl q)] at e; cases e
      · unfold keys at q
        rw [List.map_append] at q
        rcases List.mem_append.mp q with q | q
        · rw [newN b (.inr q)] at e; cases e
        · exact hb q
    · rcases t₄.grow b (List.mem_cons_of_mem _ hb) with q | q
      · have q' : b ∈ L :: keys (σc L ++ σ) := q
        rcases List.mem_cons.mp q' with q | q
        · exact .inr (newN b (.inl q))
        · unfold keys at q
          rw [List.map_append] at q
          rcases List.mem_append.mp q with q | q
          · exact .inr (newN b (.inr q))
          · exact .inl q
      · cases e : s.heap.get? b with
        | none => exact .inr rfl
        | some o => rw [hk₁ b o e] at q; cases q
  have tq : Tr (c'.P σ'') s₂.heap (c.P σ'') s₂.heap := ⟨fun _ _ _ e => e, fun b hb => .inl (by
    show b ∈ (c.env.locals :: c.prot) ++ (L :: keys σ'')
    rcases List.mem_append.mp hb with q | q
    · exact List.mem_append_left _ (List.mem_cons_of_mem _ q)
    · rcases List.mem_cons.mp q with q | q
      · exact List.mem_append_left _ (q ▸ List.mem_cons_self ..)
      · exact List.mem_append_right _ (List.mem_cons_of_mem _ q))⟩
  have nd'' : (c.W σ'').Nodup := by
    have n1 := hs₃.nd
    have n2 : (L :: keys σ'').Nodup := n1
    refine List.nodup_cons.mpr ⟨fun q => ?_, (List.nodup_cons.mp n2).2⟩
    exact (hs₃.pr c.env.locals (List.mem_cons_self ..)).1 (List.mem_cons_of_mem _ q)
  have S₄ : St c fr σ'' s₂ := hs.move hs₃.sh tk' (fun p hp => (hs₃.own p hp).mono tq fun o e => e) nd''
  rcases hr with rfl | ⟨rfl, rfl⟩
  · cases rel with
    | ret r => exact hR _ _ ⟨v, σ'', hΦ, S₄, tk', (r.mono (t₃.app c'.prot)).mono tq⟩
  · cases rel
    exact hR _ _ ⟨.none, σ'', hΦ, S₄, tk', .none⟩
theorem cdk_def (F : Fact K mg mb E (n + 1) c) {f : Addr} {qual : Str} {body : List Stmt} {scope : Scope} {cdv : Value} {fd : FuncData} (D : DefIs K f qual body scope cdv fd)
    {vs kv : List V} {kn names : List Str} {ws : List V} {Φ : V → Store → Prop} {fr0 : Frame} {σc : Addr → Store}
    (hbind : ∀ s As Ks, St c fr σ s → VRels s.heap (c.P σ) vs As → VRels s.heap (c.P σ) kv Ks → ∃ Bs, BindsTo s fd ⟨As, kn.zip Ks⟩ (names.zip Bs) ∧ VRels s.heap (c.P σ) ws Bs)
    (hnd : names.Nodup) (hlen : names.length = ws.length)
    (hkind : ∀ x ∈ names, scope.names.lookup x = some .local ∨ (scope.names.lookup x = some .cell ∧ ∀ m, ((cellsFrom m scope.names []).lookup x).isSome = true))
    (hfr : ∀ x v, (x, some v) ∈ fr0 → (x, v) ∈ names.zip ws) (hfk : ∀ p ∈ fr0, scope.names.lookup p.1 = some .local) (hfn : (fr0.map (·.1)).Nodup)
    (hσc : ∀ L, ∀ p ∈ σc L, ∃ x o, (cellsFrom (L + 1) scope.names []).lookup x = some p.1 ∧ p.2 = .cell o ∧ ((o = none) ∨ ∃ v, o = some v ∧ (x, v) ∈ names.zip ws ∧ scope.names.lookup x ≠ some .local))
    (hσn : ∀ L, (keys (σc L)).Nodup)
    (h : ∀ L c', Fact K mg mb (envOfC qual scope L f cdv) n c' → Ex c' body fr0 (σc L ++ σ) fun fl _ σ' => ∃ v σ'', RetV fl v ∧ Less σ'' σ' ∧ Φ v σ'') : CdK c (.ref f) vs kn kv fr σ Φ := .mk fun s As Ks hs ra rk => by
  obtain ⟨oc, od, osl, ho⟩ := D.look
  obtain ⟨Bs, hb, rb⟩ := hbind s As Ks hs ra rk
  have hG : K.In s.heap := F.X.keeps hs.old
  have hroom : c.A.depth < recursionLimit := by have := F.dep; show c.A.depth < 1000; lia
  refine (codeAny_call_function hroom (hG _ _ ho) rfl (by rw [D.sc]; exact D.co) (by rw [D.sc]; exact D.gen) D.bd (by rw [D.cd, D.q]; exact codeRec_of hG D.code) (hb _ _ _ _ ?_))
  rw [D.sc, D.gl, D.cl, D.q, D.cd, D.bl]
  exact cdk_env F D.kind hs rb hnd hlen hkind hfr hfk hfn hσc hσn h fun _ _ y => y
/-- a def whose last parameter gathers the keywords, called without any: a new empty table -/
theorem wp_peek1 {α : Type} {K : Frag} {M : Model} {A : Around} {E : Value → Shared → Prop} {Q : α → Shared → Prop} {s : Shared} {o : Obj} (X : K.In s.heap) :
    ∀ (t : Sem α) (g : Addr → Sem α), peekA K ⟨M.prog, M.w.params⟩ t = some (o, g) → wpAny M A (g s.heap.objs.size) Q E { s with heap := s.heap.push o } → wpAny M A t Q E s := by
  intro t
  induction t with
  | rule _ k ih => intro g e q Γ p hΓ; exact ih () g e q Γ p hΓ
  | point _ k ih => intro g e q Γ p hΓ; exact ih () g e q Γ p hΓ
  | ask k ih => intro g e q Γ p hΓ; exact ih _ g e q Γ p hΓ
  | load a _ k ih =>
    intro g e q Γ p hΓ
    simp only [peekA] at e
    split at e
    · rename_i ob ho; exact ⟨ob, X _ _ ho, ih ob g e q Γ p hΓ⟩
    · cases e
  | alloc ob k _ =>
    intro g e q
    obtain ⟨e1, e2⟩ := Prod.mk.inj (Option.some.inj (show some (ob, k) = some (o, g) from e))
    subst e1; subst e2
    exact wpAny_bind (wpAny_alloc q)
  | _ => intro g e; cases e
theorem cdk_defA (F : Fact K mg mb E (n + 1) c) {f : Addr} {qual : Str} {body : List Stmt} {scope : Scope} {cdv : Value} {fd : FuncData} (D : DefIs K f qual body scope cdv fd)
    {vs : List V} {names : List Str} {Φ : V → Store → Prop} {fr0 : Addr → Frame} {ob : Obj}
    (hbind : ∀ S As, As.length = vs.length → ∃ g, peekA K S (bindArgs fd ⟨As, []⟩) = some (ob, g) ∧ ∀ d, g d = pure (names.zip (As ++ [.ref d])))
    (hnd : names.Nodup) (hlen : names.length = vs.length + 1) (hkind : ∀ x ∈ names, scope.names.lookup x = some .local)
    (hfr : ∀ d x v, (x, some v) ∈ fr0 d → (x, v) ∈ names.zip (vs ++ [.raw (.ref d)])) (hfk : ∀ d, ∀ p ∈ fr0 d, scope.names.lookup p.1 = some .local) (hfn : ∀ d, ((fr0 d).map (·.1)).Nodup)
    (h : ∀ d L c', (d == sysModules) = false → Fact K mg mb (envOfC qual scope L f cdv) n c' → Ex c' body (fr0 d) ((d, .raw ob) :: σ) fun fl _ σ' => ∃ v σ'', RetV fl v ∧ Less σ'' σ' ∧ Φ v σ'') (hob : ob.isFreed = false) : CdK c (.ref f) vs [] [] fr σ Φ := .mk fun s As Ks hs ra rk => by
  cases rk
  obtain ⟨oc, od, osl, ho⟩ := D.look
  have hG : K.In s.heap := F.X.keeps hs.old
  have hroom : c.A.depth < recursionLimit := by have := F.dep; show c.A.depth < 1000; lia
  obtain ⟨g, hp, hg⟩ := hbind ⟨c.prog, c.w.params⟩ As ra.length
  refine (codeAny_call_function hroom (hG _ _ ho) rfl (by rw [D.sc]; exact D.co) (by rw [D.sc]; exact D.gen) D.bd (by rw [D.cd, D.q]; exact codeRec_of hG D.code) (wp_peek1 (M := model c.prog c.w) hG _ g hp ?_))
  rw [hg]
  refine wpAny_pure ?_
  have hs₁ := hs.pushW ob (o := .raw ob) (Heap.get?_push_size _ hob)
  have t : Tr (keys σ) s.heap (keys ((s.heap.objs.size, O.raw ob) :: σ)) (s.heap.push ob) := Tr.pushW _ _ _
  rw [D.sc, D.gl, D.cl, D.q, D.cd, D.bl]
  refine cdk_env F D.kind (σc := fun _ => []) (ws := vs ++ [.raw (.ref s.heap.objs.size)]) (fr0 := fr0 s.heap.objs.size) hs₁ ((ra.mono (Act.P_tr t)).append (.cons (.raw _) .nil)) hnd (by rw [hlen, List.length_append]; rfl) (fun x hx => .inl (hkind x hx)) (hfr _) (hfk _) (hfn _) (fun L p hp => by cases hp) (fun L => List.nodup_nil)
    (fun L c' => h _ L c' (beq_eq_false_iff_ne.mpr (Nat.ne_of_gt (modules_low (F.lim.keeps hs.old))))) fun v s' y => ?_
  obtain ⟨b, σ', hb, hs', t', r⟩ := y
  exact ⟨b, σ', hb, hs', t.trans t', r⟩
/-- a def whose parameters are names, called by place -/
theorem cd_def (F : Fact K mg mb E (n + 1) c) {f : Addr} {qual : Str} {body : List Stmt} {scope : Scope} {cdv : Value} {fd : FuncData} (D : DefIs K f qual body scope cdv fd) (names : List Str)
    {vs : List V} {Φ : V → Store → Prop} (fr0 : Frame) (σc : Addr → Store)
    (hbind : ∀ As, As.length = names.length → bindArgs fd ⟨As, []⟩ = pure (names.zip As))
    (hnd : names.Nodup) (hlen : names.length = vs.length)
    (hkind : ∀ x ∈ names, scope.names.lookup x = some .local ∨ (scope.names.lookup x = some .cell ∧ ∀ m, ((cellsFrom m scope.names []).lookup x).isSome = true))
    (hfr : ∀ x v, (x, some v) ∈ fr0 → (x, v) ∈ names.zip vs) (hfk : ∀ p ∈ fr0, scope.names.lookup p.1 = some .local) (hfn : (fr0.map (·.1)).Nodup)
    (hσc : ∀ L, ∀ p ∈ σc L, ∃ x o, (cellsFrom (L + 1) scope.names []).lookup x = some p.1 ∧ p.2 = .cell o ∧ ((o = none) ∨ ∃ v, o = some v ∧ (x, v) ∈ names.zip vs ∧ scope.names.lookup x ≠ some .local))
    (hσn : ∀ L, (keys (σc L)).Nodup)
    (h : ∀ L c', Fact K mg mb (envOfC qual scope L f cdv) n c' → Ex c' body fr0 (σc L ++ σ) fun fl _ σ' => ∃ v σ'', RetV fl v ∧ Less σ'' σ' ∧ Φ v σ'') : CdK c (.ref f) vs [] [] fr σ Φ :=
  (cdk_def F D (ws := vs) (fun s As Ks hs ra rk => by
    cases rk
    exact ⟨As, BindsTo.of_eq (hbind As (by rw [ra.length, hlen])), ra⟩) hnd hlen hkind hfr hfk hfn hσc hσn h)
end

open PySem PySem.W PySem.Spec PySem.Calls PyProof.Rows

/-- an iterator at I that gives xs; R: where it writes -/
structure Itr (c : Act) (target : Expr) (v : V) (A : Value) (I : Addr) (R : List Addr) (xs : List V) (vw : Store → Prop) (S : Nat → Heap → Prop) : Prop where
  keep : ∀ k h h', S k h → (∀ b ∈ R, ∀ o, h.get? b = some o → h'.get? b = some o) → S k h'
  item : ∀ k x fr σ s (Q : Value → Shared → Prop), xs[k]? = some x → vw σ → St c fr σ s → VRel s.heap (c.P σ) v A → S k s.heap →
    (∀ a h' tk, VRel h' (c.P σ) x a → S (k + 1) h' → (∀ b o, b ∉ R → s.heap.get? b = some o → h'.get? b = some o) → (∀ b ∈ R, ∃ o, h'.get? b = some o) → Q a { s with heap := h', toks := tk }) →
    wpAny (model c.prog c.w) c.A (pyNext (.ref I)) (fun r s₁ => match r with
      | none => False
      | some a => wpAny (model c.prog c.w) c.A (letOwnedTupleGo target (.ref I) a) (fun _ s₂ => Q a s₂) NoE s₁) NoE s
  done : ∀ fr σ s (Q : Shared → Prop), vw σ → St c fr σ s → VRel s.heap (c.P σ) v A → S xs.length s.heap →
    (∀ h' tk, (∀ b o, b ∉ R → s.heap.get? b = some o → h'.get? b = some o) → Q { s with heap := h', toks := tk }) →
    wpAny (model c.prog c.w) c.A (pyNext (.ref I)) (fun r s₁ => match r with
      | none => Q s₁
      | some a => False) NoE s

section
variable {c : Act} {fr : Frame} {σ : Store} {K : Frag} {mg : Str → Option Value} {mb : MB} {E : Env} {n : Nat}

/-- the heap has changed at protected places only -/
theorem St.away {R : List Addr} {s : Shared} (hs : St c fr σ s) (hR : ∀ b ∈ R, b ∈ c.prot) (hG : ∀ b ∈ R, c.G.get? b = none) {h' : Heap} {tk : Nat} (k : ∀ b o, b ∉ R → s.heap.get? b = some o → h'.get? b = some o) (ex : ∀ b ∈ R, ∃ o, h'.get? b = some o) :
    St c fr σ { s with heap := h', toks := tk } := by
  have tp : Tr (c.P σ) s.heap (c.P σ) h' := .of_keeps fun b o hb e => k b o (fun q => hb (List.mem_append_left _ (hR b q))) e
  have nW : ∀ b ∈ c.W σ, b ∉ R := fun b hb q => (hs.pr b (hR b q)).1 hb
  refine ⟨by obtain ⟨h, t, e⟩ := hs.sh; rw [e]; exact ⟨_, _, rfl⟩, ?_, hs.names, hs.kinds, fun b hb => ?_, fun b o e => ?_, fun p hp => ?_, hs.nd, hs.wG⟩
  · obtain ⟨m, hm, hv⟩ := hs.ns
    exact ⟨m, hm.at' fun o e => k _ o (nW _ (List.mem_cons_self ..)) e, fun y v hy => let ⟨a, e, r⟩ := hv y v hy; ⟨a, e, r.mono tp⟩⟩
  · obtain ⟨nb, o, e⟩ := hs.pr b hb
    refine ⟨nb, ?_⟩
    by_cases q : b ∈ R
    · exact ex b q
    · exact ⟨o, k b o q e⟩
  · by_cases q : b ∈ R
    · rw [hG b q] at e; cases e
    · exact k b o q (hs.old b o e)
  · exact (hs.own p hp).mono tp fun o e => k _ o (nW _ (List.mem_cons_of_mem _ (List.mem_map.mpr ⟨_, hp, rfl⟩))) e

def LoopEnd (Φ : Fl → Frame → Store → Prop) (J B : Frame → Store → Prop) (fl : Fl) (fr : Frame) (σ : Store) : Prop := match fl with
  | .next => ∃ σ', Less σ' σ ∧ J fr σ'
  | .cont => ∃ σ', Less σ' σ ∧ J fr σ'
  | .brk => B fr σ
  | .ret v => Φ (.ret v) fr σ

theorem for_core (F : Fact K mg mb E n c) {s : Shared} (hs : St c fr σ s) {target : Expr} {body : List Stmt} {v : V} {A : Value} {xs : List V} {R : List Addr} {I : Addr} {S : Nat → Heap → Prop} {vw : Store → Prop} {Φ : Fl → Frame → Store → Prop}
    (rv : VRel s.heap (c.P σ) v A) (hR : ∀ b ∈ R, s.heap.get? b = none) {h₁ : Heap} {tk₁ : Nat} (hk : ∀ b o, s.heap.get? b = some o → h₁.get? b = some o) (hR1 : ∀ b ∈ R, ∃ o, h₁.get? b = some o)
    (it : Itr { c with prot := R ++ c.prot } target v A I R xs vw S) (hS : S 0 h₁) (Inv : Nat → Frame → Store → Prop) (B : Frame → Store → Prop) (h0 : Inv 0 fr σ) (hvw : ∀ k fr' σ', Inv k fr' σ' → vw σ')
    (turn : ∀ c', Fact K mg mb E n c' → ∀ k x fr' σ', xs[k]? = some x → Inv k fr' σ' → Asg c' target x fr' σ' fun fr₂ σ₂ => Ex c' body fr₂ σ₂ (LoopEnd Φ (Inv (k + 1)) B))
    (done : ∀ fr' σ', Inv xs.length fr' σ' → Φ .next fr' σ') (brk : ∀ fr' σ', B fr' σ' → Φ .next fr' σ') {E₂ : Value → Shared → Prop} :
    codeAny (model c.prog c.w) c.A (.forLoop target (.ref I) body [] c.env) (fun r s' => match r with | .ok f => PostS c σ s.heap Φ f s' | .error e => E₂ e s') { s with heap := h₁, toks := tk₁ } := by
  let c' : Act := { c with prot := R ++ c.prot }
  have F' : Fact K mg mb E n c' := F.prot _
  have hRp : ∀ b ∈ R, b ∈ c'.prot := fun b hb => List.mem_append_left _ hb
  have hRG : ∀ b ∈ R, c'.G.get? b = none := fun b hb => by
    cases e : c.G.get? b with
    | none => rfl
    | some o => have := hR b hb; rw [hs.old b o e] at this; cases this
  have tp : ∀ σ', Tr (c.P σ') s.heap (c'.P σ') h₁ := fun σ' => ⟨fun b o _ e => hk b o e, fun b hb => by
    have hb' : b ∈ (R ++ c.prot) ++ c.W σ' := hb
    rw [List.append_assoc] at hb'
    rcases List.mem_append.mp hb' with q | q
    · exact .inr (hR b q)
    · exact .inl q⟩
  have S1 : St c' fr σ { s with heap := h₁, toks := tk₁ } := by
    refine ⟨by obtain ⟨h, t, e⟩ := hs.sh; rw [e]; exact ⟨_, _, rfl⟩, ?_, hs.names, hs.kinds, fun b hb => ?_, fun b o e => hk b o (hs.old b o e), fun p hp => (hs.own p hp).mono (tp σ) fun o e => hk _ o e, hs.nd, hs.wG⟩
    · obtain ⟨m, hm, hv⟩ := hs.ns
      exact ⟨m, hm.keeps hk, fun y w hy => let ⟨a, e, r⟩ := hv y w hy; ⟨a, e, r.mono (tp σ)⟩⟩
    · rcases List.mem_append.mp hb with q | q
      · refine ⟨fun w => ?_, hR1 b q⟩
        obtain ⟨o, e⟩ := hs.there w
        rw [hR b q] at e; cases e
      · obtain ⟨nb, o, e⟩ := hs.pr b q
        exact ⟨nb, o, hk b o e⟩
  -- back to the loop's own ground
  have back : ∀ {fl : Fl} {F : Flow} {fr' : Frame} {σ' : Store} {s' : Shared}, Φ fl fr' σ' → St c' fr' σ' s' → Tr (R ++ c.W σ) h₁ (R ++ c.W σ') s'.heap → FlRel s'.heap (c'.P σ') fl F → PostS c σ s.heap Φ F s' := by
    intro fl F fr' σ' s' hΦ hs' t rel
    have tq : Tr (c'.P σ') s'.heap (c.P σ') s'.heap := ⟨fun _ _ _ e => e, fun b hb => .inl (by
      show b ∈ (R ++ c.prot) ++ c.W σ'
      rw [List.append_assoc]
      exact List.mem_append_right _ hb)⟩
    refine ⟨fl, fr', σ', hΦ, ⟨hs'.sh, ?_, hs'.names, hs'.kinds, fun b hb => hs'.pr b (List.mem_append_right _ hb), hs'.old, fun p hp => (hs'.own p hp).mono tq fun o e => e, hs'.nd, hs'.wG⟩, ⟨fun b o hb e => ?_, fun b hb => ?_⟩, ?_⟩
    · obtain ⟨m, hm, hv⟩ := hs'.ns
      exact ⟨m, hm, fun y w hy => let ⟨a, e, r⟩ := hv y w hy; ⟨a, e, r.mono tq⟩⟩
    · refine t.keep b o (fun q => ?_) (hk b o e)
      rcases List.mem_append.mp q with q | q
      · rw [hR b q] at e; cases e
      · exact hb q
    · rcases t.grow b (List.mem_append_right _ hb) with q | q
      · rcases List.mem_append.mp q with q | q
        · exact .inr (hR b q)
        · exact .inl q
      · cases e : s.heap.get? b with
        | none => exact .inr rfl
        | some o => rw [hk b o e] at q; cases q
    · cases rel with
      | next => exact .next
      | brk => exact .brk
      | cont => exact .cont
      | ret r => exact .ret (r.mono tq)
  refine codeAny_forLoop_any (fun m s' => ∃ k fr' σ', m = xs.length + 1 - k ∧ k ≤ xs.length ∧ Inv k fr' σ' ∧ St c' fr' σ' s' ∧ S k s'.heap ∧ Tr (R ++ c.W σ) h₁ (R ++ c.W σ') s'.heap ∧ VRel s'.heap (c'.P σ') v A) ?_ (xs.length + 1)
    ⟨0, fr, σ, rfl, Nat.zero_le _, h0, S1, hS, Tr.refl _ _, rv.mono (tp σ)⟩
  rintro m s' ⟨k, fr', σ', rfl, hle, hI, hs', hSk, t, rA⟩
  have noE : ∀ {E₃ : Value → Shared → Prop} (e : Value) (s₂ : Shared), NoE e s₂ → E₃ e s₂ := fun _ _ h => h.elim
  cases hx : xs[k]? with
  | some x =>
    have hlt : k < xs.length := (List.getElem?_eq_some_iff.mp hx).1
    refine wpAny_mono (it.item k x fr' σ' s' (fun a s₂ => wpAny (model c.prog c.w) c.A (assign target c.env a) (fun _ s₂ => wpAny (model c.prog c.w) c.A (execs body c.env) (fun f s₃ => match f with
            | .next | .cont => ∃ m, m < xs.length + 1 - k ∧ ∃ k fr' σ', m = xs.length + 1 - k ∧ k ≤ xs.length ∧ Inv k fr' σ' ∧ St c' fr' σ' s₃ ∧ S k s₃.heap ∧ Tr (R ++ c.W σ) h₁ (R ++ c.W σ') s₃.heap ∧ VRel s₃.heap (c'.P σ') v A
            | .brk => PostS c σ s.heap Φ .next s₃
            | .ret v => PostS c σ s.heap Φ (.ret v) s₃) NoE s₂) NoE s₂) hx (hvw _ _ _ hI) hs' rA hSk ?_) (fun r s₁ hr => ?_) noE
    · intro a h' tk rx hS' kR exR
      have S2 := hs'.away (tk := tk) hRp hRG kR exR
      have tR : Tr (R ++ c.W σ') s'.heap (R ++ c.W σ') h' := .of_keeps fun b o hb e => kR b o (fun q => hb (List.mem_append_left _ q)) e
      have tPR : Tr (c'.P σ') s'.heap (c'.P σ') h' := .of_keeps fun b o hb e => kR b o (fun q => hb (List.mem_append_left _ (List.mem_append_left _ q))) e
      refine wpAny_mono ((turn c' F' k x fr' σ' hx hI).run _ a S2 rx) (fun _ s₃ y => ?_) noE
      obtain ⟨fr₂, σ₂, hE, hs₃, t₃⟩ := y
      refine wpAny_mono (hE.run _ hs₃) (fun f s₄ z => ?_) noE
      obtain ⟨fl, fr₄, σ₄, hend, hs₄, t₄, rel⟩ := z
      have tW : Tr (c'.W σ') h' (c'.W σ₄) s₄.heap := t₃.trans t₄
      have tAll : Tr (R ++ c.W σ) h₁ (R ++ c.W σ₄) s₄.heap := (t.trans tR).trans (tW.app R)
      have next : (∃ σ', Less σ' σ₄ ∧ Inv (k + 1) fr₄ σ') → ∃ m, m < xs.length + 1 - k ∧ ∃ k fr' σ', m = xs.length + 1 - k ∧ k ≤ xs.length ∧ Inv k fr' σ' ∧ St c' fr' σ' s₄ ∧ S k s₄.heap ∧ Tr (R ++ c.W σ) h₁ (R ++ c.W σ') s₄.heap ∧ VRel s₄.heap (c'.P σ') v A := by
        rintro ⟨σ₅, hl, hI'⟩
        obtain ⟨hs₅, t₅⟩ := hs₄.less hl
        have tW5 : Tr (c'.W σ') h' (c'.W σ₅) s₄.heap := tW.trans t₅
        refine ⟨xs.length + 1 - (k + 1), by lia, k + 1, fr₄, σ₅, rfl, hlt, hI', hs₅, it.keep _ _ _ hS' (fun b hb o e => tW5.keep b o (fun q => (S2.pr b (hRp b hb)).1 q) e), tAll.trans (t₅.app R), (rA.mono tPR).mono (tW5.app c'.prot)⟩
      cases rel with
      | next => exact next hend
      | cont => exact next hend
      | brk => exact back (brk _ _ hend) hs₄ tAll .next
      | ret r => exact back (fl := .ret _) hend hs₄ tAll (.ret r)
    · cases r with
      | none => exact hr.elim
      | some a => exact wpAny_mono hr (fun _ _ h => wpAny_mono h (fun _ _ h => wpAny_mono h (fun _ _ h => h) noE) noE) noE
  | none =>
    have hk' : k = xs.length := Nat.le_antisymm hle (by simpa using hx)
    subst hk'
    refine wpAny_mono (it.done fr' σ' s' (fun s₂ => PostS c σ s.heap Φ .next s₂) (hvw _ _ _ hI) hs' rA hSk ?_) (fun r s₁ hr => ?_) noE
    · intro h' tk kR
      -- R's places may be gone: the frame is told without them
      have tR : Tr (R ++ c.W σ') s'.heap (R ++ c.W σ') h' := .of_keeps fun b o hb e => kR b o (fun q => hb (List.mem_append_left _ q)) e
      have nW : ∀ b ∈ c.W σ', b ∉ R := fun b hb q => (hs'.pr b (hRp b q)).1 hb
      have tPc : Tr (c'.P σ') s'.heap (c.P σ') h' := ⟨fun b o hb e => kR b o (fun q => hb (List.mem_append_left _ (List.mem_append_left _ q))) e, fun b hb => .inl (by
        show b ∈ (R ++ c.prot) ++ c.W σ'
        rw [List.append_assoc]
        exact List.mem_append_right _ hb)⟩
      have tAll := t.trans tR
      refine ⟨.next, fr', σ', done _ _ hI, ⟨by obtain ⟨h, t, e⟩ := hs'.sh; rw [e]; exact ⟨_, _, rfl⟩, ?_, hs'.names, hs'.kinds, fun b hb => ?_, fun b o e => ?_, fun p hp => (hs'.own p hp).mono tPc fun o e => kR _ o (nW _ (List.mem_cons_of_mem _ (List.mem_map.mpr ⟨_, hp, rfl⟩))) e, hs'.nd, hs'.wG⟩, ⟨fun b o hb e => ?_, fun b hb => ?_⟩, .next⟩
      · obtain ⟨m, hm, hv⟩ := hs'.ns
        exact ⟨m, hm.at' fun o e => kR _ o (nW _ (List.mem_cons_self ..)) e, fun y w hy => let ⟨a, e, r⟩ := hv y w hy; ⟨a, e, r.mono tPc⟩⟩
      · obtain ⟨nb, o, e⟩ := hs'.pr b (List.mem_append_right _ hb)
        refine ⟨nb, o, kR b o (fun q => ?_) e⟩
        obtain ⟨_, o₂, e₂⟩ := hs.pr b hb
        rw [hR b q] at e₂; cases e₂
      · refine kR b o (fun q => ?_) (hs'.old b o e)
        have := hRG b q; rw [e] at this; cases this
      · refine tAll.keep b o (fun q => ?_) (hk b o e)
        rcases List.mem_append.mp q with q | q
        · rw [hR b q] at e; cases e
        · exact hb q
      · rcases tAll.grow b (List.mem_append_right _ hb) with q | q
        · rcases List.mem_append.mp q with q | q
          · exact .inr (hR b q)
          · exact .inl q
        · cases e : s.heap.get? b with
          | none => exact .inr rfl
          | some o => rw [hk b o e] at q; cases q
    · cases r with
      | none => exact wpAny_execs_nil hr
      | some a => exact hr.elim
end

open PySem PySem.W PySem.Spec PySem.Calls PyProof.Rows

theorem go_plain {prog : Program} {w : World} {A : Around} {E : Value → Shared → Prop} {s : Shared} {target : Expr} {I : Addr} {a : Value} {o : Obj} {nm : String} {vs : Array Value} {Q : Unit → Shared → Prop}
    (ho : s.heap.get? I = some o) (hc : o.cls = .type nm) (hd : o.data = .fields vs)
    (hn : ["enumerate", "zip", "dict_itemiterator", "dict_reverseitemiterator", "odict_iterator", "itertools.zip_longest", "itertools.pairwise"].contains nm = false) (h : Q () s) :
    wpAny (model prog w) A (letOwnedTupleGo target (.ref I) a) Q E s := by
  unfold letOwnedTupleGo
  have key : wpAny (model prog w) A (do
      let (.ref r, .ref a) := ((Value.ref I, a) : Value × Value) | return
      let o ← load r
      match o.cls, o.data with
      | .type n, .fields vs =>
        if ["enumerate", "zip", "dict_itemiterator", "dict_reverseitemiterator", "odict_iterator", "itertools.zip_longest", "itertools.pairwise"].contains n && vs[0]? == some (rawInt a) then
          rule "for.unpacks-the-owned-tuple"
          updateField r 0 .none
      | _, _ => pure ()) Q E s := by
    cases a with
    | ref T =>
      refine wpAny_bind (wpAny_load ho ?_)
      rw [hc, hd]
      show wpAny _ A (if (["enumerate", "zip", "dict_itemiterator", "dict_reverseitemiterator", "odict_iterator", "itertools.zip_longest", "itertools.pairwise"].contains nm && vs[0]? == some (rawInt T)) = true then _ else _) Q E s
      rw [hn, Bool.false_and, if_neg (by decide)]
      exact wpAny_pure h
    | _ => exact wpAny_pure h
  cases target <;> first | exact wpAny_pure h | exact key

def rngL (a b s : Int) : List V := (List.range (Builtin.Range.rangeSize a b s).toNat).map fun i : Nat => .int (a + (i : Int) * s)
def chars (x : Str) : List V := x.cps.toList.map fun k => .str ⟨#[k]⟩

inductive Src (σ : Store) : V → List V → Prop where
  | view {v : V} {xs : List V} : View σ v xs → Src σ v xs
  | rng {a b s : Int} : Builtin.Range.small a b s = true → 0 ≤ Builtin.Range.rangeSize a b s → Src σ (.rng a b s) (rngL a b s)
  | str {x : Str} : (x.cps.all fun k => decide (k < 128)) = true → Src σ (.str x) (chars x)

section
variable {c : Act} {fr : Frame} {σ : Store} {K : Frag} {mg : Str → Option Value} {mb : MB} {E : Env} {n : Nat}

theorem sameBut_exists {a : Addr} {h h' : Heap} {o : Obj} (e : h'.get? a = some o) : ∀ b ∈ [a], ∃ o, h'.get? b = some o := fun b hb => by
  rw [List.mem_singleton.mp hb]; exact ⟨o, e⟩

theorem itr_view (hh : c.A.handled = none) {target : Expr} {v : V} {a I : Addr} {xs : List V} (hI : I ∈ c.prot) : Itr c target v (.ref a) I [I] xs (fun σ => View σ v xs) (fun k h => h.IsListIter I a k) where
  keep := fun k h h' x q => x.at fun o e => q I (List.mem_singleton.mpr rfl) o e
  item := fun k x fr σ s Q hx hw hs ra hk hQ => by
    obtain ⟨a', Vs, e, l, r⟩ := hw.at hs ra
    cases e
    obtain ⟨X, ex, rx⟩ := r.get hx
    refine wpAny_pyNext_list_item hk l (by simpa using ex) fun h' hit sb => ?_
    obtain ⟨o, ho, hc, hd⟩ := id hit
    refine go_plain ho hc hd (by decide) (hQ X h' s.toks (rx.mono (Tr.same (List.mem_append_left _ hI) sb)) hit (fun b o hb e => (sb.2 b fun q => hb (q ▸ List.mem_singleton.mpr rfl)).trans e) (sameBut_exists (h := h') ho))
  done := fun fr σ s Q hw hs ra hk hQ => by
    obtain ⟨a', Vs, e, l, r⟩ := hw.at hs ra
    cases e
    refine wpAny_pyNext_list_end hh hk l (by simp [r.length]) fun h' e => hQ h' s.toks fun b o hb x => e b o (fun q => hb (q ▸ List.mem_singleton.mpr rfl)) x

theorem itr_rng (hh : c.A.handled = none) {target : Expr} {a b st : Int} {A : Value} {I : Addr} (hI : I ∈ c.prot) (h0 : 0 ≤ Builtin.Range.rangeSize a b st) :
    Itr c target (.rng a b st) A I [I] (rngL a b st) (fun _ => True) (fun k h => IsRangeIter h I (a + (k : Int) * st) (Builtin.Range.rangeSize a b st - k) st) where
  keep := fun k h h' x q => q I (List.mem_singleton.mpr rfl) _ x
  item := fun k x fr σ s Q hx hw hs ra hk hQ => by
    have hx' := hx
    unfold rngL at hx'
    rw [List.getElem?_map] at hx'
    cases hr : (List.range (Builtin.Range.rangeSize a b st).toNat)[k]? with
    | none => rw [hr] at hx'; cases hx'
    | some j =>
      rw [hr] at hx'
      have hj : j = k ∧ k < (Builtin.Range.rangeSize a b st).toNat := by
        obtain ⟨q, e⟩ := List.getElem?_eq_some_iff.mp hr
        rw [List.getElem_range] at e
        rw [List.length_range] at q
        exact ⟨e.symm, q⟩
      obtain ⟨rfl, hlt⟩ := hj
      cases hx'
      refine wpAny_pyNext_range_item hk (by lia) fun h' hit sb => ?_
      have hit' : IsRangeIter h' I (a + ((j + 1 : Nat) : Int) * st) (Builtin.Range.rangeSize a b st - ((j + 1 : Nat) : Int)) st := by
        have e1 : a + (j : Int) * st + st = a + ((j + 1 : Nat) : Int) * st := by rw [Int.natCast_succ, Int.add_mul, Int.one_mul]; lia
        have e2 : Builtin.Range.rangeSize a b st - (j : Int) - 1 = Builtin.Range.rangeSize a b st - ((j + 1 : Nat) : Int) := by lia
        rw [← e1, ← e2]; exact hit
      refine go_plain hit' rfl rfl (by decide) (hQ _ h' _ (.int _ _) hit' (fun b o hb e => (sb.2 b fun q => hb (q ▸ List.mem_singleton.mpr rfl)).trans e) (sameBut_exists (h := h') hit'))
  done := fun fr σ s Q hw hs ra hk hQ => by
    have hl : (rngL a b st).length = (Builtin.Range.rangeSize a b st).toNat := by unfold rngL; simp
    refine wpAny_pyNext_range_end hh hk (by rw [hl]; lia) fun h' e => hQ h' s.toks fun b o hb x => e b o (fun q => hb (q ▸ List.mem_singleton.mpr rfl)) x

theorem itr_str (hh : c.A.handled = none) {target : Expr} {x : Str} {t : Tok} {A : Value} {I : Addr} (hI : I ∈ c.prot) :
    Itr c target (.str x) A I [I] (chars x) (fun _ => True) (fun k h => h.IsStrIter I "str_ascii_iterator" x t k) where
  keep := fun k h h' y q => by obtain ⟨o, ho, r⟩ := y; exact ⟨o, q I (List.mem_singleton.mpr rfl) o ho, r⟩
  item := fun k y fr σ s Q hx hw hs ra hk hQ => by
    unfold chars at hx
    rw [List.getElem?_map] at hx
    cases hr : x.cps.toList[k]? with
    | none => rw [hr] at hx; cases hx
    | some ch =>
      rw [hr] at hx; cases hx
      refine wpAny_pyNext_ascii_item hk (by simpa using hr) fun h' hit sb => ?_
      obtain ⟨o, ho, hc, hd⟩ := id hit
      refine go_plain ho hc hd (by decide) (hQ _ h' _ (.str _ _) hit (fun b o hb e => (sb.2 b fun q => hb (q ▸ List.mem_singleton.mpr rfl)).trans e) (sameBut_exists (h := h') ho))
  done := fun fr σ s Q hw hs ra hk hQ => by
    have hl : (chars x).length = x.cps.size := by unfold chars; simp
    refine wpAny_pyNext_ascii_end hh hk (by rw [hl]; simp) fun h' e => hQ h' s.toks fun b o hb x => e b o (fun q => hb (q ▸ List.mem_singleton.mpr rfl)) x

theorem fresh1 {s : Shared} : ∀ b ∈ [s.heap.objs.size], s.heap.get? b = none := fun b hb => by rw [List.mem_singleton.mp hb]; exact size_none _

theorem for_src (F : Fact K mg mb E n c) {s : Shared} (hs : St c fr σ s) {target : Expr} {body : List Stmt} {v : V} {A : Value} {xs : List V} {Φ : Fl → Frame → Store → Prop}
    (rv : VRel s.heap (c.P σ) v A) (src : Src σ v xs) (Inv : Nat → Frame → Store → Prop) (B : Frame → Store → Prop) (h0 : Inv 0 fr σ) (hsrc : ∀ k fr' σ', Inv k fr' σ' → Src σ' v xs)
    (turn : ∀ c', Fact K mg mb E n c' → ∀ k x fr' σ', xs[k]? = some x → Inv k fr' σ' → Asg c' target x fr' σ' fun fr₂ σ₂ => Ex c' body fr₂ σ₂ (LoopEnd Φ (Inv (k + 1)) B))
    (done : ∀ fr' σ', Inv xs.length fr' σ' → Φ .next fr' σ') (brk : ∀ fr' σ', B fr' σ' → Φ .next fr' σ') {E₂ : Value → Shared → Prop} :
    wpAny (model c.prog c.w) c.A (pyIter A) (fun it s₂ => codeAny (model c.prog c.w) c.A (.forLoop target it body [] c.env) (fun r s' => match r with | .ok f => PostS c σ s.heap Φ f s' | .error e => E₂ e s') s₂) NoE s := by
  cases src with
  | view w =>
    obtain ⟨a, Vs, rfl, l, r⟩ := w.at hs rv
    refine wpAny_pyIter_list l ?_
    refine for_core F hs rv fresh1 (R := [s.heap.objs.size]) (fun b o e => Heap.get?_push_of_some _ e) (sameBut_exists (h := s.heap) (Heap.get?_push_size _ rfl)) (itr_view (c := { c with prot := [s.heap.objs.size] ++ c.prot }) F.hh (List.mem_append_left _ (List.mem_singleton.mpr rfl)))
      ⟨_, Heap.get?_push_size _ rfl, rfl, rfl⟩ Inv B h0 (fun k fr' σ' hI => ?_) turn done brk
    have q := hsrc k fr' σ' hI
    cases w with
    | lst => exact .lst
    | own _ => cases q with | view q => exact q
  | @rng a b st hsm hnn =>
    cases rv with
    | rng hr hP =>
      refine wpAny_pyIter_range hr hsm ?_
      refine for_core F hs (.rng hr hP) fresh1 (R := [s.heap.objs.size]) (fun b o e => Heap.get?_push_of_some _ e) (sameBut_exists (h := s.heap) (Heap.get?_push_size _ rfl)) (itr_rng (c := { c with prot := [s.heap.objs.size] ++ c.prot }) F.hh (List.mem_append_left _ (List.mem_singleton.mpr rfl)) hnn)
        ?_ Inv B h0 (fun _ _ _ _ => trivial) turn done brk
      have e := Heap.get?_push_size s.heap (o := { cls := Value.type "range_iterator", data := Data.fields #[rawInt a, rawInt (Builtin.Range.rangeSize a b st), rawInt st] }) rfl
      simpa [IsRangeIter] using e
  | str ha =>
    cases rv
    refine wpAny_pyIter_ascii ha ?_
    exact for_core F hs (.str _ 0) fresh1 (R := [s.heap.objs.size]) (fun b o e => Heap.get?_push_of_some _ e) (sameBut_exists (h := s.heap) (Heap.get?_push_size _ rfl)) (itr_str (c := { c with prot := [s.heap.objs.size] ++ c.prot }) F.hh (List.mem_append_left _ (List.mem_singleton.mpr rfl)))
        ⟨_, Heap.get?_push_size _ rfl, rfl, rfl⟩ Inv B h0 (fun _ _ _ _ => trivial) turn done brk

theorem ex_for (F : Fact K mg mb E n c) {target iter : Expr} {body rest : List Stmt} {pos : Pos} {v : V} {xs : List V} {Φ : Fl → Frame → Store → Prop} (Inv : Nat → Frame → Store → Prop) (B : Frame → Store → Prop)
    (he : Ev c iter fr σ fun v' σ₁ => v' = v ∧ σ₁ = σ) (src : Src σ v xs) (h0 : Inv 0 fr σ) (hsrc : ∀ k fr' σ', Inv k fr' σ' → Src σ' v xs)
    (turn : ∀ c', Fact K mg mb E n c' → ∀ k x fr' σ', xs[k]? = some x → Inv k fr' σ' → Asg c' target x fr' σ' fun fr₂ σ₂ => Ex c' body fr₂ σ₂ (LoopEnd Φ (Inv (k + 1)) B))
    (done : ∀ fr' σ', Inv xs.length fr' σ' → Ex c rest fr' σ' Φ) (brk : ∀ fr' σ', B fr' σ' → Ex c rest fr' σ' Φ)
    (hs : ∀ x, foldedSetIterable iter c.env x = pure x := by intro _; with_unfolding_all rfl) : Ex c (.For target iter body [] pos :: rest) fr σ Φ :=
  ex_cons (.mk fun s hst => wpAny_For (wpAny_mono (he.run s hst) (fun A s₁ x => by
    obtain ⟨v', σ₁, ⟨rfl, rfl⟩, hs₁, t₁, rv⟩ := x
    refine wpAny_mono (for_src (target := target) (body := body) (E₂ := cameBackBy (model c.prog c.w) c.A c.env NoE) (Φ := Then c rest Φ) F hs₁ rv src Inv B h0 hsrc (fun c' F' k x fr' σ' hx hI => ?_) done brk) (fun it s₂ h => ?_) fun _ _ e => e
    · refine .mk fun s a hs' ra => wpAny_mono ((turn c' F' k x fr' σ' hx hI).run s a hs' ra) (fun _ s₂ z => ?_) fun _ _ e => e
      obtain ⟨fr₂, σ₂, hE, r⟩ := z
      refine ⟨fr₂, σ₂, ex_mono hE fun fl fr₃ σ₃ hl => ?_, r⟩
      cases fl <;> exact hl
    · refine codeAny_mono h fun r s' hr => ?_
      cases r with
      | ok f => exact PostS.trans hr (trW t₁)
      | error e => exact hr) fun _ _ e => e) hs)

/-- a loop over items that are written out: turn by turn -/
def Rest (K : Frag) (mg : Str → Option Value) (mb : MB) (E : Env) (n : Nat) (target : Expr) (body : List Stmt) (Φ : Fl → Frame → Store → Prop) (B done : Frame → Store → Prop) : List V → Frame → Store → Prop
  | [], fr, σ => done fr σ
  | x :: r, fr, σ => ∀ c', Fact K mg mb E n c' → Asg c' target x fr σ fun fr₂ σ₂ => Ex c' body fr₂ σ₂ (LoopEnd Φ (Rest K mg mb E n target body Φ B done r) B)
theorem ex_unroll (F : Fact K mg mb E n c) {target iter : Expr} {body rest : List Stmt} {pos : Pos} {v : V} {xs : List V} {Φ : Fl → Frame → Store → Prop} (B : Frame → Store → Prop)
    (he : Ev c iter fr σ fun v' σ₁ => v' = v ∧ σ₁ = σ) (src : Src σ v xs) (hv : ∀ σ', Src σ' v xs)
    (h : Rest K mg mb E n target body Φ B (fun fr' σ' => Ex c rest fr' σ' Φ) xs fr σ) (brk : ∀ fr' σ', B fr' σ' → Ex c rest fr' σ' Φ)
    (hs : ∀ x, foldedSetIterable iter c.env x = pure x := by intro _; with_unfolding_all rfl) : Ex c (.For target iter body [] pos :: rest) fr σ Φ := by
  refine ex_for F (fun k fr' σ' => Rest K mg mb E n target body Φ B (fun fr' σ' => Ex c rest fr' σ' Φ) (xs.drop k) fr' σ') B he src (by simpa using h) (fun _ _ σ' _ => hv σ') (fun c' F' k x fr' σ' hx hI => ?_) (fun fr' σ' hI => ?_) brk hs
  · have hl : k < xs.length := (List.getElem?_eq_some_iff.mp hx).1
    have e : xs.drop k = x :: xs.drop (k + 1) := by
      rw [List.drop_eq_getElem_cons hl]
      congr 1
      exact (List.getElem?_eq_some_iff.mp hx).2
    rw [e] at hI
    exact hI c' F'
  · rw [List.drop_length] at hI; exact hI
end

open PySem PySem.W PySem.Spec PySem.Calls PyProof.Rows

section
variable {c : Act} {fr : Frame} {σ : Store} {Φ : V → Store → Prop} {i j : Int} {x y : Str} {b d : Bool} {K : Frag} {mg : Str → Option Value} {mb : MB} {E : Env} {n : Nat}

theorem vrels_of {h : Heap} {P : List Addr} : ∀ {vs : List V} {Vs : List Value}, Vs.length = vs.length → (∀ (i : Nat) (X : Value), Vs[i]? = some X → ∃ v, vs[i]? = some v ∧ VRel h P v X) → VRels h P vs Vs
  | [], [], _, _ => .nil
  | [], _ :: _, e, _ => by cases e
  | _ :: _, [], e, _ => by cases e
  | v :: vs, X :: Vs, e, h => by
    refine .cons ?_ (vrels_of (by simpa using e) fun i Y hY => ?_)
    · obtain ⟨u, e, r⟩ := h 0 X rfl
      cases e; exact r
    · simpa using h (i + 1) Y (by simpa using hY)

/-- how f is called with plain arguments -/
structure CW (c : Act) (f : Value) : Prop where
  more : ∀ pos first e rest (Q : Value → Shared → Prop) s, (starEach (e :: rest) c.env = (false, eval e c.env) :: starEach rest c.env) → (List.any (backTo pos (starEach rest c.env)) fun x => x.fst) = false →
    wpAny (model c.prog c.w) c.A (spliced (backTo pos (starEach (e :: rest) c.env))) (fun vs s₁ => (∀ b o, c.G.get? b = some o → s₁.heap.get? b = some o) ∧ wpAny (model c.prog c.w) c.A (call f (first ++ vs)) Q NoE s₁) NoE s →
    wpAny (model c.prog c.w) c.A (callWith pos f first (backTo pos (starEach (e :: rest) c.env)) []) Q NoE s
  nil : ∀ pos first (Q : Value → Shared → Prop) s, (∀ b o, c.G.get? b = some o → s.heap.get? b = some o) → wpAny (model c.prog c.w) c.A (call f (first ++ [])) Q NoE s →
    wpAny (model c.prog c.w) c.A (callWith pos f first (backTo pos (starEach [] c.env)) []) Q NoE s
theorem cw_K (F : Fact K mg mb E n c) {f : Value} (h : keepIn K f = true) : CW c f where
  more := fun pos first e rest Q s h1 h2 hw => by
    refine callWith_K F.X h (wpAny_mono hw (fun vs s₁ q => ⟨F.X.keeps q.1, q.2⟩) fun _ _ e => e) h1 h2
  nil := fun pos first Q s hG hw => callWith_K0 (F.X.keeps hG) h hw
theorem cw_builtin {id : String} : CW c (.builtin id) where
  more := fun pos first e rest Q s h1 h2 hw => by
    refine PyProof.Rows.callWith_method1 (wpAny_mono hw (fun vs s₁ q => q.2) fun _ _ e => e) h1 h2
  nil := fun pos first Q s hG hw => by
    rw [List.append_nil] at hw
    exact PyProof.Rows.callWith_method0 hw

theorem evl_call {pos : Pos} {f : Value} (w : CW c f) {first : List V} {e : Expr} {rest : List Expr} (h : EvL c pos (e :: rest) fr σ fun vs σ₂ => Cl c f (first ++ vs) fr σ₂ Φ) {s : Shared} (hs : St c fr σ s) {Fs : List Value} (rf : VRels s.heap (c.P σ) first Fs)
    (h1 : starEach (e :: rest) c.env = (false, eval e c.env) :: starEach rest c.env) (h2 : (List.any (backTo pos (starEach rest c.env)) fun x => x.fst) = false) :
    wpAny (model c.prog c.w) c.A (callWith pos f Fs (backTo pos (starEach (e :: rest) c.env)) []) (Post VRel c fr σ s.heap Φ) NoE s :=
  w.more pos Fs e rest _ s h1 h2 (wpAny_mono (h.run s hs) (fun As s₁ x => by
    obtain ⟨vs, σ₁, h₁, hs₁, t₁, r⟩ := x
    exact ⟨hs₁.old, wpAny_mono (h₁.run s₁ _ hs₁ ((rf.mono (Act.P_tr t₁)).append r)) (fun _ _ p => p.trans t₁) fun _ _ e => e⟩) fun _ _ e => e)
theorem ev_call {fe e : Expr} {rest : List Expr} {pos : Pos} (h : Ev c fe fr σ fun v σ₁ => ∃ f, v = .raw f ∧ CW c f ∧ EvL c pos (e :: rest) fr σ₁ fun vs σ₂ => Cl c f vs fr σ₂ Φ)
    (h0 : eval (Expr.Call fe (e :: rest) [] pos) c.env = (do let f ← eval fe c.env; callWith pos f [] (backTo pos (starEach (e :: rest) c.env)) (backToKw pos (keywordEach [] c.env))) := by with_unfolding_all rfl)
    (h1 : starEach (e :: rest) c.env = (false, eval e c.env) :: starEach rest c.env := by with_unfolding_all rfl) (h2 : (List.any (backTo pos (starEach rest c.env)) fun x => x.fst) = false := by with_unfolding_all rfl) : Ev c (.Call fe (e :: rest) [] pos) fr σ Φ := Tri.mk fun s hs =>
  PyProof.Rows.Call_ (wpAny_mono (h.run s hs) (fun A s₁ x => by
    obtain ⟨v, σ₁, ⟨f, rfl, w, h₁⟩, hs₁, t₁, r⟩ := x
    cases r
    exact wpAny_mono (evl_call (first := []) w h₁ hs₁ .nil h1 h2) (fun _ _ p => p.trans t₁) fun _ _ e => e) fun _ _ e => e) h0
theorem ev_call0 {fe : Expr} {pos : Pos} (h : Ev c fe fr σ fun v σ₁ => ∃ f, v = .raw f ∧ CW c f ∧ Cl c f [] fr σ₁ Φ)
    (h0 : eval (Expr.Call fe [] [] pos) c.env = (do let f ← eval fe c.env; callWith pos f [] (backTo pos (starEach [] c.env)) (backToKw pos (keywordEach [] c.env))) := by with_unfolding_all rfl) : Ev c (.Call fe [] [] pos) fr σ Φ := Tri.mk fun s hs =>
  PyProof.Rows.Call_ (wpAny_mono (h.run s hs) (fun A s₁ x => by
    obtain ⟨v, σ₁, ⟨f, rfl, w, h₁⟩, hs₁, t₁, r⟩ := x
    cases r
    exact wpAny_mono (w.nil pos [] _ s₁ hs₁.old (h₁.run s₁ [] hs₁ .nil)) (fun _ _ p => p.trans t₁) fun _ _ e => e) fun _ _ e => e) h0

structure GetM (c : Act) (v : V) (σ : Store) (name : Str) (f : Value) (first : List V) : Prop where
  run : ∀ fr s A (pl : Sem Bool) (Q : Value × List Value → Shared → Prop), St c fr σ s → VRel s.heap (c.P σ) v A → (∀ As tk, VRels s.heap (c.P σ) first As → Q (f, As) { s with toks := tk }) → wpAny (model c.prog c.w) c.A (getMethod A name pl) Q NoE s
theorem ev_meth {o e : Expr} {name : Str} {ap : Pos} {rest : List Expr} {pos : Pos} (h : Ev c o fr σ fun v σ₁ => ∃ f first, GetM c v σ₁ name f first ∧ CW c f ∧ EvL c pos (e :: rest) fr σ₁ fun vs σ₂ => Cl c f (first ++ vs) fr σ₂ Φ) {pl : Sem Bool}
    (h0 : eval (Expr.Call (.Attribute o name ap) (e :: rest) [] pos) c.env = (do
          let ov ← eval o c.env
          standAt (Pos.atName ap)
          let __x ← holding [ov] (getMethod ov name pl)
          match __x with
            | (f, first) => callWith pos f first (backTo pos (starEach (e :: rest) c.env)) []) := by with_unfolding_all rfl)
    (h1 : starEach (e :: rest) c.env = (false, eval e c.env) :: starEach rest c.env := by with_unfolding_all rfl) (h2 : (List.any (backTo pos (starEach rest c.env)) fun x => x.fst) = false := by with_unfolding_all rfl) : Ev c (.Call (.Attribute o name ap) (e :: rest) [] pos) fr σ Φ := Tri.mk fun s hs =>
  PyProof.Rows.MethodCall_ (wpAny_mono (h.run s hs) (fun A s₁ x => by
    obtain ⟨v, σ₁, ⟨f, first, g, w, h₁⟩, hs₁, t₁, r⟩ := x
    refine g.run fr s₁ A pl _ hs₁ r fun As tk rf => ?_
    exact wpAny_mono (evl_call (first := first) w h₁ (hs₁.toks tk) rf h1 h2) (fun _ _ p => Post.trans t₁ p) fun _ _ e => e) fun _ _ e => e) h0
theorem ev_meth0 {o : Expr} {name : Str} {ap : Pos} {pos : Pos} (h : Ev c o fr σ fun v σ₁ => ∃ f first, GetM c v σ₁ name f first ∧ CW c f ∧ Cl c f first fr σ₁ Φ) {pl : Sem Bool}
    (h0 : eval (Expr.Call (.Attribute o name ap) [] [] pos) c.env = (do
          let ov ← eval o c.env
          standAt (Pos.atName ap)
          let __x ← holding [ov] (getMethod ov name pl)
          match __x with
            | (f, first) => callWith pos f first (backTo pos (starEach [] c.env)) []) := by with_unfolding_all rfl) : Ev c (.Call (.Attribute o name ap) [] [] pos) fr σ Φ := Tri.mk fun s hs =>
  PyProof.Rows.MethodCall_ (wpAny_mono (h.run s hs) (fun A s₁ x => by
    obtain ⟨v, σ₁, ⟨f, first, g, w, h₁⟩, hs₁, t₁, r⟩ := x
    refine g.run fr s₁ A pl _ hs₁ r fun As tk rf => ?_
    have h₂ := h₁.run { s₁ with toks := tk } As (hs₁.toks tk) rf
    exact wpAny_mono (w.nil pos As _ _ (hs₁.toks tk).old (by rw [List.append_nil]; exact h₂)) (fun _ _ p => Post.trans t₁ p) fun _ _ e => e) fun _ _ e => e) h0

/-! list methods and builtins -/
theorem getm_append {a : Addr} {vs : List V} (hm : (a, O.list vs) ∈ σ) : GetM c (.raw (.ref a)) σ "append" (.builtin "list.append") [.raw (.ref a)] := .mk fun fr s A pl Q hs ra h => by
  cases ra
  obtain ⟨Vs, ⟨k, e⟩, r⟩ := hs.own _ hm
  exact getMethod_list_append e rfl rfl (h [_] s.toks (.cons (.raw _) .nil))
theorem cl_append {a : Addr} {vs : List V} {v : V} {σ' : Store} (hm : (a, O.list vs) ∈ σ) (hl : vs.length < 100000) (p : PutA σ a (.list (vs ++ [v])) σ') (h : Φ .none σ') : Cl c (.builtin "list.append") [.raw (.ref a), v] fr σ Φ := .mk fun s As hs r => by
  refine consI (C := fun As => wpAny (model c.prog c.w) c.A (call _ As) _ _ _) r fun _ _ r0 r => ?_
  obtain rfl := rawE r0
  refine consI (C := fun As => wpAny (model c.prog c.w) c.A (call _ (_ :: As)) _ _ _) r fun _ _ rv r => ?_
  obtain rfl := nilE r
  obtain ⟨Vs, pl, rs⟩ := hs.own _ hm
  have hz : Vs.toArray.size ≤ sizeLine := by rw [sizeLine_eq]; have := rs.length; simp; lia
  refine wpAny_list_append_plain pl (fun h' pl' sb => ?_) hz
  have ha : a ∈ c.P σ := List.mem_append_right _ (List.mem_cons_of_mem _ (List.mem_map.mpr ⟨_, hm, rfl⟩))
  have t0 : Tr (c.P σ) s.heap (c.P σ) h' := Tr.same ha sb
  obtain ⟨hs', t⟩ := hs.put (tk := s.toks) p sb ⟨Vs ++ [_], by simpa using pl', (rs.mono t0).snoc (rv.mono t0)⟩
  exact ⟨.none, σ', h, hs', t, .none⟩
theorem cl_len {v : V} {vs : List V} (w : View σ v vs) (hl : vs.length < 100000) (h : Φ (.int vs.length) σ) : Cl c (.builtin "len") [v] fr σ Φ := .mk fun s As hs r => by
  refine consI (C := fun As => wpAny (model c.prog c.w) c.A (call _ As) _ _ _) r fun _ _ r0 r => ?_
  obtain rfl := nilE r
  obtain ⟨a, Vs, rfl, l, rs⟩ := w.at hs r0
  have hz : Vs.toArray.size = vs.length := by simpa using rs.length
  refine call_len_list l (by rw [hz]; lia) ?_
  rw [hz]
  exact Post.here _ hs h (.int _ _)
theorem cl_slen (hl : x.length < 100000) (h : Φ (.int x.length) σ) : Cl c (.builtin "len") [.str x] fr σ Φ := .mk fun s As hs r => by
  refine consI (C := fun As => wpAny (model c.prog c.w) c.A (call _ As) _ _ _) r fun _ _ r0 r => ?_
  obtain rfl := nilE r
  obtain ⟨_, rfl⟩ := strE r0
  exact P.len_str (by lia) (Post.here _ hs h (.int _ _))
theorem cl_abs (h : Φ (.int (if i < 0 then -i else i)) σ) : Cl c (.builtin "abs") [.int i] fr σ Φ := .mk fun s As hs r => by
  refine consI (C := fun As => wpAny (model c.prog c.w) c.A (call _ As) _ _ _) r fun _ _ r0 r => ?_
  obtain rfl := nilE r
  obtain ⟨_, rfl⟩ := intE r0
  exact PyProof.Rows.call_abs_int fun u tk => Post.here _ hs h (.int _ _)
theorem cl_ord {k : Nat} (h : Φ (.int k) σ) : Cl c (.builtin "ord") [.str ⟨#[k]⟩] fr σ Φ := .mk fun s As hs r => by
  refine consI (C := fun As => wpAny (model c.prog c.w) c.A (call _ As) _ _ _) r fun _ _ r0 r => ?_
  obtain rfl := nilE r
  obtain ⟨_, rfl⟩ := strE r0
  exact ord_of_one rfl (Post.here _ hs h (.int _ _))
theorem rng_push {s : Shared} (hs : St c fr σ s) {a b st : Int} {t u v : Tok} {tk : Nat} (h : Φ (.rng a b st) σ) :
    Post VRel c fr σ s.heap Φ (.ref s.heap.objs.size) { heap := s.heap.push { cls := Value.type "range", data := Data.fields #[Value.int a t, Value.int b u, Value.int st v] }, gens := s.gens, drawn := s.drawn, toks := tk, os := s.os } :=
  ⟨_, σ, h, (hs.push _).toks tk, Tr.push _ _ _, .rng (Heap.get?_push_size _ rfl) hs.freshP⟩
theorem cl_range1 (h : Φ (.rng 0 i 1) σ) : Cl c (.type "range") [.int i] fr σ Φ := .mk fun s As hs r => by
  cases r with
  | cons r0 r => cases r; cases r0; exact call_range_1 (rng_push hs h)
theorem cl_range2 (h : Φ (.rng i j 1) σ) : Cl c (.type "range") [.int i, .int j] fr σ Φ := .mk fun s As hs r => by
  cases r with
  | cons r0 r => cases r0; cases r with
    | cons r0 r => cases r; cases r0; exact call_range_2 (rng_push hs h)
theorem cl_range3 {k : Int} (hk : k ≠ 0) (hd : Builtin.divisionGoesByPylong (j - i) k = false) (h : Φ (.rng i j k) σ) : Cl c (.type "range") [.int i, .int j, .int k] fr σ Φ := .mk fun s As hs r => by
  cases r with
  | cons r0 r => cases r0; cases r with
    | cons r0 r => cases r0; cases r with
      | cons r0 r => cases r; cases r0; exact call_range_3 hk (rng_push hs h) (.inl hd)
theorem cl_list_rng {a b st : Int} {k : Nat} (hh : c.A.handled = none) (hsm : Builtin.Range.small a b st = true) (hsz : Builtin.Range.rangeSize a b st = k) (hk : k ≤ 1000) (h : Φ (.lst ((List.range k).map fun (j : Nat) => V.int (a + j * st))) σ) : Cl c (.type "list") [.rng a b st] fr σ Φ := .mk fun s As hs r => by
  refine consI (C := fun As => wpAny (model c.prog c.w) c.A (call _ As) _ _ _) r fun _ _ r0 r => ?_
  obtain rfl := nilE r
  cases r0 with
  | rng hr hP =>
    refine call_list_range hh hr hsm hsz (by lia) fun h' tk acc c' kp e its => ?_
    obtain ⟨hs', t⟩ := hs.ext (tk := tk) kp
    refine ⟨_, σ, h, hs', t _, .lst (Vs := acc.toList) ⟨_, by simpa using e⟩ hs.freshP ?_⟩
    refine vrels_of (by rw [List.length_map, List.length_range]; simpa using its.1) fun i X hX => ?_
    have hX' : acc[i]? = some X := by simpa using hX
    obtain ⟨u, rfl⟩ := its.2 i X hX'
    have hi : i < k := by
      obtain ⟨q, _⟩ := Array.getElem?_eq_some_iff.mp hX'
      rw [its.1] at q; exact q
    exact ⟨_, by rw [List.getElem?_map, List.getElem?_range hi]; rfl, .int _ _⟩
theorem cl_tuple {v : V} {vs : List V} (w : View σ v vs) (hl : vs.length < 100000) (h : Φ (.tup vs) σ) : Cl c (.type "tuple") [v] fr σ Φ := .mk fun s As hs r => by
  refine consI (C := fun As => wpAny (model c.prog c.w) c.A (call _ As) _ _ _) r fun _ _ r0 r => ?_
  obtain rfl := nilE r
  obtain ⟨a, Vs, rfl, l, rs⟩ := w.at hs r0
  have hz : Vs.toArray.size ≤ sizeLine := by rw [sizeLine_eq]; have := rs.length; simp; lia
  refine call_tuple_list l (fun h' kp => ?_) hz
  obtain ⟨hs', t⟩ := hs.ext (tk := s.toks) kp
  have t2 := (t (c.P σ)).trans (Tr.push (c.P σ) h' { cls := Value.type "tuple", data := Data.seq Vs.toArray })
  exact ⟨.tup vs, σ, h, hs'.push _, (t _).trans (Tr.push _ _ _), .tup ⟨_, Heap.get?_push_size _ rfl, rfl, _, rfl⟩ hs'.freshP (rs.mono t2)⟩

/-! lists -/
theorem bin_ladd {a b : V} {xs ys : List V} (w : View σ a xs) (w' : View σ b ys) (hl : xs.length + ys.length < 100000) (h : Φ (.lst (xs ++ ys)) σ) : Bin c .Add a b fr σ Φ := Bin.mk fun s A B hs ra rb => by
  obtain ⟨l, Vs, n1, rfl, e1, r1⟩ := w.plain hs ra
  obtain ⟨m, Ws, n2, rfl, e2, r2⟩ := w'.plain hs rb
  have hz : Vs.toArray.size + Ws.toArray.size ≤ sizeLine := by rw [sizeLine_eq]; have := r1.length; have := r2.length; simp; lia
  refine P.add_list e1 e2 ?_ hz
  exact ⟨_, σ, h, hs.push _, Tr.push _ _ _, .lst (Vs := Vs ++ Ws) ⟨_, by simpa using Heap.get?_push_size _ rfl⟩ hs.freshP ((r1.append r2).mono (Tr.push _ _ _))⟩
theorem list_tooLong {k : Nat} (h : k < 100000) : Builtin.List.listTooLong k = false := by
  unfold Builtin.List.listTooLong
  rw [sizeLine_eq]
  simp only [decide_eq_false_iff_not]
  lia
theorem inplace_iadd {M : Model} {A : Around} {E : Value → Shared → Prop} {s : Shared} {a b : Value} {T id : String} {Q : Value → Shared → Prop} (ha : s.TypeIs a T) (hb : s.TypeIs b T)
    (hi : typeLookup (.type T) (dunderI "add") = pure (some (.builtin id))) (hq : isSeqSlot (some (.builtin id)) = true) (hfill : fillsNumberSlot (.type T) "add" = pure false)
    (hc : wpAny M A (call (.builtin id) [a, b]) Q E s) : wpAny M A (inplaceOp .Add a b) Q E s := by
  unfold inplaceOp
  refine wpAny_holding ?_
  have hfi : fillsInplaceSlot (.type T) "add" (Operator.Add == .Add) = pure false := by
    unfold fillsInplaceSlot
    show (typeLookup (.type T) (dunderI "add") >>= fun fi => pure (fi.isSome && !isSeqSlot fi)) = pure false
    rw [hi, pure_bind, hq]; rfl
  have hsi : seqSlot? (.type T) (dunderI "add") = pure (some (.builtin id)) := by
    simp only [seqSlot?, hi, pure_bind, hq]
    rfl
  refine wpAny_bind (wpAny_typeOf ha (wpAny_bind (wpAny_of_eq hfi ?_)))
  show wpAny M A (if false = true then _ else _) Q E s
  rw [if_neg Bool.false_ne_true]
  refine wpAny_bind (wpAny_binaryOp1_none (nm := "add") ha hb hfill ?_)
  refine wpAny_bind (wpAny_of_eq hsi ?_)
  exact wpAny_bind (wpAny_rule hc)
theorem ibin_ladd {a : Addr} {b : V} {xs ys : List V} {σ' : Store} (hm : (a, O.list xs) ∈ σ) (w : View σ b ys) (hl : xs.length + ys.length < 100000) (p : PutA σ a (.list (xs ++ ys)) σ') (h : Φ (.raw (.ref a)) σ') : IBin c .Add (.raw (.ref a)) b fr σ Φ := IBin.mk fun s A B hs ra rb => by
  cases ra
  obtain ⟨Vs, ⟨n1, e1⟩, r1⟩ := hs.own _ hm
  obtain ⟨m, Ws, n2, rfl, e2, r2⟩ := w.plain hs rb
  have l1 := r1.length
  have l2 := r2.length
  have hz : Vs.toArray.size ≤ sizeLine := by rw [sizeLine_eq]; simp; lia
  have hz2 : Vs.toArray.size + Ws.toArray.size ≤ sizeLine + 1 := by rw [sizeLine_eq]; simp; lia
  have hd : ¬(!Vs.toArray.isEmpty && Builtin.List.listTooLong (Vs.toArray.size + Ws.toArray.size)) = true := by
    rw [list_tooLong (by simp; lia), Bool.and_false]; decide
  refine inplace_iadd (T := "list") ⟨_, e1, rfl⟩ ⟨_, e2, rfl⟩ PySem.F.slot_list_iadd.lookup (by decide +kernel) noFill_list_add (call_meets PySem.F.slot_list_iadd ⟨_, e1, rfl⟩ PySem.F.entry_list_iadd (PySem.F.args_list_iadd_2 _ _) (AutoSeq1.list___iadd___list_list_0 a _ n1 m _ n2 hd hz hz2) ⟨e1, e2, ?_⟩)
  have ge := get_update (f := Obj.mapSeq fun x => x ++ Ws.toArray) e1 rfl
  have sb : Heap.SameBut a s.heap (s.heap.update a (Obj.mapSeq fun x => x ++ Ws.toArray)) := Heap.SameBut.update ..
  have ha : a ∈ c.P σ := List.mem_append_right _ (List.mem_cons_of_mem _ (List.mem_map.mpr ⟨_, hm, rfl⟩))
  have t0 : Tr (c.P σ) s.heap (c.P σ) (s.heap.update a (Obj.mapSeq fun x => x ++ Ws.toArray)) := Tr.same ha sb
  have es : Vs.toArray ++ Ws.toArray = (Vs ++ Ws).toArray := by simp
  obtain ⟨hs', t⟩ := hs.put (tk := s.toks) p sb ⟨Vs ++ Ws, ⟨_, by rw [ge]; show some (Obj.mk _ _ (Data.seq (Vs.toArray ++ Ws.toArray) _) _) = _; rw [es]⟩, (r1.mono t0).append (r2.mono t0)⟩
  exact ⟨_, σ', h, hs', t, .raw _⟩
end

open PySem PySem.W PySem.Spec PySem.Calls PyProof.Rows

abbrev ivs (l : List Int) : List V := l.map V.int
abbrev svs (l : List Str) : List V := l.map V.str
theorem ivs_are {h : Heap} {P : List Addr} {ns : List Int} : ∀ {Vs : List Value}, VRels h P (ivs ns) Vs → IntsAre Vs ns := by
  induction ns with
  | nil => intro Vs r; rw [nilE r]; exact .nil
  | cons n ns ih =>
    intro Vs r
    obtain ⟨a, as, e, r0, r1⟩ := consE r
    obtain ⟨t, e2⟩ := intE r0
    rw [e, e2]; exact .cons _ _ (ih r1)
theorem svs_are {h : Heap} {P : List Addr} {ns : List Str} : ∀ {Vs : List Value}, VRels h P (svs ns) Vs → StrsAre Vs ns := by
  induction ns with
  | nil => intro Vs r; rw [nilE r]; exact .nil
  | cons n ns ih =>
    intro Vs r
    obtain ⟨a, as, e, r0, r1⟩ := consE r
    obtain ⟨t, e2⟩ := strE r0
    rw [e, e2]; exact .cons _ _ (ih r1)
theorem twoOf {α : Type} {l : List α} (h : l.length = 2) : ∃ a b, l = [a, b] := by
  match l, h with
  | [a, b], _ => exact ⟨a, b, rfl⟩
theorem threeOf {α : Type} {l : List α} (h : l.length = 3) : ∃ a b c, l = [a, b, c] := by
  match l, h with
  | [a, b, c], _ => exact ⟨a, b, c, rfl⟩
theorem ivs_of {h : Heap} {P : List Addr} : ∀ {ns : List Int} {Vs : List Value}, IntsAre Vs ns → VRels h P (ivs ns) Vs
  | _, _, .nil => .nil
  | _, _, .cons _ _ r => .cons (.int _ _) (ivs_of r)
theorem St.freshAt {c : Act} {fr : Frame} {σ : Store} {s : Shared} (x : St c fr σ s) {a : Addr} (h : s.heap.get? a = none) : a ∉ c.P σ := fun hb => by
  rcases List.mem_append.mp hb with q | q
  · obtain ⟨_, o, e⟩ := x.pr _ q
    rw [h] at e; cases e
  · obtain ⟨o, e⟩ := x.there q
    rw [h] at e; cases e
theorem mulOk {x : Str} {m : Nat} (hm : m < 1000) (hl : x.length < 1000) : MulOk x m := by
  refine ⟨by simp; lia, fun h1 _ => ?_, fun h1 _ => ?_⟩
  · have h2 : (1000 : Int) ≤ (2 ^ 63 - 1) / (m : Int) := (Int.le_ediv_iff_mul_le (by lia)).mpr (by lia)
    lia
  · have : x.length * (m : Int).toNat < 1000 * 1000 := by
      have : (m : Int).toNat < 1000 := by lia
      exact Nat.mul_lt_mul'' hl this
    simp only [Builtin.Str.tooLong, sizeLine_eq, decide_eq_false_iff_not]
    lia
theorem replicate_rel {h : Heap} {P : List Addr} {vs : List V} {Vs : List Value} (r : VRels h P vs Vs) : ∀ k, VRels h P (List.replicate k vs).flatten (List.replicate k Vs).flatten
  | 0 => .nil
  | k + 1 => by simp only [List.replicate_succ, List.flatten_cons]; exact r.append (replicate_rel r k)

section
variable {c : Act} {fr : Frame} {σ : Store} {Φ : V → Store → Prop} {i j : Int} {x y : Str} {b d : Bool} {K : Frag} {mg : Str → Option Value} {mb : MB} {E : Env} {n : Nat}

/-! iter, next -/
theorem cl_iter {v : V} {vs : List V} (w : View σ v vs) (hv : v = .lst vs) (h : ∀ I, Φ (.raw (.ref I)) ((I, .iter vs 0) :: σ)) : Cl c (.builtin "iter") [v] fr σ Φ := .mk fun s As hs r => by
  subst hv
  refine consI (C := fun As => wpAny (model c.prog c.w) c.A (call _ As) _ _ _) r fun _ _ r0 r => ?_
  obtain rfl := nilE r
  cases r0 with
  | lst pl nP rs =>
    refine call_function_entry (by decide +kernel) (by decide +kernel) kdk_entry_iter (kdk_args_iter _) ?_
    unfold Builtin.«iter»
    refine wpAny_bind (m := someArgs "iter" 1 2 _) (wpAny_of_eq (a := [Value.ref _]) (by first | rfl | kernel_rfl!) ?_)
    show wpAny _ _ (pyIter (.ref _) >>= _) _ _ _
    refine wpAny_bind (wpAny_pyIter_list pl.isList ?_)
    rename_i a0 Vs0
    have tp := Act.P_tr (c := c) (σ := σ) (σ' := (s.heap.objs.size, O.iter vs 0) :: σ) (Tr.pushW (keys σ) s.heap { cls := .type "list_iterator", data := .fields #[.ref a0, .int 0 0] })
    refine wpAny_pure ⟨_, rfl, _, _, h _, hs.pushW _ ⟨_, _, ⟨_, Heap.get?_push_size _ rfl, rfl, rfl⟩, pl.isList.at fun o e => Heap.get?_push_of_some _ e, ?_, rs.mono tp⟩, Tr.pushW _ _ _, .raw _⟩
    obtain ⟨_, e⟩ := pl
    exact tp.out nP e
theorem cl_next {I : Addr} {vs : List V} {k : Nat} {v : V} {σ' : Store} (hm : (I, O.iter vs k) ∈ σ) (hx : vs[k]? = some v) (p : PutA σ I (.iter vs (k + 1)) σ') (h : Φ v σ') : Cl c (.builtin "next") [.raw (.ref I)] fr σ Φ := .mk fun s As hs r => by
  refine consI (C := fun As => wpAny (model c.prog c.w) c.A (call _ As) _ _ _) r fun _ _ r0 r => ?_
  obtain rfl := nilE r
  obtain rfl := rawE r0
  obtain ⟨l, Vs, hit, hl, nP, rs⟩ := hs.own _ hm
  obtain ⟨X, ex, rx⟩ := rs.get hx
  obtain ⟨o, ho, hc, hd⟩ := id hit
  obtain ⟨ol, hol, _, nl, hdl⟩ := id hl
  refine call_function_entry (by decide +kernel) (by decide +kernel) kdk_entry_next (kdk_args_next _) ?_
  unfold Builtin.«next»
  refine wpAny_bind (m := someArgs "next" 1 2 _) (wpAny_of_eq (a := [Value.ref I]) (by first | rfl | kernel_rfl!) ?_)
  dsimp only
  refine wpAny_bind (wpAny_specialOf (name := Str.ofString "__next__") hit.typeIs slot_listiter_next.lookup ?_)
  refine wpAny_ite_split (fun hab => absurd hab (by decide)) (fun _ => ?_)
  refine wpAny_bind (wpAny_callSpecial?_slot (name := Str.ofString "__next__") hit.typeIs slot_listiter_next
    (wpAny_call_entry slot_listiter_next hit.typeIs entry_listiter_next ?_ (args_listiter_next _)))
  show wpAny _ _ (field (.ref I) 0 >>= _) _ _ s
  refine wpAny_bind (wpAny_field ho hd (x := .ref l) rfl ?_)
  show wpAny _ _ (if (Value.ref l == Value.none) = true then _ else _) _ _ s
  rw [if_neg (show ¬ ((Value.ref l == Value.none) = true) from Bool.false_ne_true)]
  show wpAny _ _ (field (.ref I) 1 >>= _) _ _ s
  refine wpAny_bind (wpAny_field ho hd (x := .int k 0) rfl ?_)
  show wpAny _ _ (seqItems? (.ref l) >>= _) _ _ s
  refine wpAny_bind (wpAny_seqItems hol hdl ?_)
  have ex' : Vs.toArray[k]? = some X := by simpa using ex
  simp only [Int.toNat_natCast, ex']
  refine wpAny_bind (wpAny_setField ho hd (by simp) (wpAny_pure ⟨X, rfl, wpAny_pure ⟨_, rfl, ?_⟩⟩))
  have ha : I ∈ c.P σ := List.mem_append_right _ (List.mem_cons_of_mem _ (List.mem_map.mpr ⟨_, hm, rfl⟩))
  have sb : Heap.SameBut I s.heap (s.heap.update I (Obj.mapFields (·.setIfInBounds 1 (rawInt ((k : Int) + 1))))) := Heap.SameBut.update ..
  have t0 : Tr (c.P σ) s.heap (c.P σ) (s.heap.update I (Obj.mapFields (·.setIfInBounds 1 (rawInt ((k : Int) + 1))))) := Tr.same ha sb
  have hit' : (s.heap.update I (Obj.mapFields (·.setIfInBounds 1 (rawInt ((k : Int) + 1))))).IsListIter I l (k + 1) :=
    ⟨_, Heap.get?_update_self _ ho (Obj.isFreed_of_fields (Obj.data_mapFields hd _)), (Obj.cls_mapFields ..).trans hc, by rw [Obj.data_mapFields hd]; simp [rawInt]⟩
  obtain ⟨hs', t⟩ := hs.put (tk := s.toks) p sb ⟨l, Vs, hit', hl.at (fun o e => t0.keep l o nP e), nP, rs.mono t0⟩
  have eP : c.P σ' = c.P σ := by unfold Act.P Act.W; rw [p.keys]
  exact ⟨v, σ', h, hs', t, by rw [eP]; exact rx.mono t0⟩

/-! lists: product, slice, search -/
theorem bin_lmul {a : V} {xs : List V} (w : View σ a xs) (h0 : 0 ≤ i) (hs : xs.length * i.toNat < 100000) (hi : i < 100000) (h : Φ (.lst (List.replicate i.toNat xs).flatten) σ) : Bin c .Mult a (.int i) fr σ Φ := Bin.mk fun s A B hst ra rb => by
  obtain ⟨l, Vs, k, rfl, ho, r1⟩ := w.plain hst ra
  cases rb with
  | int _ u =>
    have hz : Vs.toArray.size = xs.length := by simpa using r1.length
    refine wpAny_binaryOp_repeat_ref (T := "list") (U := "int") (by decide) ⟨_, ho, rfl⟩ (fun s' => typeIs_int s' i u) noFill_list_mul PySem.F.fills_int_mul PySem.F.slot_int_rmul repeat_list PySem.F.slot_int_index.lookup
      (call_meets PySem.F.slot_int_rmul (typeIs_int s i u) PySem.F.entry_int_rmul (PySem.F.args_int_rmul_2 _ _) (lm_int_rmul_list_any i u l Vs.toArray k _ _)
      ⟨ho, rfl, ⟨_, ho, rfl⟩, call_meets PySem.F.slot_list_mul ⟨_, ho, rfl⟩ PySem.F.entry_list_mul (PySem.F.args_list_mul_2 _ _)
        (lm_list_mul_any l Vs.toArray k _ _ i u (by simp [Builtin.List.listFitsIndex]; lia) (by rw [hz]; lia) (by rw [hz, list_tooLong hs]; decide))
        ⟨ho, ?_⟩⟩)
    rw [listMul_foldl_if]
    exact ⟨_, σ, h, hst.push _, Tr.push _ _ _, .lst ⟨_, Heap.get?_push_size _ rfl⟩ hst.freshP (by simpa using (replicate_rel r1 _).mono (Tr.push _ _ _))⟩
theorem cmp_in {v : V} {ns : List Int} (w : View σ v (ivs ns)) (h : Φ (.bool (ns.any (· == i))) σ) : Cmp c .In (.int i) v fr σ Φ := Cmp.mk fun s A B hs ra rb => by
  cases ra
  obtain ⟨a, Vs, rfl, l, r⟩ := w.at hs rb
  exact PyProof.Rows.in_list_ints l (ivs_are r) (Post.here' _ hs h (.bool _))
theorem cmp_notin {v : V} {ns : List Int} (w : View σ v (ivs ns)) (h : Φ (.bool (!ns.any (· == i))) σ) : Cmp c .NotIn (.int i) v fr σ Φ := Cmp.mk fun s A B hs ra rb => by
  cases ra
  obtain ⟨a, Vs, rfl, l, r⟩ := w.at hs rb
  exact PyProof.Rows.notin_list_ints l (ivs_are r) (Post.here' _ hs h (.bool _))
theorem cmp_sin {v : V} {ns : List Str} (w : View σ v (svs ns)) (h : Φ (.bool (ns.any (· == x))) σ) : Cmp c .In (.str x) v fr σ Φ := Cmp.mk fun s A B hs ra rb => by
  cases ra
  obtain ⟨a, Vs, rfl, l, r⟩ := w.at hs rb
  exact PyProof.Rows.in_list_strs l (svs_are r) (Post.here' _ hs h (.bool _))
theorem cmp_has (h : Φ (.bool (Txt.contains x y)) σ) : Cmp c .In (.str y) (.str x) fr σ Φ := Cmp.mk fun s A B hs ra rb => by obtain ⟨_, rfl⟩ := strE ra; obtain ⟨_, rfl⟩ := strE rb; exact SB.contains (Post.here' _ hs h (.bool _))
theorem cmp_hasnt (h : Φ (.bool (!Txt.contains x y)) σ) : Cmp c .NotIn (.str y) (.str x) fr σ Φ := Cmp.mk fun s A B hs ra rb => by obtain ⟨_, rfl⟩ := strE ra; obtain ⟨_, rfl⟩ := strE rb; exact SB.notContains (Post.here' _ hs h (.bool _))
theorem getm_count {v : V} {vs : List V} (w : View σ v vs) : GetM c v σ "count" (.builtin "list.count") [v] := .mk fun fr s A pl Q hs ra h => by
  obtain ⟨l, Vs, k, rfl, ho, r1⟩ := w.plain hs ra
  exact PyProof.Rows.getMethod_list_of PySem.F.slot_list_count PySem.F.type_list_count ⟨_, ho, rfl, _, rfl⟩ ⟨_, ho, rfl⟩ (h [_] s.toks (.cons ra .nil))
theorem cl_count {v : V} {ns : List Int} (w : View σ v (ivs ns)) (h : Φ (.int (ns.count i)) σ) : Cl c (.builtin "list.count") [v, .int i] fr σ Φ := .mk fun s As hs r => by
  refine consI (C := fun As => wpAny (model c.prog c.w) c.A (call _ As) _ _ _) r fun _ _ r0 r => ?_
  refine consI (C := fun As => wpAny (model c.prog c.w) c.A (call _ (_ :: As)) _ _ _) r fun _ _ ri r => ?_
  cases r; cases ri
  obtain ⟨a, Vs, rfl, l, r⟩ := w.at hs r0
  exact PyProof.Rows.count_list_ints l (ivs_are r) (Post.here _ hs h (.int _ _))

/-! texts -/
theorem getm_lower : GetM c (.str x) σ "lower" (.builtin "str.lower") [.str x] := .mk fun fr s A pl Q hs ra h => by cases ra; exact GM.lower (h [_] s.toks (.cons (.str _ _) .nil))
theorem getm_upper : GetM c (.str x) σ "upper" (.builtin "str.upper") [.str x] := .mk fun fr s A pl Q hs ra h => by cases ra; exact GM.upper (h [_] s.toks (.cons (.str _ _) .nil))
theorem getm_join : GetM c (.str x) σ "join" (.builtin "str.join") [.str x] := .mk fun fr s A pl Q hs ra h => by cases ra; exact GM.join (h [_] s.toks (.cons (.str _ _) .nil))
theorem cl_lower (hl : x.length < 1000000) (h : Φ (.str (Txt.lower x)) σ) : Cl c (.builtin "str.lower") [.str x] fr σ Φ := .mk fun s As hs r => by
  cases r with
  | cons r0 r => cases r; cases r0; exact SCL.lower (by lia) fun _ => Post.here _ hs h (.str _ _)
theorem cl_upper (hl : x.length < 1000000) (h : Φ (.str (Txt.upper x)) σ) : Cl c (.builtin "str.upper") [.str x] fr σ Φ := .mk fun s As hs r => by
  cases r with
  | cons r0 r => cases r; cases r0; exact SCL.upper (by lia) fun _ => Post.here _ hs h (.str _ _)
theorem cl_join {v : V} {ys : List Str} (w : View σ v (svs ys)) (hl : (ys.map Str.length).sum + ys.length * x.length ≤ 1000000) (h : Φ (.str (Txt.join x ys)) σ) : Cl c (.builtin "str.join") [.str x, v] fr σ Φ := .mk fun s As hs r => by
  refine consI (C := fun As => wpAny (model c.prog c.w) c.A (call _ As) _ _ _) r fun _ _ r0 r => ?_
  obtain ⟨_, rfl⟩ := strE r0
  refine consI (C := fun As => wpAny (model c.prog c.w) c.A (call _ (_ :: As)) _ _ _) r fun _ _ rv r => ?_
  obtain rfl := nilE r
  obtain ⟨a, Vs, rfl, l, r⟩ := w.at hs rv
  exact PyProof.Rows.join_list l (by simpa using svs_are r) (by show (List.map Str.length ys).sum + _ ≤ _; lia) fun t' k => Post.here _ hs h (.str _ _)
theorem bin_smul {m : Nat} (hm : m < 1000) (hl : x.length < 1000) (h : Φ (.str (Txt.mul x m)) σ) : Bin c .Mult (.str x) (.int m) fr σ Φ := Bin.mk fun s A B hs ra rb => by
  obtain ⟨_, rfl⟩ := strE ra
  obtain ⟨_, rfl⟩ := intE rb
  exact SB.mul (mulOk hm hl) fun t' k => Post.here _ hs h (.str _ _)

/-! ivs from a list -/
theorem cl_sorted {v : V} {ns : List Int} (w : View σ v (ivs ns)) (hl : ns.length < 64) (h : ∀ ms : List Int, ms.Perm ns → ms.Pairwise (· ≤ ·) → Φ (.lst (ivs ms)) σ) : Cl c (.builtin "sorted") [v] fr σ Φ := .mk fun s As hs r => by
  refine consI (C := fun As => wpAny (model c.prog c.w) c.A (call _ As) _ _ _) r fun _ _ r0 r => ?_
  obtain rfl := nilE r
  obtain ⟨a, Vs, rfl, l, r⟩ := w.at hs r0
  have ia := ivs_are r
  have hlen : Vs.length < 64 := by have := r.length; unfold ivs at this; rw [List.length_map] at this; lia
  refine PyProof.Rows.sorted_ints l ia hlen fun out ns' io perm pw => ?_
  obtain ⟨e, he⟩ := sortedAll_at s.heap Vs out
  obtain ⟨hs', t⟩ := hs.ext (tk := s.toks) (h' := sortedAll s.heap Vs out) fun b o hb => sortedAll_old hb
  have hn : s.heap.get? (s.heap.objs.size + 1) = none := by
    cases q : s.heap.get? (s.heap.objs.size + 1) with
    | none => rfl
    | some o => exact absurd (Heap.lt_size q) (Nat.not_lt.mpr (Nat.le_succ _))
  exact ⟨_, σ, h ns' perm pw, hs', t _, .lst (Vs := out.toList) ⟨e, by simpa using he⟩ (hs.freshAt hn) (ivs_of io)⟩
end

open PySem PySem.W PySem.Spec PySem.Calls PyProof.Rows

def relP : Heap → List Addr → Option Int → Value → Prop := fun _ _ o A => IsPart A o
def EvP (c : Act) (e : Option Expr) (fr : Frame) (σ : Store) (Φ : Option Int → Store → Prop) : Prop := Tri relP c (evalPart e c.env) fr σ Φ
structure Slc (c : Act) (value slice : Expr) (v : V) (l u k : Option Int) (fr : Frame) (σ : Store) (Φ : V → Store → Prop) : Prop where
  run : ∀ s A vl vu vk, St c fr σ s → VRel s.heap (c.P σ) v A → IsPart vl l → IsPart vu u → IsPart vk k →
    wpAny (model c.prog c.w) c.A (subscriptTail value slice A (.ref s.heap.objs.size)) (Post VRel c fr σ s.heap Φ) NoE { s with heap := s.heap.push { cls := .type "slice", data := .fields #[vl, vu, vk] } }

section
variable {c : Act} {fr : Frame} {σ : Store} {Φ : V → Store → Prop} {i j : Int} {x y : Str} {b d : Bool} {K : Frag} {mg : Str → Option Value} {mb : MB} {E : Env} {n : Nat}

theorem evp_none {Φ : Option Int → Store → Prop} (h : Φ none σ) : EvP c none fr σ Φ := Tri.mk fun s hs => wpAny_evalPart_none (Post.here' none hs h .none)
theorem evp_some {e : Expr} {Φ : Option Int → Store → Prop} (h : Ev c e fr σ fun v σ₁ => ∃ i, v = .int i ∧ Φ (some i) σ₁) : EvP c (some e) fr σ Φ := Tri.mk fun s hs => wpAny_evalPart_some (wpAny_mono (h.run s hs) (fun A s₁ x => by
  obtain ⟨v, σ₁, ⟨i, rfl, h₁⟩, hs₁, t₁, r⟩ := x
  cases r
  exact ⟨_, σ₁, h₁, hs₁, t₁, .int _ _⟩) fun _ _ e => e)
theorem ev_slice {value : Expr} {lo hi st : Option Expr} {p pos : Pos}
    (h : Ev c value fr σ fun v σ₁ => EvP c lo fr σ₁ fun l σ₂ => EvP c hi fr σ₂ fun u σ₃ => EvP c st fr σ₃ fun k σ₄ => Slc c value (.Slice lo hi st p) v l u k fr σ₄ Φ) : Ev c (.Subscript value (.Slice lo hi st p) pos) fr σ Φ := Tri.mk fun s hs =>
  Subscript_ (wpAny_mono (h.run s hs) (fun A s₁ x => by
    obtain ⟨v, σ₁, h₁, hs₁, t₁, ra⟩ := x
    refine wpAny_Slice (wpAny_mono (h₁.run s₁ hs₁) (fun vl s₂ y => ?_) fun _ _ e => e)
    obtain ⟨l, σ₂, h₂, hs₂, t₂, rl⟩ := y
    refine wpAny_mono (h₂.run s₂ hs₂) (fun vu s₃ y => ?_) fun _ _ e => e
    obtain ⟨u, σ₃, h₃, hs₃, t₃, ru⟩ := y
    refine wpAny_mono (h₃.run s₃ hs₃) (fun vk s₄ y => ?_) fun _ _ e => e
    obtain ⟨k, σ₄, h₄, hs₄, t₄, rk⟩ := y
    exact wpAny_mono (h₄.run s₄ A vl vu vk hs₄ (((ra.mono (Act.P_tr t₂)).mono (Act.P_tr t₃)).mono (Act.P_tr t₄)) rl ru rk) (fun _ _ p => (((p.trans t₄).trans t₃).trans t₂).trans t₁) fun _ _ e => e) fun _ _ e => e)

/-- what a slice picks of an array of values -/
theorem slc_run {value slice : Expr} {s : Shared} (hs : St c fr σ s) {a : Addr} {Vs : List Value} (l : s.heap.IsList a Vs.toArray) {vl vu vk : Value} {lo hi st : Option Int} (pl : IsPart vl lo) (pu : IsPart vu hi) (pk : IsPart vk st) (h0 : st ≠ some 0)
    {ws : List V} {Ws : List Value} {ops : List Value} (hz : Vs.length < 100000) (e : slicePick Vs.toArray lo hi st = Ws.toArray) (r : VRels s.heap (c.P σ) ws Ws) (h : Φ (.lst ws) σ)
    (hsl : subscripted slice false (.ref a) (.ref s.heap.objs.size) = operate ops (getItem (.ref a) (.ref s.heap.objs.size))) (ht : ∀ r, letTemporaryGo value (.ref a) r = pure ()) :
    wpAny (model c.prog c.w) c.A (subscriptTail value slice (.ref a) (.ref s.heap.objs.size)) (Post VRel c fr σ s.heap Φ) NoE { s with heap := s.heap.push { cls := .type "slice", data := .fields #[vl, vu, vk] } } := by
  have hz' : Vs.toArray.size ≤ sizeLine := by rw [sizeLine_eq]; simp; lia
  refine subscriptTail_ops (Heap.IsList.typeIs (s := { s with heap := s.heap.push { cls := .type "slice", data := .fields #[vl, vu, vk] } }) (l.push _)) list_getitem_lookup
    (wpAny_getItem_list_slice (l.push _) (Heap.IsSliceOf.new ..) pl pu pk h0 ?_ hz') hsl ht
  rw [e]
  exact ⟨_, σ, h, (hs.push _).push _, (Tr.push _ _ _).trans (Tr.push _ _ _), .lst ⟨_, Heap.get?_push_size _ rfl⟩ (hs.push _).freshP (r.mono ((Tr.push _ _ _).trans (Tr.push _ _ _)))⟩
theorem slc_upto {value : Expr} {e1 : Option Expr} {e2 : Option Expr} {p : Pos} {v : V} {vs : List V} (w : View σ v vs) (hz : vs.length < 100000) (k : Nat) (h : Φ (.lst (vs.take k)) σ) (ht : ∀ o r, letTemporaryGo value o r = pure () := by intros; with_unfolding_all rfl) : Slc c value (.Slice e1 e2 none p) v none (some (k : Int)) none fr σ Φ := .mk fun s A vl vu vk hs ra pl pu pk => by
  obtain ⟨a, Vs, rfl, l, r⟩ := w.at hs ra
  exact slc_run hs l pl pu pk (by simp) (by rw [r.length]; exact hz) (slicePick_upto' _ _) (by simpa using r.take k) h rfl (ht _)
theorem slc_from {value : Expr} {e1 : Option Expr} {e2 : Option Expr} {p : Pos} {v : V} {vs : List V} (w : View σ v vs) (hz : vs.length < 100000) (k : Nat) (h : Φ (.lst (vs.drop k)) σ) (ht : ∀ o r, letTemporaryGo value o r = pure () := by intros; with_unfolding_all rfl) : Slc c value (.Slice e1 e2 none p) v (some (k : Int)) none none fr σ Φ := .mk fun s A vl vu vk hs ra pl pu pk => by
  obtain ⟨a, Vs, rfl, l, r⟩ := w.at hs ra
  exact slc_run hs l pl pu pk (by simp) (by rw [r.length]; exact hz) (slicePick_from' _ _) (by simpa using r.drop k) h rfl (ht _)
theorem slc_all {value : Expr} {e1 : Option Expr} {e2 : Option Expr} {p : Pos} {v : V} {vs : List V} (w : View σ v vs) (hz : vs.length < 100000) (h : Φ (.lst vs) σ) (ht : ∀ o r, letTemporaryGo value o r = pure () := by intros; with_unfolding_all rfl) : Slc c value (.Slice e1 e2 none p) v none none none fr σ Φ := .mk fun s A vl vu vk hs ra pl pu pk => by
  obtain ⟨a, Vs, rfl, l, r⟩ := w.at hs ra
  exact slc_run hs l pl pu pk (by simp) (by rw [r.length]; exact hz) (slicePick_all _) r h rfl (ht _)
theorem slc_rev {value : Expr} {e1 : Option Expr} {e2 : Option Expr} {e3 : Expr} {p : Pos} {v : V} {vs : List V} (w : View σ v vs) (hz : vs.length < 100000) (h : Φ (.lst vs.reverse) σ) (ht : ∀ o r, letTemporaryGo value o r = pure () := by intros; with_unfolding_all rfl) : Slc c value (.Slice e1 e2 (some e3) p) v none none (some (-1)) fr σ Φ := .mk fun s A vl vu vk hs ra pl pu pk => by
  obtain ⟨a, Vs, rfl, l, r⟩ := w.at hs ra
  exact slc_run (ops := [_, _]) hs l pl pu pk (by simp) (by rw [r.length]; exact hz) (krv_pick _) (by simpa using r.reverse) h rfl (ht _)
/-- a slice of a given list that nobody changes -/
theorem slc_given {value : Expr} {e1 : Option Expr} {e2 : Option Expr} {p : Pos} {a : Addr} {Vs : List Value} {ns : List Int} (l : c.G.IsList a Vs.toArray) (hI : IntsAre Vs ns) (hz : ns.length < 100000) (k : Nat) (h : Φ (.lst (ivs (ns.take k))) σ) (ht : ∀ o r, letTemporaryGo value o r = pure () := by intros; with_unfolding_all rfl) :
    Slc c value (.Slice e1 e2 none p) (.raw (.ref a)) none (some (k : Int)) none fr σ Φ := .mk fun s A vl vu vk hs ra pl pu pk => by
  cases ra
  have r : VRels s.heap (c.P σ) (ivs ns) Vs := ivs_of hI
  have r' := r.take k
  exact slc_run hs (l.at fun o e => hs.old _ o e) pl pu pk (by simp) (by rw [hI.length]; exact hz) (slicePick_upto' _ _) (by simpa [ivs, List.map_take] using r') h rfl (ht _)

def takeS (x : Str) (k : Nat) : Str := ⟨(x.cps.toList.take k).toArray⟩
theorem slice_take (x : Str) (k : Nat) (hk : k ≤ x.length) : Txt.slice x none (some (k : Int)) = takeS x k := by
  have e0 : Builtin.Str.strSliceIndices none (some (k : Int)) 1 x.length = Builtin.Str.strSliceIndices (some ((0 : Nat) : Int)) (some (k : Int)) 1 x.length := rfl
  unfold Txt.slice
  rw [e0]
  split
  · rename_i h
    rw [StrLaws.strSliceIndices_plain (Nat.zero_le _) hk] at h
    simp at h
    unfold takeS
    rw [h, List.take_of_length_le (by simp [Str.length])]
  · rw [StrLaws.sliced_plain x (Nat.zero_le _) hk]
    simp [takeS]
theorem slc_str {value : Expr} {e1 : Option Expr} {e2 : Option Expr} {p : Pos} (hz : x.length < 100000) (k : Nat) (hk : k ≤ x.length) (h : Φ (.str (takeS x k)) σ) (ht : ∀ o r, letTemporaryGo value o r = pure () := by intros; with_unfolding_all rfl) :
    Slc c value (.Slice e1 e2 none p) (.str x) none (some (k : Int)) none fr σ Φ := .mk fun s A vl vu vk hs ra pl pu pk => by
  cases ra
  cases pl; cases pk
  cases pu with
  | int _ uj =>
    refine tail_of_ItemOn ⟨"str", _, PySem.F.slot_str_getitem.lookup, typeIs_str _ _ _, wpAny_getItem_str_slice (l := none) (u := some ((k : Int), uj)) (st := none) ⟨_, Heap.get?_push_size _ rfl, rfl, rfl⟩ rfl
      (post_val_or_str ⟨Nat.le_trans (Txt.slice_le x none (some (k : Int))) (by rw [sizeLine_eq]; lia), fun t' tk => ?_⟩)⟩ rfl (ht _)
    have e := slice_take x k hk
    have h' : Φ (.str (Txt.slice x none (some (k : Int)))) σ := by rw [e]; exact h
    exact ⟨_, σ, h', (hs.push _).toks tk, Tr.push _ _ _, .str _ _⟩
end

open PySem PySem.W PySem.Spec PySem.Calls PyProof.Rows

theorem comp_loop {prog : Program} {w : World} {A : Around} {s : Shared} {elt target iter : Expr} {ifs : List Expr} {scope : Scope} {pos : Pos} {it acc : Value} {env : Env} {R : Result → Shared → Prop} (I : Nat → Shared → Prop)
    (turn : ∀ n s, I n s → wpAny (model prog w) A (pyNext it) (fun r s₁ => match r with
      | none => R (.ok .next) s₁
      | some v => wpAny (model prog w) A (letOwnedTupleGo target it v) (fun _ s₀ => wpAny (model prog w) A (assign target env v) (fun _ s₂ =>
          wpAny (model prog w) A (forIn ifs true fun c r => if r = true then do let ok ← isTrue c env (eval c env); pure (ForInStep.yield ok) else pure (ForInStep.yield r)) (fun ok s₃ =>
            if ok = true then wpAny (model prog w) A (eval elt env) (fun x s₄ =>
              wpAny (model prog w) A (call (.builtin "list.append") [acc, x]) (fun _ s₅ => ∃ m, m < n ∧ I m s₅) NoE s₄) NoE s₃
            else ∃ m, m < n ∧ I m s₃) NoE s₂) NoE s₀) NoE s₁) NoE s)
    (n : Nat) (h : I n s) : codeAny (model prog w) A (.compLoop (.ListComp elt [⟨target, iter, ifs, 0⟩] scope pos) 0 it acc env) R s := by
  have noE : ∀ {E₃ : Value → Shared → Prop} (e : Value) (s₂ : Shared), NoE e s₂ → E₃ e s₂ := fun _ _ h => h.elim
  refine codeAny_loop rfl I (fun n s hI => ?_) n h
  show wpAny _ A ((compTurn (.ListComp elt [⟨target, iter, ifs, 0⟩] scope pos) 0 it acc env).onRaise (fun x => do noteFrame x env; theTreesLotGoes x)) _ _ s
  refine wpAny_noted ?_
  rw [compTurn_list]
  refine wpAny_bind (wpAny_standAt (wpAny_bind (wpAny_mono (turn n s hI) (fun r s₁ h₁ => ?_) noE)))
  cases r with
  | none => exact wpAny_pure h₁
  | some v =>
    refine wpAny_bind (wpAny_mono h₁ (fun _ s₀ h₀ => ?_) noE)
    refine wpAny_bind (wpAny_mono h₀ (fun _ s₂ h₂ => wpAny_bind (wpAny_mono h₂ (fun ok s₃ h₃ => ?_) noE)) noE)
    cases ok with
    | false => exact wpAny_pure ⟨rfl, h₃⟩
    | true => exact wpAny_bind (wpAny_bind (wpAny_mono h₃ (fun x s₄ h₄ => wpAny_bind (wpAny_mono h₄ (fun _ s₅ h₅ => wpAny_pure (wpAny_pure ⟨rfl, h₅⟩)) noE)) noE))

/-- tests of a comprehension: none or one -/
def TeL (c : Act) (ifs : List Expr) (fr : Frame) (σ : Store) (Ψ : Bool → Prop) : Prop := match ifs with
  | [] => Ψ true
  | [t] => Te c t fr σ fun b σ₁ => σ₁ = σ ∧ Ψ b
  | _ => False

section
variable {c : Act} {fr : Frame} {σ : Store} {K : Frag} {mg : Str → Option Value} {mb : MB} {E : Env} {n : Nat}

theorem tel_run {ifs : List Expr} {Ψ : Bool → Prop} (h : TeL c ifs fr σ Ψ) {s : Shared} (hs : St c fr σ s) {Q : Bool → Shared → Prop} (hq : ∀ b s', Ψ b → St c fr σ s' → Tr (keys σ) s.heap (keys σ) s'.heap → Q b s') :
    wpAny (model c.prog c.w) c.A (forIn ifs true fun t r => if r = true then do let ok ← isTrue t c.env (eval t c.env); pure (ForInStep.yield ok) else pure (ForInStep.yield r)) Q NoE s := by
  match ifs, h with
  | [], h => exact wpAny_tests_nil (hq true s h hs (Tr.refl _ _))
  | [t], h =>
    refine wpAny_tests_one (wpAny_mono (Tri.run h s hs) (fun b s' x => ?_) fun _ _ e => e)
    obtain ⟨b', σ', ⟨rfl, hΨ⟩, hs', t', r⟩ := x
    cases r
    exact hq b s' hΨ hs' t'

/-- the frame's values forgotten -/
theorem St.forget {s : Shared} (hs : St c fr σ s) {fr0 : Frame} (e : fr0.map (·.1) = fr.map (·.1)) (hn : ∀ p ∈ fr0, p.2 = none) : St c fr0 σ s := by
  refine ⟨hs.sh, ?_, by rw [e]; exact hs.names, fun p hp => ?_, hs.pr, hs.old, hs.own, hs.nd, hs.wG⟩
  · obtain ⟨m, hm, _⟩ := hs.ns
    exact ⟨m, hm, fun x v hx => by have := hn _ hx; cases this⟩
  · have : p.1 ∈ fr0.map (·.1) := List.mem_map.mpr ⟨p, hp, rfl⟩
    rw [e] at this
    obtain ⟨q, hq, eq⟩ := List.mem_map.mp this
    exact eq ▸ hs.kinds q hq

theorem comp_core {α : Type} (F : Fact K mg mb E n c) {s : Shared} (hs : St c fr σ s) {target elt iter : Expr} {ifs : List Expr} {scope : Scope} {cl : List (Str × Addr)} {pos : Pos} {v : V} {A : Value} {l : List α} {fx : α → V} {fy : α → Option V} {R : List Addr} {I : Addr} {S : Nat → Heap → Prop} {vw : Store → Prop} {Q : Value → Shared → Prop}
    (rv : VRel s.heap (c.P σ) v A) (hR : ∀ b ∈ R, s.heap.get? b = none) {h₁ : Heap} {tk₁ : Nat} (hk : ∀ b o, s.heap.get? b = some o → h₁.get? b = some o) (hR1 : ∀ b ∈ R, ∃ o, h₁.get? b = some o)
    (it : ∀ c' : Act, c'.A = c.A → c'.prog = c.prog → c'.w = c.w → (∀ b ∈ R, b ∈ c'.prot) → Itr c' target v A I R (l.map fx) vw S) (hS : S 0 h₁)
    (hself : ∀ (s : Shared) (Q : Value → Shared → Prop) (E : Value → Shared → Prop), S 0 s.heap → Q (.ref I) s → wpAny (model c.prog c.w) c.A (pyIter (.ref I)) Q E s)
    (hvw : vw σ) (fr0 : Frame) (hn0 : ∀ p ∈ fr0, p.2 = none) (hnd0 : (fr0.map (·.1)).Nodup) (hk0 : ∀ C, ∀ p ∈ fr0, (compEnvC scope cl C c.env).kindOf p.1 = some .local)
    (hcell : ∀ y ∈ scope.names, y.2 ≠ .cell) (hkind : scope.kind = .function) (hlen : l.length < 100000)
    (turn : ∀ C c', Fact K mg mb (compEnvC scope cl C E) n c' → c'.G = c.G → ∀ a ∈ l, Asg c' target (fx a) fr0 σ fun fr₂ σ₂ => σ₂ = σ ∧ fr₂.map (·.1) = fr0.map (·.1) ∧ TeL c' ifs fr₂ σ fun b => IfB b (∃ y, fy a = some y ∧ Ev c' elt fr₂ σ fun u σ₃ => u = y ∧ σ₃ = σ) (fy a = none))
    (done : ∀ D (s' : Shared), s.heap.get? D = none → St c fr ((D, .list (l.filterMap fy)) :: σ) s' → Tr (keys σ) s.heap (keys ((D, O.list (l.filterMap fy)) :: σ)) s'.heap → Q (.ref D) s') {E₂ : Value → Shared → Prop} :
    wpAny (model c.prog c.w) c.A (newList []) (fun acc s₃ => wpAny (model c.prog c.w) c.A (newFunctionEnv scope c.env.globals cl [] c.env.qual none .none (some c.env)) (fun cenv s₄ =>
      codeAny (model c.prog c.w) c.A (.compStart (.ListComp elt [⟨target, iter, ifs, 0⟩] scope pos) 0 (.ref I) acc { cenv with scope := relabel scope c.env }) (compPost (model c.prog c.w) c.A E₂ none Q acc cenv.locals) s₄) E₂ s₃) E₂ { s with heap := h₁, toks := tk₁ } := by
  have noE : ∀ {E₃ : Value → Shared → Prop} (e : Value) (s₂ : Shared), NoE e s₂ → E₃ e s₂ := fun _ _ h => h.elim
  refine wpAny_newObj_type (wpAny_newFunctionEnv hcell (by intro y hy; simp at hy) (fun h₂ hns₂ hsb₂ => ?_) hkind)
  dsimp only at hns₂ hsb₂ ⊢
  generalize hH : h₁.push { cls := .type "list", dict := none, data := .seq ([] : List Value).toArray } = H at hns₂ hsb₂ ⊢
  let D : Addr := h₁.objs.size
  let C : Addr := H.objs.size
  have hCD : C = D + 1 := by show H.objs.size = _; rw [← hH, Heap.size_push]
  have nD : h₁.get? D = none := size_none _
  have nC : H.get? C = none := size_none _
  have up1 : ∀ b o, h₁.get? b = some o → H.get? b = some o := fun b o e => hH ▸ Heap.get?_push_of_some _ e
  have up2 : ∀ b o, H.get? b = some o → h₂.get? b = some o := fun b o e => hsb₂.extBut b o (fun q => by rw [q] at e; rw [nC] at e; cases e) (Heap.get?_push_of_some _ e)
  have up : ∀ b o, s.heap.get? b = some o → h₂.get? b = some o := fun b o e => up2 b o (up1 b o (hk b o e))
  have eD : h₂.get? D = some { cls := .type "list", dict := none, data := .seq #[] 0 } := up2 _ _ (hH ▸ Heap.get?_push_size _ rfl)
  have nsD : s.heap.get? D = none := by
    cases e : s.heap.get? D with
    | none => rfl
    | some o => rw [hk _ _ e] at nD; cases nD
  have nsC : s.heap.get? C = none := by
    cases e : s.heap.get? C with
    | none => rfl
    | some o => rw [up1 _ _ (hk _ _ e)] at nC; cases nC
  have CneD : C ≠ D := by rw [hCD]; exact Nat.succ_ne_self _
  have CnR : C ∉ R := fun q => by obtain ⟨o, e⟩ := hR1 C q; rw [up1 _ _ e] at nC; cases nC
  have DnR : D ∉ R := fun q => by obtain ⟨o, e⟩ := hR1 D q; rw [nD] at e; cases e
  let E' := compEnvC scope cl C c.env
  let c' : Act := { c with env := E', prot := (D :: R) ++ (c.env.locals :: c.prot) }
  have F' : Fact K mg mb (compEnvC scope cl C E) n c' := ⟨by show compEnvC scope cl C c.env = _; rw [F.env], F.hh, F.dep, F.un, hkind, F.gl, F.bl, F.X, F.g, F.b, F.bb, F.lim, F.scr, F.wd⟩
  have hRp : ∀ b ∈ R, b ∈ c'.prot := fun b hb => List.mem_append_left _ (List.mem_cons_of_mem _ hb)
  have Itc : Itr c' target v A I R (l.map fx) vw S := it c' rfl rfl rfl hRp
  have old0 : ∀ b, b ∈ c.P σ → ∃ o, s.heap.get? b = some o := fun b hb => by
    rcases List.mem_append.mp hb with q | q
    · exact (hs.pr b q).2
    · exact hs.there q
  -- from the outer protected set to the inner one
  have tp : Tr (c.P σ) s.heap (c'.P σ) h₂ := ⟨fun b o _ e => up b o e, fun b hb => by
    have hb' : b ∈ ((D :: R) ++ (c.env.locals :: c.prot)) ++ (C :: keys σ) := hb
    rcases List.mem_append.mp hb' with q | q
    · rcases List.mem_append.mp q with q | q
      · rcases List.mem_cons.mp q with rfl | q
        · exact .inr nsD
        · exact .inr (hR b q)
      · rcases List.mem_cons.mp q with rfl | q
        · exact .inl (List.mem_append_right _ (List.mem_cons_self ..))
        · exact .inl (List.mem_append_left _ q)
    · rcases List.mem_cons.mp q with rfl | q
      · exact .inr nsC
      · exact .inl (List.mem_append_right _ (List.mem_cons_of_mem _ q))⟩
  have hLk : c.env.locals ∉ keys σ := by have nd := hs.nd; unfold Act.W at nd; exact (List.nodup_cons.mp nd).1
  have CnK : C ∉ keys σ := fun q => by obtain ⟨o, e⟩ := hs.there (List.mem_cons_of_mem _ q); rw [nsC] at e; cases e
  have DnK : D ∉ keys σ := fun q => by obtain ⟨o, e⟩ := hs.there (List.mem_cons_of_mem _ q); rw [nsD] at e; cases e
  have DnL : D ≠ c.env.locals := fun q => by obtain ⟨o, e⟩ := hs.there (List.mem_cons_self ..); rw [← q, nsD] at e; cases e
  have CnL : C ≠ c.env.locals := fun q => by obtain ⟨o, e⟩ := hs.there (List.mem_cons_self ..); rw [← q, nsC] at e; cases e
  have S2 : St c' fr0 σ { s with heap := h₂, toks := tk₁ } := by
    refine ⟨by obtain ⟨h, t, e⟩ := hs.sh; rw [e]; exact ⟨_, _, rfl⟩, ⟨_, hns₂, fun y w hy => by have := hn0 _ hy; cases this⟩, hnd0, hk0 C, fun b hb => ?_, fun b o e => up b o (hs.old b o e), fun p hp => (hs.own p hp).mono tp fun o e => up _ o e, ?_, fun b hb => ?_⟩
    · have nW : b ≠ C → b ∉ keys σ → b ∉ c'.W σ := fun h1 h2 q => by
        rcases List.mem_cons.mp q with q | q
        · exact h1 q
        · exact h2 q
      have hb' : b ∈ (D :: R) ++ (c.env.locals :: c.prot) := hb
      rcases List.mem_append.mp hb' with q | q
      · rcases List.mem_cons.mp q with rfl | q
        · exact ⟨nW CneD.symm DnK, _, eD⟩
        · obtain ⟨o, e⟩ := hR1 b q
          refine ⟨nW (fun e' => CnR (e' ▸ q)) (fun w => ?_), o, up2 _ _ (up1 _ _ e)⟩
          obtain ⟨o', e'⟩ := hs.there (List.mem_cons_of_mem _ w)
          rw [hR b q] at e'; cases e'
      · rcases List.mem_cons.mp q with rfl | q
        · obtain ⟨o, e⟩ := hs.there (List.mem_cons_self ..)
          exact ⟨nW CnL.symm hLk, o, up _ _ e⟩
        · obtain ⟨nb, o, e⟩ := hs.pr b q
          refine ⟨nW (fun e' => ?_) (fun w => nb (List.mem_cons_of_mem _ w)), o, up _ _ e⟩
          rw [e', nsC] at e; cases e
    · show (C :: keys σ).Nodup
      have nd := hs.nd
      unfold Act.W at nd
      exact List.nodup_cons.mpr ⟨CnK, (List.nodup_cons.mp nd).2⟩
    · rcases List.mem_cons.mp hb with q | q
      · cases e : c.G.get? b with
        | none => rfl
        | some o => have e' := hs.old b o e; rw [q] at e'; have e2 : s.heap.get? C = some o := e'; rw [nsC] at e2; cases e2
      · exact hs.wG b (List.mem_cons_of_mem _ q)
  have loop : codeAny (model c.prog c.w) c.A (.compLoop (.ListComp elt [⟨target, iter, ifs, 0⟩] scope pos) 0 (.ref I) (.ref D) E') (compPost (model c.prog c.w) c.A E₂ none Q (.ref D) C) { s with heap := h₂, toks := tk₁ } := by
    refine comp_loop (fun m s' => ∃ k, m = l.length + 1 - k ∧ k ≤ l.length ∧ St c' fr0 σ s' ∧ S k s'.heap ∧ (∃ Vs, s'.heap.PlainList D Vs.toArray ∧ VRels s'.heap (c'.P σ) ((l.take k).filterMap fy) Vs) ∧ Tr (keys σ) s.heap (keys σ) s'.heap ∧ VRel s'.heap (c'.P σ) v A) ?_ (l.length + 1)
      ⟨0, rfl, Nat.zero_le _, S2, Itc.keep _ _ _ hS (fun b hb o e => up2 _ _ (up1 _ _ e)), ⟨[], ⟨_, eD⟩, .nil⟩, .of_keeps fun b o _ e => up b o e, rv.mono tp⟩
    rintro m s' ⟨k, rfl, hle, hs', hSk, ⟨Vs, pl, rs⟩, t, rA⟩
    have hDp : D ∈ c'.prot := List.mem_append_left _ (List.mem_cons_self ..)
    cases hx : l[k]? with
    | some a =>
      have hlt : k < l.length := (List.getElem?_eq_some_iff.mp hx).1
      have ha : a ∈ l := List.mem_of_getElem? hx
      have hx' : (l.map fx)[k]? = some (fx a) := by rw [List.getElem?_map, hx]; rfl
      have etake : (l.take (k + 1)).filterMap fy = (l.take k).filterMap fy ++ (fy a).toList := by
        rw [List.take_add_one, hx, List.filterMap_append]
        cases hfa : fy a <;> simp [hfa]
      refine wpAny_mono (Itc.item k (fx a) fr0 σ s' (fun X s₂ => wpAny (model c.prog c.w) c.A (assign target E' X) (fun _ s₂ =>
          wpAny (model c.prog c.w) c.A (forIn ifs true fun c r => if r = true then do let ok ← isTrue c E' (eval c E'); pure (ForInStep.yield ok) else pure (ForInStep.yield r)) (fun ok s₃ =>
            if ok = true then wpAny (model c.prog c.w) c.A (eval elt E') (fun x s₄ =>
              wpAny (model c.prog c.w) c.A (call (.builtin "list.append") [.ref D, x]) (fun _ s₅ => ∃ m, m < l.length + 1 - k ∧ ∃ k, m = l.length + 1 - k ∧ k ≤ l.length ∧ St c' fr0 σ s₅ ∧ S k s₅.heap ∧ (∃ Vs, s₅.heap.PlainList D Vs.toArray ∧ VRels s₅.heap (c'.P σ) ((l.take k).filterMap fy) Vs) ∧ Tr (keys σ) s.heap (keys σ) s₅.heap ∧ VRel s₅.heap (c'.P σ) v A) NoE s₄) NoE s₃
            else ∃ m, m < l.length + 1 - k ∧ ∃ k, m = l.length + 1 - k ∧ k ≤ l.length ∧ St c' fr0 σ s₃ ∧ S k s₃.heap ∧ (∃ Vs, s₃.heap.PlainList D Vs.toArray ∧ VRels s₃.heap (c'.P σ) ((l.take k).filterMap fy) Vs) ∧ Tr (keys σ) s.heap (keys σ) s₃.heap ∧ VRel s₃.heap (c'.P σ) v A) NoE s₂) NoE s₂) hx' hvw hs' rA hSk ?_) (fun r s₁ hr => ?_) noE
      · intro X h' tk rx hS' kR exR
        have hRG : ∀ b ∈ R, c'.G.get? b = none := fun b hb => by
          cases e : c.G.get? b with
          | none => rfl
          | some o => have := hR b hb; rw [hs.old b o e] at this; cases this
        have S3 := hs'.away (tk := tk) hRp hRG kR exR
        have tR : Tr (c'.P σ) s'.heap (c'.P σ) h' := .of_keeps fun b o hb e => kR b o (fun q => hb (List.mem_append_left _ (hRp b q))) e
        have tK : Tr (keys σ) s.heap (keys σ) h' := ⟨fun b o hb e => kR b o (fun q => by rw [hR b q] at e; cases e) (t.keep b o hb e), fun b hb => .inl hb⟩
        have pl' : h'.PlainList D Vs.toArray := pl.at fun o e => kR D o DnR e
        refine wpAny_mono ((turn C c' F' rfl a ha).run _ X S3 rx) (fun _ s₃ y => ?_) noE
        obtain ⟨fr₂, σ₂, ⟨rfl, efr, hT⟩, hs₃, t₃⟩ := y
        refine tel_run hT hs₃ fun b s₄ hb hs₄ t₄ => ?_
        have t34 : Tr (c'.W σ₂) h' (c'.W σ₂) s₄.heap := t₃.trans (trW t₄)
        have out : ∀ b, b ∈ c'.prot → ∀ {s₅ : Shared}, Tr (c'.W σ₂) h' (c'.W σ₂) s₅.heap → ∀ o, h'.get? b = some o → s₅.heap.get? b = some o := fun b hb s₅ tt o e => tt.keep b o (fun q => (S3.pr b hb).1 q) e
        have keepK : ∀ {s₅ : Shared}, Tr (c'.W σ₂) h' (c'.W σ₂) s₅.heap → Tr (keys σ₂) s.heap (keys σ₂) s₅.heap := fun tt => ⟨fun b o hb e => tt.keep b o (fun q => by
          rcases List.mem_cons.mp q with q | q
          · rw [show b = C from q, nsC] at e; cases e
          · exact hb q) (tK.keep b o hb e), fun b hb => .inl hb⟩
        cases b with
        | false =>
          rw [if_neg (by decide)]
          have hno := hb.2 rfl
          refine ⟨l.length + 1 - (k + 1), by lia, k + 1, rfl, hlt, hs₄.forget efr.symm hn0, Itc.keep _ _ _ hS' (fun b hb o e => out b (hRp b hb) t34 o e), ⟨Vs, pl'.at (out D hDp t34), ?_⟩, keepK t34, (rA.mono tR).mono (t34.app c'.prot)⟩
          rw [etake, hno]
          rw [show (none : Option V).toList = [] from rfl, List.append_nil]
          exact (rs.mono tR).mono (t34.app c'.prot)
        | true =>
          rw [if_pos rfl]
          obtain ⟨y, hy, hE⟩ := hb.1 rfl
          refine wpAny_mono (hE.run s₄ hs₄) (fun Y s₅ z => ?_) noE
          obtain ⟨u, σ₃, ⟨rfl, rfl⟩, hs₅, t₅, ru⟩ := z
          have t35 : Tr (c'.W σ₃) h' (c'.W σ₃) s₅.heap := t34.trans (trW t₅)
          have pl5 : s₅.heap.PlainList D Vs.toArray := pl'.at (out D hDp t35)
          have hz : Vs.toArray.size ≤ sizeLine := by
            rw [sizeLine_eq]
            have e1 := rs.length
            have e2 : ((l.take k).filterMap fy).length ≤ (l.take k).length := List.length_filterMap_le _ _
            have e3 : (l.take k).length ≤ l.length := by rw [List.length_take]; lia
            simp; lia
          refine wpAny_list_append_plain pl5 (fun h6 pl6 sb6 => ?_) hz
          have DG : c.G.get? D = none := by
            cases e : c.G.get? D with
            | none => rfl
            | some o => rw [hs.old _ _ e] at nsD; cases nsD
          have k6 : ∀ b o, b ∉ [D] → s₅.heap.get? b = some o → h6.get? b = some o := fun b o hb e => (sb6.2 b fun q => hb (q ▸ List.mem_singleton.mpr rfl)).trans e
          have S6 : St c' fr₂ σ₃ { s₅ with heap := h6, toks := s₅.toks } := hs₅.away (R := [D]) (tk := s₅.toks) (fun b hb => by rw [List.mem_singleton.mp hb]; exact hDp) (fun b hb => by rw [List.mem_singleton.mp hb]; exact DG) k6
            (fun b hb => by rw [List.mem_singleton.mp hb]; obtain ⟨_, e⟩ := pl6; exact ⟨_, e⟩)
          have t6 : Tr (c'.P σ₃) s₅.heap (c'.P σ₃) h6 := .of_keeps fun b o hb e => k6 b o (fun q => hb (List.mem_append_left _ (by rw [List.mem_singleton.mp q]; exact hDp))) e
          refine ⟨l.length + 1 - (k + 1), by lia, k + 1, rfl, hlt, S6.forget efr.symm hn0, Itc.keep _ _ _ hS' (fun b hb o e => k6 b o (fun q => DnR (List.mem_singleton.mp q ▸ hb)) (out b (hRp b hb) t35 o e)), ⟨Vs ++ [Y], by simpa using pl6, ?_⟩, ?_, ((rA.mono tR).mono (t35.app c'.prot)).mono t6⟩
          · rw [etake, hy]
            exact (((rs.mono tR).mono (t35.app c'.prot)).mono t6).append (.cons (ru.mono t6) .nil)
          · exact ⟨fun b o hb e => k6 b o (fun q => by rw [List.mem_singleton.mp q, nsD] at e; cases e) ((keepK t35).keep b o hb e), fun b hb => .inl hb⟩
      · cases r with
        | none => exact hr.elim
        | some a => exact wpAny_mono hr (fun _ _ h => h) noE
    | none =>
      have hk' : k = l.length := Nat.le_antisymm hle (by simpa using hx)
      subst hk'
      refine wpAny_mono (Itc.done fr0 σ s' (fun s₂ => compPost (model c.prog c.w) c.A E₂ none Q (.ref D) C (.ok .next) s₂) hvw hs' rA (by rw [List.length_map]; exact hSk) ?_) (fun r s₁ hr => ?_) noE
      · intro h' tk kR
        obtain ⟨mC, hmC, _⟩ := hs'.ns
        refine ⟨mC, hmC.at' fun o e => kR C o CnR e, fun h'' sb => ?_⟩
        rw [List.take_length] at rs
        have kk : ∀ b o, b ∉ R → b ≠ C → s'.heap.get? b = some o → h''.get? b = some o := fun b o h1 h2 e => (sb.2 b h2).trans (kR b o h1 e)
        have tF : Tr (c'.P σ) s'.heap (c.P ((D, O.list (l.filterMap fy)) :: σ)) h'' := ⟨fun b o hb e => kk b o (fun q => hb (List.mem_append_left _ (hRp b q))) (fun q => hb (List.mem_append_right _ (q ▸ List.mem_cons_self ..))) e, fun b hb => .inl (by
          have hb' : b ∈ c.prot ++ (c.env.locals :: D :: keys σ) := hb
          show b ∈ ((D :: R) ++ (c.env.locals :: c.prot)) ++ (C :: keys σ)
          rcases List.mem_append.mp hb' with q | q
          · exact List.mem_append_left _ (List.mem_append_right _ (List.mem_cons_of_mem _ q))
          · rcases List.mem_cons.mp q with rfl | q
            · exact List.mem_append_left _ (List.mem_append_right _ (List.mem_cons_self ..))
            · rcases List.mem_cons.mp q with rfl | q
              · exact List.mem_append_left _ (List.mem_append_left _ (List.mem_cons_self ..))
              · exact List.mem_append_right _ (List.mem_cons_of_mem _ q))⟩
        have tT : Tr (keys σ) s.heap (keys ((D, O.list (l.filterMap fy)) :: σ)) h'' := ⟨fun b o hb e => kk b o (fun q => by rw [hR b q] at e; cases e) (fun q => by have e2 : s.heap.get? C = some o := q ▸ e; rw [nsC] at e2; cases e2) (t.keep b o hb e), fun b hb => by
          have hb' : b ∈ D :: keys σ := hb
          rcases List.mem_cons.mp hb' with rfl | q
          · exact .inr nsD
          · exact .inl q⟩
        refine done D _ nsD (hs.move (by obtain ⟨h, t, e⟩ := hs'.sh; rw [e]; exact ⟨_, _, rfl⟩) tT (fun p hp => ?_) ?_) tT
        · rcases List.mem_cons.mp hp with rfl | hp
          · exact ⟨Vs, pl.at (fun o e => kk D o DnR CneD.symm e), rs.mono tF⟩
          · have hpk : p.1 ∈ keys σ := List.mem_map.mpr ⟨p, hp, rfl⟩
            exact (hs'.own p hp).mono tF fun o e => kk _ o (fun q => (hs'.pr _ (hRp _ q)).1 (List.mem_cons_of_mem _ hpk)) (fun q => CnK (q ▸ hpk)) e
        · show (c.env.locals :: D :: keys σ).Nodup
          have nd := hs.nd
          unfold Act.W at nd
          refine List.nodup_cons.mpr ⟨fun q => ?_, List.nodup_cons.mpr ⟨DnK, (List.nodup_cons.mp nd).2⟩⟩
          rcases List.mem_cons.mp q with q | q
          · exact DnL q.symm
          · exact hLk q
      · cases r with
        | none => exact hr
        | some a => exact hr.elim
  exact codeAny_compStart_list loop (hself _ _ _ (Itc.keep _ _ _ hS fun b hb o e => up2 _ _ (up1 _ _ e)) loop)
end

open PySem PySem.W PySem.Spec PySem.Calls PyProof.Rows

section
variable {c : Act} {fr : Frame} {σ : Store} {K : Frag} {mg : Str → Option Value} {mb : MB} {E : Env} {n : Nat}

theorem ev_frozen {e : Expr} {vs : List V} {Φ : V → Store → Prop} (h : Ev c e fr σ fun v σ' => ∃ a, v = .raw (.ref a) ∧ σ' = (a, O.list vs) :: σ) (hΦ : Φ (.lst vs) σ) : Ev c e fr σ Φ := Tri.mk fun s hs => wpAny_mono (h.run s hs) (fun A s₁ x => by
  obtain ⟨v, σ', ⟨a, rfl, rfl⟩, hs₁, t₁, r⟩ := x
  cases r
  obtain ⟨Vs, pl, rs⟩ := hs₁.own _ (List.mem_cons_self ..)
  have le : Less σ ((a, O.list vs) :: σ) := List.sublist_cons_self _ _
  obtain ⟨hs₂, _⟩ := hs₁.less le
  have t2 : Tr (keys ((a, O.list vs) :: σ)) s₁.heap (keys σ) s₁.heap := ⟨fun _ _ _ e => e, fun b hb => .inl (List.mem_cons_of_mem _ hb)⟩
  have na : a ∉ c.P σ := fun q => by
    have nd := hs₁.nd
    have nd' : (c.env.locals :: a :: keys σ).Nodup := nd
    rcases List.mem_append.mp q with q | q
    · exact (hs₁.pr a q).1 (List.mem_cons_of_mem _ (List.mem_cons_self ..))
    · rcases List.mem_cons.mp q with q | q
      · exact (List.nodup_cons.mp nd').1 (q ▸ List.mem_cons_self ..)
      · exact (List.nodup_cons.mp (List.nodup_cons.mp nd').2).1 q
  exact ⟨_, σ, hΦ, hs₂, t₁.trans t2, .lst pl na (rs.mono (Act.P_tr t2))⟩) fun _ _ e => e

structure CompOk (scope : Scope) (cl : List (Str × Addr)) (E : Env) (iter : Expr) (fr0 : Frame) : Prop where
  clos : closureFor scope E = pure cl
  iter : ∀ x, foldedSetIterable iter E x = pure x
  kind : scope.kind = .function
  names : ∀ y ∈ scope.names, y.2 = .local → scope.names.lookup y.1 = some .local
  cell : ∀ y ∈ scope.names, y.2 ≠ .cell
  none : ∀ p ∈ fr0, p.2 = none
  nd : (fr0.map (·.1)).Nodup
  kinds : ∀ C, ∀ p ∈ fr0, (compEnvC scope cl C E).kindOf p.1 = some .local
def CompTurn {α : Type} (K : Frag) (mg : Str → Option Value) (mb : MB) (E : Env) (n : Nat) (G : Heap) (scope : Scope) (cl : List (Str × Addr)) (fr0 : Frame) (σ : Store) (target elt : Expr) (ifs : List Expr) (l : List α) (fx : α → V) (fy : α → Option V) : Prop :=
  ∀ C c', Fact K mg mb (compEnvC scope cl C E) n c' → c'.G = G → ∀ a ∈ l, Asg c' target (fx a) fr0 σ fun fr₂ σ₂ => σ₂ = σ ∧ fr₂.map (·.1) = fr0.map (·.1) ∧ TeL c' ifs fr₂ σ fun b => IfB b (∃ y, fy a = some y ∧ Ev c' elt fr₂ σ fun u σ₃ => u = y ∧ σ₃ = σ) (fy a = none)

theorem ev_comp {α : Type} (F : Fact K mg mb E n c) {target elt iter : Expr} {ifs : List Expr} {scope : Scope} {cl : List (Str × Addr)} {pos : Pos} {v : V} {l : List α} {fx : α → V} {fy : α → Option V} {fr0 : Frame} {Φ : V → Store → Prop}
    (he : Ev c iter fr σ fun v' σ₁ => v' = v ∧ σ₁ = σ) {xs : List V} (src : Src σ v xs) (hxs : xs = l.map fx) (ok : CompOk scope cl E iter fr0) (hlen : l.length < 100000)
    (turn : CompTurn K mg mb E n c.G scope cl fr0 σ target elt ifs l fx fy) (h : ∀ D, Φ (.raw (.ref D)) ((D, .list (l.filterMap fy)) :: σ)) :
    Ev c (.ListComp elt [⟨target, iter, ifs, 0⟩] scope pos) fr σ Φ := Tri.mk fun s hs => by
  have eE := F.env
  rw [eval_ListComp]
  refine wpAny_comprehension_free (use := none) rfl (by rw [eE]; exact ok.iter) (by rw [eE]; exact ok.clos) ok.kind ok.names ?_
  show wpAny _ _ (eval iter c.env) _ _ s
  refine wpAny_mono (he.run s hs) (fun A s₁ x => ?_) fun _ _ e => e
  obtain ⟨v', σ₁, ⟨rfl, rfl⟩, hs₁, t₁, rv⟩ := x
  have kinds : ∀ C, ∀ p ∈ fr0, (compEnvC scope cl C c.env).kindOf p.1 = some .local := by rw [eE]; exact ok.kinds
  have fin : ∀ D (s' : Shared), s₁.heap.get? D = none → St c fr ((D, .list (l.filterMap fy)) :: σ₁) s' → Tr (keys σ₁) s₁.heap (keys ((D, O.list (l.filterMap fy)) :: σ₁)) s'.heap → Post VRel c fr σ₁ s.heap Φ (.ref D) s' :=
    fun D s' _ hs' t' => ⟨_, _, h D, hs', t₁.trans t', .raw _⟩
  cases src with
  | view w =>
    subst hxs
    obtain ⟨a, Vs, rfl, ls, r⟩ := w.at hs₁ rv
    refine wpAny_pyIter_list ls ?_
    exact comp_core F hs₁ (R := [s₁.heap.objs.size]) (S := fun k h => h.IsListIter s₁.heap.objs.size a k) (vw := fun σ => View σ v' (l.map fx)) rv fresh1 (fun b o e => Heap.get?_push_of_some _ e) (sameBut_exists (h := s₁.heap) (Heap.get?_push_size _ rfl))
      (fun c' h1 h2 h3 h4 => itr_view (by rw [h1]; exact F.hh) (h4 _ (List.mem_singleton.mpr rfl))) ⟨_, Heap.get?_push_size _ rfl, rfl, rfl⟩ (fun _ _ _ st hQ => wpAny_pyIter_listiter st hQ) w fr0 ok.none ok.nd kinds ok.cell ok.kind hlen turn fin
  | @rng a b st hsm hnn =>
    cases rv with
    | rng hr hP =>
      refine wpAny_pyIter_range hr hsm ?_
      have e := Heap.get?_push_size s₁.heap (o := { cls := Value.type "range_iterator", data := Data.fields #[rawInt a, rawInt (Builtin.Range.rangeSize a b st), rawInt st] }) rfl
      have e0 : IsRangeIter (s₁.heap.push { cls := Value.type "range_iterator", data := Data.fields #[rawInt a, rawInt (Builtin.Range.rangeSize a b st), rawInt st] }) s₁.heap.objs.size (a + ((0 : Nat) : Int) * st) (Builtin.Range.rangeSize a b st - ((0 : Nat) : Int)) st := by simpa [IsRangeIter] using e
      exact comp_core F hs₁ (R := [s₁.heap.objs.size]) (S := fun k h => IsRangeIter h s₁.heap.objs.size (a + (k : Int) * st) (Builtin.Range.rangeSize a b st - k) st) (vw := fun _ => True) (.rng hr hP) fresh1 (fun b o e => Heap.get?_push_of_some _ e) (sameBut_exists (h := s₁.heap) (Heap.get?_push_size _ rfl))
        (fun c' h1 h2 h3 h4 => by rw [← hxs]; exact itr_rng (by rw [h1]; exact F.hh) (h4 _ (List.mem_singleton.mpr rfl)) hnn) e0 (fun _ _ _ st hQ => wpAny_pyIter_rangeiter st hQ) trivial fr0 ok.none ok.nd kinds ok.cell ok.kind hlen turn fin
  | @str x ha =>
    cases rv with
    | str _ u =>
    refine wpAny_pyIter_ascii ha ?_
    exact comp_core F hs₁ (R := [s₁.heap.objs.size]) (S := fun k h => h.IsStrIter s₁.heap.objs.size "str_ascii_iterator" x u k) (vw := fun _ => True) (.str _ u) fresh1 (fun b o e => Heap.get?_push_of_some _ e) (sameBut_exists (h := s₁.heap) (Heap.get?_push_size _ rfl))
      (fun c' h1 h2 h3 h4 => by rw [← hxs]; exact itr_str (by rw [h1]; exact F.hh) (h4 _ (List.mem_singleton.mpr rfl))) ⟨_, Heap.get?_push_size _ rfl, rfl, rfl⟩ (fun _ _ _ st hQ => wpAny_pyIter_striter_ascii st hQ) trivial fr0 ok.none ok.nd kinds ok.cell ok.kind hlen turn fin

/-- while, by a measure -/
theorem ex_while {test : Expr} {body rest : List Stmt} {pos : Pos} {Φ : Fl → Frame → Store → Prop} (Inv : Nat → Frame → Store → Prop) (B : Frame → Store → Prop) (m0 : Nat) (h0 : Inv m0 fr σ)
    (turn : ∀ m fr' σ', Inv m fr' σ' → Te c test fr' σ' fun b σ₁ => IfB b (Ex c body fr' σ₁ (LoopEnd (Then c rest Φ) (fun fr σ => ∃ m', m' < m ∧ Inv m' fr σ) B)) (Ex c rest fr' σ₁ Φ))
    (brk : ∀ fr' σ', B fr' σ' → Ex c rest fr' σ' Φ) : Ex c (.While test body [] pos :: rest) fr σ Φ := ex_cons (.mk fun s hs => by
  have noE : ∀ {E₃ : Value → Shared → Prop} (e : Value) (s₂ : Shared), NoE e s₂ → E₃ e s₂ := fun _ _ h => h.elim
  refine wpAny_While (codeAny_whileLoop (fun m s' => ∃ fr' σ', Inv m fr' σ' ∧ St c fr' σ' s' ∧ Tr (c.W σ) s.heap (c.W σ') s'.heap) ?_ m0 ⟨fr, σ, h0, hs, Tr.refl _ _⟩)
  rintro m s' ⟨fr', σ', hI, hs', t⟩
  refine wpAny_mono ((turn m fr' σ' hI).run s' hs') (fun b s₁ x => ?_) noE
  obtain ⟨b', σ₁, hb, hs₁, t₁, rb⟩ := x
  cases rb
  have tt := t.trans (trW t₁)
  cases b with
  | true =>
    rw [if_pos rfl]
    refine wpAny_mono ((hb.1 rfl).run s₁ hs₁) (fun f s₂ y => ?_) noE
    obtain ⟨fl, fr₂, σ₂, hend, hs₂, t₂, rel⟩ := y
    have next : (∃ σ', Less σ' σ₂ ∧ ∃ m', m' < m ∧ Inv m' fr₂ σ') → ∃ m', m' < m ∧ ∃ fr' σ', Inv m' fr' σ' ∧ St c fr' σ' s₂ ∧ Tr (c.W σ) s.heap (c.W σ') s₂.heap := by
      rintro ⟨σ₃, hl, m', hm, hI'⟩
      obtain ⟨hs₃, t₃⟩ := hs₂.less hl
      exact ⟨m', hm, fr₂, σ₃, hI', hs₃, (tt.trans t₂).trans t₃⟩
    cases rel with
    | next => exact next hend
    | cont => exact next hend
    | brk => exact ⟨.next, fr₂, σ₂, brk _ _ hend, hs₂, tt.trans t₂, .next⟩
    | ret r => exact ⟨.ret _, fr₂, σ₂, hend, hs₂, tt.trans t₂, .ret r⟩
  | false =>
    rw [if_neg (by decide)]
    exact wpAny_execs_nil ⟨.next, fr', σ₁, hb.2 rfl, hs₁, tt, .next⟩)
end

open PySem PySem.W PySem.Spec PySem.Calls PyProof.Rows

section
variable {c : Act} {fr : Frame} {σ : Store} {K : Frag} {mg : Str → Option Value} {mb : MB} {E : Env} {n : Nat}

def enumV (i : Nat) : List V → List V
  | [] => []
  | v :: r => .tup [.int i, v] :: enumV (i + 1) r
theorem enumV_get : ∀ (vs : List V) (i k : Nat), (enumV i vs)[k]? = (vs[k]?).map fun v => V.tup [.int ((i + k : Nat) : Int), v]
  | [], _, _ => by simp [enumV]
  | v :: r, i, 0 => by simp [enumV]
  | v :: r, i, k + 1 => by simp only [enumV, List.getElem?_cons_succ]; rw [enumV_get r (i + 1) k]; simp [Nat.add_assoc, Nat.add_comm 1 k]
theorem enumV_len : ∀ (vs : List V) (i : Nat), (enumV i vs).length = vs.length
  | [], _ => rfl
  | _ :: r, i => by simp [enumV, enumV_len r (i + 1)]

theorem itr_enum (hh : c.A.handled = none) {elts : List Expr} {k1 : Nat} {tp : Pos} {vs : List V} {l e it : Addr} (hne : e ≠ it) (he : e ∈ c.prot) (hi : it ∈ c.prot) :
    Itr c (.Tuple elts k1 tp) (.lst vs) (.ref l) e [e, it] (enumV 0 vs) (fun _ => True) (fun k h => (∃ old, IsEnum h e it k old) ∧ h.IsListIter it l k) where
  keep := fun k h h' x q => by
    obtain ⟨⟨old, x⟩, y⟩ := x
    refine ⟨⟨old, ?_⟩, y.at fun o eo => q it (by simp) o eo⟩
    exact q e (by simp) _ x
  item := fun k x fr σ s Q hx hw hs ra hk hQ => by
    obtain ⟨⟨old, hen⟩, hit⟩ := hk
    cases ra with
    | @lst _ _ Vs pl nP rs =>
      rw [enumV_get] at hx
      cases hv : vs[k]? with
      | none => rw [hv] at hx; cases hx
      | some v =>
        rw [hv] at hx
        cases hx
        obtain ⟨X, ex, rx⟩ := rs.get hv
        refine wpAny_pyNext_enum_item hen hit pl.isList (by simpa using ex) hne fun h' ho hit' et esz kp => ?_
        have kR : ∀ b o, b ∉ [e, it] → s.heap.get? b = some o → h'.get? b = some o := fun b o hb eo => kp b o (fun q => hb (by simp [q])) (fun q => hb (by simp [q])) eo
        refine wpAny_letOwnedTupleGo_enum ho fun h'' hen' sb => ?_
        have k2 : ∀ b o, b ∉ [e, it] → s.heap.get? b = some o → h''.get? b = some o := fun b o hb eo => (sb.2 b (fun q => hb (by simp [q]))).trans (kR b o hb eo)
        have tP : Tr (c.P σ) s.heap (c.P σ) h'' := .of_keeps fun b o hb eo => k2 b o (fun q => hb (List.mem_append_left _ (by simp at q; rcases q with rfl | rfl <;> assumption))) eo
        have nT : s.heap.objs.size ∉ c.P σ := hs.freshP
        have eT : (s.heap.objs.size : Addr) ≠ e := fun q => nT (List.mem_append_left _ (q ▸ he))
        refine hQ _ h'' _ (.tup ⟨_, (sb.2 _ eT).trans et, rfl, _, rfl⟩ nT ?_) ⟨⟨_, hen'⟩, hit'.at fun o eo => (sb.2 it hne.symm).trans eo⟩ k2 fun b hb => ?_
        · have e0 : ((0 + k : Nat) : Int) = (k : Int) := by simp
          rw [e0]
          exact .cons (.int _ _) (.cons (rx.mono tP) .nil)
        · simp at hb
          rcases hb with rfl | rfl
          · exact ⟨_, hen'⟩
          · obtain ⟨o, eo, _⟩ := hit'
            exact ⟨o, (sb.2 _ hne.symm).trans eo⟩
  done := fun fr σ s Q hw hs ra hk hQ => by
    obtain ⟨⟨old, hen⟩, hit⟩ := hk
    rw [enumV_len] at hen hit
    cases ra with
    | @lst _ _ Vs pl nP rs =>
      refine wpAny_pyNext_enum_end hh hen hit pl.isList (by simp [rs.length]) fun h' ex => hQ h' s.toks fun b o hb eo => ex b o (fun q => hb (by simp [q])) eo

theorem ex_for_enum (F : Fact K mg mb E n c) {elts : List Expr} {k1 : Nat} {tp : Pos} {fe iter : Expr} {cp : Pos} {body rest : List Stmt} {pos : Pos} {vs : List V} {Φ : Fl → Frame → Store → Prop} (Inv : Nat → Frame → Store → Prop) (B : Frame → Store → Prop)
    (hf : Ev c fe fr σ fun v' σ₁ => v' = .raw (.type "enumerate") ∧ σ₁ = σ) (he : EvL c cp [iter] fr σ fun vs' σ₁ => vs' = [.lst vs] ∧ σ₁ = σ) (h0 : Inv 0 fr σ)
    (turn : ∀ c', Fact K mg mb E n c' → ∀ k x fr' σ', (enumV 0 vs)[k]? = some x → Inv k fr' σ' → Asg c' (.Tuple elts k1 tp) x fr' σ' fun fr₂ σ₂ => Ex c' body fr₂ σ₂ (LoopEnd (Then c rest Φ) (Inv (k + 1)) B))
    (done : ∀ fr' σ', Inv vs.length fr' σ' → Ex c rest fr' σ' Φ) (brk : ∀ fr' σ', B fr' σ' → Ex c rest fr' σ' Φ)
    (hsf : ∀ x, foldedSetIterable (.Call fe [iter] [] cp) c.env x = pure x := by intro _; with_unfolding_all rfl)
    (h0' : eval (Expr.Call fe [iter] [] cp) c.env = (do let f ← eval fe c.env; callWith cp f [] (backTo cp (starEach [iter] c.env)) (backToKw cp (keywordEach [] c.env))) := by with_unfolding_all rfl)
    (h1 : starEach [iter] c.env = (false, eval iter c.env) :: starEach [] c.env := by with_unfolding_all rfl) (h2 : (List.any (backTo cp (starEach [] c.env)) fun x => x.fst) = false := by with_unfolding_all rfl) :
    Ex c (.For (.Tuple elts k1 tp) (.Call fe [iter] [] cp) body [] pos :: rest) fr σ Φ :=
  ex_cons (.mk fun s hst => wpAny_For (PyProof.Rows.Call_ (wpAny_mono (hf.run s hst) (fun A s₁ x => by
    obtain ⟨v', σ₁, ⟨rfl, rfl⟩, hs₁, t₁, rf⟩ := x
    cases rf
    refine Pv.callWith_type1 (wpAny_mono (he.run s₁ hs₁) (fun As s₂ y => ?_) fun _ _ e => e.elim) h1 h2
    obtain ⟨vs', σ₂, ⟨rfl, rfl⟩, hs₂, t₂, rr⟩ := y
    cases rr with
    | cons r0 r =>
      cases r
      cases r0 with
      | @lst l _ Vs pl nP rs =>
        refine call_enumerate_list pl.isList fun h' hen hit hsz kp => ?_
        refine wpAny_pyIter_enum hen ?_
        have hne : (s₂.heap.objs.size + 1 : Addr) ≠ s₂.heap.objs.size := Nat.succ_ne_self _
        have nn : s₂.heap.get? (s₂.heap.objs.size + 1) = none := by
          cases q : s₂.heap.get? (s₂.heap.objs.size + 1) with
          | none => rfl
          | some o => exact absurd (Heap.lt_size q) (Nat.not_lt.mpr (Nat.le_succ _))
        refine codeAny_mono (for_core (E₂ := cameBackBy (model c.prog c.w) c.A c.env NoE) (Φ := Then c rest Φ) F hs₂ (.lst pl nP rs) (R := [s₂.heap.objs.size + 1, s₂.heap.objs.size]) (fun b hb => ?_) kp (fun b hb => ?_)
          (itr_enum (c := { c with prot := [s₂.heap.objs.size + 1, s₂.heap.objs.size] ++ c.prot }) F.hh hne (by simp) (by simp)) ⟨⟨_, hen⟩, hit⟩ Inv B h0 (fun _ _ _ _ => trivial) turn (fun fr' σ' hI => done fr' σ' (by rw [enumV_len] at hI; exact hI)) brk) fun r s' hr => ?_
        · simp at hb
          rcases hb with rfl | rfl
          · exact nn
          · exact size_none _
        · simp at hb
          rcases hb with rfl | rfl
          · exact ⟨_, hen⟩
          · obtain ⟨o, eo, _⟩ := hit
            exact ⟨o, eo⟩
        · cases r with
          | ok f => exact PostS.trans (PostS.trans hr (trW t₂)) (trW t₁)
          | error e => exact hr) fun _ _ e => e.elim) h0') hsf)
end

open PySem PySem.W PySem.Spec PySem.Calls PyProof.Rows

def frameOf (names : List Str) (vs : List V) (rest : List Str) : Frame := (names.zip vs).map (fun p => (p.1, some p.2)) ++ rest.map fun x => (x, none)
def cellsN : Addr → List Str → Store
  | _, [] => []
  | a, _ :: r => (a, .cell none) :: cellsN (a + 1) r
def CellsAt (l : List (Str × Addr)) : List Str → Addr → Prop
  | [], _ => True
  | x :: r, a => l.lookup x = some a ∧ CellsAt l r (a + 1)
theorem cellsN_mem {l : List (Str × Addr)} : ∀ {cs : List Str} {a : Addr}, CellsAt l cs a → ∀ p ∈ cellsN a cs, ∃ x o, l.lookup x = some p.1 ∧ p.2 = .cell o ∧ o = none
  | [], _, _, p, hp => by cases hp
  | x :: r, a, h, p, hp => by
    rcases List.mem_cons.mp hp with rfl | hp
    · exact ⟨x, none, h.1, rfl, rfl⟩
    · exact cellsN_mem h.2 p hp
theorem cellsN_ge : ∀ (cs : List Str) (a : Addr), ∀ b ∈ keys (cellsN a cs), a ≤ b
  | [], _, b, hb => by cases hb
  | _ :: r, a, b, hb => by
    rcases List.mem_cons.mp hb with rfl | hb
    · exact Nat.le_refl _
    · exact Nat.le_of_succ_le (cellsN_ge r (a + 1) b hb)
theorem cellsN_nodup : ∀ (cs : List Str) (a : Addr), (keys (cellsN a cs)).Nodup
  | [], _ => List.nodup_nil
  | _ :: r, a => List.nodup_cons.mpr ⟨fun h => absurd (cellsN_ge r (a + 1) a h) (Nat.not_succ_le_self a), cellsN_nodup r (a + 1)⟩
theorem frameOf_names {names : List Str} {vs : List V} {rest : List Str} (h : names.length = vs.length) : (frameOf names vs rest).map (·.1) = names ++ rest := by
  unfold frameOf
  rw [List.map_append, List.map_map, List.map_map]
  have e1 : (names.zip vs).map ((·.1) ∘ fun p => (p.1, some p.2)) = names := by
    rw [show ((names.zip vs).map ((·.1) ∘ fun p => (p.1, some p.2))) = (names.zip vs).map Prod.fst from rfl, List.map_fst_zip (by omega)]
  have e2 : rest.map ((·.1) ∘ fun x => ((x, none) : Str × Option V)) = rest := by
    rw [show ((·.1) ∘ fun x => ((x, none) : Str × Option V)) = (id : Str → Str) from rfl, List.map_id]
  rw [e1, e2]

section
variable {c : Act} {fr : Frame} {σ : Store} {K : Frag} {mg : Str → Option Value} {mb : MB} {E : Env} {n : Nat}

theorem cd_fn {f : Addr} {o : Obj} {fd : FuncData} {qual : Str} {body : List Stmt} {scope : Scope} {cdv : Value} {vs : List V} {Φ : V → Store → Prop} (names rest cs : List Str) (fr0 : Frame) (σc : Addr → Store) (F : Fact K mg mb E (n + 1) c)
    (look : K.lookup f = some o) (dat : o.data = .func fd) (bd : fd.body = .stmts body) (q : fd.qualname = qual) (sc : fd.scope = scope) (cd : fd.code = cdv) (gl : fd.globals = mainGlobals) (bl : fd.builtins = builtinsNs) (cl : fd.closure = [])
    (code : codeIn K cdv qual = true) (co : scope.isCoroutine = false) (gen : scope.isGenerator = false) (kind : scope.kind = .function)
    (hbind : ∀ As, As.length = names.length → bindArgs fd ⟨As, []⟩ = pure (names.zip As)) (hlen : names.length = vs.length) (hnd : (names ++ rest).Nodup)
    (hloc : ((names ++ rest).all fun x => scope.names.lookup x == some .local) = true) (hcs : ∀ L, CellsAt (cellsFrom (L + 1) scope.names []) cs (L + 1))
    (hfr : fr0 = frameOf names vs rest) (hσ : ∀ L, σc L = cellsN (L + 1) cs ++ σ)
    (h : ∀ L c', Fact K mg mb (envOfC qual scope L f cdv) n c' → Ex c' body fr0 (σc L) fun fl _ σ' => ∃ v σ'', RetV fl v ∧ Less σ'' σ' ∧ Φ v σ'') : CdK c (.ref f) vs [] [] fr σ Φ := by
  have loc : ∀ x ∈ names ++ rest, scope.names.lookup x = some .local := fun x hx => by simpa using List.all_eq_true.mp hloc x hx
  have D : DefIs K f qual body scope cdv fd := ⟨⟨o.cls, o.dict, o.slots, by rw [← dat]; exact look⟩, bd, q, sc, cd, gl, bl, cl, code, co, gen, kind⟩
  refine cd_def F D names fr0 (fun L => cellsN (L + 1) cs) hbind (List.nodup_append.mp hnd).1 hlen (fun x hx => .inl (loc x (List.mem_append_left _ hx))) (fun x v hv => ?_) (fun p hp => ?_) ?_ (fun L p hp => ?_) (fun L => ?_) fun L c' F' => hσ L ▸ h L c' F'
  · rw [hfr] at hv
    unfold frameOf at hv
    rcases List.mem_append.mp hv with hv | hv
    · obtain ⟨q, hq, e⟩ := List.mem_map.mp hv
      cases e; exact hq
    · obtain ⟨q, hq, e⟩ := List.mem_map.mp hv
      cases e
  · have hp' : p.1 ∈ fr0.map (·.1) := List.mem_map.mpr ⟨p, hp, rfl⟩
    rw [hfr, frameOf_names hlen] at hp'
    exact loc _ hp'
  · rw [hfr, frameOf_names hlen]; exact hnd
  · obtain ⟨x, o, h1, h2, h3⟩ := cellsN_mem (hcs L) p hp
    exact ⟨x, o, h1, h2, .inl h3⟩
  · exact cellsN_nodup cs (L + 1)
theorem cl_fn {f : Addr} {o : Obj} {fd : FuncData} {qual : Str} {body : List Stmt} {scope : Scope} {cdv : Value} {vs : List V} {Φ : V → Store → Prop} (names rest cs : List Str) (fr0 : Frame) (σc : Addr → Store) (F : Fact K mg mb E (n + 1) c)
    (look : K.lookup f = some o) (dat : o.data = .func fd) (bd : fd.body = .stmts body) (q : fd.qualname = qual) (sc : fd.scope = scope) (cd : fd.code = cdv) (gl : fd.globals = mainGlobals) (bl : fd.builtins = builtinsNs) (cl : fd.closure = [])
    (code : codeIn K cdv qual = true) (co : scope.isCoroutine = false) (gen : scope.isGenerator = false) (kind : scope.kind = .function)
    (hbind : ∀ As, As.length = names.length → bindArgs fd ⟨As, []⟩ = pure (names.zip As)) (hlen : names.length = vs.length) (hnd : (names ++ rest).Nodup)
    (hloc : ((names ++ rest).all fun x => scope.names.lookup x == some .local) = true) (hcs : ∀ L, CellsAt (cellsFrom (L + 1) scope.names []) cs (L + 1))
    (hfr : fr0 = frameOf names vs rest) (hσ : ∀ L, σc L = cellsN (L + 1) cs ++ σ)
    (h : ∀ L c', Fact K mg mb (envOfC qual scope L f cdv) n c' → Ex c' body fr0 (σc L) fun fl _ σ' => ∃ v σ'', RetV fl v ∧ Less σ'' σ' ∧ Φ v σ'') : Cl c (.ref f) vs fr σ Φ :=
  cl_of (CdK.cl (cd_fn names rest cs fr0 σc F look dat bd q sc cd gl bl cl code co gen kind hbind hlen hnd hloc hcs hfr hσ h))
end

open PySem PySem.W PySem.Spec PySem.Calls PyProof.Rows

section
variable {c : Act} {fr : Frame} {σ : Store} {Φ : V → Store → Prop} {K : Frag} {mg : Str → Option Value} {mb : MB} {E : Env} {n : Nat}

theorem Fact.kfn (F : Fact K mg mb E n c) : c.env.scope.kind = .function := by rw [F.env]; exact F.fn
theorem ev_loc {x : Str} {pos : Pos} {v : V} (F : Fact K mg mb E n c) (hm : (x, some v) ∈ fr) (h : Φ v σ) (hd : (x == ("__debug__" : Str)) = false := by with_unfolding_all rfl) : Ev c (.Name x pos) fr σ Φ := ev_local F.kfn hm h hd
theorem ev_cel {x : Str} {pos : Pos} {v : V} {a : Addr} (F : Fact K mg mb E n c) (hx : E.kindOf x = some .cell) (hc : E.cells.lookup x = some a) (hm : (a, O.cell (some v)) ∈ σ) (h : Φ v σ)
    (hd : (x == ("__debug__" : Str)) = false := by with_unfolding_all rfl) : Ev c (.Name x pos) fr σ Φ := ev_cell F.kfn (by rw [F.env]; exact hx) (by rw [F.env]; exact hc) hm h hd
theorem ev_glo {x : Str} {pos : Pos} {a : Value} (F : Fact K mg mb E n c) (e : nsIn K mainGlobals x = some (some a)) (hx : E.kindOf x = some .globalImplicit) (h : Φ (.raw a) σ) (hd : (x == ("__debug__" : Str)) = false := by with_unfolding_all rfl) : Ev c (.Name x pos) fr σ Φ :=
  ev_glob F.kfn (by rw [F.env]; exact F.gl) (by rw [F.env]; exact hx) F.X F.g e (fun _ _ => .raw a) h hd
theorem ev_gloI {x : Str} {pos : Pos} {i : Int} {t : Tok} (F : Fact K mg mb E n c) (e : nsIn K mainGlobals x = some (some (.int i t))) (hx : E.kindOf x = some .globalImplicit) (h : Φ (.int i) σ) (hd : (x == ("__debug__" : Str)) = false := by with_unfolding_all rfl) : Ev c (.Name x pos) fr σ Φ :=
  ev_glob F.kfn (by rw [F.env]; exact F.gl) (by rw [F.env]; exact hx) F.X F.g e (fun _ _ => .int i t) h hd
theorem ev_blt {x : Str} {pos : Pos} {a : Value} (F : Fact K mg mb E n c) (e : nsIn K mainGlobals x = some none) (hv : bootBuiltins x = some a) (hx : E.kindOf x = some .globalImplicit) (h : Φ (.raw a) σ) (hn : x ≠ "__name__" := by decide +kernel) (hd : (x == ("__debug__" : Str)) = false := by with_unfolding_all rfl) : Ev c (.Name x pos) fr σ Φ :=
  ev_built F.kfn (by rw [F.env]; exact F.gl) (by rw [F.env]; exact F.bl) (by rw [F.env]; exact hx) F.X F.g F.b e ((F.bb x hn).trans hv) h hd
theorem asg_nam (F : Fact K mg mb E n c) {x : Str} {pos : Pos} {v : V} {fr' : Frame} {Φ : Frame → Store → Prop} (p : Put fr x v fr') (h : Φ fr' σ) : Asg c (.Name x pos) v fr σ Φ := asg_name F p h
theorem cw_type {T : String} : CW c (.type T) where
  more := fun pos first e rest Q s h1 h2 hw => by
    have hw' := wpAny_mono hw (fun vs s₁ q => q.2) fun _ _ e => e
    rw [h1] at hw' ⊢
    exact PyProof.Rows.callWith_type (by show (false || (backTo pos (starEach rest c.env)).any (·.1)) = false; rw [h2]; rfl) (Calls.evalArgs_plain hw')
  nil := fun pos first Q s hG hw => PyProof.Rows.callWith_type rfl (evalArgs_nil3 hw)

theorem ex_asg {t value : Expr} {pos : Pos} {rest : List Stmt} {Ψ : Fl → Frame → Store → Prop} (F : Fact K mg mb E n c) (h : Ev c value fr σ fun v σ₁ => Asg c t v fr σ₁ fun fr' σ' => Ex c rest fr' σ' Ψ)
    (h1 : swapsWithSole [t] value pos.line E = pure false := by with_unfolding_all rfl) (h2 : swappedStores [t] value E = pure none := by with_unfolding_all rfl) (h3 : ∀ e, (assignEach [t] e).map (·.2) = [assign t e] := by intro _; with_unfolding_all rfl) :
    Ex c (.Assign [t] value pos :: rest) fr σ Ψ := ex_assign h (by rw [F.env]; exact h1) (by rw [F.env]; exact h2) (h3 _)
theorem ex_exp {e : Expr} {pos : Pos} {rest : List Stmt} {Ψ : Fl → Frame → Store → Prop} (F : Fact K mg mb E n c) (h : Ev c e fr σ fun _ σ₁ => Ex c rest fr σ₁ Ψ) (h1 : interactive E = false := by with_unfolding_all rfl)
    (h2 : swapsWith e none pos.line E = pure false := by with_unfolding_all rfl) : Ex c (.Expr e pos :: rest) fr σ Ψ := ex_expr h (by rw [F.env]; exact h1) (by rw [F.env]; exact h2)
theorem ex_ifJ {test : Expr} {body orelse rest : List Stmt} {pos : Pos} {Ψ : Fl → Frame → Store → Prop} (J : Frame → Store → Prop)
    (h : Te c test fr σ fun b σ₁ => IfB b (Ex c body fr σ₁ fun fl fr' σ' => fl = .next ∧ J fr' σ') (Ex c orelse fr σ₁ fun fl fr' σ' => fl = .next ∧ J fr' σ'))
    (k : ∀ fr' σ', J fr' σ' → Ex c rest fr' σ' Ψ) : Ex c (.If test body orelse pos :: rest) fr σ Ψ :=
  ex_if (tri_mono h fun b σ₁ hb => ⟨fun e => ex_mono (hb.1 e) fun fl fr' σ' q => by obtain ⟨rfl, hj⟩ := q; exact k _ _ hj, fun e => ex_mono (hb.2 e) fun fl fr' σ' q => by obtain ⟨rfl, hj⟩ := q; exact k _ _ hj⟩)
theorem enumV_get0 (vs : List V) (k : Nat) : (enumV 0 vs)[k]? = (vs[k]?).map fun v => V.tup [.int (k : Int), v] := by rw [enumV_get, Nat.zero_add]
theorem hj_int {b : Bool} {x y : Int} : (bif b then V.int x else V.int y) = V.int (bif b then x else y) := by cases b <;> rfl
theorem hj_lst {b : Bool} {x y : List V} : (bif b then V.lst x else V.lst y) = V.lst (bif b then x else y) := by cases b <;> rfl
theorem hj_str {b : Bool} {x y : Str} : (bif b then V.str x else V.str y) = V.str (bif b then x else y) := by cases b <;> rfl
theorem hj_ivs {b : Bool} {x y : List Int} : (bif b then V.lst (ivs x) else V.lst (ivs y)) = V.lst (ivs (bif b then x else y)) := by cases b <;> rfl
theorem sub_dict {value slice : Expr} {a : Addr} {es : Array DictEntry} {m : Nat} {x : Str} {v : Value} {u : V} (F : Fact K mg mb E n c) (hl : K.lookup a = some ⟨.type "dict", none, .dict es m, #[]⟩) (hk : KeysLit mb.w.params es.toList)
    (e : nsIn K a x = some (some v)) (hr : ∀ h P, VRel h P u v) (h : Φ u σ) (hs : ∀ o k, subscripted slice false o k = operate [o, k] (getItem o k) := by intros; with_unfolding_all rfl) : Sub c value slice (.raw (.ref a)) (.str x) fr σ Φ := Sub.mk fun s A B hst ra rb => by
  cases ra; cases rb
  have hm := mapOf_K (prog := c.prog) (w := c.w) (F.X.keeps hst.old) hl (by rw [F.wd]; exact hk)
  exact tail_any hm.typeIs slot_dict_getitem.lookup (wpAny_getItem_of (strKind_is c.prog c.w x _) hm (find_K hl e) (Post.here u hst h (hr _ _))) (hs _ _)
def AsgC (c : Act) : List Expr → List V → Frame → Store → (Frame → Store → Prop) → Prop
  | [], [], fr, σ, Φ => Φ fr σ
  | t :: ts, v :: vs, fr, σ, Φ => Asg c t v fr σ fun fr' σ' => AsgC c ts vs fr' σ' Φ
  | _, _, _, _, _ => False
theorem asgc_nil {Φ : Frame → Store → Prop} (h : Φ fr σ) : AsgC c [] [] fr σ Φ := h
theorem asgc_cons {t : Expr} {ts : List Expr} {v : V} {vs : List V} {Φ : Frame → Store → Prop} (h : Asg c t v fr σ fun fr' σ' => AsgC c ts vs fr' σ' Φ) : AsgC c (t :: ts) (v :: vs) fr σ Φ := h
theorem AsgC.l {Φ : Frame → Store → Prop} : ∀ {ts : List Expr} {vs : List V} {fr : Frame} {σ : Store}, AsgC c ts vs fr σ Φ → AsgL c ts vs fr σ Φ
  | [], [], _, _, h => .nil h
  | _ :: _, _ :: _, _, _, h => .cons h fun _ _ h' => AsgC.l h'
theorem asg_tupC (F : Fact K mg mb E n c) {elts : List Expr} {k : Nat} {pos : Pos} {vs : List V} {Φ : Frame → Store → Prop} (x : AsgC c elts vs fr σ Φ) (hl : elts.length = vs.length := by with_unfolding_all rfl)
    (hq : assignEach elts c.env = elts.map fun t => (false, assign t c.env) := by with_unfolding_all rfl) : Asg c (.Tuple elts k pos) (.tup vs) fr σ Φ := asg_tup F x.l hl hq
theorem asg_lstC (F : Fact K mg mb E n c) {elts : List Expr} {k : Nat} {pos : Pos} {v : V} {vs : List V} {Φ : Frame → Store → Prop} (w : View σ v vs) (x : AsgC c elts vs fr σ Φ) (hl : elts.length = vs.length := by with_unfolding_all rfl)
    (hq : assignEach elts c.env = elts.map fun t => (false, assign t c.env) := by with_unfolding_all rfl) : Asg c (.Tuple elts k pos) v fr σ Φ := asg_lst F w x.l hl hq
theorem asg_cel (F : Fact K mg mb E n c) {x : Str} {pos : Pos} {a : Addr} {v : V} {σ' : Store} {w : Option V} {Φ : Frame → Store → Prop} (hx : E.kindOf x = some .cell) (hc : E.cells.lookup x = some a) (hm : (a, O.cell w) ∈ σ) (p : PutA σ a (.cell (some v)) σ') (h : Φ fr σ') :
    Asg c (.Name x pos) v fr σ Φ := asg_cell F hx hc hm p h
theorem iv_get {l : List Int} {i : Nat} (h : i < l.length) : (ivs l)[i]? = some (V.int (l.getD i 0)) := by
  unfold ivs
  rw [List.getElem?_map, List.getElem?_eq_getElem h, List.getD_eq_getElem?_getD, List.getElem?_eq_getElem h]; rfl
theorem iv_set {l : List Int} {i : Nat} {z : Int} : (ivs l).set i (V.int z) = ivs (l.set i z) := by
  unfold ivs; rw [List.map_set]
theorem iv_len (l : List Int) : (ivs l).length = l.length := by unfold ivs; rw [List.length_map]
theorem fm_some {α β : Type} (f : α → β) : ∀ l : List α, l.filterMap (fun x => some (f x)) = l.map f
  | [] => rfl
  | a :: r => by simp [fm_some f r]
end

open PySem PySem.W PySem.Spec PySem.Calls PyProof.Rows

/-- where one owned object stands -/
def At (f : O → Store) (I : Addr) : Prop := ∀ o, (I, o) ∈ f o ∧ ∀ o', PutA (f o) I o' (f o')
theorem At.head {I : Addr} {σ : Store} : At (fun o => (I, o) :: σ) I := fun o => ⟨List.mem_cons_self .., fun o' => .head⟩
theorem At.tail {I : Addr} {f : O → Store} {q : Addr × O} (h : At f I) : At (fun o => q :: f o) I := fun o => ⟨List.mem_cons_of_mem _ (h o).1, fun o' => .tail ((h o).2 o')⟩

theorem snocInd {P : List Int → Prop} (h0 : P []) (h1 : ∀ l b, P l → P (l ++ [b])) (l : List Int) : P l := by
  rw [← List.reverse_reverse l]
  induction l.reverse with
  | nil => exact h0
  | cons a r ih => rw [List.reverse_cons]; exact h1 _ _ ih
def vval (l : List Int) : Int := l.foldl (fun v b => v * 64 + b % 64) 0
theorem vval_snoc (l : List Int) (b : Int) : vval (l ++ [b]) = vval l * 64 + b % 64 := by unfold vval; rw [List.foldl_append]; rfl
theorem vval_pos (l : List Int) : 0 ≤ vval l := by
  refine snocInd (P := fun l => 0 ≤ vval l) (Int.le_refl 0) (fun l b ih => ?_) l
  rw [vval_snoc]; lia
theorem vval_lt (l : List Int) : vval l < 64 ^ l.length := by
  refine snocInd (P := fun l => vval l < 64 ^ l.length) (by decide) (fun l b ih => ?_) l
  rw [vval_snoc, List.length_append, List.length_singleton, Int.pow_succ]
  lia
/-- a symbol's octets: all but the last one bear the mark -/
structure IsVar (bs : List Int) : Prop where
  pos : 0 < bs.length
  le : bs.length ≤ 8
  more : ∀ i, i + 1 < bs.length → 64 ≤ bs.getD i 0 ∧ bs.getD i 0 < 128
  last : 0 ≤ bs.getD (bs.length - 1) 0 ∧ bs.getD (bs.length - 1) 0 < 64
theorem and64 (b : Int) (h0 : 0 ≤ b) (h1 : b < 128) : Builtin.bitAnd b 64 = if b < 64 then 0 else 64 := by
  obtain ⟨k, rfl⟩ := Int.eq_ofNat_of_zero_le h0
  have hk : k < 128 := by lia
  have key : ∀ j : Fin 128, Builtin.bitAnd ((j.val : Nat) : Int) 64 = if ((j.val : Nat) : Int) < 64 then 0 else 64 := by decide +kernel
  exact key ⟨k, hk⟩
theorem or_low (v r : Int) (hv : 0 ≤ v) (h0 : 0 ≤ r) (h1 : r < 64) : Builtin.bitOr (v * 2 ^ 6) r = v * 64 + r := by
  obtain ⟨k, rfl⟩ := Int.eq_ofNat_of_zero_le hv
  obtain ⟨j, rfl⟩ := Int.eq_ofNat_of_zero_le h0
  have hj : j < 2 ^ 6 := by lia
  have e : ((k : Int) * 2 ^ 6) = ((2 ^ 6 * k : Nat) : Int) := by push_cast; lia
  have e2 : Builtin.bitOr ((2 ^ 6 * k : Nat) : Int) (j : Int) = ((2 ^ 6 * k ||| j : Nat) : Int) := by
    have hn : ∀ m : Nat, Builtin.bitNot (m : Int) = -((m : Int) + 1) := fun m => by unfold Builtin.bitNot; lia
    unfold Builtin.bitOr Builtin.bitAnd
    rw [hn, hn]
    have d1 : decide ((0 : Int) ≤ -(((2 ^ 6 * k : Nat) : Int) + 1)) = false := decide_eq_false (by lia)
    have d2 : decide ((0 : Int) ≤ -((j : Int) + 1)) = false := decide_eq_false (by lia)
    rw [d1, d2]
    have n1 : (Builtin.bitNot (-(((2 ^ 6 * k : Nat) : Int) + 1))).toNat = 2 ^ 6 * k := by unfold Builtin.bitNot; lia
    have n2 : (Builtin.bitNot (-((j : Int) + 1))).toNat = j := by unfold Builtin.bitNot; lia
    show Builtin.bitNot (Builtin.bitNot _) = _
    rw [n1, n2, hn]
    unfold Builtin.bitNot
    lia
  rw [e, e2, ← Nat.two_pow_add_eq_or_of_lt hj]
  push_cast
  lia
theorem vv_bits (l : List Int) (h : l.length ≤ 8) : Builtin.Int.intBits (vval l) ≤ 64 := by
  refine intBits_le_64 (by have := vval_pos l; lia) ?_
  have h1 := vval_lt l
  have h2 : (64 : Int) ^ l.length ≤ 64 ^ 8 := by exact_mod_cast Nat.pow_le_pow_right (by decide) h
  lia

open PySem PySem.W PySem.Spec PySem.Calls PyProof.Rows

abbrev mkS (l : List Nat) : Str := ⟨l.toArray⟩
theorem mkS_inj {a b : List Nat} (h : mkS a = mkS b) : a = b := by
  have := congrArg (fun s : Str => s.cps.toList) h
  simpa using this
theorem mkS_app (a b : List Nat) : mkS a ++ mkS b = mkS (a ++ b) := by
  show (⟨a.toArray ++ b.toArray⟩ : Str) = _
  simp
theorem mkS_len (a : List Nat) : (mkS a).length = a.length := by simp [Str.length]
theorem mul1 (c : Nat) (n : Int) : Txt.mul ⟨#[c]⟩ n = mkS (List.replicate n.toNat c) := by
  have := mul_one_list c n
  cases h : Txt.mul ⟨#[c]⟩ n with
  | mk a => rw [h] at this; simp only at this; rw [← this]
theorem has1 (l : List Nat) (c : Nat) : Txt.contains (mkS l) ⟨#[c]⟩ = decide (c ∈ l) := by
  unfold Txt.contains
  rw [StrLaws.found_one]
theorem fold_codes : ∀ (r : List (List Nat)) (acc : Array Nat), (r.map mkS).foldl (fun acc p => acc ++ (#[] : Array Nat) ++ p.cps) acc = acc ++ r.flatten.toArray
  | [], acc => by simp
  | a :: r, acc => by
    rw [List.map_cons, List.foldl_cons, fold_codes r]
    simp
theorem join0 (l : List (List Nat)) : Txt.join ⟨#[]⟩ (l.map mkS) = mkS l.flatten := by
  unfold Txt.join Builtin.Str.glued
  cases l with
  | nil => rfl
  | cons a r =>
    show (⟨((a :: r).map mkS |>.drop 1).foldl (fun acc p => acc ++ (#[] : Array Nat) ++ p.cps) ((mkS a).cps)⟩ : Str) = _
    rw [List.map_cons, List.drop_one, List.tail_cons, fold_codes]
    simp

open PySem PySem.W PySem.Spec PySem.Calls PyProof.Rows

/-- what a name holds among an object's own -/
def getF (name : Str) : List (Str × V) → Option V
  | [] => none
  | (k, v) :: r => if k == name then some v else getF name r
def putF (name : Str) (v : V) : List (Str × V) → List (Str × V)
  | [] => [(name, v)]
  | (k, u) :: r => if k == name then (k, v) :: r else (k, u) :: putF name v r
theorem fr_get {h : Heap} {P : List Addr} {name : Str} : ∀ {fs : List (Str × V)} {es : List DictEntry} {v : V}, FRels h P fs es → getF name fs = some v → ∃ a, getL name es = some (some a) ∧ VRel h P v a
  | [], _, _, .nil, e => by cases e
  | (k, u) :: r, _, v, .cons (x := _) (t := tt) (a := a) x rs, e => by
    unfold getF at e
    unfold getL
    have hq : Value.isStr (.str k tt) name = (k == name) := rfl
    simp only [List.find?_cons, hq]
    cases hk : k == name with
    | true =>
      rw [hk] at e
      cases e
      exact ⟨a, rfl, x⟩
    | false =>
      rw [hk] at e
      obtain ⟨b, hb, rb⟩ := fr_get rs (by simpa using e)
      refine ⟨b, ?_, rb⟩
      unfold getL at hb
      split at hb
      · rename_i en he; rw [he]; exact hb
      · split at hb <;> cases hb
theorem fr_miss {h : Heap} {P : List Addr} {name : Str} : ∀ {fs : List (Str × V)} {es : List DictEntry}, FRels h P fs es → getF name fs = none → getL name es = some none
  | [], _, .nil, e => rfl
  | (k, u) :: r, _, .cons (t := tt) (a := a) x rs, e => by
    have hq : Value.isStr (.str k tt) name = (k == name) := rfl
    unfold getF at e
    cases hk : k == name with
    | true => rw [hk] at e; cases e
    | false =>
      rw [hk] at e
      have hb := fr_miss rs (by simpa using e)
      unfold getL at hb ⊢
      simp only [List.find?_cons, hq, hk]
      split at hb
      · rename_i en he; cases hb
      · rename_i he
        rw [he]
        split at hb
        · cases hb
        · rename_i hh
          refine if_neg fun hx => hh ?_
          rw [List.any_cons] at hx
          exact hx
theorem putL_cons (name : Str) (hs : Int) (key v : Value) (h0 : Int) (k : Str) (t0 : Tok) (a0 : Value) (es : List DictEntry) :
    putL name hs key v (⟨h0, .str k t0, a0⟩ :: es) = if (k == name) = true then ⟨h0, .str k t0, v⟩ :: es else ⟨h0, .str k t0, a0⟩ :: putL name hs key v es := rfl
theorem fr_put {h : Heap} {P : List Addr} {name : Str} {hs : Int} {tk : Tok} {v : V} {A : Value} (r : VRel h P v A) : ∀ {fs : List (Str × V)} {es : List DictEntry}, FRels h P fs es → FRels h P (putF name v fs) (putL name hs (.str name tk) A es)
  | [], _, .nil => .cons r .nil
  | (k, u) :: l, _, .cons x rs => by
    rw [putL_cons]
    unfold putF
    by_cases hk : (k == name) = true
    · rw [if_pos hk, if_pos hk]; exact .cons r rs
    · rw [if_neg hk, if_neg hk]; exact .cons x (fr_put r rs)
theorem fr_len {h : Heap} {P : List Addr} : ∀ {fs : List (Str × V)} {es : List DictEntry}, FRels h P fs es → es.length = fs.length
  | _, _, .nil => rfl
  | _, _, .cons _ r => by simp [fr_len r]
theorem putL_len (name : Str) (hs : Int) (k v : Value) : ∀ es : List DictEntry, (putL name hs k v es).length ≤ es.length + 1
  | [] => by simp [putL]
  | e :: r => by
    unfold putL
    split
    · simp
    · have := putL_len name hs k v r; simp; lia

section
variable {c : Act} {fr : Frame} {σ : Store} {Φ : V → Store → Prop} {K : Frag} {mg : Str → Option Value} {mb : MB} {E : Env} {n : Nat}

inductive IView (σ : Store) : V → Addr → List (Str × V) → Prop where
  | obj {C : Addr} {fs : List (Str × V)} : IView σ (.obj C fs) C fs
  | own {x dx C : Addr} {fs : List (Str × V)} : (dx, O.ins x C fs) ∈ σ → IView σ (.raw (.ref x)) C fs
theorem IView.at {v : V} {C : Addr} {fs : List (Str × V)} (w : IView σ v C fs) {s : Shared} {A : Value} (hs : St c fr σ s) (ra : VRel s.heap (c.P σ) v A) :
    ∃ x dx es n, A = .ref x ∧ W.InstAt s.heap x (instObj C dx) C (some (dictOf es n)) ∧ FRels s.heap (c.P σ) fs es := by
  cases w with
  | obj => cases ra with | obj h1 h2 _ _ r => exact ⟨_, _, _, _, rfl, ⟨h1, rfl, rfl, h2⟩, r⟩
  | own hm =>
    cases ra
    obtain ⟨h1, _, es, n, h2, r⟩ := hs.own _ hm
    exact ⟨_, _, es, n, rfl, ⟨h1, rfl, rfl, h2⟩, r⟩

structure AttrOk (K : Frag) (C : Addr) (name : Str) : Prop where
  get : plainGet K C name = true
  dict : hasDictIn K C = true
  own : ∃ attr, findIn K (.ref C) name = some attr ∧ noGet K attr = true
theorem attrOk_none {K : Frag} {C : Addr} {name : Str} (h1 : plainGet K C name = true) (h2 : hasDictIn K C = true) (h3 : findIn K (.ref C) name = some none) : AttrOk K C name := ⟨h1, h2, none, h3, rfl⟩
def handV : V → Prop
  | .raw (.builtin _) => False
  | _ => True
theorem handed {h : Heap} {P : List Addr} {v : V} {a : Value} (hv : handV v) (r : VRel h P v a) : handedIn a = true := by
  cases r with
  | raw => cases a <;> first | rfl | exact hv.elim
  | _ => rfl
theorem ev_attr {o : Expr} {name : Str} {pos : Pos} (F : Fact K mg mb E n c) (h : Ev c o fr σ fun v σ₁ => ∃ C fs u, IView σ₁ v C fs ∧ AttrOk K C name ∧ getF name fs = some u ∧ handV u ∧ Φ u σ₁)
    (h0 : eval (Expr.Attribute o name pos) c.env = (do
        let ov ← eval o c.env
        standAt (Pos.atName pos)
        let r ← holding [ov] (getAttr ov name true)
        letTemporaryGo o ov r
        pure r) := by with_unfolding_all rfl) : Ev c (.Attribute o name pos) fr σ Φ := Tri.mk fun s hs =>
  PyProof.Rows.Attribute_any_ (wpAny_mono (h.run s hs) (fun A s₁ x => by
    obtain ⟨v, σ₁, ⟨C, fs, u, w, k, hu, hv, hΦ⟩, hs₁, t₁, ra⟩ := x
    obtain ⟨x, dx, es, n, rfl, I, r⟩ := w.at hs₁ ra
    obtain ⟨a, ha, rv⟩ := fr_get r hu
    obtain ⟨attr, k1, k2⟩ := k.own
    refine get_value (F.X.keeps hs₁.old) I (plainGet_of k.get).1 (findObj_own k.dict k1 k2 ha) (handed hv rv) ?_
    exact ⟨u, σ₁, hΦ, hs₁.toks _, t₁, rv⟩) fun _ _ e => e) h0

structure MethOk (K : Frag) (C : Addr) (name : Str) (f : Addr) : Prop where
  ga : findIn K (.ref C) "__getattribute__" = some (some (.builtin "object.__getattribute__"))
  gn : findIn K (.ref C) "__getattr__" = some none
  hf : findIn K (.ref C) name = some (some (.ref f))
  ty : typeIn K (.ref f) = some (.type "function")
theorem getm_user {v : V} {C : Addr} {fs : List (Str × V)} {name : Str} {f : Addr} (F : Fact K mg mb E n c) (w : IView σ v C fs) (k : MethOk K C name f) (hm : getF name fs = none) : GetM c v σ name (.ref f) [v] := .mk fun fr s A pl Q hs ra h => by
  obtain ⟨x, dx, es, n, rfl, I, r⟩ := w.at hs ra
  have hsh : shadowIn (some (dictOf es n)) name = some false := by
    have := fr_miss r hm
    show (lookIn name (dictOf es n)).map (·.isSome) = _
    rw [lookIn_dict, this]; rfl
  exact method_fn (F.X.keeps hs.old) I k.ga k.gn k.hf k.ty hsh (h [_] s.toks (.cons ra .nil))

structure SetOk (K : Frag) (C : Addr) (name : Str) : Prop where
  st : findIn K (.ref C) "__setattr__" = some (some (.builtin "object.__setattr__"))
  pl : plainOver K C = true
  tk : takerIn K C name = some none
  dict : hasDictIn K C = true
theorem set_at_ins {s : Shared} (F : Fact K mg mb E n c) (hs : St c fr σ s) {x dx C : Addr} {fs : List (Str × V)} {name : Str} {v : V} {A : Value} {σ' : Store} (hm : (dx, O.ins x C fs) ∈ σ) (k : SetOk K C name) (hl : fs.length < 900) (r : VRel s.heap (c.P σ) v A)
    (p : PutA σ dx (.ins x C (putF name v fs)) σ') {Q : Unit → Shared → Prop} (h : ∀ h' tk, St c fr σ' { s with heap := h', toks := tk } → Tr (keys σ) s.heap (keys σ') h' → Q () { s with heap := h', toks := tk }) :
    wpAny (model c.prog c.w) c.A (setAttr (.ref x) name A) Q NoE s := by
  obtain ⟨h1, hxP, es, n, h2, rs⟩ := hs.own _ hm
  have X := F.X.keeps hs.old
  have I : W.InstAt s.heap x (instObj C dx) C (some (dictOf es n)) := ⟨h1, rfl, rfl, h2⟩
  have hg : (getL name es).isSome = true := by
    cases e : getF name fs with
    | none => rw [fr_miss rs e]; rfl
    | some u => obtain ⟨a, ha, _⟩ := fr_get rs e; rw [ha]; rfl
  refine set_plain X I k.st (osa_open (s := { s with toks := s.toks + 1 }) X I k.pl k.tk fun b => ?_)
  obtain ⟨cd, hc, hd'⟩ := any_some k.dict
  have e1 : Obj.putName name (PyData.keyHash c.w.params name) (.str name (s.toks + 1)) A (dictOf es n) = dictOf (putL name (PyData.keyHash c.w.params name) (.str name (s.toks + 1)) A es) (putN name es n) := putName_dict ..
  have ge := get_update (f := Obj.putName name (PyData.keyHash c.w.params name) (.str name (s.toks + 1)) A) h2 (by rw [e1]; rfl)
  have sb : Heap.SameBut dx s.heap (s.heap.update dx (Obj.putName name (PyData.keyHash c.w.params name) (.str name (s.toks + 1)) A)) := Heap.SameBut.update ..
  have ha : dx ∈ c.P σ := List.mem_append_right _ (List.mem_cons_of_mem _ (List.mem_map.mpr ⟨_, hm, rfl⟩))
  have t0 : Tr (c.P σ) s.heap (c.P σ) (s.heap.update dx (Obj.putName name (PyData.keyHash c.w.params name) (.str name (s.toks + 1)) A)) := Tr.same ha sb
  refine wpAny_bind (wpAny_pure (wpAny_bind (wpAny_bind (wpAny_loadPart h1 (wpAny_bind ((looks_clsIn (h := ({ s with toks := s.toks + 1 } : Shared).heap) X hc).here (s := { s with toks := s.toks + 1 }) ?_))))))
  rw [hd']
  refine wpAny_pure (a := some dx) (wpAny_bind (wpAny_pure (wpAny_bind ?_)))
  unfold nsSet
  refine wpAny_bind (wpAny_bind (wpAny_askSetting (wpAny_pure (wpAny_bind (wpAny_mkText (wpAny_bind (wpAny_loadPart h2 ?_)))))))
  dsimp only
  have cc : (!es.toArray.any (·.key.isStr name) && es.toArray.any (·.refKey)) = false := by
    have hl2 := hg
    unfold getL at hl2
    rw [← Array.any_toList, ← Array.any_toList]
    split at hl2
    · rename_i en he
      rw [show (List.any es.toArray.toList fun (x : DictEntry) => x.key.isStr name) = true from List.any_eq_true.mpr ⟨en, List.mem_of_find?_eq_some he, List.find?_some (p := fun (x : DictEntry) => x.key.isStr name) he⟩]; rfl
    · split at hl2
      · cases hl2
      · rename_i z; rw [Bool.not_eq_true] at z; rw [show (List.any es.toArray.toList fun (x : DictEntry) => x.refKey) = false from z, Bool.and_false]
  rw [aRefKeyMayBeTheName_at, cc]
  refine wpAny_updatePart h2 ?_
  have hle := putL_len name (PyData.keyHash c.w.params name) (.str name (s.toks + 1)) A es
  have hlf := fr_len rs
  refine wpAny_bind (wpAny_lookBehind (o := dictOf (putL name (PyData.keyHash c.w.params name) (.str name (s.toks + 1)) A es) (putN name es n)) (by rw [← e1]; exact ge) (pastItsLine_dict (by rw [List.size_toArray, sizeLine_eq]; lia)) ?_)
  obtain ⟨hs', t⟩ := hs.put (tk := s.toks + 2) p sb ⟨(sb.2 x (fun q => hxP (q ▸ ha))).trans h1, hxP, _, _, by rw [ge, e1], fr_put (r.mono t0) (rs.mono t0)⟩
  exact wpAny_pure (h _ _ hs' t)
end

open PySem PySem.W PySem.Spec PySem.Calls PyProof.Rows

section
variable {c : Act} {fr : Frame} {σ : Store} {Φ : V → Store → Prop} {K : Frag} {mg : Str → Option Value} {mb : MB} {E : Env} {n : Nat}

theorem asg_attr {o : Expr} {name : Str} {pos : Pos} {v : V} {Ψ : Frame → Store → Prop} (F : Fact K mg mb E n c)
    (h : Ev c o fr σ fun ov σ₁ => ∃ x dx C fs σ', ov = .raw (.ref x) ∧ (dx, O.ins x C fs) ∈ σ₁ ∧ SetOk K C name ∧ fs.length < 900 ∧ PutA σ₁ dx (.ins x C (putF name v fs)) σ' ∧ Ψ fr σ') :
    Asg c (.Attribute o name pos) v fr σ Ψ := .mk fun s A hs ra => kas_attr (wpAny_mono (h.run s hs) (fun O₁ s₁ y => by
      obtain ⟨ov, σ₁, ⟨x, dx, C, fs, σ', rfl, hm, k, hl, p, hΨ⟩, hs₁, t₁, r₁⟩ := y
      cases r₁
      exact set_at_ins F hs₁ hm k hl (ra.mono (Act.P_tr t₁)) p fun h' tk hs' t' => ⟨fr, σ', hΨ, hs', trW (t₁.trans t')⟩) fun _ _ e => e)

theorem in1_fact (F : Fact K mg mb E (n + 1) c) : Fact K mg mb E n { c with A := c.A.in1 } :=
  ⟨F.env, F.hh, (by have := F.dep; show c.A.depth + n < 800; lia), (by have := F.un; show c.A.units + 1 + 40 * n + 200 < cLine; lia), F.fn, F.gl, F.bl, F.X, F.g, F.b, F.bb, F.lim, F.scr, F.wd⟩

structure MakeOk (K : Frag) (C fI : Addr) : Prop where
  made : makesIn K C = true
  init : findIn K (.ref C) "__init__" = some (some (.ref fI))
  fn : typeIn K (.ref fI) = some (.type "function")
theorem under_fact (F : Fact K mg mb E (n + 1) c) (C : Addr) (As : List Value) : Fact K mg mb E n { c with A := c.A.under (.builtin "type.__call__" ⟨Value.ref C :: As, []⟩) } := by
  have hw : (Code.builtin "type.__call__" ⟨Value.ref C :: As, []⟩).weight = 1 := by rfl
  have hu : (Code.builtin "type.__call__" ⟨Value.ref C :: As, []⟩).cUnits = 1 := by rfl
  exact ⟨F.env, F.hh, (by have := F.dep; show c.A.depth + (Code.builtin "type.__call__" ⟨Value.ref C :: As, []⟩).weight + n < 800; lia), (by have := F.un; show c.A.units + (Code.builtin "type.__call__" ⟨Value.ref C :: As, []⟩).cUnits + 40 * n + 200 < cLine; lia), F.fn, F.gl, F.bl, F.X, F.g, F.b, F.bb, F.lim, F.scr, F.wd⟩
theorem drop_mem {σ σ' : Store} {a : Addr} (d : DropA σ a σ') : ∀ p ∈ σ', p ∈ σ := fun p hp => d.less.subset hp
theorem cl_make (F : Fact K mg mb E (n + 1) c) {C fI : Addr} {vs : List V} (k : MakeOk K C fI)
    (h : ∀ A', Fact K mg mb E n { c with A := A' } → ∀ x dx, CdK { c with A := A' } (.ref fI) (.raw (.ref x) :: vs) [] [] fr ((dx, .ins x C []) :: σ) fun r σ' => r = .none ∧ ∃ fs σ'', (dx, O.ins x C fs) ∈ σ' ∧ DropA σ' dx σ'' ∧ Φ (.obj C fs) σ'') : Cl c (.ref C) vs fr σ Φ := .mk fun s As hs ra => by
  have X := F.X.keeps hs.old
  have shape := hs.heap
  obtain ⟨hp, gg, dd, tk, oo⟩ := s
  refine wpAny_call (make_core (makes_of X k.made) (looks_findIn X k.init) (fun self => bind_fn X self k.fn) (.inl rfl) ?_)
  have F1 := under_fact F C As
  let dx : Addr := hp.objs.size
  let x : Addr := hp.objs.size + 1
  let h2 : Heap := (hp.push emptyDict).push (instObj C hp.objs.size)
  have k2 : ∀ b o, hp.get? b = some o → h2.get? b = some o := fun b o e => Heap.get?_push_of_some _ (Heap.get?_push_of_some _ e)
  have ndx : hp.get? dx = none := size_none _
  have nx : hp.get? x = none := by
    cases q : hp.get? x with
    | none => rfl
    | some o => exact absurd (Heap.lt_size q) (Nat.not_lt.mpr (Nat.le_succ _))
  have ex : h2.get? x = some (instObj C dx) := by
    have := Heap.get?_push_size (hp.push emptyDict) (o := instObj C hp.objs.size) rfl
    rw [Heap.size_push] at this
    exact this
  have edx : h2.get? dx = some emptyDict := Heap.get?_push_of_some _ (Heap.get?_push_size _ rfl)
  have tK : Tr (keys σ) hp (keys ((dx, O.ins x C []) :: σ)) h2 := ⟨fun b o _ e => k2 b o e, fun b hb => by
    rcases List.mem_cons.mp hb with rfl | q
    · exact .inr ndx
    · exact .inl q⟩
  have tP := Act.P_tr (c := c) (σ := σ) (σ' := (dx, O.ins x C []) :: σ) tK
  have xneq : x ≠ dx := Nat.succ_ne_self _
  have xP : x ∉ c.P ((dx, O.ins x C []) :: σ) := fun q => by
    have q' : x ∈ c.prot ++ (c.env.locals :: dx :: keys σ) := q
    rcases List.mem_append.mp q' with q | q
    · obtain ⟨_, o, e⟩ := hs.pr x q
      have e' : hp.get? x = some o := e
      rw [nx] at e'; cases e'
    · have inW : x ∈ c.W σ → False := fun w => by
        obtain ⟨o, e⟩ := hs.there w
        have e' : hp.get? x = some o := e
        rw [nx] at e'; cases e'
      rcases List.mem_cons.mp q with q | q
      · exact inW (q ▸ List.mem_cons_self ..)
      · rcases List.mem_cons.mp q with q | q
        · exact xneq q
        · exact inW (List.mem_cons_of_mem _ q)
  have hs2 : St c fr ((dx, O.ins x C []) :: σ) ⟨h2, gg, dd, tk, oo⟩ := hs.move (by obtain ⟨h, t, e⟩ := hs.sh; cases e; exact ⟨_, _, rfl⟩) tK (fun p hp' => by
      rcases List.mem_cons.mp hp' with rfl | hp'
      · exact ⟨ex, xP, [], 0, edx, .nil⟩
      · exact (hs.own p hp').mono tP fun o e => k2 _ o e) (by
      have nd := hs.nd
      have fz := hs.fresh
      unfold Act.W at nd fz ⊢
      obtain ⟨n1, n2⟩ := List.nodup_cons.mp nd
      refine List.nodup_cons.mpr ⟨fun q => ?_, List.nodup_cons.mpr ⟨fun q => fz (List.mem_cons_of_mem _ q), n2⟩⟩
      rcases List.mem_cons.mp q with q | q
      · exact fz (q ▸ List.mem_cons_self ..)
      · exact n1 q)
  have hs3 : St { c with A := c.A.under (.builtin "type.__call__" ⟨Value.ref C :: As, []⟩) } fr ((dx, O.ins x C []) :: σ) ⟨h2, gg, dd, tk, oo⟩ := ⟨hs2.sh, hs2.ns, hs2.names, hs2.kinds, hs2.pr, hs2.old, hs2.own, hs2.nd, hs2.wG⟩
  refine codeAny_mono ((h _ F1 x dx).run _ (.ref x :: As) [] hs3 (.cons (.raw _) (ra.mono tP)) .nil) fun r s' hr => ?_
  cases r with
  | error e => exact hr
  | ok f =>
    cases f with
    | ret v =>
      obtain ⟨b, σ', ⟨rfl, fs, σ'', hm, hd, hΦ⟩, hs', t', rv⟩ := hr
      cases rv
      refine ⟨rfl, ?_⟩
      have hs4 : St c fr σ' s' := ⟨hs'.sh, hs'.ns, hs'.names, hs'.kinds, hs'.pr, hs'.old, hs'.own, hs'.nd, hs'.wG⟩
      obtain ⟨e1, e2, es, m, e3, rfs⟩ := hs4.own _ hm
      obtain ⟨hs5, t5⟩ := hs4.less hd.less
      have lk : List.Sublist (keys σ'') (keys σ') := hd.less.map _
      have t6 : Tr (keys σ') s'.heap (keys σ'') s'.heap := ⟨fun _ _ _ e => e, fun b hb => .inl (lk.subset hb)⟩
      have t7 := Act.P_tr (c := c) t6
      obtain ⟨pre, o, post, es1, es2⟩ := hd.split
      have ndx2 : dx ∉ c.P σ'' := fun q => by
        rcases List.mem_append.mp q with q | q
        · exact (hs4.pr dx q).1 (List.mem_cons_of_mem _ (List.mem_map.mpr ⟨_, hm, rfl⟩))
        · rcases List.mem_cons.mp q with q | q
          · have nd := hs4.nd
            unfold Act.W at nd
            exact (List.nodup_cons.mp nd).1 (q ▸ List.mem_map.mpr ⟨_, hm, rfl⟩)
          · exact es2 ▸ nodup_drop hs4 es1 |> fun z => z q
      exact ⟨.obj C fs, σ'', hΦ, hs5, (tK.trans t').trans t6, .obj e1 e3 (t7.out e2 e1) ndx2 (rfs.mono t7)⟩
    | _ => exact hr

theorem ev_clsattr {o : Expr} {name : Str} {pos : Pos} (F : Fact K mg mb E n c) (h : Ev c o fr σ fun ov σ₁ => ∃ C mc w u, ov = .raw (.ref C) ∧ readsIn K C mc = true ∧ findCls K (.ref C) mc name = some (.val w) ∧ (∀ h P, VRel h P u w) ∧ handedIn w = true ∧ Φ u σ₁)
    (h0 : eval (Expr.Attribute o name pos) c.env = (do
        let ov ← eval o c.env
        standAt (Pos.atName pos)
        let r ← holding [ov] (getAttr ov name true)
        letTemporaryGo o ov r
        pure r) := by with_unfolding_all rfl) : Ev c (.Attribute o name pos) fr σ Φ := Tri.mk fun s hs =>
  PyProof.Rows.Attribute_any_ (wpAny_mono (h.run s hs) (fun A s₁ x => by
    obtain ⟨ov, σ₁, ⟨C, mc, w, u, rfl, h1, h2, h3, h4, hΦ⟩, hs₁, t₁, ra⟩ := x
    cases ra
    refine cls_value (F.X.keeps hs₁.old) h1 h2 h4 ?_
    exact ⟨u, σ₁, hΦ, hs₁.toks _, t₁, h3 _ _⟩) fun _ _ e => e) h0

/-! keywords -/
def EvKs (c : Act) (pos : Pos) (kws : List Keyword) (fr : Frame) (σ : Store) (Φ : List V → Store → Prop) : Prop := Tri VRels c (evalAll ((backToKw pos (keywordEach kws c.env)).map (·.2))) fr σ Φ
theorem evks_nil {pos : Pos} {Φ : List V → Store → Prop} (h : Φ [] σ) : EvKs c pos [] fr σ Φ := Tri.mk fun s hs => kwAll_nil (Post.here' [] hs h .nil)
theorem evks_cons {pos p : Pos} {name : Str} {value : Expr} {rest : List Keyword} {Φ : List V → Store → Prop} (h : Ev c value fr σ fun v σ₁ => EvKs c pos rest fr σ₁ fun vs σ₂ => Φ (v :: vs) σ₂) : EvKs c pos (⟨some name, value, p⟩ :: rest) fr σ Φ := Tri.mk fun s hs =>
  kwAll_cons (wpAny_mono (h.run s hs) (fun A s₁ x => by
    obtain ⟨a, σ₁, h₁, hs₁, t₁, ra⟩ := x
    refine wpAny_mono (h₁.run s₁ hs₁) (fun Bs s₂ y => ?_) fun _ _ e => e
    obtain ⟨bs, σ₂, h₂, hs₂, t₂, rb⟩ := y
    exact ⟨_, σ₂, h₂, hs₂, t₁.trans t₂, .cons (ra.mono (Act.P_tr t₂)) rb⟩) fun _ _ e => e)
theorem ev_methK (F : Fact K mg mb E n c) {o e : Expr} {name : Str} {ap : Pos} {rest : List Expr} {kws : List Keyword} {kn : List Str} {pos : Pos} (h : Ev c o fr σ fun v σ₁ => ∃ f first, GetM c v σ₁ name f first ∧ keepIn K f = true ∧
      EvL c pos (e :: rest) fr σ₁ fun vs σ₂ => EvKs c pos kws fr σ₂ fun kvs σ₃ => ClK c f (first ++ vs) kn kvs fr σ₃ Φ) {pl : Sem Bool}
    (h0 : eval (Expr.Call (.Attribute o name ap) (e :: rest) kws pos) c.env = (do
          let ov ← eval o c.env
          standAt (Pos.atName ap)
          let __x ← holding [ov] (getMethod ov name pl)
          match __x with
            | (f, first) => callWith pos f first (backTo pos (starEach (e :: rest) c.env)) (backToKw pos (keywordEach kws c.env))) := by with_unfolding_all rfl)
    (hkn : (backToKw pos (keywordEach kws c.env)).filterMap (·.1) = kn := by with_unfolding_all rfl)
    (hall : (backToKw pos (keywordEach kws c.env)).all (·.1.isSome) = true := by with_unfolding_all rfl)
    (hp : ((backTo pos (starEach (e :: rest) c.env)).any (·.1) || (backToKw pos (keywordEach kws c.env)).any (·.1.isNone)) = false := by with_unfolding_all rfl)
    (h1 : starEach (e :: rest) c.env = (false, eval e c.env) :: starEach rest c.env := by with_unfolding_all rfl) : Ev c (.Call (.Attribute o name ap) (e :: rest) kws pos) fr σ Φ := Tri.mk fun s hs => by
  rw [h0]
  refine wpAny_bind (wpAny_mono (h.run s hs) (fun A s₁ x => ?_) fun _ _ e => e)
  obtain ⟨v, σ₁, ⟨f, first, g, w, h₁⟩, hs₁, t₁, r⟩ := x
  refine wpAny_bind (wpAny_standAt (wpAny_bind (wpAny_holding (g.run fr s₁ A pl _ hs₁ r fun As tk rf => ?_))))
  refine callWith_KW F.X w hall (wpAny_mono (h₁.run _ (hs₁.toks tk)) (fun vs s₂ y => ?_) fun _ _ e => e) hp h1
  obtain ⟨bs, σ₂, h₂, hs₂, t₂, rb⟩ := y
  refine wpAny_mono (h₂.run s₂ hs₂) (fun ks s₃ z => ?_) fun _ _ e => e
  obtain ⟨kvs, σ₃, h₃, hs₃, t₃, rk⟩ := z
  rw [hkn]
  refine ⟨F.X.keeps hs₃.old, wpAny_mono (h₃.run s₃ _ ks hs₃ ((((rf.mono (Act.P_tr t₂)).append rb)).mono (Act.P_tr t₃)) rk) (fun _ _ p => ?_) fun _ _ e => e⟩
  exact Post.trans t₁ (Post.trans t₂ (p.trans t₃))

/-- a def with defaults or keywords: how its names are bound is told -/
theorem cd_fnG {f : Addr} {o : Obj} {fd : FuncData} {qual : Str} {body : List Stmt} {scope : Scope} {cdv : Value} {vs kv ws : List V} {kn : List Str} {Φ : V → Store → Prop} (names rest : List Str) (fr0 : Frame) (F : Fact K mg mb E (n + 1) c)
    (look : K.lookup f = some o) (dat : o.data = .func fd) (bd : fd.body = .stmts body) (q : fd.qualname = qual) (sc : fd.scope = scope) (cd : fd.code = cdv) (gl : fd.globals = mainGlobals) (bl : fd.builtins = builtinsNs) (cl : fd.closure = [])
    (code : codeIn K cdv qual = true) (co : scope.isCoroutine = false) (gen : scope.isGenerator = false) (kind : scope.kind = .function)
    (hbind : ∀ s As Ks, K.In s.heap → ∀ h P, VRels h P vs As → VRels h P kv Ks → ∃ Bs, BindsTo s fd ⟨As, kn.zip Ks⟩ (names.zip Bs) ∧ VRels h P ws Bs) (hlen : names.length = ws.length) (hnd : (names ++ rest).Nodup)
    (hloc : ((names ++ rest).all fun x => scope.names.lookup x == some .local) = true) (hfr : fr0 = frameOf names ws rest)
    (h : ∀ L c', Fact K mg mb (envOfC qual scope L f cdv) n c' → Ex c' body fr0 σ fun fl _ σ' => ∃ v σ'', RetV fl v ∧ Less σ'' σ' ∧ Φ v σ'') : CdK c (.ref f) vs kn kv fr σ Φ := by
  have loc : ∀ x ∈ names ++ rest, scope.names.lookup x = some .local := fun x hx => by simpa using List.all_eq_true.mp hloc x hx
  have D : DefIs K f qual body scope cdv fd := ⟨⟨o.cls, o.dict, o.slots, by rw [← dat]; exact look⟩, bd, q, sc, cd, gl, bl, cl, code, co, gen, kind⟩
  refine cdk_def F D (σc := fun _ => []) (names := names) (ws := ws) (fr0 := fr0) (fun s As Ks hs ra rk => hbind s As Ks (F.X.keeps hs.old) _ _ ra rk) (List.nodup_append.mp hnd).1 hlen (fun x hx => .inl (loc x (List.mem_append_left _ hx))) (fun x v hv => ?_) (fun p hp => ?_) ?_ (fun L p hp => by cases hp) (fun L => List.nodup_nil) h
  · rw [hfr] at hv
    unfold frameOf at hv
    rcases List.mem_append.mp hv with hv | hv
    · obtain ⟨q, hq, e⟩ := List.mem_map.mp hv
      cases e; exact hq
    · obtain ⟨q, hq, e⟩ := List.mem_map.mp hv
      cases e
  · have hp' : p.1 ∈ fr0.map (·.1) := List.mem_map.mpr ⟨p, hp, rfl⟩
    rw [hfr, frameOf_names hlen] at hp'
    exact loc _ hp'
  · rw [hfr, frameOf_names hlen]; exact hnd
end

open PySem PySem.W PySem.Spec PySem.Calls PyProof.Rows

section
variable {c : Act} {fr : Frame} {σ : Store} {Φ : V → Store → Prop} {K : Frag} {mg : Str → Option Value} {mb : MB} {E : Env} {n : Nat}

/-- a sum of lists that is changed later -/
theorem bin_laddO {a b : V} {xs ys : List V} (w : View σ a xs) (w' : View σ b ys) (hl : xs.length + ys.length < 100000) (h : ∀ D, Φ (.raw (.ref D)) ((D, .list (xs ++ ys)) :: σ)) : Bin c .Add a b fr σ Φ := Bin.mk fun s A B hs ra rb => by
  obtain ⟨l, Vs, n1, rfl, e1, r1⟩ := w.plain hs ra
  obtain ⟨m, Ws, n2, rfl, e2, r2⟩ := w'.plain hs rb
  have hz : Vs.toArray.size + Ws.toArray.size ≤ sizeLine := by rw [sizeLine_eq]; have := r1.length; have := r2.length; simp; lia
  refine P.add_list e1 e2 ?_ hz
  have tP := Act.P_tr (c := c) (σ := σ) (σ' := (s.heap.objs.size, O.list (xs ++ ys)) :: σ) (Tr.pushW (keys σ) s.heap { cls := .type "list", data := .seq (Vs.toArray ++ Ws.toArray) })
  exact ⟨_, _, h _, hs.pushW _ ⟨Vs ++ Ws, ⟨_, by simpa using Heap.get?_push_size _ rfl⟩, (r1.append r2).mono tP⟩, Tr.pushW _ _ _, .raw _⟩
theorem ex_swap2 (F : Fact K mg mb E n c) {elts : List Expr} {k : Nat} {tpos : Pos} {value : Expr} {pos : Pos} {rest : List Stmt} {Ψ : Fl → Frame → Store → Prop} {x y : Str}
    (h : Ev c value fr σ fun v σ₁ => ∃ a b fr₁ fr₂, v = .tup [a, b] ∧ Put fr y b fr₁ ∧ Put fr₁ x a fr₂ ∧ Ex c rest fr₂ σ₁ Ψ)
    (h1 : swapsWithSole [.Tuple elts k tpos] value pos.line E = pure false := by with_unfolding_all rfl) (h2 : swappedStores [.Tuple elts k tpos] value E = pure (some [x, y]) := by with_unfolding_all rfl) :
    Ex c (.Assign [.Tuple elts k tpos] value pos :: rest) fr σ Ψ := ex_cons (.mk fun s hs => PyProof.Rows.Assign_Tuple_swapped (names := [x, y]) (wpAny_mono (h.run s hs) (fun A s₁ z => by
      obtain ⟨v, σ₁, ⟨a, b, fr₁, fr₂, rfl, p1, p2, hE⟩, hs₁, t₁, r⟩ := z
      cases r with
      | @tup T _ Vs it nP rs =>
        obtain ⟨A1, A2, rfl⟩ : ∃ A1 A2, Vs = [A1, A2] := by
          have := rs.length
          match Vs, this with
          | [u, v], _ => exact ⟨u, v, rfl⟩
        have ra : VRel s₁.heap (c.P σ₁) a A1 := by cases rs with | cons q _ => exact q
        have rb : VRel s₁.heap (c.P σ₁) b A2 := by cases rs with | cons _ q => cases q with | cons q _ => exact q
        have ps : (c.env.scope.kind == .class || (c.env.scope.kind == .module && c.env.locals != c.env.globals)) = false := plainScope F.kfn
        refine PyProof.Rows.unpackItems_tuple (items := [A1, A2].toArray) F.hh it fun h' e => ?_
        obtain ⟨hs', t⟩ := hs₁.ext (tk := s₁.toks) (extBut_keeps e)
        show wpAny _ _ (assignInOrder [bindName c.env y, bindName c.env x] [A2, A1]) _ _ _
        refine assignInOrder_cons (bindName_ (hs'.name p1 (rb.mono (t _)) (fun h2 tk2 hs2 t2 => ?_) ps))
        refine assignInOrder_cons (bindName_ (hs2.name p2 ((ra.mono (t _)).mono (t2.app c.prot)) (fun h3 tk3 hs3 t3 => ?_) ps))
        exact assignInOrder_nil ⟨.next, fr₂, σ₁, hE, hs3, (((trW t₁).trans (t _)).trans t2).trans t3, .next⟩) fun _ _ e => e) (by rw [F.env]; exact h1) (by rw [F.env]; exact h2))

theorem ev_clsA {o : Expr} {name : Str} {pos : Pos} {C : Addr} {w : Value} (u : V) (F : Fact K mg mb E n c) (ho : Ev c o fr σ fun ov σ₁ => ov = .raw (.ref C) ∧ σ₁ = σ) (hr : readsIn K C (.type "type") = true)
    (hf : findCls K (.ref C) (.type "type") name = some (.val w)) (hv : ∀ h P, VRel h P u w) (hh : handedIn w = true) (h : Φ u σ)
    (h0 : eval (Expr.Attribute o name pos) c.env = (do
        let ov ← eval o c.env
        standAt (Pos.atName pos)
        let r ← holding [ov] (getAttr ov name true)
        letTemporaryGo o ov r
        pure r) := by with_unfolding_all rfl) : Ev c (.Attribute o name pos) fr σ Φ :=
  ev_clsattr F (tri_mono ho fun ov σ₁ e => by obtain ⟨rfl, rfl⟩ := e; exact ⟨C, _, w, u, rfl, hr, hf, hv, hh, h⟩) h0
theorem ev_attrA {o : Expr} {name : Str} {pos : Pos} {v u : V} {C : Addr} {fs : List (Str × V)} (F : Fact K mg mb E n c) (ho : Ev c o fr σ fun ov σ₁ => ov = v ∧ σ₁ = σ) (w : IView σ v C fs) (k : AttrOk K C name) (hu : getF name fs = some u) (hv : handV u) (h : Φ u σ)
    (h0 : eval (Expr.Attribute o name pos) c.env = (do
        let ov ← eval o c.env
        standAt (Pos.atName pos)
        let r ← holding [ov] (getAttr ov name true)
        letTemporaryGo o ov r
        pure r) := by with_unfolding_all rfl) : Ev c (.Attribute o name pos) fr σ Φ :=
  ev_attr F (tri_mono ho fun ov σ₁ e => by obtain ⟨rfl, rfl⟩ := e; exact ⟨C, fs, u, w, k, hu, hv, h⟩) h0
theorem asg_attrA {o : Expr} {name : Str} {pos : Pos} {v : V} {Ψ : Frame → Store → Prop} {x dx C : Addr} {fs : List (Str × V)} {σ' : Store} (F : Fact K mg mb E n c) (ho : Ev c o fr σ fun ov σ₁ => ov = .raw (.ref x) ∧ σ₁ = σ) (hm : (dx, O.ins x C fs) ∈ σ) (k : SetOk K C name) (hl : fs.length < 900)
    (p : PutA σ dx (.ins x C (putF name v fs)) σ') (h : Ψ fr σ') : Asg c (.Attribute o name pos) v fr σ Ψ :=
  asg_attr F (tri_mono ho fun ov σ₁ e => by obtain ⟨rfl, rfl⟩ := e; exact ⟨x, dx, C, fs, σ', rfl, hm, k, hl, p, h⟩)
/-! plain data -/
mutual
def toV : PyData → V
  | .none => .none
  | .bool b => .bool b
  | .int i => .int i
  | .str x => .str x
  | .list xs => .lst (toVs xs)
  | .tuple xs => .tup (toVs xs)
  | .dict _ => .none
def toVs : List PyData → List V
  | [] => []
  | x :: r => toV x :: toVs r
end
mutual
def noDict : PyData → Bool
  | .dict _ => false
  | .list xs => noDicts xs
  | .tuple xs => noDicts xs
  | _ => true
def noDicts : List PyData → Bool
  | [] => true
  | x :: r => noDict x && noDicts r
end
mutual
theorem toV_reads {h : Heap} {P : List Addr} : ∀ (d : PyData) (A : Value), noDict d = true → VRel h P (toV d) A → ∃ as, Reads h A d as
  | .none, _, _, .none => ⟨_, .none⟩
  | .bool b, _, _, .bool _ => ⟨_, .bool _⟩
  | .int i, _, _, .int _ t => ⟨_, .int _ t⟩
  | .str x, _, _, .str _ t => ⟨_, .str _ t⟩
  | .list xs, _, nd, .lst (Vs := Vs) ⟨_, e⟩ _ r => by
    obtain ⟨as, q⟩ := toVs_reads xs Vs (by simpa [noDict] using nd) r
    exact ⟨_, .list e rfl rfl (by simpa using q)⟩
  | .tuple xs, _, nd, .tup (Vs := Vs) ⟨o, e, hc, m, hd⟩ _ r => by
    obtain ⟨as, q⟩ := toVs_reads xs Vs (by simpa [noDict] using nd) r
    exact ⟨_, .tuple e hc hd (by simpa using q)⟩
theorem toVs_reads {h : Heap} {P : List Addr} : ∀ (l : List PyData) (As : List Value), noDicts l = true → VRels h P (toVs l) As → ∃ as, ReadsAll h As l as
  | [], _, _, .nil => ⟨_, .nil⟩
  | d :: r, _, nd, .cons x rs => by
    have nd' : noDict d = true ∧ noDicts r = true := by simpa [noDicts] using nd
    obtain ⟨as, q⟩ := toV_reads d _ nd'.1 x
    obtain ⟨bs, q2⟩ := toVs_reads r _ nd'.2 rs
    exact ⟨_, .cons q q2⟩
end
theorem cmp_deq (F : Fact K mg mb E n c) {da db : PyData} (h1 : noDict da = true) (h2 : noDict db = true) (l1 : PyData.canLay0 da = true) (l2 : PyData.canLay0 db = true) (hd : PyData.depth da ≤ 100) (h : Φ (.bool (PyData.eqv da db)) σ) : Cmp c .Eq (toV da) (toV db) fr σ Φ := Cmp.mk fun s A B hs ra rb => by
  obtain ⟨as, q1⟩ := toV_reads da A h1 ra
  obtain ⟨bs, q2⟩ := toV_reads db B h2 rb
  exact SeqAt.compareEq_reads q1 q2 l1 l2 (by have := F.un; lia) (Post.here' _ hs h (.bool _))
theorem cmp_dne (F : Fact K mg mb E n c) {da db : PyData} (h1 : noDict da = true) (h2 : noDict db = true) (l1 : PyData.canLay0 da = true) (l2 : PyData.canLay0 db = true) (hd : PyData.depth da ≤ 100) (h : Φ (.bool (!PyData.eqv da db)) σ) : Cmp c .NotEq (toV da) (toV db) fr σ Φ := Cmp.mk fun s A B hs ra rb => by
  obtain ⟨as, q1⟩ := toV_reads da A h1 ra
  obtain ⟨bs, q2⟩ := toV_reads db B h2 rb
  exact SeqAt.compareNe_reads q1 q2 l1 l2 (by have := F.un; lia) (Post.here' _ hs h (.bool _))
end

open PySem PySem.W PySem.Spec PySem.Calls PyProof.Rows

theorem ints_items : ∀ {Vs : List Value} {ns : List Int}, IntsAre Vs ns → ∃ xs : List (Int × Tok), Vs.toArray = intItems xs.toArray ∧ xs.map (·.1) = ns
  | _, _, .nil => ⟨[], by simp [intItems], rfl⟩
  | _, _, .cons n t r => by
    obtain ⟨xs, e1, e2⟩ := ints_items r
    refine ⟨(n, t) :: xs, ?_, by simp [e2]⟩
    unfold intItems at e1 ⊢
    simp at e1 ⊢
    exact e1
theorem numAt_items {xs : List (Int × Tok)} {ns : List Int} (e : xs.map (·.1) = ns) (i : Nat) : PySem.numAt xs.toArray i = ns.getD i 0 := by
  subst e
  unfold PySem.numAt
  simp [List.getD_eq_getElem?_getD]
section
variable {c : Act} {fr : Frame} {σ : Store} {Φ : V → Store → Prop} {K : Frag} {mg : Str → Option Value} {mb : MB} {E : Env} {n : Nat} {i j : Int}

theorem cl_max2 (hh : c.A.handled = none) (h : Φ (.int (if j > i then j else i)) σ) : Cl c (.builtin "max") [.int i, .int j] fr σ Φ := .mk fun s As hs r => by
  cases r with
  | cons r0 r => cases r0; cases r with
    | cons r1 r =>
      cases r; cases r1
      refine max_two_ints hh fun h' tk kp => ?_
      obtain ⟨hs', t⟩ := hs.ext (tk := tk) kp
      refine ⟨_, σ, h, hs', t _, ?_⟩
      split <;> exact .int _ _
theorem cl_maxl (hh : c.A.handled = none) {v : V} {ns : List Int} (w : View σ v (ivs ns)) (hne : 0 < ns.length) (h : ∀ M, M ∈ ns → (∀ a ∈ ns, a ≤ M) → Φ (.int M) σ) : Cl c (.builtin "max") [v] fr σ Φ := .mk fun s As hs r => by
  refine consI (C := fun As => wpAny (model c.prog c.w) c.A (call _ As) _ _ _) r fun _ _ r0 r => ?_
  obtain rfl := nilE r
  obtain ⟨a, Vs, rfl, l, r⟩ := w.at hs r0
  obtain ⟨xs, e1, e2⟩ := ints_items (ivs_are r)
  rw [e1] at l
  have hxl : xs.toArray.size = ns.length := by rw [← e2]; simp
  refine max_intList hh l (by lia) fun v h' tk hv kp => ?_
  obtain ⟨hs', t⟩ := hs.ext (tk := tk) kp
  obtain ⟨b1, b2⟩ := argBest_gt (PySem.numAt xs.toArray) (xs.toArray.size - 1)
  obtain ⟨u, rfl⟩ := intItems_at hv
  have hm : ∀ k, k < ns.length → PySem.numAt xs.toArray k ∈ ns := fun k hk => by
    rw [numAt_items e2, List.getD_eq_getElem?_getD, List.getElem?_eq_getElem hk]
    exact List.getElem_mem hk
  refine ⟨_, σ, h _ (hm _ (by lia)) (fun a ha => ?_), hs', t _, .int _ _⟩
  obtain ⟨k, hk, rfl⟩ := List.getElem_of_mem ha
  have := b2 k (by lia)
  rw [numAt_items e2 k, List.getD_eq_getElem?_getD, List.getElem?_eq_getElem hk] at this
  exact this
theorem cl_lent {vs : List V} (hl : vs.length < 100000) (h : Φ (.int vs.length) σ) : Cl c (.builtin "len") [.tup vs] fr σ Φ := .mk fun s As hs r => by
  refine consI (C := fun As => wpAny (model c.prog c.w) c.A (call _ As) _ _ _) r fun _ _ r0 r => ?_
  obtain rfl := nilE r
  cases r0 with
  | tup it nP rs =>
    have hz := rs.length
    refine PyProof.Rows.len_tuple it (by simp; lia) ?_
    rw [List.size_toArray, hz]
    exact Post.here _ hs h (.int _ _)
theorem tru_str {x : Str} {Φ : Bool → Store → Prop} (hl : x.length < 100000) (h : Φ (decide (x.length ≠ 0)) σ) : Tru c (.str x) fr σ Φ := Tru.mk fun s A hs ra => by
  obtain ⟨_, rfl⟩ := strE ra
  have e : ((x.length : Int) != 0) = decide (x.length ≠ 0) := by
    by_cases q : x.length = 0 <;> simp [q]
  exact P.truthy_str (by lia) (Post.here _ hs h e)
theorem preSum_take {xs : List (Int × Tok)} {ns : List Int} (e : xs.map (·.1) = ns) : ∀ k, k ≤ ns.length → preSum (PySem.numAt xs.toArray) k = (ns.take k).sum
  | 0, _ => by simp [preSum]
  | k + 1, h => by
    have hk : k < ns.length := by lia
    have e1 : preSum (PySem.numAt xs.toArray) (k + 1) = preSum (PySem.numAt xs.toArray) k + PySem.numAt xs.toArray k := rfl
    rw [e1, preSum_take e k (by lia), numAt_items e, List.take_add_one, List.getElem?_eq_getElem hk, List.sum_append, List.getD_eq_getElem?_getD, List.getElem?_eq_getElem hk]
    simp
theorem cl_suml (hh : c.A.handled = none) {v : V} {ns : List Int} (w : View σ v (ivs ns)) (h : Φ (.int ns.sum) σ) : Cl c (.builtin "sum") [v] fr σ Φ := .mk fun s As hs r => by
  refine consI (C := fun As => wpAny (model c.prog c.w) c.A (call _ As) _ _ _) r fun _ _ r0 r => ?_
  obtain rfl := nilE r
  obtain ⟨a, Vs, rfl, l, r⟩ := w.at hs r0
  obtain ⟨xs, e1, e2⟩ := ints_items (ivs_are r)
  rw [e1] at l
  have hxl : xs.toArray.size = ns.length := by rw [← e2]; simp
  refine sum_intListG hh l fun h' tk t' kp => ?_
  obtain ⟨hs', t⟩ := hs.ext (tk := tk) kp
  have e3 := preSum_take e2 ns.length (Nat.le_refl _)
  rw [List.take_length] at e3
  rw [hxl, e3]
  exact ⟨_, σ, h, hs', t _, .int _ _⟩
end

open PySem PySem.W PySem.Spec PySem.Calls PyProof.Rows

theorem admitted_none (m : Sre.M) (h : ∀ p, p < m.lim → ∀ seen, ∃ seen', Sre.inSet m.code (m.text.getD p 0) m.code.size 5 true seen = .ok (false, seen')) : ∀ fuel s seen, ∃ seen', m.admitted fuel s seen = .ok (none, seen')
  | 0, _, seen => ⟨seen, rfl⟩
  | fuel + 1, s, seen => by
    unfold Sre.M.admitted
    by_cases hs : s ≥ m.lim
    · rw [if_pos hs]; exact ⟨seen, rfl⟩
    · rw [if_neg hs]
      obtain ⟨seen', e⟩ := h s (by lia) seen
      rw [e]
      exact admitted_none m h fuel (s + 1) seen'
theorem attempt_none (m : Sre.M) (hf : m.hasFirstSet = true) (h : ∀ p, p < m.lim → ∀ seen, ∃ seen', Sre.inSet m.code (m.text.getD p 0) m.code.size 5 true seen = .ok (false, seen')) (h1 : m.frames = []) (h2 : m.outcome = none) (s : Nat) (first : Bool) :
    (m.attemptFrom s first).answer = some false ∧ (m.attemptFrom s first).frames = [] ∧ (m.attemptFrom s first).outcome = none := by
  obtain ⟨seen', e⟩ := admitted_none m h (m.lim + 1 - s) s m.seen
  unfold Sre.M.attemptFrom
  rw [hf, e]
  exact ⟨rfl, h1, h2⟩
theorem search_none {code text : Array Nat} {lim : Nat} (hf : ∀ m : Sre.M, m.code = code → m.hasFirstSet = true) (h : ∀ p, p < lim → ∀ seen, ∃ seen', Sre.inSet code (text.getD p 0) code.size 5 true seen = .ok (false, seen')) :
    (Sre.forSearch code text 0 0 lim false).answer = some false ∧ (Sre.forSearch code text 0 0 lim false).frames = [] ∧ (Sre.forSearch code text 0 0 lim false).outcome = none := by
  unfold Sre.forSearch
  dsimp only
  split
  · exact ⟨rfl, rfl, rfl⟩
  · exact attempt_none _ (hf _ rfl) h rfl rfl 0 true
theorem run_none (m : Sre.M) (h1 : m.answer = some false) (h2 : m.frames = []) (h3 : m.outcome = none) : (m.runFor 4).outcome = some .failed := by
  have e0 : m.step = { m with outcome := some .failed } := by
    unfold Sre.M.step
    rw [h3, h1, h2]
    rfl
  unfold Sre.M.runFor
  rw [h3, if_neg (by decide), e0]
  rfl
theorem forIn_pass {M : Model} {A : Around} {E : Value → Shared → Prop} {body : Nat → PUnit → Sem (ForInStep PUnit)} (hb : ∀ i s (Q : ForInStep PUnit → Shared → Prop), Q (.yield ⟨⟩) s → wpAny M A (body i ⟨⟩) Q E s) : ∀ (l : List Nat) (s : Shared) (Q : PUnit → Shared → Prop), Q ⟨⟩ s → wpAny M A (forIn l ⟨⟩ body) Q E s
  | [], s, Q, h => wpAny_pure h
  | a :: r, s, Q, h => by
    rw [List.forIn_cons]
    exact wpAny_bind (hb a s _ (forIn_pass hb r s Q h))
theorem drive_none {M : Model} {A : Around} {E : Value → Shared → Prop} {s : Shared} {m : Sre.M} (h1 : m.answer = some false) (h2 : m.frames = []) (h3 : m.outcome = none) {Q : Option Sre.M → Shared → Prop} (h : Q none s) : wpAny M A (Builtin.Re.reRunToEnd m) Q E s := by
  have e := run_none m h1 h2 h3
  unfold Builtin.Re.reRunToEnd
  obtain ⟨k, hk⟩ : ∃ k, 2 ^ 64 = k + 1 := ⟨2 ^ 64 - 1, by decide⟩
  rw [hk]
  refine wpAny_bind (m := Builtin.Re.reDrive (k + 1) m) ?_
  unfold Builtin.Re.reDrive
  show wpAny M A (if (m.runFor 4).outcome.isSome = true then pure (m.runFor 4) else _) _ E s
  rw [if_pos (by rw [e]; rfl)]
  refine wpAny_pure (wpAny_bind (forIn_pass (fun i s Q hq => ?_) _ _ _ ?_))
  · split
    · exact wpAny_bind (wpAny_rule (wpAny_pure hq))
    · exact wpAny_pure hq
  · rw [e]
    exact wpAny_pure h

/-- what the set says is not a matter of what was seen -/
theorem inSet_seen (code : Array Nat) (k : Nat) : ∀ (fuel i : Nat) (yes : Bool) (s1 s2 : Sre.Seen), (Sre.inSet code k fuel i yes s1).map (·.1) = (Sre.inSet code k fuel i yes s2).map (·.1)
  | 0, _, _, _, _ => rfl
  | fuel + 1, i, yes, s1, s2 => by
    have ih := inSet_seen code k fuel
    unfold Sre.inSet
    dsimp only
    split
    · rfl
    · exact ih _ _ _ _
    · split
      · rfl
      · exact ih _ _ _ _
    · split
      · rfl
      · exact ih _ _ _ _
    · split
      · rfl
      · exact ih _ _ _ _
    · cases Sre.category (code.getD (i + 1) 0) k with
      | error e => rfl
      | ok b =>
        cases b with
        | true => rfl
        | false => exact ih _ _ _ _
    · split
      · rfl
      · exact ih _ _ _ _
    · split
      · rfl
      · exact ih _ _ _ _
    · rfl
theorem inSet_no {code : Array Nat} (h : ∀ k : Fin 127, 32 ≤ k.val → (match Sre.inSet code k.val code.size 5 true {} with | .ok (b, _) => !b | _ => false) = true) {k : Nat} (h1 : 32 ≤ k) (h2 : k < 127) (seen : Sre.Seen) : ∃ seen', Sre.inSet code k code.size 5 true seen = .ok (false, seen') := by
  have e := inSet_seen code k code.size 5 true seen {}
  have d := h ⟨k, h2⟩ h1
  cases q : Sre.inSet code k code.size 5 true {} with
  | error w => rw [q] at d; cases d
  | ok r =>
    obtain ⟨b, s⟩ := r
    rw [q] at d e
    cases q2 : Sre.inSet code k code.size 5 true seen with
    | error w => rw [q2] at e; cases e
    | ok r2 =>
      obtain ⟨b2, s2⟩ := r2
      rw [q2] at e
      have hb : b = false := by simpa using d
      have hb2 : b2 = b := by
        have : (Except.ok b2 : Except String Bool) = Except.ok b := e
        cases this; rfl
      exact ⟨s2, by rw [hb2, hb]⟩
theorem slot_search : Slot "re.Pattern" "search" "re.Pattern.search" :=
  .of (owner := "re.Pattern") (n := "search") (by rw [typeLookup_type, builtinLookup_eq_fast]; kernel_rfl) (by decide +kernel) (by decide +kernel) (by decide +kernel)
    (by first | exact .inl (by decide +kernel) | exact .inr (by decide +kernel)) (by rw [isSubtype_type]; kernel_rfl)
theorem type_search : typeOf (.builtin "re.Pattern.search") = pure (.type "method_descriptor") := by show builtinType _ = _; rw [builtinType_eq_fast]; kernel_rfl
theorem entry_search : entryFor table "re.Pattern.search" = some Builtin.«re.Pattern.search» := entryFor_of_tree (by kernel_rfl)
theorem args_search (a b : Value) : argsOk "re.Pattern.search" ⟨[a, b], []⟩ := by unfold argsOk; kernel_rfl
theorem attrs_pattern : PlainAttrs "re.Pattern" :=
  ⟨⟨"object.__getattribute__", by rw [typeLookup_type, builtinLookup_eq_fast]; kernel_rfl, by decide +kernel⟩, by rw [typeLookup_type, builtinLookup_eq_fast]; kernel_rfl⟩
section
variable {c : Act} {fr : Frame} {σ : Store} {Φ : V → Store → Prop} {K : Frag} {mg : Str → Option Value} {mb : MB} {E : Env} {n : Nat}
theorem getm_search (F : Fact K mg mb E n c) {a : Addr} {fs : Array Value} (look : K.lookup a = some { cls := .type "re.Pattern", data := .fields fs }) : GetM c (.raw (.ref a)) σ "search" (.builtin "re.Pattern.search") [.raw (.ref a)] := .mk fun fr s A pl Q hs ra h => by
  cases ra
  have ho := F.X.keeps hs.old _ _ look
  exact getMethod_builtin (T := "re.Pattern") ⟨_, ho, rfl⟩ attrs_pattern slot_search type_search (fun b e => by cases e; exact ⟨_, ho, rfl⟩) (h [_] s.toks (.cons (.raw _) .nil))
/-- a code whose first set no sign of the text is in -/
def codeOf (items : Array Value) : Array Nat := (items.map Builtin.Re.reRawOf).map (·.toNat)
theorem cl_search (F : Fact K mg mb E n c) {a b : Addr} {fs items : Array Value} {m : Nat} {x : Str} (look : K.lookup a = some { cls := .type "re.Pattern", data := .fields fs }) (lookc : K.lookup b = some { cls := .type "tuple", data := .seq items m })
    (h5 : fs.getD 5 .none = .ref b) (h6 : Builtin.Re.reRawNat (fs.getD 6 .none) = 0) (h2 : Builtin.Re.reRawNat (fs.getD 2 .none) = 0) (hx : x.cps.size < 1000000)
    (hf : ∀ m : Sre.M, m.code = codeOf items → m.hasFirstSet = true) (hc : ∀ k ∈ x.cps.toList, ∀ seen, ∃ seen', Sre.inSet (codeOf items) k (codeOf items).size 5 true seen = .ok (false, seen')) (h : Φ .none σ) :
    Cl c (.builtin "re.Pattern.search") [.raw (.ref a), .str x] fr σ Φ := .mk fun s As hs r => by
  cases r with
  | cons r0 r =>
    cases r0
    cases r with
    | cons r1 r =>
      cases r
      cases r1 with
      | str _ t =>
        have ho := F.X.keeps hs.old _ _ look
        have hb := F.X.keeps hs.old _ _ lookc
        refine wpAny_call_entry (T := "re.Pattern") slot_search ⟨_, ho, rfl⟩ entry_search ?_ (args_search _ _)
        unfold Builtin.«re.Pattern.search»
        refine wpAny_bind ?_
        unfold Builtin.Re.reTarget
        refine wpAny_bind (wpAny_of_eq (a := [some (Value.str x t), none, none]) (by kernel_rfl) ?_)
        dsimp only
        refine wpAny_bind (wpAny_pure (wpAny_bind (wpAny_pure (wpAny_bind (wpAny_fieldsOf ho rfl (wpAny_bind ?_))))))
        refine wpAny_of_eq (a := (x.cps, 0)) rfl ?_
        dsimp only
        rw [h6, h5, h2]
        rw [if_neg (by decide), if_neg (by decide)]
        refine wpAny_bind (wpAny_of_eq (a := ()) rfl ?_)
        refine wpAny_bind ?_
        unfold Builtin.Re.reRawItems
        refine wpAny_bind (wpAny_seqItems hb rfl (wpAny_pure (wpAny_pure ?_)))
        dsimp only
        have el : min (2 ^ 63 - 1 : Int).toNat x.cps.size = x.cps.size := by lia
        have e0 : min (Int.toNat 0) x.cps.size = 0 := by simp
        rw [el, e0]
        obtain ⟨q1, q2, q3⟩ := search_none (code := codeOf items) (text := x.cps) (lim := x.cps.size) hf (fun p hp => hc _ (by
          rw [Array.getD_eq_getD_getElem?, Array.getElem?_eq_getElem hp]
          simp))
        unfold Builtin.Re.reAnswer
        refine wpAny_bind (drive_none (m := Sre.forSearch (codeOf items) x.cps 0 0 x.cps.size false) q1 q2 q3 ?_)
        exact wpAny_pure ⟨_, rfl, Post.here' .none hs h .none⟩
end

open PySem PySem.W PySem.Spec PySem.Calls PyProof.Rows
section
variable {c : Act} {fr : Frame} {σ : Store} {Φ : V → Store → Prop} {K : Frag} {mg : Str → Option Value} {mb : MB} {E : Env} {n : Nat}
theorem tru_none {Φ : Bool → Store → Prop} (h : Φ false σ) : Tru c .none fr σ Φ := Tru.mk fun s A hs ra => by cases ra; exact PyProof.Rows.truthy_none (Post.here' _ hs h rfl)
theorem cmp_is_ty {T : String} (h : Φ (.bool true) σ) : Cmp c .Is (.raw (.type T)) (.raw (.type T)) fr σ Φ := Cmp.mk fun s A B hs ra rb => by
  cases ra; cases rb
  exact wpAny_is_self (by rfl) (Post.here' _ hs h (.bool _))
theorem cmp_isnot_ty {T : String} (h : Φ (.bool false) σ) : Cmp c .IsNot (.raw (.type T)) (.raw (.type T)) fr σ Φ := Cmp.mk fun s A B hs ra rb => by
  cases ra; cases rb
  exact PyProof.Rows.isnot_type_same (Post.here' _ hs h (.bool _))
theorem cmp_isnot_none {v : V} {r : Bool} (hv : (v = .none ∧ r = false) ∨ (((∃ x, v = .str x) ∨ (∃ l, v = .lst l) ∨ (∃ a, v = .raw (.ref a))) ∧ r = true)) (h : Φ (.bool r) σ) : Cmp c .IsNot v .none fr σ Φ := Cmp.mk fun s A B hs ra rb => by
  cases rb
  rcases hv with ⟨rfl, rfl⟩ | ⟨hv, rfl⟩
  · cases ra
    exact PyProof.Rows.isnot_none_none (Post.here' _ hs h (.bool _))
  · refine PyProof.Rows.isnot_none_ne ?_ (Post.here' _ hs h (.bool _))
    rcases hv with ⟨i, rfl⟩ | ⟨i, rfl⟩ | ⟨i, rfl⟩ <;> cases ra <;> (intro e; cases e)
theorem cl_type_str {x : Str} (h : Φ (.raw (.type "str")) σ) : Cl c (.type "type") [.str x] fr σ Φ := .mk fun s As hs r => by
  refine consI (C := fun As => wpAny (model c.prog c.w) c.A (call _ As) _ _ _) r fun _ _ r0 r => ?_
  obtain rfl := nilE r
  obtain ⟨_, rfl⟩ := strE r0
  exact call_type_of (Tx := "str") (typeIs_str _ _ _) (by decide) (Post.here' _ hs h (.raw _))
theorem cl_type_list {v : V} {vs : List V} (w : View σ v vs) (h : Φ (.raw (.type "list")) σ) : Cl c (.type "type") [v] fr σ Φ := .mk fun s As hs r => by
  refine consI (C := fun As => wpAny (model c.prog c.w) c.A (call _ As) _ _ _) r fun _ _ r0 r => ?_
  obtain rfl := nilE r
  obtain ⟨a, Vs, rfl, l, _⟩ := w.at hs r0
  exact call_type_of (Tx := "list") l.typeIs (by decide) (Post.here' _ hs h (.raw _))
end

open PySem PySem.W PySem.Spec PySem.Calls PyProof.Rows

section
variable {c : Act} {fr : Frame} {σ : Store} {Φ : V → Store → Prop} {K : Frag} {mg : Str → Option Value} {mb : MB} {E : Env} {n : Nat}
theorem slc_allA {value : Expr} {e1 : Option Expr} {e2 : Option Expr} {p : Pos} {v : V} {vs : List V} (w : View σ v vs) (hz : vs.length < 100000) (h : Φ (.lst vs) σ) : Slc c value (.Slice e1 e2 none p) v none none none fr σ Φ := .mk fun s A vl vu vk hs ra pl pu pk => by
  obtain ⟨a, Vs, rfl, l, r⟩ := w.at hs ra
  have hz' : Vs.toArray.size ≤ sizeLine := by rw [sizeLine_eq]; have := r.length; simp; omega
  refine tail_any (ops := [.ref s.heap.objs.size, .ref a]) (Heap.IsList.typeIs (s := { s with heap := s.heap.push { cls := .type "slice", data := .fields #[vl, vu, vk] } }) (l.push _)) list_getitem_lookup
    (wpAny_getItem_list_slice (l.push _) (Heap.IsSliceOf.new ..) pl pu pk (by simp) ?_ hz') (by rfl)
  rw [slicePick_all]
  exact ⟨_, σ, h, (hs.push _).push _, (Tr.push _ _ _).trans (Tr.push _ _ _), .lst ⟨_, Heap.get?_push_size _ rfl⟩ (hs.push _).freshP (r.mono ((Tr.push _ _ _).trans (Tr.push _ _ _)))⟩
end

open PySem PySem.W PySem.Spec PySem.Calls PyProof.Rows

section
variable {c : Act} {fr : Frame} {σ : Store} {Φ : V → Store → Prop} {K : Frag} {mg : Str → Option Value} {mb : MB} {E : Env} {n : Nat} {b d : Bool}
theorem te_and {x : Expr} {rest : List Expr} {pos : Pos} {Φ : Bool → Store → Prop} (h : Te c x fr σ fun b σ₁ => IfB b (∀ w, Tri relB c (isTrue (.BoolOp .And rest pos) c.env w) fr σ₁ Φ) (Φ false σ₁)) :
    ∀ w, Tri relB c (isTrue (.BoolOp .And (x :: rest) pos) c.env w) fr σ Φ := fun w => Tri.mk fun s hs =>
  isTrue_and (wpAny_mono (h.run s hs) (fun b s₁ x => by
    obtain ⟨b', σ₁, h₁, hs₁, t₁, rb⟩ := x
    cases rb
    cases b with
    | true =>
      rw [if_pos rfl]
      exact wpAny_mono ((h₁.1 rfl w).run s₁ hs₁) (fun _ _ p => p.trans t₁) fun _ _ e => e
    | false => exact ⟨false, σ₁, h₁.2 rfl, hs₁, t₁, rfl⟩) fun _ _ e => e)
theorem te_and_nil {pos : Pos} {Φ : Bool → Store → Prop} (h : Φ true σ) : ∀ w, Tri relB c (isTrue (.BoolOp .And [] pos) c.env w) fr σ Φ := fun w => Tri.mk fun s hs => isTrue_and_nil (Post.here' true hs h rfl)
theorem cmp_bne (h : Φ (.bool (b != d)) σ) : Cmp c .NotEq (.bool b) (.bool d) fr σ Φ := Cmp.mk fun s A B hs ra rb => by obtain rfl := boolE ra; obtain rfl := boolE rb; with_reducible exact PyProof.Rows.ne_bool (Post.here' _ hs h (.bool _))
theorem cmp_beq' (h : Φ (.bool (b == d)) σ) : Cmp c .Eq (.bool b) (.bool d) fr σ Φ := Cmp.mk fun s A B hs ra rb => by obtain rfl := boolE ra; obtain rfl := boolE rb; with_reducible exact PyProof.Rows.eq_bool (Post.here' _ hs h (.bool _))
theorem cmp_bisnt (h : Φ (.bool (b != d)) σ) : Cmp c .IsNot (.bool b) (.bool d) fr σ Φ := Cmp.mk fun s A B hs ra rb => by obtain rfl := boolE ra; obtain rfl := boolE rb; with_reducible exact PyProof.Rows.isnot_bool (Post.here' _ hs h (.bool _))
end

open PySem PySem.W PySem.Spec PySem.Calls PyProof.Rows

theorem toVs_map {α : Type} (f : α → PyData) : ∀ l : List α, toVs (l.map f) = l.map fun x => toV (f x)
  | [] => rfl
  | a :: r => by simp [toVs, toVs_map f r]
structure OkD (d : PyData) (k : Nat) : Prop where
  nd : noDict d = true
  cl : PyData.canLay0 d = true
  dp : PyData.depth d ≤ k
structure OkDs (l : List PyData) (k : Nat) : Prop where
  nd : noDicts l = true
  cl : PyData.canLayAll0 l = true
  dp : PyData.depthAll l ≤ k
theorem okD_int {i : Int} {k : Nat} : OkD (.int i) k := ⟨rfl, rfl, Nat.zero_le _⟩
theorem okD_str {x : Str} {k : Nat} (h : PyData.strOk x = true) : OkD (.str x) k := ⟨rfl, by rw [PyData.canLay0]; exact h, Nat.zero_le _⟩
theorem strOk_mk {l : List Nat} (h : ∀ k ∈ l, k < 128) : PyData.strOk (mkS l) = true := by
  unfold PyData.strOk
  simp only [List.all_toArray, List.all_eq_true, decide_eq_true_eq]
  exact fun k hk => Nat.lt_trans (h k hk) (by decide)
theorem okDs_nil {k : Nat} : OkDs [] k := ⟨rfl, rfl, Nat.zero_le _⟩
theorem okDs_cons {d : PyData} {l : List PyData} {k : Nat} (h : OkD d k) (hs : OkDs l k) : OkDs (d :: l) k :=
  ⟨by simp [noDicts, h.nd, hs.nd], by simp [PyData.canLayAll0, h.cl, hs.cl], by simp only [PyData.depthAll]; exact Nat.max_le.mpr ⟨h.dp, hs.dp⟩⟩
theorem okDs_map {α : Type} {f : α → PyData} {k : Nat} : ∀ l : List α, (∀ x ∈ l, OkD (f x) k) → OkDs (l.map f) k
  | [], _ => okDs_nil
  | a :: r, h => okDs_cons (h a (List.mem_cons_self ..)) (okDs_map r fun x hx => h x (List.mem_cons_of_mem _ hx))
theorem okD_tup {l : List PyData} {k : Nat} (h : OkDs l k) : OkD (.tuple l) (k + 1) := ⟨by simp [noDict, h.nd], by simp [PyData.canLay0, h.cl], by simp [PyData.depth]; exact h.dp⟩
theorem okD_lst {l : List PyData} {k : Nat} (h : OkDs l k) : OkD (.list l) (k + 1) := ⟨by simp [noDict, h.nd], by simp [PyData.canLay0, h.cl], by simp [PyData.depth]; exact h.dp⟩
def dInts (l : List Int) : List PyData := l.map PyData.int
theorem dInts_toV (l : List Int) : toVs (dInts l) = ivs l := by unfold dInts ivs; rw [toVs_map]; rfl
theorem dInts_ok (l : List Int) : OkDs (dInts l) 0 := okDs_map l fun _ _ => okD_int
def dNorm (cnt : List Int) (b : Int) : PyData := .tuple [.tuple (dInts cnt), .int b]
theorem dNorm_toV (cnt : List Int) (b : Int) : toV (dNorm cnt b) = .tup [.tup (ivs cnt), .int b] := by unfold dNorm; simp [toV, toVs, dInts_toV]
theorem dNorm_ok (cnt : List Int) (b : Int) : OkD (dNorm cnt b) 2 := okD_tup (okDs_cons (okD_tup (dInts_ok cnt)) (okDs_cons okD_int okDs_nil))
def dPair (p : List Nat × List Nat) : PyData := .tuple [.str (mkS p.1), .str (mkS p.2)]
def dPairs (ps : List (List Nat × List Nat)) : PyData := .list (ps.map dPair)
theorem dPairs_ok (ps : List (List Nat × List Nat)) (h : ∀ p ∈ ps, (∀ k ∈ p.1, k < 128) ∧ ∀ k ∈ p.2, k < 128) : OkD (dPairs ps) 2 := okD_lst (okDs_map ps fun p hp => okD_tup (okDs_cons (okD_str (strOk_mk (h p hp).1)) (okDs_cons (okD_str (strOk_mk (h p hp).2)) okDs_nil)))
theorem dPairs_toV (ps : List (List Nat × List Nat)) : toV (dPairs ps) = .lst (ps.map fun p => .tup [.str (mkS p.1), .str (mkS p.2)]) := by
  unfold dPairs; rw [toV, toVs_map]; rfl

section
variable {c : Act} {fr : Frame} {σ : Store} {Φ : V → Store → Prop} {K : Frag} {mg : Str → Option Value} {mb : MB} {E : Env} {n : Nat}
theorem cmp_deqD (F : Fact K mg mb E n c) (da db : PyData) {a b : V} (ha : a = toV da) (hb : b = toV db) {k k' : Nat} (ka : OkD da k) (kb : OkD db k') (hk : k ≤ 100) (h : Φ (.bool (PyData.eqv da db)) σ) : Cmp c .Eq a b fr σ Φ := by
  subst ha hb; exact cmp_deq F ka.nd kb.nd ka.cl kb.cl (Nat.le_trans ka.dp hk) h
theorem cmp_dneD (F : Fact K mg mb E n c) (da db : PyData) {a b : V} (ha : a = toV da) (hb : b = toV db) {k k' : Nat} (ka : OkD da k) (kb : OkD db k') (hk : k ≤ 100) (h : Φ (.bool (!PyData.eqv da db)) σ) : Cmp c .NotEq a b fr σ Φ := by
  subst ha hb; exact cmp_dne F ka.nd kb.nd ka.cl kb.cl (Nat.le_trans ka.dp hk) h
theorem eqvAll_ints : ∀ l m : List Int, PyData.eqvAll (dInts l) (dInts m) = decide (l = m)
  | [], [] => rfl
  | [], _ :: _ => rfl
  | _ :: _, [] => rfl
  | a :: r, b :: s => by
    show PyData.eqvAll (PyData.int a :: dInts r) (PyData.int b :: dInts s) = _
    rw [PyData.eqvAll, eqvAll_ints r s]
    simp only [PyData.eqv, List.cons.injEq, Bool.decide_and]; rfl
theorem eqv_norm (l m : List Int) (a b : Int) : PyData.eqv (dNorm l a) (dNorm m b) = decide (l = m ∧ a = b) := by
  unfold dNorm
  simp only [PyData.eqv, PyData.eqvAll, eqvAll_ints, Bool.and_true, Bool.decide_and]; rfl
end

open PySem PySem.W PySem.Spec PySem.Calls PyProof.Rows

theorem rng_size (b : Nat) : Builtin.Range.rangeSize 0 b 1 = b := by
  unfold Builtin.Range.rangeSize
  by_cases h : (0 : Int) < b
  · rw [if_pos (by decide), if_pos h]; lia
  · rw [if_pos (by decide), if_neg h]; lia
theorem rng_small {b : Nat} (h : b < 100) : Builtin.Range.small 0 b 1 = true := by
  have : ∀ b : Fin 100, Builtin.Range.small 0 (b.val : Int) 1 = true := by decide +kernel
  exact this ⟨b, h⟩
theorem rngL_nat (b : Nat) : rngL 0 b 1 = (List.range b).map fun (i : Nat) => V.int (0 + (i : Int) * 1) := by
  unfold rngL; rw [rng_size, Int.toNat_natCast]
theorem src_rng {σ : Store} {b : Nat} (h : b < 100) : Src σ (.rng 0 b 1) ((List.range b).map fun (i : Nat) => V.int (0 + (i : Int) * 1)) := by
  rw [← rngL_nat]; exact .rng (rng_small h) (by rw [rng_size]; lia)
theorem ivs_cast (l : List Nat) : ivs (l.map fun (k : Nat) => (k : Int)) = l.map fun (k : Nat) => V.int (k : Int) := by unfold ivs; rw [List.map_map]; rfl
theorem count_cast (k : Nat) : ∀ l : List Nat, (l.map fun (k : Nat) => (k : Int)).count (k : Int) = l.count k
  | [] => rfl
  | a :: r => by
    rw [List.map_cons, List.count_cons, List.count_cons, count_cast k r]
    by_cases h : a = k
    · subst h
      rw [if_pos (beq_self_eq_true _), if_pos (beq_self_eq_true _)]
    · have h' : ¬ (a : Int) = (k : Int) := by lia
      rw [if_neg (by rw [beq_iff_eq]; exact h'), if_neg (by rw [beq_iff_eq]; exact h)]

open PySem PySem.W PySem.Spec PySem.Calls PyProof.Rows

section
variable {c : Act} {fr : Frame} {σ : Store} {K : Frag} {mg : Str → Option Value} {mb : MB} {E : Env} {n : Nat}

theorem dictOf0 {prog : Program} {w : World} {h : Heap} {d : Addr} (e : h.get? d = some (dictOf [] 0)) : h.DictOf (strKind prog w) d [] :=
  ⟨_, #[], 0, e, ⟨rfl, rfl, rfl⟩, rfl, fun x hx => absurd hx (by simp), .nil, List.nodup_nil⟩
theorem dictAt0 {prog : Program} {w : World} {h : Heap} {d : Addr} (e : h.get? d = some (dictOf [] 0)) : h.DictAt (strKind prog w) d [] 0 :=
  ⟨_, #[], e, ⟨rfl, rfl, rfl⟩, rfl, fun x hx => absurd hx (by simp), .nil, List.nodup_nil⟩
abbrev itemsObj (d : Addr) : Obj := { cls := .type "dict_items", data := .fields #[.ref d] }

theorem ev_items {Φ : V → Store → Prop} {x : Str} {ap p pos : Pos} {d : Addr} (F : Fact K mg mb E n c) (hm : (x, some (V.raw (.ref d))) ∈ fr) (hd : (d == sysModules) = false) (ho : (d, O.raw (dictOf [] 0)) ∈ σ)
    (h : ∀ a, Φ (.raw (.ref a)) ((a, O.raw (itemsObj d)) :: σ)) (hbase : attributeBase (.Name x p) "items" c.env (eval (.Name x p) c.env) = eval (.Name x p) c.env := by with_unfolding_all rfl)
    (hline : (ap.endLine == pos.line) = true := by with_unfolding_all rfl) (hdb : (x == ("__debug__" : Str)) = false := by with_unfolding_all rfl) :
    Ev c (.Call (.Attribute (.Name x p) "items" ap) [] [] pos) fr σ Φ := Tri.mk fun s hs => by
  have e2 : s.heap.get? d = some (dictOf [] 0) := hs.own _ ho
  refine wpAny_Call_items (knd := strKind c.prog c.w) hd (dictOf0 e2) hbase hline (fun Q' q => ?_) ?_
  · refine wpAny_Name (loadLocal F.kfn hm hs fun a ra => ?_) hdb
    cases ra; exact q
  · exact ⟨.raw (.ref s.heap.objs.size), _, h _, hs.pushW _ (Heap.get?_push_size _ rfl), Tr.pushW _ _ _, .raw _⟩

theorem itr_items0 (hh : c.A.handled = none) {target : Expr} {v : V} {A : Value} {d I : Addr} : Itr c target v A I [I] [] (fun σ => (d, O.raw (dictOf [] 0)) ∈ σ) (fun _ h => IsItemIter h I d 0 0 0 .none .none) where
  keep := fun k h h' x q => q I (List.mem_singleton.mpr rfl) _ x
  item := fun k x fr σ s Q hx => by cases hx
  done := fun fr σ s Q hw hs ra hk hQ => wpAny_pyNext_items_end (knd := strKind c.prog c.w) (kvs := []) hh hk (dictAt0 (hs.own _ hw)) rfl fun h' e => hQ h' s.toks fun b o hb x => e b o (fun q => hb (q ▸ List.mem_singleton.mpr rfl)) x

theorem ex_for0 {Φ : Fl → Frame → Store → Prop} (F : Fact K mg mb E n c) {target iter : Expr} {body rest : List Stmt} {pos : Pos} {d : Addr} (he : Ev c iter fr σ fun v σ₁ => ∃ a, v = .raw (.ref a) ∧ σ₁ = (a, O.raw (itemsObj d)) :: σ) (hd : (d, O.raw (dictOf [] 0)) ∈ σ)
    (h : Ex c rest fr σ Φ) (hs : ∀ x, foldedSetIterable iter c.env x = pure x := by intro _; with_unfolding_all rfl) : Ex c (.For target iter body [] pos :: rest) fr σ Φ :=
  ex_cons (.mk fun s hst => wpAny_For (wpAny_mono (he.run s hst) (fun A s₁ x => by
    obtain ⟨v', σ₁, ⟨a, rfl, rfl⟩, hs₁, t₁, rv⟩ := x
    obtain rfl := rawE rv
    have e1 : s₁.heap.get? a = some (itemsObj d) := hs₁.own _ (List.mem_cons_self ..)
    have e2 : s₁.heap.get? d = some (dictOf [] 0) := hs₁.own _ (List.mem_cons_of_mem _ hd)
    refine wpAny_pyIter_items (knd := strKind c.prog c.w) (kvs := []) (ep := 0) ⟨_, e1, rfl, rfl⟩ (dictAt0 e2) ?_
    have core := for_core (target := target) (body := body) (E₂ := cameBackBy (model c.prog c.w) c.A c.env NoE) (Φ := Then c rest Φ) F hs₁ rv fresh1 (R := [s₁.heap.objs.size]) (xs := []) (tk₁ := s₁.toks) (fun b o e => Heap.get?_push_of_some _ e) (sameBut_exists (h := s₁.heap) (Heap.get?_push_size _ rfl))
      (itr_items0 (c := { c with prot := [s₁.heap.objs.size] ++ c.prot }) (target := target) (v := .raw (.ref a)) (A := .ref a) (d := d) F.hh) (Heap.get?_push_size (o := { cls := .type "dict_itemiterator", data := .fields #[.none, .bool false, .ref d, .int 0 0, .int 0 0, .int 0 0, .none, .none] }) s₁.heap rfl)
      (fun _ fr' σ' => fr' = fr ∧ σ' = (a, O.raw (itemsObj d)) :: σ) (fun _ _ => False) ⟨rfl, rfl⟩ (fun k fr' σ' hI => by obtain ⟨rfl, rfl⟩ := hI; exact List.mem_cons_of_mem _ hd) (fun c' F' k x fr' σ' hx => by cases hx)
      (fun fr' σ' hI => by obtain ⟨rfl, rfl⟩ := hI; exact then_next (ex_less (List.sublist_cons_self _ _) h)) (fun _ _ h => h.elim)
    refine codeAny_mono core fun r s' hr => ?_
    cases r with
    | ok f => exact PostS.trans hr (trW t₁)
    | error e => exact hr) fun _ _ e => e) hs)

theorem cl_str {Φ : V → Store → Prop} {i : Int} (h1 : -1000000000000 < i ∧ i < 1000000000000) (h : Φ (.str (Str.ofString (toString i))) σ) : Cl c (.type "str") [.int i] fr σ Φ := .mk fun s As hs r => by
  refine consI (C := fun As => wpAny (model c.prog c.w) c.A (call _ As) _ _ _) r fun _ _ r0 r => ?_
  obtain rfl := nilE r
  obtain ⟨_, rfl⟩ := intE r0
  exact P.str_of_int (shown (N := 1000000000000) h1.1 h1.2 (by decide +kernel)) (Post.here _ hs h (.str _ _))
theorem cl_int {Φ : V → Store → Prop} {x : Str} {i : Int} (hx : PySem.intText? x = some i) (hl : x.length ≤ 640) (h : Φ (.int i) σ) : Cl c (.type "int") [.str x] fr σ Φ := .mk fun s As hs r => by
  refine consI (C := fun As => wpAny (model c.prog c.w) c.A (call _ As) _ _ _) r fun _ _ r0 r => ?_
  obtain rfl := nilE r
  obtain ⟨_, rfl⟩ := strE r0
  exact KIN.call_text hx hl (Post.here _ hs h (.int _ _))

theorem cl_fnA {f : Addr} {o : Obj} {fd : FuncData} {qual : Str} {body : List Stmt} {scope : Scope} {cdv : Value} {vs : List V} {Φ : V → Store → Prop} (names rest : List Str) (fr0 : Addr → Frame) (F : Fact K mg mb E (n + 1) c)
    (look : K.lookup f = some o) (dat : o.data = .func fd) (bd : fd.body = .stmts body) (q : fd.qualname = qual) (sc : fd.scope = scope) (cd : fd.code = cdv) (gl : fd.globals = mainGlobals) (bl : fd.builtins = builtinsNs) (cl : fd.closure = [])
    (code : codeIn K cdv qual = true) (co : scope.isCoroutine = false) (gen : scope.isGenerator = false) (kind : scope.kind = .function)
    (hbind : ∀ S As, As.length = vs.length → ∃ g, peekA K S (bindArgs fd ⟨As, []⟩) = some (dictOf [] 0, g) ∧ ∀ d, g d = pure (names.zip (As ++ [.ref d]))) (hlen : names.length = vs.length + 1) (hnd : (names ++ rest).Nodup)
    (hloc : ((names ++ rest).all fun x => scope.names.lookup x == some .local) = true) (hfr : ∀ d, fr0 d = frameOf names (vs ++ [.raw (.ref d)]) rest)
    (h : ∀ d L c', (d == sysModules) = false → Fact K mg mb (envOfC qual scope L f cdv) n c' → Ex c' body (fr0 d) ((d, .raw (dictOf [] 0)) :: σ) fun fl _ σ' => ∃ v σ'', RetV fl v ∧ Less σ'' σ' ∧ Φ v σ'') : Cl c (.ref f) vs fr σ Φ := by
  have loc : ∀ x ∈ names ++ rest, scope.names.lookup x = some .local := fun x hx => by simpa using List.all_eq_true.mp hloc x hx
  have D : DefIs K f qual body scope cdv fd := ⟨⟨o.cls, o.dict, o.slots, by rw [← dat]; exact look⟩, bd, q, sc, cd, gl, bl, cl, code, co, gen, kind⟩
  have hl2 : ∀ d : Addr, names.length = (vs ++ [V.raw (.ref d)]).length := fun d => by rw [hlen, List.length_append]; rfl
  refine cl_of (CdK.cl (cdk_defA F D (names := names) (fr0 := fr0) (ob := dictOf [] 0) hbind (List.nodup_append.mp hnd).1 hlen (fun x hx => loc x (List.mem_append_left _ hx)) (fun d x v hv => ?_) (fun d p hp => ?_) (fun d => ?_) h rfl))
  · rw [hfr] at hv
    unfold frameOf at hv
    rcases List.mem_append.mp hv with hv | hv
    · obtain ⟨q, hq, e⟩ := List.mem_map.mp hv
      cases e; exact hq
    · obtain ⟨q, hq, e⟩ := List.mem_map.mp hv
      cases e
  · have hp' : p.1 ∈ (fr0 d).map (·.1) := List.mem_map.mpr ⟨p, hp, rfl⟩
    rw [hfr, frameOf_names (hl2 d)] at hp'
    exact loc _ hp'
  · rw [hfr, frameOf_names (hl2 d)]; exact hnd
end

open PySem PySem.W PySem.Spec PySem.Calls PyProof.Rows

section
variable {c : Act} {fr : Frame} {σ : Store} {K : Frag} {mg : Str → Option Value} {mb : MB} {E : Env} {n : Nat}
/-- a def one of whose parameters is a cell -/
theorem cl_fnC {f : Addr} {o : Obj} {fd : FuncData} {qual : Str} {body : List Stmt} {scope : Scope} {cdv : Value} {vs : List V} {Φ : V → Store → Prop} (names : List Str) (fr0 : Frame) (x : Str) (v : V) (F : Fact K mg mb E (n + 1) c)
    (look : K.lookup f = some o) (dat : o.data = .func fd) (bd : fd.body = .stmts body) (q : fd.qualname = qual) (sc : fd.scope = scope) (cd : fd.code = cdv) (gl : fd.globals = mainGlobals) (bl : fd.builtins = builtinsNs) (cl : fd.closure = [])
    (code : codeIn K cdv qual = true) (co : scope.isCoroutine = false) (gen : scope.isGenerator = false) (kind : scope.kind = .function)
    (hbind : ∀ As, As.length = names.length → bindArgs fd ⟨As, []⟩ = pure (names.zip As)) (hlen : names.length = vs.length) (hnd : names.Nodup)
    (hkind : ∀ x ∈ names, scope.names.lookup x = some .local ∨ (scope.names.lookup x = some .cell ∧ ∀ m, ((cellsFrom m scope.names []).lookup x).isSome = true))
    (hfr : ∀ x v, (x, some v) ∈ fr0 → (x, v) ∈ names.zip vs) (hfk : ((fr0.map (·.1)).all fun x => scope.names.lookup x == some .local) = true) (hfn : (fr0.map (·.1)).Nodup)
    (hc : ∀ L, (cellsFrom (L + 1) scope.names []).lookup x = some (L + 1)) (hz : (x, v) ∈ names.zip vs) (hn : scope.names.lookup x ≠ some .local)
    (h : ∀ L c', Fact K mg mb (envOfC qual scope L f cdv) n c' → Ex c' body fr0 ((L + 1, .cell (some v)) :: σ) fun fl _ σ' => ∃ v σ'', RetV fl v ∧ Less σ'' σ' ∧ Φ v σ'') : Cl c (.ref f) vs fr σ Φ := by
  have D : DefIs K f qual body scope cdv fd := ⟨⟨o.cls, o.dict, o.slots, by rw [← dat]; exact look⟩, bd, q, sc, cd, gl, bl, cl, code, co, gen, kind⟩
  refine cl_of (CdK.cl (cd_def F D names fr0 (fun L => [(L + 1, .cell (some v))]) hbind hnd hlen hkind hfr (fun p hp => ?_) hfn (fun L p hp => ?_) (fun L => List.nodup_cons.mpr ⟨by simp, List.nodup_nil⟩) h))
  · simpa using List.all_eq_true.mp hfk p.1 (List.mem_map.mpr ⟨p, hp, rfl⟩)
  · obtain rfl := List.mem_singleton.mp hp
    exact ⟨x, some v, hc L, rfl, .inr ⟨v, rfl, hz, hn⟩⟩
end

open PySem PySem.W PySem.Spec PySem.Calls PyProof.Rows

theorem vrels_snoc {h : Heap} {P : List Addr} {v : V} : ∀ {vs : List V} {as : List Value}, VRels h P (vs ++ [v]) as → ∃ bs b, as = bs ++ [b] ∧ VRels h P vs bs ∧ VRel h P v b
  | [], _, r => by
    obtain ⟨b, bs, rfl, r1, r2⟩ := consE r
    obtain rfl := nilE r2
    exact ⟨[], b, rfl, .nil, r1⟩
  | x :: vs, _, r => by
    obtain ⟨b, bs, rfl, r1, r2⟩ := consE (show VRels h P (x :: (vs ++ [v])) _ from r)
    obtain ⟨cs, e, rfl, r3, r4⟩ := vrels_snoc r2
    exact ⟨b :: cs, e, rfl, .cons r1 r3, r4⟩
section
variable {c : Act} {fr : Frame} {K : Frag} {mg : Str → Option Value} {mb : MB} {E : Env} {n : Nat}
/-- the newest list, which is the last of another, is written no more -/
theorem ex_freezeIn {ss : List Stmt} {Φ : Fl → Frame → Store → Prop} {A R : Addr} {ws pre : List V} {τ : Store} (h : Ex c ss fr ((R, .list (pre ++ [V.lst ws])) :: τ) Φ) : Ex c ss fr ((A, .list ws) :: (R, .list (pre ++ [V.raw (Value.ref A)])) :: τ) Φ := .mk fun s hs => by
  obtain ⟨hs1, t1⟩ := hs.less (σ' := (R, .list (pre ++ [V.raw (Value.ref A)])) :: τ) (List.sublist_cons_self _ _)
  obtain ⟨Vs, pl, r⟩ := hs.own _ (List.mem_cons_self ..)
  obtain ⟨Rs, plR, rR⟩ := hs1.own _ (List.mem_cons_self ..)
  obtain ⟨Ps, b, e, rP, rb⟩ := vrels_snoc rR
  obtain rfl := rawE rb
  have hA : A ∉ c.P ((R, .list (pre ++ [V.raw (Value.ref A)])) :: τ) := fun q => by
    have hW : A ∈ c.W ((A, .list ws) :: (R, .list (pre ++ [V.raw (Value.ref A)])) :: τ) := List.mem_cons_of_mem _ (List.mem_cons_self ..)
    rcases List.mem_append.mp q with q | q
    · exact (hs.pr A q).1 hW
    · have nd := hs.nd
      unfold Act.W keys at nd
      rw [List.map_cons] at nd
      obtain ⟨n1, n2⟩ := List.nodup_cons.mp nd
      rcases List.mem_cons.mp q with q | q
      · exact n1 (q ▸ List.mem_cons_self ..)
      · exact (List.nodup_cons.mp n2).1 q
  have tr : Tr (c.P ((A, .list ws) :: (R, .list (pre ++ [V.raw (Value.ref A)])) :: τ)) s.heap (c.P ((R, .list (pre ++ [V.raw (Value.ref A)])) :: τ)) s.heap := t1.app c.prot
  have rL : VRels s.heap (c.P ((R, .list (pre ++ [V.raw (Value.ref A)])) :: τ)) (pre ++ [V.lst ws]) Rs := by
    rw [e]; exact rP.append (.cons (.lst pl hA (r.mono tr)) .nil)
  have hs2 : St c fr ((R, .list (pre ++ [V.lst ws])) :: τ) s := hs1.move (by obtain ⟨h, t, e⟩ := hs1.sh; rw [e]; exact ⟨_, _, rfl⟩) (Tr.refl _ _) (fun p hp => by
    rcases List.mem_cons.mp hp with rfl | hp
    · exact ⟨Rs, plR, rL⟩
    · exact hs1.own p (List.mem_cons_of_mem _ hp)) hs1.nd
  exact wpAny_mono (h.run s hs2) (fun _ _ q => q.trans t1) fun _ _ e => e
end

open PySem PySem.W PySem.Spec PySem.Calls PyProof.Rows

/-! a comprehension of two clauses -/
theorem compTurn2_1 (elt t1 i1 t2 i2 : Expr) (scope : Scope) (pos : Pos) (it acc : Value) (env : Env) :
    compTurn (.ListComp elt [⟨t1, i1, [], 0⟩, ⟨t2, i2, [], 0⟩] scope pos) 1 it acc env = (standAt i2.pos >>= fun _ => pyNext it >>= fun r => match r with
      | none => pure (.done .next)
      | some v => letOwnedTupleGo t2 it v >>= fun _ => assign t2 env v >>= fun _ =>
        (eval elt env >>= fun x => call (.builtin "list.append") [acc, x] >>= fun _ => pure ()) >>= fun _ =>
          again (.compLoop (.ListComp elt [⟨t1, i1, [], 0⟩, ⟨t2, i2, [], 0⟩] scope pos) 1 it acc env)) := by rfl
theorem compTurn2_0 (elt t1 i1 t2 i2 : Expr) (scope : Scope) (pos : Pos) (it acc : Value) (env : Env) :
    compTurn (.ListComp elt [⟨t1, i1, [], 0⟩, ⟨t2, i2, [], 0⟩] scope pos) 0 it acc env = (standAt i1.pos >>= fun _ => pyNext it >>= fun r => match r with
      | none => pure (.done .next)
      | some v => letOwnedTupleGo t1 it v >>= fun _ => assign t1 env v >>= fun _ =>
        eval i2 env >>= fun x => standAt i2.pos >>= fun _ => foldedSetIterable i2 env x >>= fun x => holding [x] (pyIter x) >>= fun it2 =>
          runOwn (.compStart (.ListComp elt [⟨t1, i1, [], 0⟩, ⟨t2, i2, [], 0⟩] scope pos) 1 it2 acc env) env >>= fun _ =>
          again (.compLoop (.ListComp elt [⟨t1, i1, [], 0⟩, ⟨t2, i2, [], 0⟩] scope pos) 0 it acc env)) := by rfl

section
variable {prog : Program} {w : World} {A : Around} {s : Shared} {elt t1 i1 t2 i2 : Expr} {scope : Scope} {pos : Pos} {it acc : Value} {env : Env} {R : Result → Shared → Prop}
theorem comp_loop1 (I : Nat → Shared → Prop)
    (turn : ∀ n s, I n s → wpAny (model prog w) A (pyNext it) (fun r s₁ => match r with
      | none => R (.ok .next) s₁
      | some v => wpAny (model prog w) A (letOwnedTupleGo t2 it v) (fun _ s₀ => wpAny (model prog w) A (assign t2 env v) (fun _ s₂ =>
          wpAny (model prog w) A (eval elt env) (fun x s₄ =>
              wpAny (model prog w) A (call (.builtin "list.append") [acc, x]) (fun _ s₅ => ∃ m, m < n ∧ I m s₅) NoE s₄) NoE s₂) NoE s₀) NoE s₁) NoE s)
    (n : Nat) (h : I n s) : codeAny (model prog w) A (.compLoop (.ListComp elt [⟨t1, i1, [], 0⟩, ⟨t2, i2, [], 0⟩] scope pos) 1 it acc env) R s := by
  have noE : ∀ {E₃ : Value → Shared → Prop} (e : Value) (s₂ : Shared), NoE e s₂ → E₃ e s₂ := fun _ _ h => h.elim
  refine codeAny_loop rfl I (fun n s hI => ?_) n h
  show wpAny _ A ((compTurn (.ListComp elt [⟨t1, i1, [], 0⟩, ⟨t2, i2, [], 0⟩] scope pos) 1 it acc env).onRaise (fun x => do noteFrame x env; theTreesLotGoes x)) _ _ s
  refine wpAny_noted ?_
  rw [compTurn2_1]
  refine wpAny_bind (wpAny_standAt (wpAny_bind (wpAny_mono (turn n s hI) (fun r s₁ h₁ => ?_) noE)))
  cases r with
  | none => exact wpAny_pure h₁
  | some v =>
    refine wpAny_bind (wpAny_mono h₁ (fun _ s₀ h₀ => ?_) noE)
    refine wpAny_bind (wpAny_mono h₀ (fun _ s₂ h₂ => ?_) noE)
    exact wpAny_bind (wpAny_bind (wpAny_mono h₂ (fun x s₄ h₄ => wpAny_bind (wpAny_mono h₄ (fun _ s₅ h₅ => wpAny_pure (wpAny_pure ⟨rfl, h₅⟩)) noE)) noE))
theorem comp_loop0 (I : Nat → Shared → Prop) (hs : ∀ x, foldedSetIterable i2 env x = pure x)
    (turn : ∀ n s, I n s → wpAny (model prog w) A (pyNext it) (fun r s₁ => match r with
      | none => R (.ok .next) s₁
      | some v => wpAny (model prog w) A (letOwnedTupleGo t1 it v) (fun _ s₀ => wpAny (model prog w) A (assign t1 env v) (fun _ s₂ =>
          wpAny (model prog w) A (eval i2 env) (fun x s₃ => wpAny (model prog w) A (pyIter x) (fun it2 s₄ =>
            codeAny (model prog w) A (.compStart (.ListComp elt [⟨t1, i1, [], 0⟩, ⟨t2, i2, [], 0⟩] scope pos) 1 it2 acc env) (fun r s' => match r with | .ok _ => ∃ m, m < n ∧ I m s' | .error _ => False) s₄) NoE s₃) NoE s₂) NoE s₀) NoE s₁) NoE s)
    (n : Nat) (h : I n s) : codeAny (model prog w) A (.compLoop (.ListComp elt [⟨t1, i1, [], 0⟩, ⟨t2, i2, [], 0⟩] scope pos) 0 it acc env) R s := by
  have noE : ∀ {E₃ : Value → Shared → Prop} (e : Value) (s₂ : Shared), NoE e s₂ → E₃ e s₂ := fun _ _ h => h.elim
  refine codeAny_loop rfl I (fun n s hI => ?_) n h
  show wpAny _ A ((compTurn (.ListComp elt [⟨t1, i1, [], 0⟩, ⟨t2, i2, [], 0⟩] scope pos) 0 it acc env).onRaise (fun x => do noteFrame x env; theTreesLotGoes x)) _ _ s
  refine wpAny_noted ?_
  rw [compTurn2_0]
  refine wpAny_bind (wpAny_standAt (wpAny_bind (wpAny_mono (turn n s hI) (fun r s₁ h₁ => ?_) noE)))
  cases r with
  | none => exact wpAny_pure h₁
  | some v =>
    refine wpAny_bind (wpAny_mono h₁ (fun _ s₀ h₀ => ?_) noE)
    refine wpAny_bind (wpAny_mono h₀ (fun _ s₂ h₂ => ?_) noE)
    refine wpAny_bind (wpAny_mono h₂ (fun x s₃ h₃ => ?_) noE)
    refine wpAny_bind (wpAny_standAt (wpAny_bind (wpAny_of_eq (hs x) ?_)))
    refine wpAny_bind (wpAny_holding (wpAny_mono h₃ (fun it2 s₄ h₄ => ?_) noE))
    refine wpAny_bind (wpAny_runOwn (by
      rw [Around.mark_none]
      refine codeAny_mono h₄ fun r s' hr => ?_
      cases r with
      | ok f => exact wpAny_pure ⟨rfl, hr⟩
      | error e => exact hr.elim))
theorem comp_start1 (h0 : codeAny (model prog w) A (.compLoop (.ListComp elt [⟨t1, i1, [], 0⟩, ⟨t2, i2, [], 0⟩] scope pos) 1 it acc env) R s)
    (h : wpAny (model prog w) A (pyIter it) (fun it' s' => codeAny (model prog w) A (.compLoop (.ListComp elt [⟨t1, i1, [], 0⟩, ⟨t2, i2, [], 0⟩] scope pos) 1 it' acc env) R s')
      (notedBy (model prog w) A env fun x s' => R (.error x) s') s) :
    codeAny (model prog w) A (.compStart (.ListComp elt [⟨t1, i1, [], 0⟩, ⟨t2, i2, [], 0⟩] scope pos) 1 it acc env) R s := by
  refine codeAny_of_tree ?_
  show wpAny _ _ ((compStart (.ListComp elt [⟨t1, i1, [], 0⟩, ⟨t2, i2, [], 0⟩] scope pos) 1 it acc env).onRaise (fun x => do noteFrame x env; standAt theWindowsPlace)) _ _ s
  refine wpAny_notedAt ?_
  unfold compStart
  show wpAny _ _ (ask >>= _) _ _ s
  refine wpAny_bind (wpAny_askSetting (wpAny_ite ?_))
  split
  · first
      | exact wpAny_bind (wpAny_pure (wpAny_pure (And.intro rfl h0)))
      | exact wpAny_pure (And.intro rfl h0)
  · first
      | exact wpAny_bind (wpAny_rule (wpAny_bind (wpAny_standAt (wpAny_bind (wpAny_mono h (fun it' s' h' => wpAny_pure (And.intro rfl h')) fun _ _ x => x)))))
      | (refine wpAny_bind (wpAny_rule ?_); show wpAny _ _ (standAt i2.pos >>= _) _ _ s; exact wpAny_bind (wpAny_standAt (wpAny_bind (wpAny_mono h (fun it' s' h' => wpAny_pure (And.intro rfl h')) fun _ _ x => x))))
end

open PySem PySem.W PySem.Spec PySem.Calls PyProof.Rows

inductive RngOf : V → List V → Prop where
  | mk {a b st : Int} : Builtin.Range.small a b st = true → 0 ≤ Builtin.Range.rangeSize a b st → RngOf (.rng a b st) (rngL a b st)
section
variable {c : Act} {fr : Frame} {σ : Store} {K : Frag} {mg : Str → Option Value} {mb : MB} {E : Env} {n : Nat}
/-- some of the frame's values forgotten -/
theorem St.forgetTo {s : Shared} (hs : St c fr σ s) {fr0 : Frame} (e : fr0.map (·.1) = fr.map (·.1)) (hn : ∀ x v, (x, some v) ∈ fr0 → (x, some v) ∈ fr) : St c fr0 σ s := by
  refine ⟨hs.sh, ?_, by rw [e]; exact hs.names, fun p hp => ?_, hs.pr, hs.old, hs.own, hs.nd, hs.wG⟩
  · obtain ⟨m, hm, hv⟩ := hs.ns
    exact ⟨m, hm, fun x v hx => hv x v (hn x v hx)⟩
  · have : p.1 ∈ fr0.map (·.1) := List.mem_map.mpr ⟨p, hp, rfl⟩
    rw [e] at this
    obtain ⟨q, hq, eq⟩ := List.mem_map.mp this
    exact eq ▸ hs.kinds q hq

theorem St.moveP {σ' : Store} {s s' : Shared} (x : St c fr σ s) {C : Addr} (hs : ∃ h tk, s' = ⟨h, c.gens, c.drawn, tk, c.os⟩) (t : Tr (keys σ) s.heap (keys σ') s'.heap) (nC : s.heap.get? C = none) (eC : ∃ o, s'.heap.get? C = some o) (CW : C ∉ c.W σ')
    (own : ∀ p ∈ σ', ORel s'.heap (Act.P { c with prot := C :: c.prot } σ') p.1 p.2) (nd : (c.W σ').Nodup) : St { c with prot := C :: c.prot } fr σ' s' := by
  have tc := Act.P_tr (c := c) t
  have tp : Tr (c.P σ) s.heap (Act.P { c with prot := C :: c.prot } σ') s'.heap := ⟨tc.keep, fun b hb => by
    rcases List.mem_cons.mp (show b ∈ C :: (c.prot ++ c.W σ') from hb) with rfl | q
    · exact .inr nC
    · exact tc.grow b q⟩
  have hL : c.env.locals ∉ keys σ := by have := x.nd; unfold Act.W at this; exact (List.nodup_cons.mp this).1
  refine ⟨hs, ?_, x.names, x.kinds, fun b hb => ?_, fun b o e => ?_, own, nd, fun b hb => ?_⟩
  · obtain ⟨m, hm, hv⟩ := x.ns
    refine ⟨m, hm.at' fun o e => t.keep _ o hL e, fun y v hy => ?_⟩
    obtain ⟨a, e, r⟩ := hv y v hy
    exact ⟨a, e, r.mono tp⟩
  · rcases List.mem_cons.mp hb with rfl | hb
    · exact ⟨CW, eC⟩
    · obtain ⟨nb, o, e⟩ := x.pr b hb
      refine ⟨fun q => ?_, o, t.keep b o (fun q => nb (List.mem_cons_of_mem _ q)) e⟩
      rcases List.mem_cons.mp q with rfl | q
      · exact nb (List.mem_cons_self ..)
      · rcases t.grow b q with q | q
        · exact nb (List.mem_cons_of_mem _ q)
        · rw [e] at q; cases q
  · refine t.keep b o (fun hb => ?_) (x.old b o e)
    have := x.wG b (List.mem_cons_of_mem _ hb)
    rw [e] at this; cases this
  · rcases List.mem_cons.mp hb with rfl | hb
    · exact x.wG _ (List.mem_cons_self ..)
    · rcases t.grow b hb with q | q
      · exact x.wG b (List.mem_cons_of_mem _ q)
      · cases e : c.G.get? b with
        | none => rfl
        | some o => rw [x.old b o e] at q; cases q
/-- a place that nobody holds is changed -/
theorem St.butC {s : Shared} {C : Addr} (hs : St { c with prot := C :: c.prot } fr σ s) {h' : Heap} (hCp : C ∉ c.prot) (hG : c.G.get? C = none) (sb : Heap.SameBut C s.heap h') : St c fr σ { s with heap := h' } := by
  have CW : C ∉ c.W σ := (hs.pr C (List.mem_cons_self ..)).1
  have tF : Tr (Act.P { c with prot := C :: c.prot } σ) s.heap (c.P σ) h' := ⟨fun b o hb e => (sb.2 b fun q => hb (q ▸ List.mem_cons_self ..)).trans e, fun b hb => .inl (List.mem_cons_of_mem _ hb)⟩
  have kk : ∀ b o, b ≠ C → s.heap.get? b = some o → h'.get? b = some o := fun b o hb e => (sb.2 b hb).trans e
  refine ⟨by obtain ⟨h, t, e⟩ := hs.sh; rw [e]; exact ⟨_, _, rfl⟩, ?_, hs.names, hs.kinds, fun b hb => ?_, fun b o e => kk b o (fun q => by rw [q, hG] at e; cases e) (hs.old b o e), fun p hp => (hs.own p hp).mono tF fun o e => kk _ o (fun q => CW (q ▸ List.mem_cons_of_mem _ (List.mem_map.mpr ⟨_, hp, rfl⟩))) e, hs.nd, hs.wG⟩
  · obtain ⟨m, hm, hv⟩ := hs.ns
    exact ⟨m, hm.at' fun o e => kk _ o (fun q => CW (q ▸ List.mem_cons_self ..)) e, fun y w hy => let ⟨a, e, r⟩ := hv y w hy; ⟨a, e, r.mono tF⟩⟩
  · obtain ⟨nb, o, e⟩ := hs.pr b (List.mem_cons_of_mem _ hb)
    exact ⟨nb, o, kk b o (fun q => hCp (q ▸ hb)) e⟩
theorem trC {W₀ W : List Addr} {h₀ h h' : Heap} {C : Addr} (n : h₀.get? C = none) (sb : Heap.SameBut C h h') (t : Tr W₀ h₀ W h) : Tr W₀ h₀ W h' :=
  ⟨fun b o hb e => (sb.2 b fun q => by rw [q, n] at e; cases e).trans (t.keep b o hb e), t.grow⟩

/-- the inner clause, over a range, adds to the list that is being made -/
theorem comp_in (F : Fact K mg mb E n c) {s : Shared} (hs : St c fr σ s) {elt t1 i1 t2 i2 : Expr} {scope : Scope} {pos : Pos} {v : V} {A : Value} {ys old : List V} {fz : V → V} {D : Addr} {RR : Result → Shared → Prop}
    (rv : VRel s.heap (c.P σ) v A) (src : RngOf v ys) (hD : D ∈ c.prot) (DG : c.G.get? D = none) (pl : ∃ Vs, s.heap.PlainList D Vs.toArray ∧ VRels s.heap (c.P σ) old Vs) (hlen : old.length + ys.length < 100000)
    (turn : ∀ c'', Fact K mg mb E n c'' → ∀ y ∈ ys, Asg c'' t2 y fr σ fun fr₂ σ₂ => σ₂ = σ ∧ fr₂.map (·.1) = fr.map (·.1) ∧ (∀ x w, (x, some w) ∈ fr → (x, some w) ∈ fr₂) ∧ Ev c'' elt fr₂ σ fun u σ₃ => u = fz y ∧ σ₃ = σ)
    (fin : ∀ s', St c fr σ s' → (∀ b o, b ≠ D → b ∉ c.W σ → s.heap.get? b = some o → s'.heap.get? b = some o) → (∃ Vs, s'.heap.PlainList D Vs.toArray ∧ VRels s'.heap (c.P σ) (old ++ ys.map fz) Vs) → RR (.ok .next) s') :
    wpAny (model c.prog c.w) c.A (pyIter A) (fun it s₂ => codeAny (model c.prog c.w) c.A (.compStart (.ListComp elt [⟨t1, i1, [], 0⟩, ⟨t2, i2, [], 0⟩] scope pos) 1 it (.ref D) c.env) RR s₂) NoE s := by
  have noE : ∀ {E₃ : Value → Shared → Prop} (e : Value) (s₂ : Shared), NoE e s₂ → E₃ e s₂ := fun _ _ h => h.elim
  obtain ⟨hsm, hnn⟩ := src
  rename_i a b st
  cases rv with
  | rng hr hP =>
  rename_i rr tt uu vv
  refine wpAny_pyIter_range hr hsm ?_
  let I : Addr := s.heap.objs.size
  let ob : Obj := { cls := Value.type "range_iterator", data := Data.fields #[rawInt a, rawInt (Builtin.Range.rangeSize a b st), rawInt st] }
  show codeAny _ _ _ _ { s with heap := s.heap.push ob }
  have nI : s.heap.get? I = none := size_none _
  have eI : (s.heap.push ob).get? I = some ob := Heap.get?_push_size _ rfl
  have hk : ∀ b o, s.heap.get? b = some o → (s.heap.push ob).get? b = some o := fun b o e => Heap.get?_push_of_some _ e
  have hS0 : IsRangeIter (s.heap.push ob) I (a + ((0 : Nat) : Int) * st) (Builtin.Range.rangeSize a b st - ((0 : Nat) : Int)) st := by simpa [IsRangeIter, ob] using eI
  let c' : Act := { c with prot := [I] ++ c.prot }
  have F' : Fact K mg mb E n c' := F.prot _
  have Ip : I ∈ c'.prot := List.mem_cons_self ..
  have IW : I ∉ c.W σ := fun q => by obtain ⟨o, e⟩ := hs.there q; rw [nI] at e; cases e
  have InP : I ∉ c.prot := fun q => by obtain ⟨_, o, e⟩ := hs.pr I q; rw [nI] at e; cases e
  have DI : D ≠ I := fun q => InP (q ▸ hD)
  have IG : c.G.get? I = none := by
    cases e : c.G.get? I with
    | none => rfl
    | some o => rw [hs.old _ _ e] at nI; cases nI
  have DW : D ∉ c.W σ := (hs.pr D hD).1
  have tp : Tr (c.P σ) s.heap (c'.P σ) (s.heap.push ob) := ⟨fun b o _ e => hk b o e, fun b hb => by
    have hb' : b ∈ ([I] ++ c.prot) ++ c.W σ := hb
    rw [List.append_assoc] at hb'
    rcases List.mem_append.mp hb' with q | q
    · exact .inr (List.mem_singleton.mp q ▸ nI)
    · exact .inl q⟩
  have S1 : St c' fr σ { s with heap := s.heap.push ob } := by
    refine ⟨by obtain ⟨h, t, e⟩ := hs.sh; rw [e]; exact ⟨_, _, rfl⟩, ?_, hs.names, hs.kinds, fun b hb => ?_, fun b o e => hk b o (hs.old b o e), fun p hp => (hs.own p hp).mono tp fun o e => hk _ o e, hs.nd, hs.wG⟩
    · obtain ⟨m, hm, hv⟩ := hs.ns
      exact ⟨m, hm.keeps hk, fun y w hy => let ⟨a, e, r⟩ := hv y w hy; ⟨a, e, r.mono tp⟩⟩
    · rcases List.mem_append.mp hb with q | q
      · rw [List.mem_singleton.mp q]; exact ⟨IW, _, eI⟩
      · obtain ⟨nb, o, e⟩ := hs.pr b q
        exact ⟨nb, o, hk b o e⟩
  have Itc : Itr c' t2 (.rng a b st) (Value.ref rr) I [I] (rngL a b st) (fun _ => True) (fun k h => IsRangeIter h I (a + (k : Int) * st) (Builtin.Range.rangeSize a b st - k) st) := itr_rng F'.hh Ip hnn 
  generalize rngL a b st = ys at Itc turn fin hlen
  obtain ⟨Vs0, pl0, rs0⟩ := pl
  have loop : codeAny (model c.prog c.w) c.A (.compLoop (.ListComp elt [⟨t1, i1, [], 0⟩, ⟨t2, i2, [], 0⟩] scope pos) 1 (.ref I) (.ref D) c.env) RR { s with heap := s.heap.push ob } := by
    refine comp_loop1 (fun m s' => ∃ k, m = ys.length + 1 - k ∧ k ≤ ys.length ∧ St c' fr σ s' ∧ IsRangeIter s'.heap I (a + (k : Int) * st) (Builtin.Range.rangeSize a b st - k) st ∧ (∃ Vs, s'.heap.PlainList D Vs.toArray ∧ VRels s'.heap (c'.P σ) (old ++ (ys.take k).map fz) Vs) ∧
      (∀ b o, b ≠ D → b ∉ c.W σ → s.heap.get? b = some o → s'.heap.get? b = some o) ∧ VRel s'.heap (c'.P σ) (.rng a b st) (Value.ref rr)) ?_ (ys.length + 1)
      ⟨0, rfl, Nat.zero_le _, S1, hS0, ⟨Vs0, pl0.at fun o e => hk _ o e, by simpa using rs0.mono tp⟩, fun b o _ _ e => hk b o e, (VRel.rng hr hP).mono tp⟩
    rintro m s' ⟨k, rfl, hle, hs', hSk, ⟨Vs, pl, rs⟩, keep, rA⟩
    cases hx : ys[k]? with
    | some y =>
      have hlt : k < ys.length := (List.getElem?_eq_some_iff.mp hx).1
      have hy : y ∈ ys := List.mem_of_getElem? hx
      have etake : (ys.take (k + 1)).map fz = (ys.take k).map fz ++ [fz y] := by
        rw [List.take_add_one, hx, List.map_append]; rfl
      refine wpAny_mono (Itc.item k y fr σ s' (fun X s₂ => wpAny (model c.prog c.w) c.A (assign t2 c.env X) (fun _ s₂ =>
          wpAny (model c.prog c.w) c.A (eval elt c.env) (fun x s₄ =>
              wpAny (model c.prog c.w) c.A (call (.builtin "list.append") [.ref D, x]) (fun _ s₅ => ∃ m, m < ys.length + 1 - k ∧ ∃ k, m = ys.length + 1 - k ∧ k ≤ ys.length ∧ St c' fr σ s₅ ∧ IsRangeIter s₅.heap I (a + (k : Int) * st) (Builtin.Range.rangeSize a b st - k) st ∧ (∃ Vs, s₅.heap.PlainList D Vs.toArray ∧ VRels s₅.heap (c'.P σ) (old ++ (ys.take k).map fz) Vs) ∧
                (∀ b o, b ≠ D → b ∉ c.W σ → s.heap.get? b = some o → s₅.heap.get? b = some o) ∧ VRel s₅.heap (c'.P σ) (.rng a b st) (Value.ref rr)) NoE s₄) NoE s₂) NoE s₂) hx trivial hs' rA hSk ?_) (fun r s₁ hr => ?_) noE
      · intro X h' tk rx hS' kR exR
        have S3 := hs'.away (tk := tk) (R := [I]) (fun b hb => by rw [List.mem_singleton.mp hb]; exact Ip) (fun b hb => by rw [List.mem_singleton.mp hb]; exact IG) kR exR
        have tR : Tr (c'.P σ) s'.heap (c'.P σ) h' := .of_keeps fun b o hb e => kR b o (fun q => hb (List.mem_append_left _ (List.mem_singleton.mp q ▸ Ip))) e
        have pl' : h'.PlainList D Vs.toArray := pl.at fun o e => kR D o (fun q => DI (List.mem_singleton.mp q)) e
        refine wpAny_mono ((turn c' F' y hy).run _ X S3 rx) (fun _ s₃ z => ?_) noE
        obtain ⟨fr₂, σ₂, ⟨rfl, efr, hsub, hE⟩, hs₃, t₃⟩ := z
        refine wpAny_mono (hE.run s₃ hs₃) (fun Y s₅ z => ?_) noE
        obtain ⟨u, σ₃, ⟨rfl, rfl⟩, hs₅, t₅, ru⟩ := z
        have t35 : Tr (c'.W σ₃) h' (c'.W σ₃) s₅.heap := t₃.trans (trW t₅)
        have hDp : D ∈ c'.prot := List.mem_append_right _ hD
        have pl5 : s₅.heap.PlainList D Vs.toArray := pl'.at fun o e => t35.keep D o DW e
        have hz : Vs.toArray.size ≤ sizeLine := by
          rw [sizeLine_eq]
          have e1 := rs.length
          rw [List.length_append, List.length_map, List.length_take] at e1
          simp; lia
        refine wpAny_list_append_plain pl5 (fun h6 pl6 sb6 => ?_) hz
        have k6 : ∀ b o, b ∉ [D] → s₅.heap.get? b = some o → h6.get? b = some o := fun b o hb e => (sb6.2 b fun q => hb (q ▸ List.mem_singleton.mpr rfl)).trans e
        have S6 : St c' fr₂ σ₃ { s₅ with heap := h6, toks := s₅.toks } := hs₅.away (R := [D]) (tk := s₅.toks) (fun b hb => by rw [List.mem_singleton.mp hb]; exact hDp) (fun b hb => by rw [List.mem_singleton.mp hb]; exact DG) k6
          (fun b hb => by rw [List.mem_singleton.mp hb]; obtain ⟨_, e⟩ := pl6; exact ⟨_, e⟩)
        have t6 : Tr (c'.P σ₃) s₅.heap (c'.P σ₃) h6 := .of_keeps fun b o hb e => k6 b o (fun q => hb (List.mem_append_left _ (by rw [List.mem_singleton.mp q]; exact hDp))) e
        refine ⟨ys.length + 1 - (k + 1), by lia, k + 1, rfl, hlt, S6.forgetTo efr.symm hsub, Itc.keep _ _ _ hS' (fun b hb o e => k6 b o (fun q => DI ((List.mem_singleton.mp q).symm.trans (List.mem_singleton.mp hb))) (t35.keep b o (List.mem_singleton.mp hb ▸ IW) e)), ⟨Vs ++ [Y], by simpa using pl6, ?_⟩, fun b o h1 h2 e => ?_, ((rA.mono tR).mono (t35.app c'.prot)).mono t6⟩
        · rw [etake, ← List.append_assoc]
          exact (((rs.mono tR).mono (t35.app c'.prot)).mono t6).append (.cons (ru.mono t6) .nil)
        · refine k6 b o (fun q => h1 (List.mem_singleton.mp q)) (t35.keep b o h2 (kR b o (fun q => ?_) (keep b o h1 h2 e)))
          rw [List.mem_singleton.mp q, nI] at e; cases e
      · cases r with
        | none => exact hr.elim
        | some a => exact wpAny_mono hr (fun _ _ h => h) noE
    | none =>
      have hk' : k = ys.length := Nat.le_antisymm hle (by simpa using hx)
      subst hk'
      refine wpAny_mono (Itc.done fr σ s' (fun s₂ => RR (.ok .next) s₂) trivial hs' rA hSk ?_) (fun r s₁ hr => ?_) noE
      · intro h' tk kR
        rw [List.take_length] at rs
        have kI : ∀ b o, b ≠ I → s'.heap.get? b = some o → h'.get? b = some o := fun b o hb e => kR b o (fun q => hb (List.mem_singleton.mp q)) e
        have tPc : Tr (c'.P σ) s'.heap (c.P σ) h' := ⟨fun b o hb e => kI b o (fun q => hb (List.mem_append_left _ (q ▸ Ip))) e, fun b hb => .inl (by
          show b ∈ ([I] ++ c.prot) ++ c.W σ
          rw [List.append_assoc]
          exact List.mem_append_right _ hb)⟩
        refine fin _ ⟨by obtain ⟨h, t, e⟩ := hs'.sh; rw [e]; exact ⟨_, _, rfl⟩, ?_, hs'.names, hs'.kinds, fun b hb => ?_, fun b o e => ?_, fun p hp => (hs'.own p hp).mono tPc fun o e => kI _ o (fun q => IW (q ▸ List.mem_cons_of_mem _ (List.mem_map.mpr ⟨_, hp, rfl⟩))) e, hs'.nd, hs'.wG⟩ (fun b o h1 h2 e => kI b o (fun q => by rw [q, nI] at e; cases e) (keep b o h1 h2 e)) ⟨Vs, pl.at fun o e => kI _ o DI e, rs.mono tPc⟩
        · obtain ⟨m, hm, hv⟩ := hs'.ns
          exact ⟨m, hm.at' fun o e => kI _ o (fun q => IW (q ▸ List.mem_cons_self ..)) e, fun y w hy => let ⟨a, e, r⟩ := hv y w hy; ⟨a, e, r.mono tPc⟩⟩
        · obtain ⟨nb, o, e⟩ := hs'.pr b (List.mem_append_right _ hb)
          exact ⟨nb, o, kI b o (fun q => InP (q ▸ hb)) e⟩
        · exact kI b o (fun q => by rw [q, IG] at e; cases e) (hs'.old b o e)
      · cases r with
        | none => exact hr
        | some a => exact hr.elim
  exact comp_start1 loop (wpAny_pyIter_rangeiter hS0 loop)

theorem comp_core2 {α : Type} (F : Fact K mg mb E n c) {s : Shared} (hs : St c fr σ s) {target elt iter t2 i2 : Expr} {scope : Scope} {cl : List (Str × Addr)} {pos : Pos} {v : V} {A : Value} {l : List α} {fx : α → V} {v2 : V} {ys : List V} {fz : α → V → V} {R : List Addr} {I : Addr} {S : Nat → Heap → Prop} {vw : Store → Prop} {Q : Value → Shared → Prop} {use : Option (Value → Sem Unit)} {E₂ : Value → Shared → Prop}
    (rv : VRel s.heap (c.P σ) v A) (hR : ∀ b ∈ R, s.heap.get? b = none) {h₁ : Heap} {tk₁ : Nat} (hk : ∀ b o, s.heap.get? b = some o → h₁.get? b = some o) (hR1 : ∀ b ∈ R, ∃ o, h₁.get? b = some o)
    (it : ∀ c' : Act, c'.A = c.A → c'.prog = c.prog → c'.w = c.w → (∀ b ∈ R, b ∈ c'.prot) → Itr c' target v A I R (l.map fx) vw S) (hS : S 0 h₁)
    (hself : ∀ (s : Shared) (Q : Value → Shared → Prop) (E : Value → Shared → Prop), S 0 s.heap → Q (.ref I) s → wpAny (model c.prog c.w) c.A (pyIter (.ref I)) Q E s)
    (hvw : vw σ) (fr0 : Frame) (hn0 : ∀ p ∈ fr0, p.2 = none) (hnd0 : (fr0.map (·.1)).Nodup) (hk0 : ∀ C, ∀ p ∈ fr0, (compEnvC scope cl C c.env).kindOf p.1 = some .local)
    (hcell : ∀ y ∈ scope.names, y.2 ≠ .cell) (hkind : scope.kind = .function) (hlen : l.length < 100000)
    (h2 : ∀ E₀ x, foldedSetIterable i2 E₀ x = pure x) (src2 : RngOf v2 ys) (hlen2 : l.length * ys.length < 100000)
    (turn : ∀ C c', Fact K mg mb (compEnvC scope cl C E) n c' → c'.G = c.G → ∀ a ∈ l, Asg c' target (fx a) fr0 σ fun fr₂ σ₂ => σ₂ = σ ∧ fr₂.map (·.1) = fr0.map (·.1) ∧ (Ev c' i2 fr₂ σ fun u σ₃ => u = v2 ∧ σ₃ = σ) ∧
      ∀ c'', Fact K mg mb (compEnvC scope cl C E) n c'' → ∀ y ∈ ys, Asg c'' t2 y fr₂ σ fun fr₃ σ₃ => σ₃ = σ ∧ fr₃.map (·.1) = fr₂.map (·.1) ∧ (∀ x w, (x, some w) ∈ fr₂ → (x, some w) ∈ fr₃) ∧ Ev c'' elt fr₃ σ fun u σ₄ => u = fz a y ∧ σ₄ = σ)
    (done : ∀ D C (s' : Shared), s.heap.get? D = none → (∃ m, s'.heap.Ns C m) → C ∉ c.prot → c.G.get? C = none → s.heap.get? C = none → St { c with prot := C :: c.prot } fr ((D, .list (l.flatMap fun a => ys.map (fz a))) :: σ) s' → Tr (keys σ) s.heap (keys ((D, O.list (l.flatMap fun a => ys.map (fz a))) :: σ)) s'.heap → compPost (model c.prog c.w) c.A E₂ use Q (.ref D) C (.ok .next) s') :
    wpAny (model c.prog c.w) c.A (newList []) (fun acc s₃ => wpAny (model c.prog c.w) c.A (newFunctionEnv scope c.env.globals cl [] c.env.qual none .none (some c.env)) (fun cenv s₄ =>
      codeAny (model c.prog c.w) c.A (.compStart (.ListComp elt [⟨target, iter, [], 0⟩, ⟨t2, i2, [], 0⟩] scope pos) 0 (.ref I) acc { cenv with scope := relabel scope c.env }) (compPost (model c.prog c.w) c.A E₂ use Q acc cenv.locals) s₄) E₂ s₃) E₂ { s with heap := h₁, toks := tk₁ } := by
  have noE : ∀ {E₃ : Value → Shared → Prop} (e : Value) (s₂ : Shared), NoE e s₂ → E₃ e s₂ := fun _ _ h => h.elim
  refine wpAny_newObj_type (wpAny_newFunctionEnv hcell (by intro y hy; simp at hy) (fun h₂ hns₂ hsb₂ => ?_) hkind)
  dsimp only at hns₂ hsb₂ ⊢
  generalize hH : h₁.push { cls := .type "list", dict := none, data := .seq ([] : List Value).toArray } = H at hns₂ hsb₂ ⊢
  let D : Addr := h₁.objs.size
  let C : Addr := H.objs.size
  have hCD : C = D + 1 := by show H.objs.size = _; rw [← hH, Heap.size_push]
  have nD : h₁.get? D = none := size_none _
  have nC : H.get? C = none := size_none _
  have up1 : ∀ b o, h₁.get? b = some o → H.get? b = some o := fun b o e => hH ▸ Heap.get?_push_of_some _ e
  have up2 : ∀ b o, H.get? b = some o → h₂.get? b = some o := fun b o e => hsb₂.extBut b o (fun q => by rw [q] at e; rw [nC] at e; cases e) (Heap.get?_push_of_some _ e)
  have up : ∀ b o, s.heap.get? b = some o → h₂.get? b = some o := fun b o e => up2 b o (up1 b o (hk b o e))
  have eD : h₂.get? D = some { cls := .type "list", dict := none, data := .seq #[] 0 } := up2 _ _ (hH ▸ Heap.get?_push_size _ rfl)
  have nsD : s.heap.get? D = none := by
    cases e : s.heap.get? D with
    | none => rfl
    | some o => rw [hk _ _ e] at nD; cases nD
  have nsC : s.heap.get? C = none := by
    cases e : s.heap.get? C with
    | none => rfl
    | some o => rw [up1 _ _ (hk _ _ e)] at nC; cases nC
  have CneD : C ≠ D := by rw [hCD]; exact Nat.succ_ne_self _
  have CnR : C ∉ R := fun q => by obtain ⟨o, e⟩ := hR1 C q; rw [up1 _ _ e] at nC; cases nC
  have DnR : D ∉ R := fun q => by obtain ⟨o, e⟩ := hR1 D q; rw [nD] at e; cases e
  let E' := compEnvC scope cl C c.env
  let c' : Act := { c with env := E', prot := (D :: R) ++ (c.env.locals :: c.prot) }
  have F' : Fact K mg mb (compEnvC scope cl C E) n c' := ⟨by show compEnvC scope cl C c.env = _; rw [F.env], F.hh, F.dep, F.un, hkind, F.gl, F.bl, F.X, F.g, F.b, F.bb, F.lim, F.scr, F.wd⟩
  have hRp : ∀ b ∈ R, b ∈ c'.prot := fun b hb => List.mem_append_left _ (List.mem_cons_of_mem _ hb)
  have Itc : Itr c' target v A I R (l.map fx) vw S := it c' rfl rfl rfl hRp
  have old0 : ∀ b, b ∈ c.P σ → ∃ o, s.heap.get? b = some o := fun b hb => by
    rcases List.mem_append.mp hb with q | q
    · exact (hs.pr b q).2
    · exact hs.there q
  -- from the outer protected set to the inner one
  have tp : Tr (c.P σ) s.heap (c'.P σ) h₂ := ⟨fun b o _ e => up b o e, fun b hb => by
    have hb' : b ∈ ((D :: R) ++ (c.env.locals :: c.prot)) ++ (C :: keys σ) := hb
    rcases List.mem_append.mp hb' with q | q
    · rcases List.mem_append.mp q with q | q
      · rcases List.mem_cons.mp q with rfl | q
        · exact .inr nsD
        · exact .inr (hR b q)
      · rcases List.mem_cons.mp q with rfl | q
        · exact .inl (List.mem_append_right _ (List.mem_cons_self ..))
        · exact .inl (List.mem_append_left _ q)
    · rcases List.mem_cons.mp q with rfl | q
      · exact .inr nsC
      · exact .inl (List.mem_append_right _ (List.mem_cons_of_mem _ q))⟩
  have hLk : c.env.locals ∉ keys σ := by have nd := hs.nd; unfold Act.W at nd; exact (List.nodup_cons.mp nd).1
  have CnK : C ∉ keys σ := fun q => by obtain ⟨o, e⟩ := hs.there (List.mem_cons_of_mem _ q); rw [nsC] at e; cases e
  have DnK : D ∉ keys σ := fun q => by obtain ⟨o, e⟩ := hs.there (List.mem_cons_of_mem _ q); rw [nsD] at e; cases e
  have DnL : D ≠ c.env.locals := fun q => by obtain ⟨o, e⟩ := hs.there (List.mem_cons_self ..); rw [← q, nsD] at e; cases e
  have CnL : C ≠ c.env.locals := fun q => by obtain ⟨o, e⟩ := hs.there (List.mem_cons_self ..); rw [← q, nsC] at e; cases e
  have S2 : St c' fr0 σ { s with heap := h₂, toks := tk₁ } := by
    refine ⟨by obtain ⟨h, t, e⟩ := hs.sh; rw [e]; exact ⟨_, _, rfl⟩, ⟨_, hns₂, fun y w hy => by have := hn0 _ hy; cases this⟩, hnd0, hk0 C, fun b hb => ?_, fun b o e => up b o (hs.old b o e), fun p hp => (hs.own p hp).mono tp fun o e => up _ o e, ?_, fun b hb => ?_⟩
    · have nW : b ≠ C → b ∉ keys σ → b ∉ c'.W σ := fun h1 h2 q => by
        rcases List.mem_cons.mp q with q | q
        · exact h1 q
        · exact h2 q
      have hb' : b ∈ (D :: R) ++ (c.env.locals :: c.prot) := hb
      rcases List.mem_append.mp hb' with q | q
      · rcases List.mem_cons.mp q with rfl | q
        · exact ⟨nW CneD.symm DnK, _, eD⟩
        · obtain ⟨o, e⟩ := hR1 b q
          refine ⟨nW (fun e' => CnR (e' ▸ q)) (fun w => ?_), o, up2 _ _ (up1 _ _ e)⟩
          obtain ⟨o', e'⟩ := hs.there (List.mem_cons_of_mem _ w)
          rw [hR b q] at e'; cases e'
      · rcases List.mem_cons.mp q with rfl | q
        · obtain ⟨o, e⟩ := hs.there (List.mem_cons_self ..)
          exact ⟨nW CnL.symm hLk, o, up _ _ e⟩
        · obtain ⟨nb, o, e⟩ := hs.pr b q
          refine ⟨nW (fun e' => ?_) (fun w => nb (List.mem_cons_of_mem _ w)), o, up _ _ e⟩
          rw [e', nsC] at e; cases e
    · show (C :: keys σ).Nodup
      have nd := hs.nd
      unfold Act.W at nd
      exact List.nodup_cons.mpr ⟨CnK, (List.nodup_cons.mp nd).2⟩
    · rcases List.mem_cons.mp hb with q | q
      · cases e : c.G.get? b with
        | none => rfl
        | some o => have e' := hs.old b o e; rw [q] at e'; have e2 : s.heap.get? C = some o := e'; rw [nsC] at e2; cases e2
      · exact hs.wG b (List.mem_cons_of_mem _ q)
  have loop : codeAny (model c.prog c.w) c.A (.compLoop (.ListComp elt [⟨target, iter, [], 0⟩, ⟨t2, i2, [], 0⟩] scope pos) 0 (.ref I) (.ref D) E') (compPost (model c.prog c.w) c.A E₂ use Q (.ref D) C) { s with heap := h₂, toks := tk₁ } := by
    refine comp_loop0 (fun m s' => ∃ k, m = l.length + 1 - k ∧ k ≤ l.length ∧ St c' fr0 σ s' ∧ S k s'.heap ∧ (∃ Vs, s'.heap.PlainList D Vs.toArray ∧ VRels s'.heap (c'.P σ) ((l.take k).flatMap fun a => ys.map (fz a)) Vs) ∧ Tr (keys σ) s.heap (keys σ) s'.heap ∧ VRel s'.heap (c'.P σ) v A) (h2 _) ?_ (l.length + 1)
      ⟨0, rfl, Nat.zero_le _, S2, Itc.keep _ _ _ hS (fun b hb o e => up2 _ _ (up1 _ _ e)), ⟨[], ⟨_, eD⟩, .nil⟩, .of_keeps fun b o _ e => up b o e, rv.mono tp⟩
    rintro m s' ⟨k, rfl, hle, hs', hSk, ⟨Vs, pl, rs⟩, t, rA⟩
    have hDp : D ∈ c'.prot := List.mem_append_left _ (List.mem_cons_self ..)
    cases hx : l[k]? with
    | some a =>
      have hlt : k < l.length := (List.getElem?_eq_some_iff.mp hx).1
      have ha : a ∈ l := List.mem_of_getElem? hx
      have hx' : (l.map fx)[k]? = some (fx a) := by rw [List.getElem?_map, hx]; rfl
      have etake : ((l.take (k + 1)).flatMap fun a => ys.map (fz a)) = ((l.take k).flatMap fun a => ys.map (fz a)) ++ ys.map (fz a) := by
        rw [List.take_add_one, hx, List.flatMap_append]; simp
      refine wpAny_mono (Itc.item k (fx a) fr0 σ s' (fun X s₂ => wpAny (model c.prog c.w) c.A (assign target E' X) (fun _ s₂ =>
          wpAny (model c.prog c.w) c.A (eval i2 E') (fun x s₃ => wpAny (model c.prog c.w) c.A (pyIter x) (fun it2 s₄ =>
            codeAny (model c.prog c.w) c.A (.compStart (.ListComp elt [⟨target, iter, [], 0⟩, ⟨t2, i2, [], 0⟩] scope pos) 1 it2 (.ref D) E') (fun r s₅ => match r with
              | .ok _ => ∃ m, m < l.length + 1 - k ∧ ∃ k, m = l.length + 1 - k ∧ k ≤ l.length ∧ St c' fr0 σ s₅ ∧ S k s₅.heap ∧ (∃ Vs, s₅.heap.PlainList D Vs.toArray ∧ VRels s₅.heap (c'.P σ) ((l.take k).flatMap fun a => ys.map (fz a)) Vs) ∧ Tr (keys σ) s.heap (keys σ) s₅.heap ∧ VRel s₅.heap (c'.P σ) v A
              | .error _ => False) s₄) NoE s₃) NoE s₂) NoE s₂) hx' hvw hs' rA hSk ?_) (fun r s₁ hr => ?_) noE
      · intro X h' tk rx hS' kR exR
        have hRG : ∀ b ∈ R, c'.G.get? b = none := fun b hb => by
          cases e : c.G.get? b with
          | none => rfl
          | some o => have := hR b hb; rw [hs.old b o e] at this; cases this
        have S3 := hs'.away (tk := tk) hRp hRG kR exR
        have tR : Tr (c'.P σ) s'.heap (c'.P σ) h' := .of_keeps fun b o hb e => kR b o (fun q => hb (List.mem_append_left _ (hRp b q))) e
        have tK : Tr (keys σ) s.heap (keys σ) h' := ⟨fun b o hb e => kR b o (fun q => by rw [hR b q] at e; cases e) (t.keep b o hb e), fun b hb => .inl hb⟩
        have pl' : h'.PlainList D Vs.toArray := pl.at fun o e => kR D o DnR e
        refine wpAny_mono ((turn C c' F' rfl a ha).run _ X S3 rx) (fun _ s₃ y => ?_) noE
        obtain ⟨fr₂, σ₂, ⟨rfl, efr, hE2, hin⟩, hs₃, t₃⟩ := y
        refine wpAny_mono (hE2.run s₃ hs₃) (fun A2 s₄ z => ?_) noE
        obtain ⟨u, σ₃, ⟨rfl, rfl⟩, hs₄, t₄, ru⟩ := z
        have t34 : Tr (c'.W σ₃) h' (c'.W σ₃) s₄.heap := t₃.trans (trW t₄)
        have out : ∀ b, b ∈ c'.prot → ∀ {s₅ : Shared}, Tr (c'.W σ₃) h' (c'.W σ₃) s₅.heap → ∀ o, h'.get? b = some o → s₅.heap.get? b = some o := fun b hb s₅ tt o e => tt.keep b o (fun q => (S3.pr b hb).1 q) e
        have DG : c'.G.get? D = none := by
          show c.G.get? D = none
          cases e : c.G.get? D with
          | none => rfl
          | some o => rw [hs.old _ _ e] at nsD; cases nsD
        have hzl : ((l.take k).flatMap fun a => ys.map (fz a)).length + ys.length < 100000 := by
          have e0 : ∀ m : List α, (m.flatMap fun a => ys.map (fz a)).length = m.length * ys.length := fun m => by
            induction m with
            | nil => simp
            | cons b r ih => rw [List.flatMap_cons, List.length_append, ih, List.length_map, List.length_cons, Nat.succ_mul, Nat.add_comm]
          have e1 := e0 (l.take (k + 1))
          rw [etake, List.length_append, List.length_map] at e1
          have e3 : (l.take (k + 1)).length ≤ l.length := by rw [List.length_take]; lia
          have e4 := Nat.mul_le_mul_right ys.length e3
          lia
        refine comp_in F' hs₄ ru src2 hDp DG ⟨Vs, pl'.at (out D hDp t34), (rs.mono tR).mono (t34.app c'.prot)⟩ hzl hin fun s₅ hs₅ k5 pl5 => ?_
        have sk : ∀ b o, b ≠ D → b ∉ c'.W σ₃ → h'.get? b = some o → s₅.heap.get? b = some o := fun b o h1 h2 e => k5 b o h1 h2 (t34.keep b o h2 e)
        have skP : Tr (c'.P σ₃) h' (c'.P σ₃) s₅.heap := .of_keeps fun b o hb e => sk b o (fun q => hb (List.mem_append_left _ (q ▸ hDp))) (fun q => hb (List.mem_append_right _ q)) e
        refine ⟨l.length + 1 - (k + 1), by lia, k + 1, rfl, hlt, hs₅.forget efr.symm hn0, Itc.keep _ _ _ hS' (fun b hb o e => sk b o (fun q => DnR (q ▸ hb)) (fun q => (S3.pr b (hRp b hb)).1 q) e), by rw [etake]; exact pl5, ⟨fun b o hb e => sk b o (fun q => by rw [q, nsD] at e; cases e) (fun q => by
            rcases List.mem_cons.mp q with q | q
            · rw [show b = C from q, nsC] at e; cases e
            · exact hb q) (tK.keep b o hb e), fun b hb => .inl hb⟩, (rA.mono tR).mono skP⟩
      · cases r with
        | none => exact hr.elim
        | some a => exact wpAny_mono hr (fun _ _ h => h) noE
    | none =>
      have hk' : k = l.length := Nat.le_antisymm hle (by simpa using hx)
      subst hk'
      refine wpAny_mono (Itc.done fr0 σ s' (fun s₂ => compPost (model c.prog c.w) c.A E₂ use Q (.ref D) C (.ok .next) s₂) hvw hs' rA (by rw [List.length_map]; exact hSk) ?_) (fun r s₁ hr => ?_) noE
      · intro h' tk kR
        obtain ⟨mC, hmC, _⟩ := hs'.ns
        rw [List.take_length] at rs
        have kk : ∀ b o, b ∉ R → b ≠ C → s'.heap.get? b = some o → h'.get? b = some o := fun b o h1 h2 e => kR b o h1 e
        have CnP : C ∉ c.prot := fun q => by
          obtain ⟨_, o, e⟩ := hs.pr C q; rw [nsC] at e; cases e
        have CnG : c.G.get? C = none := by
          cases e : c.G.get? C with
          | none => rfl
          | some o => have := hs.old C o e; rw [nsC] at this; cases this
        have tF : Tr (c'.P σ) s'.heap (Act.P { c with prot := C :: c.prot } ((D, O.list (l.flatMap fun a => ys.map (fz a))) :: σ)) h' := ⟨fun b o hb e => kk b o (fun q => hb (List.mem_append_left _ (hRp b q))) (fun q => hb (List.mem_append_right _ (q ▸ List.mem_cons_self ..))) e, fun b hb => .inl (by
          rcases List.mem_cons.mp (show b ∈ C :: (c.prot ++ (c.env.locals :: D :: keys σ)) from hb) with q | hb'
          · exact q ▸ List.mem_append_right _ (List.mem_cons_self ..)
          show b ∈ ((D :: R) ++ (c.env.locals :: c.prot)) ++ (C :: keys σ)
          rcases List.mem_append.mp hb' with q | q
          · exact List.mem_append_left _ (List.mem_append_right _ (List.mem_cons_of_mem _ q))
          · rcases List.mem_cons.mp q with rfl | q
            · exact List.mem_append_left _ (List.mem_append_right _ (List.mem_cons_self ..))
            · rcases List.mem_cons.mp q with rfl | q
              · exact List.mem_append_left _ (List.mem_append_left _ (List.mem_cons_self ..))
              · exact List.mem_append_right _ (List.mem_cons_of_mem _ q))⟩
        have tT : Tr (keys σ) s.heap (keys ((D, O.list (l.flatMap fun a => ys.map (fz a))) :: σ)) h' := ⟨fun b o hb e => kk b o (fun q => by rw [hR b q] at e; cases e) (fun q => by have e2 : s.heap.get? C = some o := q ▸ e; rw [nsC] at e2; cases e2) (t.keep b o hb e), fun b hb => by
          have hb' : b ∈ D :: keys σ := hb
          rcases List.mem_cons.mp hb' with rfl | q
          · exact .inr nsD
          · exact .inl q⟩
        refine done D C _ nsD ⟨mC, hmC.at' fun o e => kR C o CnR e⟩ CnP CnG nsC (hs.moveP (by obtain ⟨h, t, e⟩ := hs'.sh; rw [e]; exact ⟨_, _, rfl⟩) tT nsC (by obtain ⟨o, _, _, e, _⟩ := hmC; exact ⟨o, kR C o CnR e⟩) (fun q => by
          rcases List.mem_cons.mp q with q | q
          · exact CnL q
          · rcases List.mem_cons.mp q with q | q
            · exact CneD q
            · exact CnK q) (fun p hp => ?_) ?_) tT
        · rcases List.mem_cons.mp hp with rfl | hp
          · exact ⟨Vs, pl.at (fun o e => kk D o DnR CneD.symm e), rs.mono tF⟩
          · have hpk : p.1 ∈ keys σ := List.mem_map.mpr ⟨p, hp, rfl⟩
            exact (hs'.own p hp).mono tF fun o e => kk _ o (fun q => (hs'.pr _ (hRp _ q)).1 (List.mem_cons_of_mem _ hpk)) (fun q => CnK (q ▸ hpk)) e
        · show (c.env.locals :: D :: keys σ).Nodup
          have nd := hs.nd
          unfold Act.W at nd
          refine List.nodup_cons.mpr ⟨fun q => ?_, List.nodup_cons.mpr ⟨DnK, (List.nodup_cons.mp nd).2⟩⟩
          rcases List.mem_cons.mp q with q | q
          · exact DnL q.symm
          · exact hLk q
      · cases r with
        | none => exact hr
        | some a => exact hr.elim
  exact codeAny_compStart_list loop (hself _ _ _ (Itc.keep _ _ _ hS fun b hb o e => up2 _ _ (up1 _ _ e)) loop)

theorem ev_comp2 {α : Type} (F : Fact K mg mb E n c) {target elt iter t2 i2 : Expr} {scope : Scope} {cl : List (Str × Addr)} {pos : Pos} {v v2 : V} {l : List α} {fx : α → V} {ys : List V} {fz : α → V → V} {fr0 : Frame} {Φ : V → Store → Prop}
    (he : Ev c iter fr σ fun v' σ₁ => v' = v ∧ σ₁ = σ) (w : View σ v (l.map fx)) (ok : CompOk scope cl E iter fr0) (hlen : l.length < 100000) (h2 : ∀ E₀ x, foldedSetIterable i2 E₀ x = pure x) (src2 : RngOf v2 ys) (hlen2 : l.length * ys.length < 100000)
    (turn : ∀ C c', Fact K mg mb (compEnvC scope cl C E) n c' → c'.G = c.G → ∀ a ∈ l, Asg c' target (fx a) fr0 σ fun fr₂ σ₂ => σ₂ = σ ∧ fr₂.map (·.1) = fr0.map (·.1) ∧ (Ev c' i2 fr₂ σ fun u σ₃ => u = v2 ∧ σ₃ = σ) ∧
      ∀ c'', Fact K mg mb (compEnvC scope cl C E) n c'' → ∀ y ∈ ys, Asg c'' t2 y fr₂ σ fun fr₃ σ₃ => σ₃ = σ ∧ fr₃.map (·.1) = fr₂.map (·.1) ∧ (∀ x w, (x, some w) ∈ fr₂ → (x, some w) ∈ fr₃) ∧ Ev c'' elt fr₃ σ fun u σ₄ => u = fz a y ∧ σ₄ = σ)
    (h : ∀ D, Φ (.raw (.ref D)) ((D, .list (l.flatMap fun a => ys.map (fz a))) :: σ)) : Ev c (.ListComp elt [⟨target, iter, [], 0⟩, ⟨t2, i2, [], 0⟩] scope pos) fr σ Φ := Tri.mk fun s hs => by
  have eE := F.env
  rw [eval_ListComp]
  refine wpAny_comprehension_free (use := none) rfl (by rw [eE]; exact ok.iter) (by rw [eE]; exact ok.clos) ok.kind ok.names ?_
  show wpAny _ _ (eval iter c.env) _ _ s
  refine wpAny_mono (he.run s hs) (fun A s₁ x => ?_) fun _ _ e => e
  obtain ⟨v', σ₁, ⟨rfl, rfl⟩, hs₁, t₁, rv⟩ := x
  have kinds : ∀ C, ∀ p ∈ fr0, (compEnvC scope cl C c.env).kindOf p.1 = some .local := by rw [eE]; exact ok.kinds
  have fin : ∀ D C (s' : Shared), s₁.heap.get? D = none → (∃ m, s'.heap.Ns C m) → C ∉ c.prot → c.G.get? C = none → s₁.heap.get? C = none → St { c with prot := C :: c.prot } fr ((D, .list (l.flatMap fun a => ys.map (fz a))) :: σ₁) s' → Tr (keys σ₁) s₁.heap (keys ((D, O.list (l.flatMap fun a => ys.map (fz a))) :: σ₁)) s'.heap →
      compPost (model c.prog c.w) c.A NoE none (Post VRel c fr σ₁ s.heap Φ) (.ref D) C (.ok .next) s' :=
    fun D C s' _ hm hC hG h0 hs' t' => by
      obtain ⟨m, hm⟩ := hm
      refine ⟨m, hm, fun h' sb => ?_⟩
      exact ⟨_, _, h D, hs'.butC hC hG sb, t₁.trans (trC h0 sb t'), .raw _⟩
  obtain ⟨a, Vs, rfl, ls, r⟩ := w.at hs₁ rv
  refine wpAny_pyIter_list ls ?_
  exact comp_core2 F hs₁ (R := [s₁.heap.objs.size]) (S := fun k h => h.IsListIter s₁.heap.objs.size a k) (vw := fun σ => View σ v' (l.map fx)) rv fresh1 (fun b o e => Heap.get?_push_of_some _ e) (sameBut_exists (h := s₁.heap) (Heap.get?_push_size _ rfl))
    (fun c' h1 h2 h3 h4 => itr_view (by rw [h1]; exact F.hh) (h4 _ (List.mem_singleton.mpr rfl))) ⟨_, Heap.get?_push_size _ rfl, rfl, rfl⟩ (fun _ _ _ st hQ => wpAny_pyIter_listiter st hQ) w fr0 ok.none ok.nd kinds ok.cell ok.kind hlen h2 src2 hlen2 turn fin

theorem ex_comp2U {α : Type} (F : Fact K mg mb E n c) {target elt iter t2 i2 : Expr} {scope : Scope} {cl : List (Str × Addr)} {pos spos px : Pos} {x : Str} {v v2 : V} {l : List α} {fx : α → V} {ys : List V} {fz : α → V → V} {fr0 : Frame} {fr' : Addr → Frame} {rest : List Stmt} {Φ : Fl → Frame → Store → Prop}
    (he : Ev c iter fr σ fun v' σ₁ => v' = v ∧ σ₁ = σ) (w : View σ v (l.map fx)) (ok : CompOk scope cl E iter fr0) (hlen : l.length < 100000) (h2 : ∀ E₀ x, foldedSetIterable i2 E₀ x = pure x) (src2 : RngOf v2 ys) (hlen2 : l.length * ys.length < 100000)
    (turn : ∀ C c', Fact K mg mb (compEnvC scope cl C E) n c' → c'.G = c.G → ∀ a ∈ l, Asg c' target (fx a) fr0 σ fun fr₂ σ₂ => σ₂ = σ ∧ fr₂.map (·.1) = fr0.map (·.1) ∧ (Ev c' i2 fr₂ σ fun u σ₃ => u = v2 ∧ σ₃ = σ) ∧
      ∀ c'', Fact K mg mb (compEnvC scope cl C E) n c'' → ∀ y ∈ ys, Asg c'' t2 y fr₂ σ fun fr₃ σ₃ => σ₃ = σ ∧ fr₃.map (·.1) = fr₂.map (·.1) ∧ (∀ x w, (x, some w) ∈ fr₂ → (x, some w) ∈ fr₃) ∧ Ev c'' elt fr₃ σ fun u σ₄ => u = fz a y ∧ σ₄ = σ)
    (put : ∀ D, Put fr x (.raw (.ref D)) (fr' D)) (h : ∀ D, Ex c rest (fr' D) ((D, .list (l.flatMap fun a => ys.map (fz a))) :: σ) Φ)
    (hsw : swapsWith (.ListComp elt [⟨target, iter, [], 0⟩, ⟨t2, i2, [], 0⟩] scope pos) (some (.Name x px)) spos.line E = pure true := by with_unfolding_all rfl) :
    Ex c (.Assign [.Name x px] (.ListComp elt [⟨target, iter, [], 0⟩, ⟨t2, i2, [], 0⟩] scope pos) spos :: rest) fr σ Φ := ex_cons (.mk fun s hs => by
  have eE := F.env
  rw [exec_Assign_Name_used _ _ _ _ (by rw [eE]; exact hsw)]
  refine wpAny_bind (wpAny_standAt (wpAny_bind ?_))
  show wpAny _ _ (do let _ ← comprehension (.ListComp elt [⟨target, iter, [], 0⟩, ⟨t2, i2, [], 0⟩] scope pos) scope c.env _ (newList []) false (eval iter c.env) (some (assign (.Name x px) c.env))) _ _ s
  refine wpAny_bind (wpAny_mono (wpAny_comprehension_free (use := some (assign (.Name x px) c.env)) (Q := fun _ s' => PostS c σ s.heap (Then c rest Φ) .next s') (E := NoE) rfl (by rw [eE]; exact ok.iter) (by rw [eE]; exact ok.clos) ok.kind ok.names
    (wpAny_mono (he.run s hs) (fun A s₁ z => ?_) fun _ _ e => e)) (fun _ s' hq => wpAny_pure (wpAny_pure hq)) fun _ _ e => e.elim)
  obtain ⟨v', σ₁, ⟨rfl, rfl⟩, hs₁, t₁, rv⟩ := z
  have kinds : ∀ C, ∀ p ∈ fr0, (compEnvC scope cl C c.env).kindOf p.1 = some .local := by rw [eE]; exact ok.kinds
  have fin : ∀ D C (s' : Shared), s₁.heap.get? D = none → (∃ m, s'.heap.Ns C m) → C ∉ c.prot → c.G.get? C = none → s₁.heap.get? C = none → St { c with prot := C :: c.prot } fr ((D, .list (l.flatMap fun a => ys.map (fz a))) :: σ₁) s' → Tr (keys σ₁) s₁.heap (keys ((D, O.list (l.flatMap fun a => ys.map (fz a))) :: σ₁)) s'.heap →
      compPost (model c.prog c.w) c.A NoE (some (assign (.Name x px) c.env)) (fun _ s' => PostS c σ₁ s.heap (Then c rest Φ) .next s') (.ref D) C (.ok .next) s' :=
    fun D C s' _ hm hC hG h0 hs' t' => by
      obtain ⟨m, hm⟩ := hm
      have F₂ : Fact K mg mb E n { c with prot := C :: c.prot } := F.prot _
      refine wpAny_mono ((asg_nam F₂ (pos := px) (Φ := fun fr₂ σ₂ => fr₂ = fr' D ∧ σ₂ = (D, O.list (l.flatMap fun a => ys.map (fz a))) :: σ₁) (put D) ⟨rfl, rfl⟩).run s' (.ref D) hs' (.raw _)) (fun _ s'' z => ?_) fun _ _ e => e
      obtain ⟨fr₂, σ₂, ⟨rfl, rfl⟩, hs2, t2⟩ := z
      have CnW : C ∉ c.W ((D, O.list (l.flatMap fun a => ys.map (fz a))) :: σ₁) := (hs'.pr C (List.mem_cons_self ..)).1
      refine ⟨m, hm.at' fun o e => t2.keep C o CnW e, fun h' sb => ?_⟩
      have t3 : Tr (c.W σ₁) s₁.heap (c.W ((D, O.list (l.flatMap fun a => ys.map (fz a))) :: σ₁)) h' := trC h0 sb ((trW t').trans t2)
      exact ⟨.next, _, _, then_next (h D), hs2.butC hC hG sb, (trW t₁).trans t3, .next⟩
  obtain ⟨a, Vs, rfl, ls, r⟩ := w.at hs₁ rv
  refine wpAny_pyIter_list ls ?_
  exact comp_core2 F hs₁ (R := [s₁.heap.objs.size]) (S := fun k h => h.IsListIter s₁.heap.objs.size a k) (vw := fun σ => View σ v' (l.map fx)) rv fresh1 (fun b o e => Heap.get?_push_of_some _ e) (sameBut_exists (h := s₁.heap) (Heap.get?_push_size _ rfl))
    (fun c' h1 h2 h3 h4 => itr_view (by rw [h1]; exact F.hh) (h4 _ (List.mem_singleton.mpr rfl))) ⟨_, Heap.get?_push_size _ rfl, rfl, rfl⟩ (fun _ _ _ st hQ => wpAny_pyIter_listiter st hQ) w fr0 ok.none ok.nd kinds ok.cell ok.kind hlen h2 src2 hlen2 turn fin)
end

open PySem PySem.W PySem.Spec PySem.Calls PyProof.Rows

def Touch (_ : OpenLaw) (_ : Params → Frag) : Prop := True
theorem touchHG2 : Touch PySem.Challenge.rw_sn0093_02 hd0.heap_1 := by
  k_fill
  trivial
local macro_rules | `(tactic| wtm_at "zmem") => `(tactic| ((repeat (first | with_reducible exact List.mem_cons_self .. | with_reducible apply List.mem_cons_of_mem)); done))
local macro_rules | `(tactic| wtm_at "zput") => `(tactic| ((repeat (first | with_reducible exact Put.head | with_reducible apply Put.tail)); done))
local macro_rules | `(tactic| wtm_at "zputa") => `(tactic| ((repeat (first | with_reducible exact PutA.head | with_reducible apply PutA.tail)); done))
local macro_rules | `(tactic| wtm_at "zboot") => `(tactic| first | with_reducible exact Boot.«len» | with_reducible exact Boot.«range» | with_reducible exact Boot.«enumerate» | with_reducible exact Boot.«abs» | with_reducible exact Boot.«ord» | with_reducible exact Boot.«iter» | with_reducible exact Boot.«next» | with_reducible exact Boot.«list» | with_reducible exact Boot.«sorted» | with_reducible exact Boot.«tuple» | with_reducible exact Boot.«max» | with_reducible exact Boot.«type» | with_reducible exact Boot.«str» | with_reducible exact Boot.«int» | with_reducible exact Boot.«sum»)
local macro_rules | `(tactic| wtm_at "zname") => `(tactic| first
  | (with_reducible refine' ev_loc (by assumption) ?hm ?_; (case hm => wtm_at "zmem"))
  | (with_reducible refine' ev_cel (by assumption) (by with_unfolding_all rfl) (by with_unfolding_all rfl) ?hm ?_; (case hm => wtm_at "zmem"))
  | with_reducible refine ev_gloI (by assumption) (by k_is) (by with_unfolding_all rfl) ?_
  | with_reducible refine ev_glo (by assumption) (by k_is) (by with_unfolding_all rfl) ?_
  | with_reducible refine ev_blt (by assumption) (by k_is) (by wtm_at "zboot") (by with_unfolding_all rfl) ?_)
local macro_rules | `(tactic| wtm_at "zee") => `(tactic| first
  | with_reducible refine ev_int ?_ | with_reducible refine ev_str ?_ | with_reducible refine ev_bool ?_ | with_reducible refine ev_none ?_
  | wtm_at "zname"
  | with_reducible refine evl_nil ?_ | with_reducible refine evl_cons ?_
  | with_reducible refine ev_bin ?_ | with_reducible refine ev_un ?_ | with_reducible refine ev_cmp ?_ | with_reducible refine te_cmp ?_
  | with_reducible refine ev_slice ?_ | with_reducible refine ev_sub ?_ | with_reducible refine evp_none ?_
  | with_reducible refine bin_add ?_ | with_reducible refine bin_sub ?_ | with_reducible refine bin_mod (by decide) ?_ | with_reducible refine bin_div (by decide) (by decide) ?_
  | with_reducible refine bin_mul (IntMulOk.of_left (by decide)) ?_
  | with_reducible refine un_neg ?_ | with_reducible refine ibin_add ?_ | with_reducible refine ibin_sub ?_
  | with_reducible refine cmp_eq ?_ | with_reducible refine cmp_ne ?_ | with_reducible refine cmp_lt ?_ | with_reducible refine cmp_gt ?_ | with_reducible refine cmp_le ?_ | with_reducible refine cmp_ge ?_
  | with_reducible refine cmp_seq ?_ | with_reducible refine cmp_sne ?_
  | with_reducible refine tru_bool ?_ | with_reducible refine tru_int ?_)
local macro_rules | `(tactic| wtm_at "zaa") => `(tactic| first
  | (with_reducible refine' asg_nam (by assumption) ?hp ?_; (case hp => wtm_at "zput"))
  | (with_reducible refine' asg_cel (by assumption) (by with_unfolding_all rfl) (by with_unfolding_all rfl) ?hm ?hp ?_; (case hm => wtm_at "zmem"); (case hp => wtm_at "zputa"))
  | with_reducible refine asg_tupC (by assumption) ?_
  | with_reducible refine asgc_cons ?_ | with_reducible refine asgc_nil ?_)
local macro_rules | `(tactic| wtm_at "zas") => `(tactic| repeat (wtm_at "zaa"))
local macro_rules | `(tactic| wtm_at "zes") => `(tactic| repeat (wtm_at "zee"))

theorem chars_mk (codes : List Nat) : chars ⟨codes.toArray⟩ = codes.map fun k => V.str ⟨#[k]⟩ := by unfold chars; simp
theorem ivs_app (a b : List Int) : ivs a ++ ivs b = ivs (a ++ b) := by simp [ivs]

theorem parse_varint {mg : Str → Option Value} {mb : MB} {E : Env} {n : Nat} {c : Act} {fr : Frame} {σ : Store} {Φ : V → Store → Prop} (F : Fact (hd0.heap_1 mb.w.params) mg mb E (n + 1) c) {f : O → Store} {I : Addr} {octs bs : List Int} {k : Nat} (hf : At f I) (hb : IsVar bs) (hk : ∀ i, i < bs.length → octs[k + i]? = some (bs.getD i 0)) (hσ : σ = f (.iter (ivs octs) k))
    (h : Φ (.int (vval bs)) (f (.iter (ivs octs) (k + bs.length)))) : Cl c (.ref 45) [.raw (.ref I)] fr σ Φ := by
  subst hσ
  apply cl_fn ["iterator"] ["b", "val"] [] [("iterator", some (.raw (.ref I))), ("b", none), ("val", none)] (fun _ => f (.iter (ivs octs) k)) F
  case look => k_is
  case dat => rfl
  case bd => rfl
  case q => exact rfl
  case sc => exact rfl
  case cd => exact rfl
  case gl => rfl
  case bl => rfl
  case cl => rfl
  case co => rfl
  case gen => rfl
  case kind => rfl
  case code => k_is
  case hbind => intro As h; obtain ⟨a, rfl⟩ := List.length_eq_one_iff.mp h; rfl
  case hlen => rfl
  case hnd => decide +kernel
  case hloc => decide +kernel
  case hcs => exact fun L => trivial
  case hfr => rfl
  case hσ => exact fun L => rfl
  intro L c' F'

  have hp := hb.pos
  have get : ∀ i, i < bs.length → (ivs octs)[k + i]? = some (V.int (bs.getD i 0)) := fun i hi => by unfold ivs; rw [List.getElem?_map, hk i hi]; rfl
  have tk1 : ∀ j, j < bs.length → vval (bs.take (j + 1)) = vval (bs.take j) * 64 + bs.getD j 0 % 64 := fun j hj => by
    rw [List.take_add_one, List.getElem?_eq_getElem hj, show (some bs[j]).toList = [bs[j]] from rfl, vval_snoc, List.getD_eq_getElem?_getD, List.getElem?_eq_getElem hj]; rfl
  have rng : ∀ j, j < bs.length → 0 ≤ bs.getD j 0 ∧ bs.getD j 0 < 128 ∧ (bs.getD j 0 < 64 ↔ j + 1 = bs.length) := fun j hj => by
    by_cases e : j + 1 = bs.length
    · have := hb.last
      rw [show bs.length - 1 = j by omega] at this
      omega
    · have := hb.more j (by omega)
      omega
  refine ex_asg F' ?_
  refine ev_call ?_
  wtm_at "zes"
  refine ⟨_, rfl, cw_builtin, ?_⟩
  wtm_at "zes"
  refine cl_next (hf _).1 (get 0 hp) ((hf _).2 _) ?_
  wtm_at "zas"
  refine ex_asg F' ?_
  wtm_at "zes"
  refine bin_and ?_
  wtm_at "zas"
  refine ex_while (fun m fr' σ' => ∃ j, j < bs.length ∧ m + j = bs.length ∧ fr' = (("iterator", some (V.raw (.ref I))) :: ("b", some (V.int (bs.getD j 0))) :: ("val", some (V.int (vval (bs.take (j + 1))))) :: [] : Frame) ∧ σ' = f (.iter (ivs octs) (k + (j + 1)))) (fun _ _ => False) bs.length ⟨0, hp, rfl, ?_, rfl⟩ ?_ (fun _ _ h => h.elim)
  · rw [bitAnd_m6, tk1 0 hp]
    simp [vval]
  · rintro m fr' σ' ⟨j, hj, hm, rfl, rfl⟩
    obtain ⟨r0, r1, r2⟩ := rng j hj
    refine te_plain ?_ (by rfl)
    wtm_at "zes"
    refine bin_and ?_
    wtm_at "zes"
    rw [and64 _ r0 r1]
    refine ⟨fun hc => ?_, fun hc => ?_⟩
    · have hlt : j + 1 < bs.length := by
        have : ¬ bs.getD j 0 < 64 := fun q => by rw [if_pos q] at hc; simp at hc
        have : ¬ j + 1 = bs.length := fun q => this (r2.mpr q)
        omega
      obtain ⟨q0, q1, q2⟩ := rng (j + 1) hlt
      have hbits : Builtin.Int.intBits (vval (bs.take (j + 1))) ≤ 64 := vv_bits _ (by rw [List.length_take]; have := hb.le; omega)
      refine ex_aug F' (by wtm_at "zmem") ?_
      wtm_at "zes"
      refine ibin_shl (n := 6) (by have : (64 : Nat) + 6 ≤ 2 ^ 27 := by decide
                                   omega) ?_
      refine ⟨_, by wtm_at "zput", ?_⟩
      refine ex_asg F' ?_
      refine ev_call ?_
      wtm_at "zes"
      refine ⟨_, rfl, cw_builtin, ?_⟩
      wtm_at "zes"
      refine cl_next (hf _).1 (get (j + 1) hlt) ((hf _).2 _) ?_
      wtm_at "zas"
      refine ex_aug F' (by wtm_at "zmem") ?_
      wtm_at "zes"
      refine bin_and ?_
      refine ibin_or ?_
      refine ⟨_, by wtm_at "zput", ?_⟩
      refine ex_nil ⟨_, List.Sublist.refl _, bs.length - (j + 1), by omega, j + 1, hlt, by omega, ?_, rfl⟩
      rw [bitAnd_m6, or_low _ _ (vval_pos _) (by omega) (by omega), tk1 (j + 1) hlt]
    · have hlast : j + 1 = bs.length := by
        have : bs.getD j 0 < 64 := by
          by_cases q : bs.getD j 0 < 64
          · exact q
          · rw [if_neg q] at hc; simp at hc
        exact r2.mp this
      refine ex_ret ?_
      wtm_at "zes"
      rw [hlast]
      refine ⟨_, _, .inl rfl, List.Sublist.refl _, ?_⟩
      rw [List.take_length]
      exact h
theorem is_eof {mg : Str → Option Value} {mb : MB} {E : Env} {n : Nat} {c : Act} {fr : Frame} {σ : Store} {Φ : V → Store → Prop} (F : Fact (hd0.heap_1 mb.w.params) mg mb E (n + 1) c) {i : Int} (h : Φ (.bool (decide (i = 0))) σ) : Cl c (.ref 128) [.int i] fr σ Φ := by
  apply cl_fn ["x"] [] [] [("x", some (.int i))] (fun L => σ) F
  case look => k_is
  case dat => rfl
  case bd => rfl
  case q => exact rfl
  case sc => exact rfl
  case cd => exact rfl
  case gl => rfl
  case bl => rfl
  case cl => rfl
  case co => rfl
  case gen => rfl
  case kind => rfl
  case code => k_is
  case hbind => intro As h; obtain ⟨a, rfl⟩ := List.length_eq_one_iff.mp h; rfl
  case hlen => rfl
  case hnd => decide +kernel
  case hloc => decide +kernel
  case hcs => exact fun L => trivial
  case hfr => rfl
  case hσ => exact fun L => rfl
  intro L c' F'

  refine ex_ret ?_
  wtm_at "zes"
  exact ⟨_, σ, .inl rfl, List.Sublist.refl _, h⟩
theorem is_terminal {mg : Str → Option Value} {mb : MB} {E : Env} {n : Nat} {c : Act} {fr : Frame} {σ : Store} {Φ : V → Store → Prop} (F : Fact (hd0.heap_1 mb.w.params) mg mb E (n + 1) c) {i : Int} (h : Φ (.bool (decide (i < 256))) σ) : Cl c (.ref 121) [.int i] fr σ Φ := by
  apply cl_fn ["x"] [] [] [("x", some (.int i))] (fun L => σ) F
  case look => k_is
  case dat => rfl
  case bd => rfl
  case q => exact rfl
  case sc => exact rfl
  case cd => exact rfl
  case gl => rfl
  case bl => rfl
  case cl => rfl
  case co => rfl
  case gen => rfl
  case kind => rfl
  case code => k_is
  case hbind => intro As h; obtain ⟨a, rfl⟩ := List.length_eq_one_iff.mp h; rfl
  case hlen => rfl
  case hnd => decide +kernel
  case hloc => decide +kernel
  case hcs => exact fun L => trivial
  case hfr => rfl
  case hσ => exact fun L => rfl
  intro L c' F'

  refine ex_ret ?_
  wtm_at "zes"
  exact ⟨_, σ, .inl rfl, List.Sublist.refl _, h⟩

open PySem PySem.W PySem.Spec PySem.Calls PyProof.Rows

theorem touchD0 : Touch PySem.Challenge.rw_sn0093_02 hd0.heap_1 := by
  k_fill
  trivial

def bump (cnt : List Int) (b : Nat) : List Int := (cnt ++ List.replicate (b + 1 - cnt.length) 0).set b ((cnt ++ List.replicate (b + 1 - cnt.length) 0).getD b 0 + 1)
def wsRun : List Nat → List Int → Nat → List Int × Nat
  | [], cnt, b => (cnt, b)
  | ch :: r, cnt, b => if ch = 32 then wsRun r cnt (b + 1) else if ch = 9 then wsRun r (bump cnt b) 0 else (cnt, b)
theorem bump_len (cnt : List Int) (b : Nat) : (bump cnt b).length = max cnt.length (b + 1) := by
  unfold bump; rw [List.length_set, List.length_append, List.length_replicate]; omega
def wsF (x : Str) (n nt : Int) (cnt : List Int) (b : Nat) (s : Bool) : List (Str × V) := [("raw", .str x), ("n", .int n), ("nt", .int nt), ("norm", .tup [.tup (ivs cnt), .int b]), ("is_simple", .bool s)]
theorem mk1_eq {ch k : Nat} : ((⟨#[ch]⟩ : Str) = ⟨#[k]⟩) ↔ ch = k := ⟨fun h => by cases h; rfl, fun h => by rw [h]⟩

theorem ws_init {mg : Str → Option Value} {mb : MB} {E : Env} {n : Nat} {c : Act} {fr : Frame} {σ τ : Store} {Φ : V → Store → Prop} (F : Fact (hd0.heap_1 mb.w.params) mg mb E (n + 1) c) {codes : List Nat} {x dx : Addr} (hz : codes.length < 2000) (ha : ∀ k ∈ codes, k < 128) (hm : σ = (dx, .ins x 107 []) :: τ)
    (h : ∀ n nt s, Φ .none ((dx, .ins x 107 (wsF (mkS codes) n nt (wsRun codes [] 0).1 (wsRun codes [] 0).2 s)) :: τ)) : CdK c (.ref 62) [.raw (.ref x), .str (mkS codes)] [] [] fr σ Φ := by
  subst hm
  apply cd_fn ["self", "ws"] ["S", "T", "count", "b", "n", "nt", "ch"] [] [("self", some (.raw (.ref x))), ("ws", some (.str (mkS codes))), ("S", none), ("T", none), ("count", none), ("b", none), ("n", none), ("nt", none), ("ch", none)] (fun _ => (dx, .ins x 107 []) :: τ) F
  case look => k_is
  case dat => rfl
  case bd => rfl
  case q => exact rfl
  case sc => exact rfl
  case cd => exact rfl
  case gl => rfl
  case bl => rfl
  case cl => rfl
  case co => rfl
  case gen => rfl
  case kind => rfl
  case code => k_is
  case hbind => intro As h; obtain ⟨a, b, rfl⟩ := twoOf h; rfl
  case hlen => rfl
  case hnd => decide +kernel
  case hloc => decide +kernel
  case hcs => exact fun L => trivial
  case hfr => rfl
  case hσ => exact fun L => rfl
  intro L c' F'

  have src : Src ((dx, .ins x 107 []) :: τ) (.str (mkS codes)) (chars (mkS codes)) := .str (by simp; exact ha)
  refine ex_asg F' ?_
  wtm_at "zes"
  apply asg_attrA F'
  case ho =>
    wtm_at "zes"
    exact ⟨rfl, rfl⟩
  case hm => wtm_at "zmem"
  case k => exact ⟨by k_is, by k_is, by k_is, by k_is⟩
  case hl => exact (by decide)
  case p => wtm_at "zputa"
  refine ex_swap2 F' ?_
  refine ev_tup ?_
  refine evl_cons ?_
  apply ev_clsA (.str (mkS [32])) F'
  case ho =>
    wtm_at "zes"
    exact ⟨rfl, rfl⟩
  case hr => k_is
  case hf => k_is
  case hv => exact fun _ _ => .str _ _
  case hh => rfl
  refine evl_cons ?_
  apply ev_clsA (.str (mkS [9])) F'
  case ho =>
    wtm_at "zes"
    exact ⟨rfl, rfl⟩
  case hr => k_is
  case hf => k_is
  case hv => exact fun _ _ => .str _ _
  case hh => rfl
  wtm_at "zes"
  refine ⟨by simp, _, _, _, _, rfl, by wtm_at "zput", by wtm_at "zput", ?_⟩
  refine ex_asg F' ?_
  refine ev_lst ?_
  wtm_at "zes"
  refine ⟨by decide, fun D0 => ?_⟩
  wtm_at "zas"
  refine ex_assign3 ?_
  wtm_at "zes"
  wtm_at "zas"
  have fin : wsRun codes [] 0 = wsRun codes [] 0 := rfl
  generalize hr : wsRun codes [] 0 = res at h
  refine ex_for F' (v := .str (mkS codes)) (xs := chars (mkS codes)) (fun k fr' σ' => ∃ (D : Addr) (cnt : List Int) (b : Nat) (n nt : Int) (o : Option V), fr' = (("self", some (V.raw (.ref x))) :: ("ws", some (V.str (mkS codes))) :: ("S", some (V.str (mkS [32]))) :: ("T", some (V.str (mkS [9]))) :: ("count", some (V.raw (.ref D))) :: ("b", some (V.int (b : Int))) :: ("n", some (V.int n)) :: ("nt", some (V.int nt)) :: ("ch", o) :: [] : Frame) ∧
      σ' = (D, .list (ivs cnt)) :: (dx, .ins x 107 [("raw", .str (mkS codes))]) :: τ ∧ b ≤ k ∧ cnt.length ≤ k + 1 ∧ wsRun (codes.drop k) cnt b = res)
    (fun fr' σ' => ∃ (D : Addr) (cnt : List Int) (b : Nat) (n nt : Int) (o : Option V), fr' = (("self", some (V.raw (.ref x))) :: ("ws", some (V.str (mkS codes))) :: ("S", some (V.str (mkS [32]))) :: ("T", some (V.str (mkS [9]))) :: ("count", some (V.raw (.ref D))) :: ("b", some (V.int (b : Int))) :: ("n", some (V.int n)) :: ("nt", some (V.int nt)) :: ("ch", o) :: [] : Frame) ∧
      σ' = (D, .list (ivs cnt)) :: (dx, .ins x 107 [("raw", .str (mkS codes))]) :: τ ∧ cnt.length < 5000 ∧ (cnt, b) = res)
    ?_ (.str (by simp; exact ha)) ⟨D0, [], 0, 0, 0, none, rfl, rfl, Nat.le_refl 0, by decide, hr⟩ (fun _ _ _ _ => .str (by simp; exact ha)) ?_ ?_ ?_
  · apply ev_attrA F'
    case ho =>
      wtm_at "zes"
      exact ⟨rfl, rfl⟩
    case w => exact .own (by wtm_at "zmem")
    case k => exact attrOk_none (by k_is) (by k_is) (by k_is)
    case hu => rfl
    case hv => trivial
    case h => exact ⟨rfl, rfl⟩
  · rintro c₂ F₂ k y fr' σ' hy ⟨D, cnt, b, n, nt, o, rfl, rfl, hb, hcl, hrun⟩
    rw [chars_mk, List.getElem?_map] at hy
    cases hk : codes[k]? with
    | none => rw [hk] at hy; cases hy
    | some ch =>
      rw [hk] at hy; cases hy
      have hkl : k < codes.length := (List.getElem?_eq_some_iff.mp hk).1
      have hdrop : codes.drop k = ch :: codes.drop (k + 1) := by
        rw [List.drop_eq_getElem_cons hkl]; congr 1; exact (List.getElem?_eq_some_iff.mp hk).2
      rw [hdrop, wsRun] at hrun
      wtm_at "zas"
      refine ex_if ?_
      wtm_at "zes"
      refine ⟨fun hc => ?_, fun hc => ?_⟩
      · have hc := mk1_eq.mp (of_decide_eq_true hc)
        rw [if_pos hc] at hrun
        refine ex_asg F₂ ?_
        wtm_at "zes"
        wtm_at "zas"
        refine ex_asg F₂ ?_
        wtm_at "zes"
        wtm_at "zas"
        refine ex_nil (ex_nil ⟨_, List.Sublist.refl _, D, cnt, b + 1, _, _, _, rfl, rfl, by omega, by omega, hrun⟩)
      have hc := fun q => of_decide_eq_false hc (mk1_eq.mpr q)
      rw [if_neg hc] at hrun
      refine ex_if ?_
      wtm_at "zes"
      refine ⟨fun hc2 => ?_, fun hc2 => ?_⟩
      · have hc2 := mk1_eq.mp (of_decide_eq_true hc2)
        rw [if_pos hc2] at hrun
        refine ex_asg F₂ ?_
        wtm_at "zes"
        wtm_at "zas"
        refine ex_asg F₂ ?_
        wtm_at "zes"
        wtm_at "zas"
        have hlc : cnt.length < 3000 := by omega
        refine ex_ifJ (fun fr' σ' => ∃ (D2 : Addr), fr' = (("self", some (V.raw (.ref x))) :: ("ws", some (V.str (mkS codes))) :: ("S", some (V.str (mkS [32]))) :: ("T", some (V.str (mkS [9]))) :: ("count", some (V.raw (.ref D2))) :: ("b", some (V.int (b : Int))) :: ("n", some (V.int (n + 1))) :: ("nt", some (V.int (nt + 1))) :: ("ch", some (V.str ⟨#[ch]⟩)) :: [] : Frame) ∧
          σ' = (D2, .list (ivs (cnt ++ List.replicate (b + 1 - cnt.length) 0))) :: (dx, .ins x 107 [("raw", .str (mkS codes))]) :: τ) ?_ ?_
        · refine te_cmp ?_
          wtm_at "zes"
          refine ev_call ?_
          wtm_at "zes"
          refine ⟨_, rfl, cw_builtin, ?_⟩
          wtm_at "zes"
          refine cl_len (.own (by wtm_at "zmem")) (by rw [iv_len]; omega) ?_
          wtm_at "zes"
          rw [iv_len]
          refine ⟨fun hg => ?_, fun hg => ?_⟩
          · have hg := of_decide_eq_true hg
            refine ex_asg F₂ ?_
            wtm_at "zes"
            refine ev_lstF ?_
            wtm_at "zes"
            refine ⟨by decide, ?_⟩
            wtm_at "zes"
            refine ev_call ?_
            wtm_at "zes"
            refine ⟨_, rfl, cw_builtin, ?_⟩
            wtm_at "zes"
            refine cl_len (.own (by wtm_at "zmem")) (by rw [iv_len]; omega) ?_
            wtm_at "zes"
            rw [iv_len]
            have e1 : ((b : Int) - (cnt.length : Int) + 1).toNat = b + 1 - cnt.length := by omega
            refine bin_lmul .lst (by omega) (by rw [e1]; simp; omega) (by omega) ?_
            rw [e1]
            have e2 : (List.replicate (b + 1 - cnt.length) [V.int 0]).flatten = ivs (List.replicate (b + 1 - cnt.length) 0) := by simp [ivs]
            rw [e2]
            refine bin_laddO (.own (by wtm_at "zmem")) .lst (by rw [iv_len, iv_len, List.length_replicate]; omega) fun D2 => ?_
            rw [ivs_app]
            wtm_at "zas"
            refine ex_less (.cons_cons _ (List.sublist_cons_self _ _)) ?_
            refine ex_nil ⟨rfl, D2, rfl, rfl⟩
          · have hg := of_decide_eq_false hg
            have e3 : b + 1 - cnt.length = 0 := by omega
            refine ex_nil ⟨rfl, D, rfl, ?_⟩
            rw [e3, List.replicate_zero, List.append_nil]
        · rintro fr' σ' ⟨D2, rfl, rfl⟩
          have hlb : b < (cnt ++ List.replicate (b + 1 - cnt.length) 0).length := by rw [List.length_append, List.length_replicate]; omega
          have eb : ((b : Int)).toNat = b := by omega
          refine ex_asg F₂ ?_
          wtm_at "zes"
          refine sub_list (.own (by wtm_at "zmem")) (by omega) (by omega) (iv_get (by omega)) ?_
          wtm_at "zes"
          refine asg_sub (fun _ _ _ _ => trivial) ?_
          wtm_at "zes"
          refine ⟨_, rfl, ?_⟩
          wtm_at "zes"
          refine ⟨_, _, _, rfl, by wtm_at "zmem", by omega, by rw [iv_len]; omega, by omega, by wtm_at "zputa", ?_⟩
          rw [eb, iv_set]
          refine ex_asg F₂ ?_
          wtm_at "zes"
          wtm_at "zas"
          have bl := bump_len cnt b
          exact ex_nil (ex_nil (ex_nil ⟨_, List.Sublist.refl _, D2, bump cnt b, 0, _, _, _, rfl, rfl, by omega, by omega, hrun⟩))
      · have hc2 := fun q => of_decide_eq_false hc2 (mk1_eq.mpr q)
        rw [if_neg hc2] at hrun
        exact ex_brk ⟨D, cnt, b, _, _, _, rfl, rfl, by omega, hrun⟩
  · rintro fr' σ' ⟨D, cnt, b, n, nt, o, rfl, rfl, hb, hcl, hrun⟩
    have hlen : (chars (mkS codes)).length = codes.length := by rw [chars_mk, List.length_map]
    rw [hlen, List.drop_length] at hrun
    rw [hlen] at hb hcl
    unfold wsRun at hrun
    subst hrun
    refine ex_asg F' ?_
    wtm_at "zes"
    apply asg_attrA F'
    case ho =>
      wtm_at "zes"
      exact ⟨rfl, rfl⟩
    case hm => wtm_at "zmem"
    case k => exact ⟨by k_is, by k_is, by k_is, by k_is⟩
    case hl => exact (show (1 : Nat) < 900 by decide)
    case p => wtm_at "zputa"
    refine ex_asg F' ?_
    wtm_at "zes"
    apply asg_attrA F'
    case ho =>
      wtm_at "zes"
      exact ⟨rfl, rfl⟩
    case hm => wtm_at "zmem"
    case k => exact ⟨by k_is, by k_is, by k_is, by k_is⟩
    case hl => exact (show (2 : Nat) < 900 by decide)
    case p => wtm_at "zputa"
    refine ex_asg F' ?_
    refine ev_tup ?_
    refine evl_cons ?_
    refine ev_call ?_
    wtm_at "zes"
    refine ⟨_, rfl, cw_type, ?_⟩
    wtm_at "zes"
    refine cl_tuple (.own (by wtm_at "zmem")) (by rw [iv_len]; omega) ?_
    wtm_at "zes"
    refine ⟨by simp, ?_⟩
    apply asg_attrA F'
    case ho =>
      wtm_at "zes"
      exact ⟨rfl, rfl⟩
    case hm => wtm_at "zmem"
    case k => exact ⟨by k_is, by k_is, by k_is, by k_is⟩
    case hl => exact (show (3 : Nat) < 900 by decide)
    case p => wtm_at "zputa"
    refine ex_asg F' ?_
    refine ev_cmp ?_
    refine ev_call ?_
    wtm_at "zes"
    refine ⟨_, rfl, cw_builtin, ?_⟩
    wtm_at "zes"
    refine cl_len (.own (by wtm_at "zmem")) (by rw [iv_len]; omega) ?_
    wtm_at "zes"
    apply asg_attrA F'
    case ho =>
      wtm_at "zes"
      exact ⟨rfl, rfl⟩
    case hm => wtm_at "zmem"
    case k => exact ⟨by k_is, by k_is, by k_is, by k_is⟩
    case hl => exact (show (4 : Nat) < 900 by decide)
    case p => wtm_at "zputa"
    refine ex_nil ⟨.none, _, .inr ⟨rfl, rfl⟩, List.sublist_cons_self _ _, ?_⟩
    exact h n nt _
  · rintro fr' σ' ⟨D, cnt, b, n, nt, o, rfl, rfl, hcl, hrun⟩
    skip
    subst hrun
    refine ex_asg F' ?_
    wtm_at "zes"
    apply asg_attrA F'
    case ho =>
      wtm_at "zes"
      exact ⟨rfl, rfl⟩
    case hm => wtm_at "zmem"
    case k => exact ⟨by k_is, by k_is, by k_is, by k_is⟩
    case hl => exact (show (1 : Nat) < 900 by decide)
    case p => wtm_at "zputa"
    refine ex_asg F' ?_
    wtm_at "zes"
    apply asg_attrA F'
    case ho =>
      wtm_at "zes"
      exact ⟨rfl, rfl⟩
    case hm => wtm_at "zmem"
    case k => exact ⟨by k_is, by k_is, by k_is, by k_is⟩
    case hl => exact (show (2 : Nat) < 900 by decide)
    case p => wtm_at "zputa"
    refine ex_asg F' ?_
    refine ev_tup ?_
    refine evl_cons ?_
    refine ev_call ?_
    wtm_at "zes"
    refine ⟨_, rfl, cw_type, ?_⟩
    wtm_at "zes"
    refine cl_tuple (.own (by wtm_at "zmem")) (by rw [iv_len]; omega) ?_
    wtm_at "zes"
    refine ⟨by simp, ?_⟩
    apply asg_attrA F'
    case ho =>
      wtm_at "zes"
      exact ⟨rfl, rfl⟩
    case hm => wtm_at "zmem"
    case k => exact ⟨by k_is, by k_is, by k_is, by k_is⟩
    case hl => exact (show (3 : Nat) < 900 by decide)
    case p => wtm_at "zputa"
    refine ex_asg F' ?_
    refine ev_cmp ?_
    refine ev_call ?_
    wtm_at "zes"
    refine ⟨_, rfl, cw_builtin, ?_⟩
    wtm_at "zes"
    refine cl_len (.own (by wtm_at "zmem")) (by rw [iv_len]; omega) ?_
    wtm_at "zes"
    apply asg_attrA F'
    case ho =>
      wtm_at "zes"
      exact ⟨rfl, rfl⟩
    case hm => wtm_at "zmem"
    case k => exact ⟨by k_is, by k_is, by k_is, by k_is⟩
    case hl => exact (show (4 : Nat) < 900 by decide)
    case p => wtm_at "zputa"
    refine ex_nil ⟨.none, _, .inr ⟨rfl, rfl⟩, List.sublist_cons_self _ _, ?_⟩
    exact h n nt _

theorem ws_eq {mg : Str → Option Value} {mb : MB} {E : Env} {n : Nat} {c : Act} {fr : Frame} {σ : Store} {Φ : V → Store → Prop} (F : Fact (hd0.heap_1 mb.w.params) mg mb E (n + 1) c) {fs gs : List (Str × V)} {da db : PyData} (hf : getF "norm" fs = some (toV da)) (hg : getF "norm" gs = some (toV db)) (d1 : noDict da = true) (d2 : noDict db = true) (l1 : PyData.canLay0 da = true) (l2 : PyData.canLay0 db = true) (dd : PyData.depth da ≤ 100) (hv1 : handV (toV da)) (hv2 : handV (toV db))
    (h : Φ (.bool (PyData.eqv da db)) σ) : Cl c (.ref 83) [.obj 107 fs, .obj 107 gs] fr σ Φ := by
  apply cl_fn ["self", "other"] [] [] [("self", some (.obj 107 fs)), ("other", some (.obj 107 gs))] (fun L => σ) F
  case look => k_is
  case dat => rfl
  case bd => rfl
  case q => exact rfl
  case sc => exact rfl
  case cd => exact rfl
  case gl => rfl
  case bl => rfl
  case cl => rfl
  case co => rfl
  case gen => rfl
  case kind => rfl
  case code => k_is
  case hbind => intro As h; obtain ⟨a, b, rfl⟩ := twoOf h; rfl
  case hlen => rfl
  case hnd => decide +kernel
  case hloc => decide +kernel
  case hcs => exact fun L => trivial
  case hfr => rfl
  case hσ => exact fun L => rfl
  intro L c' F'

  refine ex_ret ?_
  refine ev_cmp ?_
  apply ev_attrA F'
  case ho =>
    wtm_at "zes"
    exact ⟨rfl, rfl⟩
  case w => exact .obj
  case k => exact attrOk_none (by k_is) (by k_is) (by k_is)
  case hu => exact hf
  case hv => exact hv1
  apply ev_attrA F'
  case ho =>
    wtm_at "zes"
    exact ⟨rfl, rfl⟩
  case w => exact .obj
  case k => exact attrOk_none (by k_is) (by k_is) (by k_is)
  case hu => exact hg
  case hv => exact hv2
  refine cmp_deq F' d1 d2 l1 l2 dd ?_
  exact ⟨_, σ, .inl rfl, List.Sublist.refl _, h⟩

open PySem PySem.W PySem.Spec PySem.Calls PyProof.Rows

theorem touchD1 : Touch PySem.Challenge.rw_sn0093_02 hd0.heap_1 := by
  k_fill
  trivial

/-- signs that both patterns refuse -/
def okS (l : List Nat) : Prop := ∀ k ∈ l, 32 ≤ k ∧ k < 127

theorem conv {mg : Str → Option Value} {mb : MB} {E : Env} {n : Nat} {c : Act} {fr : Frame} {σ : Store} {Φ : V → Store → Prop} (F : Fact (hd0.heap_1 mb.w.params) mg mb E (n + 1) c) {slf : V} {l : List Nat} {b : Bool} (hz : l.length < 1000) (hl : okS l) (h : Φ (.str (mkS l)) σ) : ClK c (.ref 173) [slf, .str (mkS l)] ["name"] [.bool b] fr σ Φ := by
  refine CdK.cl ?_
  apply cd_fnG (ws := [slf, .str (mkS l), .bool b]) ["self", "value", "name"] ["regex"] [("self", some slf), ("value", some (.str (mkS l))), ("name", some (.bool b)), ("regex", none)] F
  case look => k_is
  case dat => rfl
  case bd => rfl
  case q => exact rfl
  case sc => exact rfl
  case cd => exact rfl
  case gl => rfl
  case bl => rfl
  case cl => rfl
  case co => rfl
  case gen => rfl
  case kind => rfl
  case code => k_is
  case hbind =>
    intro s As Ks X h P ra rk
    cases ra with
    | cons r1 ra => cases ra with
      | cons r2 ra => cases ra; cases rk with
        | cons r3 rk => cases rk; exact ⟨[_, _, _], BindsTo.of_eq rfl, .cons r1 (.cons r2 (.cons r3 .nil))⟩
  case hlen => rfl
  case hnd => decide +kernel
  case hloc => decide +kernel
  case hfr => rfl
  intro L c' F'
  refine ex_if ?_
  refine te_cmp ?_
  refine ev_call ?_
  wtm_at "zes"
  refine ⟨_, rfl, cw_type, ?_⟩
  wtm_at "zes"
  refine cl_type_str ?_
  wtm_at "zes"
  refine cmp_is_ty ?_
  wtm_at "zes"
  refine ifb_t ?_
  refine ex_asg F' ?_
  have hx : (mkS l).cps.size < 1000000 := by simp; omega
  refine ev_ife ?_
  refine te_plain ?_ (by rfl)
  wtm_at "zes"
  refine ⟨fun _ => ?_, fun _ => ?_⟩
  all_goals
    wtm_at "zes"
    wtm_at "zas"
    refine ex_if ?_
    refine te_plain ?_ (by rfl)
    refine ev_meth ?_
    wtm_at "zes"
    refine ⟨_, _, getm_search F' (by k_is), cw_builtin, ?_⟩
    wtm_at "zes"
    apply cl_search F'
    case look => k_is
    case h5 => rfl
    case lookc => k_is
    case h6 => rfl
    case h2 => rfl
    case hx => exact hx
    case hf =>
      intro m e
      unfold Sre.M.hasFirstSet
      rw [e]; decide +kernel
    case hc =>
      intro k hk seen
      have hk' : k ∈ l := by simpa using hk
      exact inSet_no (by decide +kernel) (hl k hk').1 (hl k hk').2 seen
    refine tru_none ?_
    refine ifb_f ?_
    refine ex_nil ?_
    refine ex_ret ?_
    wtm_at "zes"
    exact ⟨_, σ, .inl rfl, List.Sublist.refl _, h⟩

def pv (p : List Nat × List Nat) : V := .tup [.str (mkS p.1), .str (mkS p.2)]
def hdr (hl : Addr) : List (Str × V) := [("_headers", .raw (.ref hl))]
def found (low : List Nat → List Nat) (nm : List Nat) (ps : List (List Nat × List Nat)) : V := match ps.find? fun p => decide (low p.1 = low nm) with
  | some p => .str (mkS p.2)
  | none => .none
theorem mkS_dec {a b : List Nat} : decide (mkS a = mkS b) = decide (a = b) := by
  by_cases h : a = b
  · subst h; simp
  · have : mkS a ≠ mkS b := fun e => h (mkS_inj e)
    simp [h, this]

theorem hitems {mg : Str → Option Value} {mb : MB} {E : Env} {n : Nat} {c : Act} {fr : Frame} {σ : Store} {Φ : V → Store → Prop} (F : Fact (hd0.heap_1 mb.w.params) mg mb E (n + 1) c) {hl : Addr} {vs : List V} (hm : (hl, O.list vs) ∈ σ) (hz : vs.length < 1000) (h : Φ (.lst vs) σ) : Cl c (.ref 236) [.obj 272 (hdr hl)] fr σ Φ := by
  apply cl_fn ["self"] [] [] [("self", some (.obj 272 (hdr hl)))] (fun L => σ) F
  case look => k_is
  case dat => rfl
  case bd => rfl
  case q => exact rfl
  case sc => exact rfl
  case cd => exact rfl
  case gl => rfl
  case bl => rfl
  case cl => rfl
  case co => rfl
  case gen => rfl
  case kind => rfl
  case code => k_is
  case hbind => intro As h; obtain ⟨a, rfl⟩ := List.length_eq_one_iff.mp h; rfl
  case hlen => rfl
  case hnd => decide +kernel
  case hloc => decide +kernel
  case hcs => exact fun L => trivial
  case hfr => rfl
  case hσ => exact fun L => rfl
  intro L c' F'

  refine ex_ret ?_
  refine ev_slice ?_
  apply ev_attrA F'
  case ho =>
    wtm_at "zes"
    exact ⟨rfl, rfl⟩
  case w => exact .obj
  case k => exact attrOk_none (by k_is) (by k_is) (by k_is)
  case hu => rfl
  case hv => trivial
  wtm_at "zes"
  refine slc_allA (.own hm) (by omega) ?_
  exact ⟨_, σ, .inl rfl, List.Sublist.refl _, h⟩

theorem hinit {mg : Str → Option Value} {mb : MB} {E : Env} {n : Nat} {c : Act} {fr : Frame} {σ : Store} {Φ : V → Store → Prop} (F : Fact (hd0.heap_1 mb.w.params) mg mb E (n + 1) c) {x dx : Addr} {τ : Store} (hm : σ = (dx, .ins x 272 []) :: τ)
    (h : ∀ D, Φ .none ((D, .list []) :: (dx, .ins x 272 (hdr D)) :: τ)) : CdK c (.ref 166) [.raw (.ref x)] [] [] fr σ Φ := by
  subst hm
  apply cd_fnG (ws := [.raw (.ref x), .none]) ["self", "headers"] ["k", "v"] [("self", some (.raw (.ref x))), ("headers", some .none), ("k", none), ("v", none)] F
  case look => k_is
  case dat => rfl
  case bd => rfl
  case q => exact rfl
  case sc => exact rfl
  case cd => exact rfl
  case gl => rfl
  case bl => rfl
  case cl => rfl
  case co => rfl
  case gen => rfl
  case kind => rfl
  case code => k_is
  case hbind =>
    intro s As Ks X h P ra rk
    cases ra with
    | cons r1 ra => cases ra; cases rk; exact ⟨[_, .none], binds_K X rfl (by k_is) rfl rfl rfl, .cons r1 (.cons .none .nil)⟩
  case hlen => rfl
  case hnd => decide +kernel
  case hloc => decide +kernel
  case hfr => rfl
  intro L c' F'
  refine ex_asg F' ?_
  refine ev_ife ?_
  refine te_cmp ?_
  wtm_at "zes"
  refine cmp_isnot_none (.inl ⟨rfl, rfl⟩) ?_
  wtm_at "zes"
  refine ifb_f ?_
  refine ev_lst ?_
  wtm_at "zes"
  refine ⟨by decide, fun D => ?_⟩
  wtm_at "zas"
  refine ex_if ?_
  refine te_cmp ?_
  refine ev_call ?_
  wtm_at "zes"
  refine ⟨_, rfl, cw_type, ?_⟩
  wtm_at "zes"
  refine cl_type_list (.own (vs := []) (by wtm_at "zmem")) ?_
  wtm_at "zes"
  refine cmp_isnot_ty ?_
  wtm_at "zes"
  refine ifb_f (ex_nil ?_)
  refine ex_asg F' ?_
  wtm_at "zes"
  apply asg_attrA F'
  case ho =>
    wtm_at "zes"
    exact ⟨rfl, rfl⟩
  case hm => wtm_at "zmem"
  case k => exact ⟨by k_is, by k_is, by k_is, by k_is⟩
  case hl => exact (by decide)
  case p => wtm_at "zputa"
  refine ex_if ?_
  refine te_plain ?_ (by rfl)
  wtm_at "zes"
  refine ifb_t ?_
  refine ex_for F' (v := .raw (.ref D)) (xs := []) (fun _ fr' σ' => σ' = (D, .list []) :: (dx, .ins x 272 (hdr D)) :: τ) (fun _ _ => False) ?_ (.view (.own (by wtm_at "zmem"))) rfl ?_ ?_ ?_ (fun _ _ h => h.elim)
  · wtm_at "zes"
    exact ⟨rfl, rfl⟩
  · rintro k fr' σ' rfl
    exact .view (.own (by wtm_at "zmem"))
  · intro c₂ F₂ k x fr' σ' hx
    cases hx
  · rintro fr' σ' rfl
    exact ex_nil (ex_nil ⟨.none, _, .inr ⟨rfl, rfl⟩, List.Sublist.refl _, h D⟩)

open PySem PySem.W PySem.Spec PySem.Calls PyProof.Rows

theorem touchD2 : Touch PySem.Challenge.rw_sn0093_02 hd0.heap_1 := by
  k_fill
  trivial

/-- the spelled name of a place -/
def lname (p s : Nat) : List Nat := [if s % 2 = 1 then 65 + p / 2 else 97 + p / 2, if s > 1 then 88 + p % 2 else 120 + p % 2]
theorem up1 : ∀ k, k < 128 → Txt.upper (mkS [k]) = mkS [if 97 ≤ k ∧ k ≤ 122 then k - 32 else k] := by
  have : ∀ k : Fin 128, (Txt.upper (mkS [k.val]) == mkS [if 97 ≤ k.val ∧ k.val ≤ 122 then k.val - 32 else k.val]) = true := by decide +kernel
  exact fun k h => by simpa using this ⟨k, h⟩
theorem law_name {mg : Str → Option Value} {mb : MB} {E : Env} {n : Nat} {c : Act} {fr : Frame} {σ : Store} {Φ : V → Store → Prop} (F : Fact (hd0.heap_1 mb.w.params) mg mb E (n + 1) c) {p s : Nat} (hp : p < 4) (hs : s < 4) (h : Φ (.str (mkS (lname p s))) σ) : Cl c (.ref 283) [.int (p : Int), .int (s : Int)] fr σ Φ := by
  apply cl_fn ["place", "sizes"] ["first", "last"] [] [("place", some (.int (p : Int))), ("sizes", some (.int (s : Int))), ("first", none), ("last", none)] (fun L => σ) F
  case look => k_is
  case dat => rfl
  case bd => rfl
  case q => exact rfl
  case sc => exact rfl
  case cd => exact rfl
  case gl => rfl
  case bl => rfl
  case cl => rfl
  case co => rfl
  case gen => rfl
  case kind => rfl
  case code => k_is
  case hbind => intro As h; obtain ⟨a, b, rfl⟩ := twoOf h; rfl
  case hlen => rfl
  case hnd => decide +kernel
  case hloc => decide +kernel
  case hcs => exact fun L => trivial
  case hfr => rfl
  case hσ => exact fun L => rfl
  intro L c' F'

  have ga : ∀ i, i < 2 → (Str.ofString "ab").cps[i]? = some (97 + i) := fun i hi => by
    have : ∀ i : Fin 2, (Str.ofString "ab").cps[i.val]? = some (97 + i.val) := by decide +kernel
    exact this ⟨i, hi⟩
  have gx : ∀ i, i < 2 → (Str.ofString "xy").cps[i]? = some (120 + i) := fun i hi => by
    have : ∀ i : Fin 2, (Str.ofString "xy").cps[i.val]? = some (120 + i.val) := by decide +kernel
    exact this ⟨i, hi⟩
  refine ex_asg F' ?_
  wtm_at "zes"
  rw [show (p : Int) / 2 = ((p / 2 : Nat) : Int) by omega]
  refine sub_str (k := 97 + p / 2) (by omega) (by omega) (by rw [Int.toNat_natCast]; exact ga _ (by omega)) ?_
  wtm_at "zas"
  refine ex_asg F' ?_
  wtm_at "zes"
  rw [show (p : Int) % 2 = ((p % 2 : Nat) : Int) by omega]
  refine sub_str (k := 120 + p % 2) (by omega) (by omega) (by rw [Int.toNat_natCast]; exact gx _ (by omega)) ?_
  wtm_at "zas"
  refine ex_ret ?_
  refine ev_bin ?_
  refine ev_ifj (b := decide (s % 2 = 1)) (w := .str (mkS [if s % 2 = 1 then 65 + p / 2 else 97 + p / 2])) (u := .str (mkS [65 + p / 2])) (v := .str (mkS [97 + p / 2])) ?_ ?_ ?_ ?_ ?_
  · refine te_cmp ?_
    wtm_at "zes"
    exact ⟨by rw [decide_eq_decide]; omega, rfl⟩
  · refine ev_meth0 ?_
    wtm_at "zes"
    refine ⟨_, _, getm_upper, cw_builtin, ?_⟩
    refine cl_upper (by show 1 < 1000000; decide) ?_
    exact ⟨by rw [show (⟨#[97 + p / 2]⟩ : Str) = mkS [97 + p / 2] from rfl, up1 _ (by omega), if_pos (by omega), show 97 + p / 2 - 32 = 65 + p / 2 by omega], rfl⟩
  · wtm_at "zes"
    exact ⟨rfl, rfl⟩
  · by_cases q : s % 2 = 1
    · rw [decide_eq_true q, if_pos q]; rfl
    · rw [decide_eq_false q, if_neg q]; rfl
  refine ev_ifj (b := decide (s > 1)) (w := .str (mkS [if s > 1 then 88 + p % 2 else 120 + p % 2])) (u := .str (mkS [88 + p % 2])) (v := .str (mkS [120 + p % 2])) ?_ ?_ ?_ ?_ ?_
  · refine te_cmp ?_
    wtm_at "zes"
    exact ⟨by rw [decide_eq_decide]; omega, rfl⟩
  · refine ev_meth0 ?_
    wtm_at "zes"
    refine ⟨_, _, getm_upper, cw_builtin, ?_⟩
    refine cl_upper (by show 1 < 1000000; decide) ?_
    exact ⟨by rw [show (⟨#[120 + p % 2]⟩ : Str) = mkS [120 + p % 2] from rfl, up1 _ (by omega), if_pos (by omega), show 120 + p % 2 - 32 = 88 + p % 2 by omega], rfl⟩
  · wtm_at "zes"
    exact ⟨rfl, rfl⟩
  · by_cases q : s > 1
    · rw [decide_eq_true q, if_pos q]; rfl
    · rw [decide_eq_false q, if_neg q]; rfl
  refine bin_sadd (by rw [mkS_len, mkS_len]; simp) ?_
  refine ⟨_, σ, .inl rfl, List.Sublist.refl _, ?_⟩
  rw [mkS_app]; exact h

open PySem PySem.W PySem.Spec PySem.Calls PyProof.Rows

theorem touchD3 : Touch PySem.Challenge.rw_sn0093_02 hd0.heap_1 := by
  k_fill
  trivial

/-- an entry: its place, the sizes of its letters, below nought or not, its weight -/
structure Ent where
  place : Nat
  sizes : Nat
  below : Bool
  weight : Nat
def ent (k x : Nat) : Ent := ⟨if k < 4 then k else x / 2 % 4, x / 8 % 4, decide (x % 2 = 1), x / 32 % 1000000000⟩
def entV (e : Ent) : V := .tup [.int (e.place : Int), .int (e.sizes : Int), .bool e.below, .int (e.weight : Int)]
def entsOf (ns : List Nat) (k : Nat) : List Ent := (List.range k).map fun i => ent i (ns.getD i 0)
theorem law_entries {mg : Str → Option Value} {mb : MB} {E : Env} {n : Nat} {c : Act} {fr : Frame} {σ : Store} {Φ : V → Store → Prop} (F : Fact (hd0.heap_1 mb.w.params) mg mb E (n + 1) c) {ns : List Nat} (hl : 6 ≤ ns.length) (hl2 : ns.length < 100) (h : Φ (.lst ((entsOf ns 6).map entV)) σ) : Cl c (.ref 290) [.lst (ivs (ns.map fun (x : Nat) => (x : Int)))] fr σ Φ := by
  apply cl_fn ["numbers"] ["entries", "k", "x", "place"] [] [("numbers", some (.lst (ivs (ns.map fun (x : Nat) => (x : Int))))), ("entries", none), ("k", none), ("x", none), ("place", none)] (fun L => σ) F
  case look => k_is
  case dat => rfl
  case bd => rfl
  case q => exact rfl
  case sc => exact rfl
  case cd => exact rfl
  case gl => rfl
  case bl => rfl
  case cl => rfl
  case co => rfl
  case gen => rfl
  case kind => rfl
  case code => k_is
  case hbind => intro As h; obtain ⟨a, rfl⟩ := List.length_eq_one_iff.mp h; rfl
  case hlen => rfl
  case hnd => decide +kernel
  case hloc => decide +kernel
  case hcs => exact fun L => trivial
  case hfr => rfl
  case hσ => exact fun L => rfl
  intro L c' F'

  refine ex_asg F' ?_
  refine ev_lst ?_
  wtm_at "zes"
  refine ⟨by decide, fun R => ?_⟩
  wtm_at "zas"
  refine ex_for F' (v := .rng 0 ((6 : Nat) : Int) 1) (xs := (List.range 6).map fun (i : Nat) => V.int (0 + (i : Int) * 1)) (fun k fr' σ' => ∃ o1 o2 o3, fr' = (("numbers", some (V.lst (ivs (ns.map fun (x : Nat) => (x : Int))))) :: ("entries", some (V.raw (.ref R))) :: ("k", o1) :: ("x", o2) :: ("place", o3) :: [] : Frame) ∧ σ' = (R, O.list ((entsOf ns k).map entV)) :: σ) (fun _ _ => False) ?_ (src_rng (by decide)) ⟨_, _, _, rfl, rfl⟩ (fun _ _ _ _ => src_rng (by decide)) ?_ ?_ (fun _ _ h => h.elim)
  · refine ev_call ?_
    wtm_at "zes"
    refine ⟨_, rfl, cw_type, ?_⟩
    wtm_at "zes"
    exact cl_range1 ⟨rfl, rfl⟩
  · rintro c₂ F₂ k x fr' σ' hx ⟨o1, o2, o3, rfl, rfl⟩
    rw [List.getElem?_map] at hx
    obtain ⟨i, hi, rfl⟩ := Option.map_eq_some_iff.mp hx
    obtain ⟨hk, e⟩ := List.getElem?_eq_some_iff.mp hi
    rw [List.length_range] at hk
    rw [List.getElem_range] at e
    subst e
    rw [show (0 + (k : Int) * 1) = (k : Int) by omega]
    wtm_at "zas"
    refine ex_asg F₂ ?_
    wtm_at "zes"
    refine sub_list (u := .int ((ns.getD k 0 : Nat) : Int)) .lst (by omega) (by omega) ?_ ?_
    · rw [Int.toNat_natCast]
      unfold ivs
      rw [List.getElem?_map, List.getElem?_map, List.getD_eq_getElem?_getD, List.getElem?_eq_getElem (by omega)]; rfl
    have hE : entsOf ns (k + 1) = entsOf ns k ++ [ent k (ns.getD k 0)] := by unfold entsOf; rw [List.range_succ, List.map_append]; rfl
    rw [hE]
    generalize ns.getD k 0 = x
    wtm_at "zas"
    refine ex_asg F₂ ?_
    refine ev_ifj (b := decide (k < 4)) (w := .int ((ent k x).place : Int)) (u := .int (k : Int)) (v := .int ((x / 2 % 4 : Nat) : Int)) ?_ ?_ ?_ ?_ ?_
    · refine te_cmp ?_
      wtm_at "zes"
      exact ⟨by rw [decide_eq_decide]; omega, rfl⟩
    · wtm_at "zes"
      exact ⟨rfl, rfl⟩
    · wtm_at "zes"
      exact ⟨by congr 1, rfl⟩
    · unfold ent
      by_cases q : k < 4
      · rw [decide_eq_true q]; simp [q]
      · rw [decide_eq_false q]; simp [q]
    wtm_at "zas"
    refine ex_exp F₂ ?_
    refine ev_meth ?_
    wtm_at "zes"
    refine ⟨_, _, getm_append (by wtm_at "zmem"), cw_builtin, ?_⟩
    refine evl_cons ?_
    refine ev_tup ?_
    wtm_at "zes"
    refine bin_pow (n := 9) (by decide +kernel) ?_
    refine bin_mod (by decide) ?_
    wtm_at "zes"
    refine ⟨by simp, ?_⟩
    wtm_at "zes"
    refine cl_append (by wtm_at "zmem") (by rw [List.length_map]; simp [entsOf]; omega) (by wtm_at "zputa") ?_
    refine ex_nil ⟨_, List.Sublist.refl _, _, _, _, rfl, ?_⟩
    rw [List.map_append]
    have e1 : (x : Int) / 8 % 4 = ((x / 8 % 4 : Nat) : Int) := by omega
    have e2 : decide ((x : Int) % 2 = 1) = decide (x % 2 = 1) := by rw [decide_eq_decide]; omega
    have e3 : (x : Int) / 32 % 10 ^ 9 = ((x / 32 % 1000000000 : Nat) : Int) := by
      rw [show (10 : Int) ^ 9 = 1000000000 from by decide]; omega
    rw [e1, e2, e3]
    rfl
  · rintro fr' σ' ⟨o1, o2, o3, rfl, rfl⟩
    rw [List.length_map, List.length_range]
    refine ex_freeze "entries" (by wtm_at "zmem") (by wtm_at "zmem") (by wtm_at "zput") .head ?_
    refine ex_ret ?_
    wtm_at "zes"
    exact ⟨_, σ, .inl rfl, List.Sublist.refl _, h⟩

open PySem PySem.W PySem.Spec PySem.Calls PyProof.Rows

theorem touchD4 : Touch PySem.Challenge.rw_sn0093_02 hd0.heap_1 := by
  k_fill
  trivial

structure IsVarW (bs : List Int) : Prop where
  pos : 0 < bs.length
  le : bs.length ≤ 8
  more : ∀ i, i + 1 < bs.length → 64 ≤ bs.getD i 0 ∧ bs.getD i 0 < 128
  last : 0 ≤ bs.getD (bs.length - 1) 0 ∧ bs.getD (bs.length - 1) 0 < 256 ∧ bs.getD (bs.length - 1) 0 / 64 % 2 = 0
theorem and64W (b : Int) (h0 : 0 ≤ b) (h1 : b < 256) : Builtin.bitAnd b 64 = if b / 64 % 2 = 0 then 0 else 64 := by
  obtain ⟨k, rfl⟩ := Int.eq_ofNat_of_zero_le h0
  have hk : k < 256 := by omega
  have key : ∀ j : Fin 256, Builtin.bitAnd ((j.val : Nat) : Int) 64 = if ((j.val : Nat) : Int) / 64 % 2 = 0 then 0 else 64 := by decide +kernel
  exact key ⟨k, hk⟩
theorem parse_varintW {mg : Str → Option Value} {mb : MB} {E : Env} {n : Nat} {c : Act} {fr : Frame} {σ : Store} {Φ : V → Store → Prop} (F : Fact (hd0.heap_1 mb.w.params) mg mb E (n + 1) c) {f : O → Store} {I : Addr} {octs bs : List Int} {k : Nat} (hf : At f I) (hb : IsVarW bs) (hk : ∀ i, i < bs.length → octs[k + i]? = some (bs.getD i 0)) (hσ : σ = f (.iter (ivs octs) k))
    (h : Φ (.int (vval bs)) (f (.iter (ivs octs) (k + bs.length)))) : Cl c (.ref 45) [.raw (.ref I)] fr σ Φ := by
  subst hσ
  apply cl_fn ["iterator"] ["b", "val"] [] [("iterator", some (.raw (.ref I))), ("b", none), ("val", none)] (fun _ => f (.iter (ivs octs) k)) F
  case look => k_is
  case dat => rfl
  case bd => rfl
  case q => exact rfl
  case sc => exact rfl
  case cd => exact rfl
  case gl => rfl
  case bl => rfl
  case cl => rfl
  case co => rfl
  case gen => rfl
  case kind => rfl
  case code => k_is
  case hbind => intro As h; obtain ⟨a, rfl⟩ := List.length_eq_one_iff.mp h; rfl
  case hlen => rfl
  case hnd => decide +kernel
  case hloc => decide +kernel
  case hcs => exact fun L => trivial
  case hfr => rfl
  case hσ => exact fun L => rfl
  intro L c' F'

  have hp := hb.pos
  have get : ∀ i, i < bs.length → (ivs octs)[k + i]? = some (V.int (bs.getD i 0)) := fun i hi => by unfold ivs; rw [List.getElem?_map, hk i hi]; rfl
  have tk1 : ∀ j, j < bs.length → vval (bs.take (j + 1)) = vval (bs.take j) * 64 + bs.getD j 0 % 64 := fun j hj => by
    rw [List.take_add_one, List.getElem?_eq_getElem hj, show (some bs[j]).toList = [bs[j]] from rfl, vval_snoc, List.getD_eq_getElem?_getD, List.getElem?_eq_getElem hj]; rfl
  have rng : ∀ j, j < bs.length → 0 ≤ bs.getD j 0 ∧ bs.getD j 0 < 256 ∧ (bs.getD j 0 / 64 % 2 = 0 ↔ j + 1 = bs.length) := fun j hj => by
    by_cases e : j + 1 = bs.length
    · have := hb.last
      rw [show bs.length - 1 = j by omega] at this
      omega
    · have := hb.more j (by omega)
      omega
  refine ex_asg F' ?_
  refine ev_call ?_
  wtm_at "zes"
  refine ⟨_, rfl, cw_builtin, ?_⟩
  wtm_at "zes"
  refine cl_next (hf _).1 (get 0 hp) ((hf _).2 _) ?_
  wtm_at "zas"
  refine ex_asg F' ?_
  wtm_at "zes"
  refine bin_and ?_
  wtm_at "zas"
  refine ex_while (fun m fr' σ' => ∃ j, j < bs.length ∧ m + j = bs.length ∧ fr' = (("iterator", some (V.raw (.ref I))) :: ("b", some (V.int (bs.getD j 0))) :: ("val", some (V.int (vval (bs.take (j + 1))))) :: [] : Frame) ∧ σ' = f (.iter (ivs octs) (k + (j + 1)))) (fun _ _ => False) bs.length ⟨0, hp, rfl, ?_, rfl⟩ ?_ (fun _ _ h => h.elim)
  · rw [bitAnd_m6, tk1 0 hp]
    simp [vval]
  · rintro m fr' σ' ⟨j, hj, hm, rfl, rfl⟩
    obtain ⟨r0, r1, r2⟩ := rng j hj
    refine te_plain ?_ (by rfl)
    wtm_at "zes"
    refine bin_and ?_
    wtm_at "zes"
    rw [and64W _ r0 r1]
    refine ⟨fun hc => ?_, fun hc => ?_⟩
    · have hlt : j + 1 < bs.length := by
        have : ¬ bs.getD j 0 / 64 % 2 = 0 := fun q => by rw [if_pos q] at hc; simp at hc
        have : ¬ j + 1 = bs.length := fun q => this (r2.mpr q)
        omega
      obtain ⟨q0, q1, q2⟩ := rng (j + 1) hlt
      have hbits : Builtin.Int.intBits (vval (bs.take (j + 1))) ≤ 64 := vv_bits _ (by rw [List.length_take]; have := hb.le; omega)
      refine ex_aug F' (by wtm_at "zmem") ?_
      wtm_at "zes"
      refine ibin_shl (n := 6) (by have : (64 : Nat) + 6 ≤ 2 ^ 27 := by decide
                                   omega) ?_
      refine ⟨_, by wtm_at "zput", ?_⟩
      refine ex_asg F' ?_
      refine ev_call ?_
      wtm_at "zes"
      refine ⟨_, rfl, cw_builtin, ?_⟩
      wtm_at "zes"
      refine cl_next (hf _).1 (get (j + 1) hlt) ((hf _).2 _) ?_
      wtm_at "zas"
      refine ex_aug F' (by wtm_at "zmem") ?_
      wtm_at "zes"
      refine bin_and ?_
      refine ibin_or ?_
      refine ⟨_, by wtm_at "zput", ?_⟩
      refine ex_nil ⟨_, List.Sublist.refl _, bs.length - (j + 1), by omega, j + 1, hlt, by omega, ?_, rfl⟩
      rw [bitAnd_m6, or_low _ _ (vval_pos _) (by omega) (by omega), tk1 (j + 1) hlt]
    · have hlast : j + 1 = bs.length := by
        have : bs.getD j 0 / 64 % 2 = 0 := by
          by_cases q : bs.getD j 0 / 64 % 2 = 0
          · exact q
          · rw [if_neg q] at hc; simp at hc
        exact r2.mp this
      refine ex_ret ?_
      wtm_at "zes"
      rw [hlast]
      refine ⟨_, _, .inl rfl, List.Sublist.refl _, ?_⟩
      rw [List.take_length]
      exact h

open PySem PySem.W PySem.Spec PySem.Calls PyProof.Rows

theorem touchD5 : Touch PySem.Challenge.rw_sn0093_02 hd0.heap_1 := by
  k_fill
  trivial

theorem ibin_div {c : Act} {fr : Frame} {σ : Store} {Φ : V → Store → Prop} {i j : Int} (hj : 0 < j) (hs : j < 1000000000000) (h : Φ (.int (i / j)) σ) : IBin c .FloorDiv (.int i) (.int j) fr σ Φ := IBin.mk fun s A B hs' ra rb => by
  obtain ⟨_, rfl⟩ := intE ra
  obtain ⟨_, rfl⟩ := intE rb
  have e := Int.fdiv_eq_ediv_of_nonneg i (Int.le_of_lt hj)
  have h' : Φ (.int (Int.fdiv i j)) σ := by rw [e]; exact h
  have hn : j ≠ 0 := by lia
  have hl : j.natAbs.log2 < 9000 := by
    have h1 : j.natAbs < 2 ^ 40 := by lia
    by_cases h0 : j.natAbs = 0
    · lia
    · have := (Nat.log2_lt h0).mpr h1; lia
  with_reducible exact PyProof.Rows.ifloordiv_int hn (Post.here _ hs' h' (.int _ _)) (.inl (PyProof.noPylong_of_log2 hl))
/-- the higher octets of a symbol, the lowest first -/
def hi (s : Nat) : List Int := if 63 < s then ((64 + s / 64 % 64 : Nat) : Int) :: hi (s / 64) else []
termination_by s
decreasing_by omega
theorem hi_big {s : Nat} (h : 63 < s) : hi s = ((64 + s / 64 % 64 : Nat) : Int) :: hi (s / 64) := by rw [hi, if_pos h]
theorem hi_small {s : Nat} (h : ¬63 < s) : hi s = [] := by rw [hi, if_neg h]
def lo (s : Nat) : Int := if 63 < s then ((s % 64 : Nat) : Int) else ((128 + s : Nat) : Int)
def encR (s : Nat) : List Int := lo s :: hi s
/-- the octets of a symbol -/
def encN (s : Nat) : List Int := if s = 0 then [0] else (encR s).reverse
theorem hi_len : ∀ (k s : Nat), s < 64 ^ (k + 1) → (hi s).length ≤ k
  | 0, s, h => by rw [hi_small (by omega)]; exact Nat.le_refl 0
  | k + 1, s, h => by
    by_cases q : 63 < s
    · rw [hi_big q, List.length_cons]
      have := hi_len k (s / 64) (by rw [Nat.pow_succ] at h; omega)
      omega
    · rw [hi_small q]; exact Nat.zero_le _
theorem hi_mem : ∀ (k s : Nat), s < 64 ^ (k + 1) → ∀ b ∈ hi s, 64 ≤ b ∧ b < 128
  | 0, s, h => by rw [hi_small (by omega)]; intro b hb; cases hb
  | k + 1, s, h => by
    by_cases q : 63 < s
    · rw [hi_big q]
      intro b hb
      rcases List.mem_cons.mp hb with rfl | hb
      · omega
      · exact hi_mem k (s / 64) (by rw [Nat.pow_succ] at h; omega) b hb
    · rw [hi_small q]; intro b hb; cases hb
theorem hi_val : ∀ (k s : Nat), s < 64 ^ (k + 1) → vval (hi s).reverse = ((s / 64 : Nat) : Int)
  | 0, s, h => by rw [hi_small (by omega), show s / 64 = 0 by omega]; rfl
  | k + 1, s, h => by
    by_cases q : 63 < s
    · rw [hi_big q, List.reverse_cons, vval_snoc, hi_val k (s / 64) (by rw [Nat.pow_succ] at h; omega)]
      omega
    · rw [hi_small q, show s / 64 = 0 by omega]; rfl
theorem lo_ok (s : Nat) (h0 : 0 < s) : 0 ≤ lo s ∧ lo s < 256 ∧ lo s / 64 % 2 = 0 ∧ lo s % 64 = ((s % 64 : Nat) : Int) := by
  unfold lo
  split <;> omega
theorem enc_ok (s : Nat) (h : s < 64 ^ 7) : IsVarW (encN s) ∧ vval (encN s) = (s : Int) := by
  by_cases q : s = 0
  · subst q
    have e0 : (encN 0).length = 1 := rfl
    refine ⟨⟨by decide, by decide, fun i hx => ?_, by decide⟩, rfl⟩
    rw [e0] at hx; omega
  · have e : encN s = (hi s).reverse ++ [lo s] := by unfold encN encR; rw [if_neg q, List.reverse_cons]
    rw [e]
    have l0 := lo_ok s (by omega)
    have hl := hi_len 6 s h
    have hm := hi_mem 6 s h
    refine ⟨⟨by simp, by simp; omega, fun i hx => ?_, ?_⟩, ?_⟩
    · have hx' : i < (hi s).reverse.length := by simpa using hx
      rw [List.getD_eq_getElem?_getD, List.getElem?_append_left hx', List.getElem?_eq_getElem hx']
      exact hm _ (by rw [← List.mem_reverse]; exact List.getElem_mem hx')
    · have e2 : ((hi s).reverse ++ [lo s]).length - 1 = (hi s).reverse.length := by simp
      rw [e2, List.getD_eq_getElem?_getD, List.getElem?_append_right (Nat.le_refl _), Nat.sub_self]
      exact ⟨l0.1, l0.2.1, l0.2.2.1⟩
    · rw [vval_snoc, hi_val 6 s h, l0.2.2.2]; omega
def symE (e : Ent) : List Nat := [if e.below then 15 else 14, 256 + 16 * e.weight + 4 * e.sizes + e.place]
def symsE (es : List Ent) : List Nat := es.flatMap symE
theorem symsE_len (es : List Ent) : (symsE es).length = 2 * es.length := by
  unfold symsE
  induction es with
  | nil => rfl
  | cons a r ih => rw [List.flatMap_cons, List.length_append, ih, List.length_cons]; simp [symE]; omega
def octsOf (es : List Ent) : List Int := (symsE es ++ [0]).flatMap encN
theorem rev_octs : ∀ l : List Nat, (∀ s ∈ l, 0 < s) → ((0 : Int) :: l.reverse.flatMap encR).reverse = (l ++ [0]).flatMap encN
  | [], _ => rfl
  | a :: r, h => by
    have ih := rev_octs r fun s hs => h s (List.mem_cons_of_mem _ hs)
    have ha := h a (List.mem_cons_self ..)
    have e : encN a = (encR a).reverse := by unfold encN; rw [if_neg (by omega)]
    have e1 : (a :: r).reverse.flatMap encR = r.reverse.flatMap encR ++ encR a := by simp
    rw [e1, ← List.cons_append, List.reverse_append, ih, List.cons_append, List.flatMap_cons, e]
theorem rev_len (l : List Nat) (h : ∀ s ∈ l, s < 64 ^ 7) : (l.flatMap encR).length ≤ 7 * l.length := by
  induction l with
  | nil => exact Nat.le_refl 0
  | cons a r ih =>
    have h1 := ih fun s hs => h s (List.mem_cons_of_mem _ hs)
    have h2 := hi_len 6 a (h a (List.mem_cons_self ..))
    have h3 : (encR a).length = (hi a).length + 1 := rfl
    rw [List.flatMap_cons, List.length_append, List.length_cons]
    omega
abbrev nvs (l : List Nat) : List V := ivs (l.map fun (x : Nat) => (x : Int))
theorem nvs_len (l : List Nat) : (nvs l).length = l.length := by unfold nvs; rw [iv_len, List.length_map]
theorem nvs_app (a b : List Nat) : nvs a ++ nvs b = nvs (a ++ b) := by unfold nvs; rw [ivs_app, List.map_append]
theorem nvs_get {l : List Nat} {k : Nat} {x : V} (h : (nvs l)[k]? = some x) : ∃ i : Nat, x = .int (i : Int) ∧ l[k]? = some i := by
  unfold nvs ivs at h
  rw [List.getElem?_map, List.getElem?_map] at h
  cases e : l[k]? with
  | none => rw [e] at h; cases h
  | some i => rw [e] at h; cases h; exact ⟨i, rfl, rfl⟩
theorem take_flat {α β : Type} (f : α → List β) (l : List α) (k : Nat) (x : α) (h : l[k]? = some x) : (l.take (k + 1)).flatMap f = (l.take k).flatMap f ++ f x := by
  rw [List.take_add_one, h]; simp

theorem law_octets {mg : Str → Option Value} {mb : MB} {E : Env} {n : Nat} {c : Act} {fr : Frame} {σ : Store} {Φ : V → Store → Prop} (F : Fact (hd0.heap_1 mb.w.params) mg mb E (n + 1) c) {es : List Ent} (hl : es.length < 100) (hp : ∀ e ∈ es, e.place < 4 ∧ e.sizes < 4 ∧ e.weight < 1000000000) (h : Φ (.lst (ivs (octsOf es))) σ) : Cl c (.ref 297) [.lst (es.map entV)] fr σ Φ := by
  apply cl_fn ["entries"] ["symbols", "place", "sizes", "below", "weight", "octets", "s"] [] [("entries", some (.lst (es.map entV))), ("symbols", none), ("place", none), ("sizes", none), ("below", none), ("weight", none), ("octets", none), ("s", none)] (fun L => σ) F
  case look => k_is
  case dat => rfl
  case bd => rfl
  case q => exact rfl
  case sc => exact rfl
  case cd => exact rfl
  case gl => rfl
  case bl => rfl
  case cl => rfl
  case co => rfl
  case gen => rfl
  case kind => rfl
  case code => k_is
  case hbind => intro As h; obtain ⟨a, rfl⟩ := List.length_eq_one_iff.mp h; rfl
  case hlen => rfl
  case hnd => decide +kernel
  case hloc => decide +kernel
  case hcs => exact fun L => trivial
  case hfr => rfl
  case hσ => exact fun L => rfl
  intro L c' F'

  refine ex_asg F' ?_
  refine ev_lst ?_
  wtm_at "zes"
  refine ⟨by decide, fun N => ?_⟩
  wtm_at "zas"
  refine ex_for F' (v := .lst (es.map entV)) (xs := es.map entV) (fun k fr' σ' => ∃ o1 o2 o3 o4, fr' = (("entries", some (V.lst (es.map entV))) :: ("symbols", some (V.raw (.ref N))) :: ("place", o1) :: ("sizes", o2) :: ("below", o3) :: ("weight", o4) :: ("octets", none) :: ("s", none) :: [] : Frame) ∧ σ' = (N, O.list (nvs (symsE (es.take k)))) :: σ) (fun _ _ => False) ?_ (.view .lst) ⟨_, _, _, _, rfl, rfl⟩ (fun _ _ _ _ => .view .lst) ?_ ?_ (fun _ _ h => h.elim)
  · wtm_at "zes"
    exact ⟨rfl, rfl⟩
  · rintro c₂ F₂ k x fr' σ' hx ⟨o1, o2, o3, o4, rfl, rfl⟩
    rw [List.getElem?_map] at hx
    obtain ⟨e, he, rfl⟩ := Option.map_eq_some_iff.mp hx
    have hk : k < es.length := (List.getElem?_eq_some_iff.mp he).1
    have hE : symsE (es.take (k + 1)) = symsE (es.take k) ++ symE e := take_flat symE es k e he
    rw [hE]
    have hz : (symsE (es.take k)).length < 1000 := by rw [symsE_len, List.length_take]; omega
    generalize symsE (es.take k) = pre at hz ⊢
    unfold entV
    wtm_at "zas"
    refine ex_aug F₂ (by wtm_at "zmem") ?_
    refine ev_lstF ?_
    refine evl_cons ?_
    refine ev_ifj (b := e.below) (w := .int ((if e.below then 15 else 14 : Nat) : Int)) (u := .int 15) (v := .int 14) ?_ ?_ ?_ ?_ ?_
    · refine te_plain ?_ (by rfl)
      wtm_at "zes"
      exact ⟨rfl, rfl⟩
    · wtm_at "zes"
      exact ⟨rfl, rfl⟩
    · wtm_at "zes"
      exact ⟨rfl, rfl⟩
    · cases e.below <;> rfl
    wtm_at "zes"
    refine ⟨by simp, ?_⟩
    refine ibin_ladd (by wtm_at "zmem") .lst (by rw [nvs_len]; simp; omega) (by wtm_at "zputa") ?_
    refine ⟨_, by wtm_at "zput", ?_⟩
    refine ex_nil ⟨_, List.Sublist.refl _, _, _, _, _, rfl, ?_⟩
    rw [← nvs_app]
    have e1 : 256 + 16 * (e.weight : Int) + 4 * (e.sizes : Int) + (e.place : Int) = ((256 + 16 * e.weight + 4 * e.sizes + e.place : Nat) : Int) := by omega
    rw [e1]
    rfl
  · rintro fr' σ' ⟨o1, o2, o3, o4, rfl, rfl⟩
    rw [List.length_map, List.take_length]
    have hs7 : ∀ s ∈ symsE es, 0 < s ∧ s < 64 ^ 7 := by
      intro s hs
      obtain ⟨e, he, hse⟩ := List.mem_flatMap.mp hs
      have := hp e he
      unfold symE at hse
      rcases List.mem_cons.mp hse with rfl | hse
      · cases e.below <;> decide
      · rw [List.mem_singleton.mp hse]
        have : (64 : Nat) ^ 7 = 4398046511104 := by decide
        omega
    have hsl := symsE_len es
    rw [octsOf, ← rev_octs _ fun s hs => (hs7 s hs).1] at h
    generalize symsE es = syms at hs7 hsl h ⊢
    refine ex_asg F' ?_
    refine ev_lst ?_
    wtm_at "zes"
    refine ⟨by decide, fun D => ?_⟩
    wtm_at "zas"
    refine ex_for F' (v := .lst (nvs syms.reverse)) (xs := nvs syms.reverse) (fun k fr' σ' => ∃ o6, fr' = (("entries", some (V.lst (es.map entV))) :: ("symbols", some (V.raw (.ref N))) :: ("place", o1) :: ("sizes", o2) :: ("below", o3) :: ("weight", o4) :: ("octets", some (V.raw (.ref D))) :: ("s", o6) :: [] : Frame) ∧ σ' = (D, O.list (ivs (0 :: (syms.reverse.take k).flatMap encR))) :: (N, O.list (nvs syms)) :: σ) (fun _ _ => False) ?_ (.view .lst) ⟨_, rfl, rfl⟩ (fun _ _ _ _ => .view .lst) ?_ ?_ (fun _ _ h => h.elim)
    · refine ev_slice ?_
      wtm_at "zes"
      refine evp_some ?_
      wtm_at "zes"
      refine ⟨_, rfl, ?_⟩
      refine slc_rev (.own (by wtm_at "zmem")) (by rw [nvs_len]; omega) ?_
      exact ⟨by unfold nvs ivs; rw [← List.map_reverse, ← List.map_reverse], rfl⟩
    · rintro c₂ F₂ k x fr' σ' hx ⟨o6, rfl, rfl⟩
      obtain ⟨s, rfl, hsk⟩ := nvs_get hx
      have hs := hs7 s (List.mem_reverse.mp (List.mem_of_getElem? hsk))
      rw [take_flat encR syms.reverse k s hsk]
      have hz : ((syms.reverse.take k).flatMap encR).length ≤ 7 * 200 := by
        have h1 := rev_len (syms.reverse.take k) fun s hs => (hs7 s (List.mem_reverse.mp (List.mem_of_mem_take hs))).2
        have h2 : (syms.reverse.take k).length ≤ 200 := by rw [List.length_take, List.length_reverse]; omega
        omega
      generalize (syms.reverse.take k).flatMap encR = pre at hz ⊢
      wtm_at "zas"
      refine ex_exp F₂ ?_
      refine ev_meth ?_
      wtm_at "zes"
      refine ⟨_, _, getm_append (by wtm_at "zmem"), cw_builtin, ?_⟩
      refine evl_cons ?_
      refine ev_ifj (b := decide (63 < s)) (w := .int (lo s)) (u := .int ((s % 64 : Nat) : Int)) (v := .int ((128 + s : Nat) : Int)) ?_ ?_ ?_ ?_ ?_
      · refine te_cmp ?_
        wtm_at "zes"
        exact ⟨by rw [decide_eq_decide]; omega, rfl⟩
      · wtm_at "zes"
        exact ⟨by congr 1, rfl⟩
      · wtm_at "zes"
        exact ⟨by congr 1, rfl⟩
      · unfold lo
        by_cases q : 63 < s
        · rw [decide_eq_true q, if_pos q]; rfl
        · rw [decide_eq_false q, if_neg q]; rfl
      wtm_at "zes"
      refine cl_append (by wtm_at "zmem") (by rw [iv_len, List.length_cons]; omega) (by wtm_at "zputa") ?_
      have hw : ∃ t, (0 :: pre ++ [lo s]) ++ hi s = t := ⟨_, rfl⟩
      obtain ⟨t, ht⟩ := hw
      have htl : t.length < 10000 := by
        rw [← ht]
        have := hi_len 6 s hs.2
        simp; omega
      have hfin : t = 0 :: (pre ++ encR s) := by rw [← ht]; unfold encR; simp
      rw [← hfin]
      refine ex_while (fun m fr' σ' => ∃ q, fr' = (("entries", some (V.lst (es.map entV))) :: ("symbols", some (V.raw (.ref N))) :: ("place", o1) :: ("sizes", o2) :: ("below", o3) :: ("weight", o4) :: ("octets", some (V.raw (.ref D))) :: ("s", some (V.int (m : Int))) :: [] : Frame) ∧ σ' = (D, O.list (ivs q)) :: (N, O.list (nvs syms)) :: σ ∧ q ++ hi m = t) (fun _ _ => False) s ⟨_, rfl, ?_, ht⟩ ?_ (fun _ _ h => h.elim)
      · rw [show [V.int (lo s)] = ivs [lo s] from rfl, ivs_app]
      · rintro m fr' σ' ⟨q, rfl, rfl, hq⟩
        refine te_cmp ?_
        wtm_at "zes"
        refine ⟨fun hc => ?_, fun hc => ?_⟩
        · have hc : 63 < m := by have := of_decide_eq_true hc; omega
          refine ex_aug F₂ (by wtm_at "zmem") ?_
          wtm_at "zes"
          refine ibin_div (by decide) (by decide) ?_
          refine ⟨_, by wtm_at "zput", ?_⟩
          refine ex_exp F₂ ?_
          refine ev_meth ?_
          wtm_at "zes"
          refine ⟨_, _, getm_append (by wtm_at "zmem"), cw_builtin, ?_⟩
          wtm_at "zes"
          have hql : q.length < 10000 := by rw [← hq, List.length_append] at htl; omega
          refine cl_append (by wtm_at "zmem") (by rw [iv_len]; omega) (by wtm_at "zputa") ?_
          rw [hi_big hc] at hq
          refine ex_nil ⟨_, List.Sublist.refl _, m / 64, by omega, q ++ [((64 + m / 64 % 64 : Nat) : Int)], ?_, ?_, by rw [List.append_assoc]; exact hq⟩
          · have e1 : (m : Int) / 64 = ((m / 64 : Nat) : Int) := by omega
            rw [e1]
          · rw [← ivs_app]
            have e1 : 64 + (m : Int) / 64 % 64 = ((64 + m / 64 % 64 : Nat) : Int) := by omega
            rw [e1]; rfl
        · have hc : ¬63 < m := by have := of_decide_eq_false hc; omega
          rw [hi_small hc, List.append_nil] at hq
          subst hq
          exact ex_nil ⟨_, List.Sublist.refl _, _, rfl, rfl⟩
    · rintro fr' σ' ⟨o6, rfl, rfl⟩
      rw [nvs_len, List.take_length]
      have hz : (syms.reverse.flatMap encR).length ≤ 7 * 200 := by
        have h1 := rev_len syms.reverse fun s hs => (hs7 s (List.mem_reverse.mp hs)).2
        rw [List.length_reverse] at h1
        omega
      refine ex_ret ?_
      refine ev_slice ?_
      wtm_at "zes"
      refine evp_some ?_
      wtm_at "zes"
      refine ⟨_, rfl, ?_⟩
      refine slc_rev (.own (by wtm_at "zmem")) (by rw [iv_len, List.length_cons]; omega) ?_
      refine ⟨_, σ, .inl rfl, ((List.Sublist.refl σ).cons _).cons _, ?_⟩
      unfold ivs; rw [← List.map_reverse]; exact h

open PySem PySem.W PySem.Spec PySem.Calls PyProof.Rows

theorem touchD6 : Touch PySem.Challenge.rw_sn0093_02 hd0.heap_1 := by
  k_fill
  trivial

/-- the figures of a number -/
def dig (w : Nat) : List Nat := (Nat.toDigits 10 w).map Char.toNat
theorem mkS_of : ∀ (x : Str) (l : List Nat), x.cps.toList = l → x = mkS l := by
  rintro ⟨a⟩ l rfl; simp
theorem dig_mk (w : Nat) : Str.ofString (toString ((w : Nat) : Int)) = mkS (dig w) := mkS_of _ _ (KIN.signs_num w)
theorem dig_all (w : Nat) : NumText.AllDigits (dig w) := by
  intro c hc
  obtain ⟨ch, hch, e⟩ := List.mem_map.mp hc
  rw [← e]
  exact digit_range (Nat.isDigit_of_mem_toDigits (by decide) (by decide) hch)
theorem dig_len {w : Nat} (h : w < 10 ^ 10) : (dig w).length ≤ 10 := by
  have e := KT.len_num (n := (w : Int)) (by omega) (by omega)
  rw [dig_mk, mkS_len] at e; exact e
theorem dig_ne (w : Nat) : dig w ≠ [] := fun e => by
  have h := toDigits_len_ge 10 w
  rw [List.map_eq_nil_iff.mp e] at h
  exact absurd h (by decide)
def wtxt (e : Ent) : List Nat := (if e.below then [45] else []) ++ dig e.weight
def wval (e : Ent) : Int := if e.below then -(e.weight : Int) else (e.weight : Int)
theorem wtxt_len (e : Ent) (h : e.weight < 10 ^ 10) : (wtxt e).length ≤ 11 := by
  have := dig_len h
  unfold wtxt
  cases e.below <;> simp <;> omega
theorem wtxt_int (e : Ent) (h : e.weight < 10 ^ 10) : PySem.intText? (mkS (wtxt e)) = some (wval e) := by
  have hl := dig_len h
  unfold wtxt wval
  cases e.below with
  | false =>
    have := intText_digits (x := mkS (dig e.weight)) (by simpa using dig_all e.weight) (by simpa using dig_ne e.weight) (by rw [mkS_len]; omega)
    simp only [dig, KIN.val_back] at this ⊢
    simpa using this
  | true =>
    have := intText_neg (x := mkS (45 :: dig e.weight)) (cs := dig e.weight) (by simp) (dig_all e.weight) (dig_ne e.weight) (by rw [mkS_len, List.length_cons]; omega)
    simp only [dig, KIN.val_back] at this ⊢
    simpa using this
theorem okS_app {a b : List Nat} (ha : okS a) (hb : okS b) : okS (a ++ b) := fun k hk => (List.mem_append.mp hk).elim (ha k) (hb k)
theorem dig_ok (w : Nat) : okS (dig w) := fun k hk => by have := dig_all w k hk; omega
theorem wtxt_ok (e : Ent) : okS (wtxt e) := by
  unfold wtxt
  cases e.below with
  | false => exact okS_app (fun k hk => by cases hk) (dig_ok _)
  | true => exact okS_app (fun k hk => by rw [List.mem_singleton.mp hk]; decide) (dig_ok _)
def low (l : List Nat) : List Nat := l.map fun k => if 65 ≤ k ∧ k ≤ 90 then k + 32 else k
theorem lname_facts {p s : Nat} (hp : p < 4) (hs : s < 4) : Txt.lower (mkS (lname p s)) = mkS (low (lname p s)) ∧ low (lname p s) = lname p 0 ∧ okS (lname p s) := by
  have : ∀ p s : Fin 4, ((Txt.lower (mkS (lname p.val s.val)) == mkS (low (lname p.val s.val))) && (low (lname p.val s.val) == lname p.val 0) && (lname p.val s.val).all fun k => decide (32 ≤ k ∧ k < 127)) = true := by decide +kernel
  have := this ⟨p, hp⟩ ⟨s, hs⟩
  simp only [Bool.and_eq_true, beq_iff_eq, List.all_eq_true, decide_eq_true_eq] at this
  exact ⟨this.1.1, this.1.2, this.2⟩
theorem join1 (x y : Str) : Txt.join x [y] = y := by
  unfold Txt.join Builtin.Str.glued; rfl
theorem add_header {mg : Str → Option Value} {mb : MB} {E : Env} {n : Nat} {c : Act} {fr : Frame} {σ : Store} {Φ : V → Store → Prop} (F : Fact (hd0.heap_1 mb.w.params) mg mb E (n + 2) c) {hl : Addr} {ps : List (List Nat × List Nat)} {nm vl : List Nat} {f : O → Store} (hf : At f hl) (hσ : σ = f (O.list (ps.map pv))) (hz : nm.length < 1000) (hz4 : vl.length < 1000) (hz5 : ps.length < 1000) (ho2 : okS nm) (ho3 : okS vl)
    (h : Φ .none (f (O.list ((ps ++ [(nm, vl)]).map pv)))) : Cl c (.ref 269) [.obj 272 (hdr hl), .str (mkS nm), .str (mkS vl)] fr σ Φ := by
  subst hσ
  apply cl_fnA ["self", "_name", "_value", "_params"] ["parts", "k", "v"] (fun d => [("self", some (V.obj 272 (hdr hl))), ("_name", some (V.str (mkS nm))), ("_value", some (V.str (mkS vl))), ("_params", some (V.raw (.ref d))), ("parts", none), ("k", none), ("v", none)]) F
  case look => k_is
  case dat => rfl
  case bd => rfl
  case q => exact rfl
  case sc => exact rfl
  case cd => exact rfl
  case gl => rfl
  case bl => rfl
  case cl => rfl
  case co => rfl
  case gen => rfl
  case kind => rfl
  case code => k_is
  case hbind =>
    intro S As h
    obtain ⟨a, b, c, rfl⟩ := threeOf h
    exact ⟨_, rfl, fun d => rfl⟩
  case hlen => rfl
  case hnd => decide +kernel
  case hloc => decide +kernel
  case hfr => exact fun d => rfl
  intro d L c' hd F'
  refine ex_asg F' ?_
  refine ev_lst ?_
  wtm_at "zes"
  refine ⟨by decide, fun R => ?_⟩
  wtm_at "zas"
  refine ex_if ?_
  refine te_cmp ?_
  wtm_at "zes"
  refine cmp_isnot_none (.inr ⟨.inl ⟨_, rfl⟩, rfl⟩) ?_
  wtm_at "zes"
  refine ifb_t ?_
  refine ex_asg F' ?_
  refine ev_methK F' ?_
  wtm_at "zes"
  refine ⟨_, _, getm_user F' .obj (f := 173) ⟨by k_is, by k_is, by k_is, by k_is⟩ rfl, by k_is, ?_⟩
  wtm_at "zes"
  refine evks_cons ?_
  wtm_at "zes"
  refine evks_nil ?_
  refine conv F' hz4 ho3 ?_
  wtm_at "zas"
  refine ex_exp F' ?_
  refine ev_meth ?_
  wtm_at "zes"
  refine ⟨_, _, getm_append (by wtm_at "zmem"), cw_builtin, ?_⟩
  wtm_at "zes"
  refine cl_append (by wtm_at "zmem") (by decide) (by wtm_at "zputa") ?_
  rw [List.nil_append]
  refine ex_nil ?_
  refine then_next ?_
  refine ex_for0 F' (ev_items F' (by wtm_at "zmem") hd (by wtm_at "zmem") fun a => ⟨a, rfl, rfl⟩) (by wtm_at "zmem") ?_
  refine ex_exp F' ?_
  refine ev_meth ?_
  apply ev_attrA F'
  case ho =>
    wtm_at "zes"
    exact ⟨rfl, rfl⟩
  case w => exact .obj
  case k => exact attrOk_none (by k_is) (by k_is) (by k_is)
  case hu => rfl
  case hv => trivial
  have hf2 : At (fun o => (R, O.list [V.str (mkS vl)]) :: (d, O.raw (dictOf [] 0)) :: f o) hl := At.tail (At.tail hf)
  refine ⟨_, _, getm_append (hf2 _).1, cw_builtin, ?_⟩
  refine evl_cons ?_
  refine ev_tup ?_
  refine evl_cons ?_
  refine ev_methK F' ?_
  wtm_at "zes"
  refine ⟨_, _, getm_user F' .obj (f := 173) ⟨by k_is, by k_is, by k_is, by k_is⟩ rfl, by k_is, ?_⟩
  wtm_at "zes"
  refine evks_cons ?_
  wtm_at "zes"
  refine evks_nil ?_
  refine conv F' hz ho2 ?_
  refine evl_cons ?_
  refine ev_meth ?_
  wtm_at "zes"
  refine ⟨_, _, getm_join, cw_builtin, ?_⟩
  wtm_at "zes"
  have hjl : ([mkS vl].map Str.length).sum + [mkS vl].length * (Str.ofString "; ").length ≤ 1000000 := by
    have e : (Str.ofString "; ").length = 2 := by decide +kernel
    show (mkS vl).length + 0 + 1 * (Str.ofString "; ").length ≤ _
    rw [e, mkS_len]; omega
  refine cl_join (ys := [mkS vl]) (.own (List.mem_cons_self ..)) hjl ?_
  rw [join1]
  wtm_at "zes"
  refine ⟨by simp, ?_⟩
  wtm_at "zes"
  refine cl_append (hf2 _).1 (by rw [List.length_map]; omega) ((hf2 _).2 _) ?_
  refine ex_nil ⟨.none, _, .inr ⟨rfl, rfl⟩, (List.sublist_cons_self _ _).trans (List.sublist_cons_self _ _), ?_⟩
  rw [List.map_append] at h
  exact h

open PySem PySem.W PySem.Spec PySem.Calls PyProof.Rows

theorem touchD7 : Touch PySem.Challenge.rw_sn0093_02 hd0.heap_1 := by
  k_fill
  trivial

/-- the texts laid under a name -/
def under (nm : List Nat) (ps : List (List Nat × List Nat)) : List (List Nat) := ps.filterMap fun p => if low p.1 = low nm then some p.2 else none
theorem under_V (nm : List Nat) (ps : List (List Nat × List Nat)) : (ps.filterMap fun p => if low p.1 = low nm then some (V.str (mkS p.2)) else none) = (under nm ps).map fun t => V.str (mkS t) := by
  unfold under
  induction ps with
  | nil => rfl
  | cons a r ih =>
    rw [List.filterMap_cons, List.filterMap_cons]
    by_cases q : low a.1 = low nm
    · rw [if_pos q, if_pos q]; simp [ih]
    · rw [if_neg q, if_neg q]; exact ih
theorem get_all {mg : Str → Option Value} {mb : MB} {E : Env} {n : Nat} {c : Act} {fr : Frame} {σ : Store} {Φ : V → Store → Prop} (F : Fact (hd0.heap_1 mb.w.params) mg mb E (n + 2) c) {hl : Addr} {ps : List (List Nat × List Nat)} {nm : List Nat} (hm : (hl, O.list (ps.map pv)) ∈ σ) (hlow : ∀ p ∈ ps, Txt.lower (mkS p.1) = mkS (low p.1)) (hn : Txt.lower (mkS nm) = mkS (low nm)) (hz : nm.length < 1000) (ho : okS (low nm))
    (hz3 : ∀ p ∈ ps, p.1.length < 1000) (hz5 : ps.length < 1000) (h : Φ (.lst ((under nm ps).map fun t => V.str (mkS t))) σ) : Cl c (.ref 211) [.obj 272 (hdr hl), .str (mkS nm)] fr σ Φ := by
  have hz2 : (low nm).length < 1000 := by unfold low; rw [List.length_map]; exact hz
  apply cl_fnC ["self", "name"] [("self", some (.obj 272 (hdr hl)))] "name" (.str (mkS nm)) F
  case look => k_is
  case dat => rfl
  case bd => rfl
  case q => exact rfl
  case sc => exact rfl
  case cd => exact rfl
  case gl => rfl
  case bl => rfl
  case cl => rfl
  case co => rfl
  case gen => rfl
  case kind => rfl
  case code => k_is
  case hbind => intro As h; obtain ⟨a, b, rfl⟩ := twoOf h; rfl
  case hlen => rfl
  case hnd => decide +kernel
  case hkind =>
    intro x hx
    rcases List.mem_cons.mp hx with rfl | hx
    · exact .inl (by rfl)
    · obtain rfl := List.mem_singleton.mp hx
      exact .inr ⟨by rfl, fun m => rfl⟩
  case hfr =>
    intro x v hx
    obtain ⟨rfl, e⟩ := Prod.mk.inj (List.mem_singleton.mp hx)
    cases e
    exact List.mem_cons_self ..
  case hfk => rfl
  case hfn => exact List.nodup_cons.mpr ⟨by simp, List.nodup_nil⟩
  case hc => exact fun L => rfl
  case hz => exact List.mem_cons_of_mem _ (List.mem_cons_self ..)
  case hn => exact (by decide +kernel)
  intro L c' F'
  refine ex_asg F' ?_
  refine ev_methK F' ?_
  wtm_at "zes"
  refine ⟨_, _, getm_user F' .obj (f := 173) ⟨by k_is, by k_is, by k_is, by k_is⟩ rfl, by k_is, ?_⟩
  refine evl_cons ?_
  refine ev_meth0 ?_
  wtm_at "zes"
  refine ⟨_, _, getm_lower, cw_builtin, ?_⟩
  refine cl_lower (by rw [mkS_len]; omega) ?_
  rw [hn]
  wtm_at "zes"
  refine evks_cons ?_
  wtm_at "zes"
  refine evks_nil ?_
  refine conv F' hz2 ho ?_
  wtm_at "zas"
  refine ex_ret ?_
  refine ev_frozen (vs := (under nm ps).map fun t => V.str (mkS t)) ?_ ?_
  · refine ev_comp F' (v := .raw (.ref hl)) (l := ps) (fx := pv) (fy := fun p => if low p.1 = low nm then some (V.str (mkS p.2)) else none) (cl := [("name", L + 1)]) (fr0 := [("kv", none)]) ?_ (.view (.own (List.mem_cons_of_mem _ hm))) rfl ?_ (by omega) ?_ ?_
    · apply ev_attrA F'
      case ho =>
        wtm_at "zes"
        exact ⟨rfl, rfl⟩
      case w => exact .obj
      case k => exact attrOk_none (by k_is) (by k_is) (by k_is)
      case hu => rfl
      case hv => trivial
      case h => exact ⟨rfl, rfl⟩
    · exact ⟨rfl, fun _ => rfl, rfl, by decide +kernel, by decide +kernel, by simp, by decide +kernel, fun C p hp => by rw [List.mem_singleton.mp hp]; rfl⟩
    · intro C c₂ F₂ _ p hp
      unfold pv
      wtm_at "zas"
      refine ⟨rfl, rfl, ?_⟩
      refine te_cmp ?_
      refine ev_meth0 ?_
      wtm_at "zes"
      refine sub_tup (by decide) (by decide) rfl ?_
      refine ⟨_, _, getm_lower, cw_builtin, ?_⟩
      refine cl_lower (by rw [mkS_len]; have := hz3 p hp; omega) ?_
      rw [hlow p hp]
      wtm_at "zes"
      rw [mkS_dec]
      refine ⟨rfl, fun hc => ?_, fun hc => ?_⟩
      · refine ⟨_, if_pos (of_decide_eq_true hc), ?_⟩
        wtm_at "zes"
        refine sub_tup (by decide) (by decide) rfl ?_
        exact ⟨rfl, rfl⟩
      · exact if_neg (of_decide_eq_false hc)
    · intro D
      rw [under_V]
      exact ⟨_, rfl, rfl⟩
  · exact ⟨_, σ, .inl rfl, List.sublist_cons_self _ _, h⟩
/-- the number that a text spells -/
def tval (t : List Nat) : Int := (PySem.intText? (mkS t)).getD 0
theorem law_weight {mg : Str → Option Value} {mb : MB} {E : Env} {n : Nat} {c : Act} {fr : Frame} {σ : Store} {Φ : V → Store → Prop} (F : Fact (hd0.heap_1 mb.w.params) mg mb E (n + 3) c) {hl : Addr} {ps : List (List Nat × List Nat)} {nm : List Nat} (hm : (hl, O.list (ps.map pv)) ∈ σ) (hlow : ∀ p ∈ ps, Txt.lower (mkS p.1) = mkS (low p.1)) (hn : Txt.lower (mkS nm) = mkS (low nm)) (hz : nm.length < 1000) (ho : okS (low nm))
    (hz3 : ∀ p ∈ ps, p.1.length < 1000) (hz5 : ps.length < 1000) (hv : ∀ p ∈ ps, p.2.length ≤ 640 ∧ PySem.intText? (mkS p.2) = some (tval p.2)) (h : Φ (.int ((under nm ps).map tval).sum) σ) : Cl c (.ref 309) [.obj 272 (hdr hl), .str (mkS nm)] fr σ Φ := by
  apply cl_fn ["table", "name"] [] [] [("table", some (.obj 272 (hdr hl))), ("name", some (.str (mkS nm)))] (fun L => σ) F
  case look => k_is
  case dat => rfl
  case bd => rfl
  case q => exact rfl
  case sc => exact rfl
  case cd => exact rfl
  case gl => rfl
  case bl => rfl
  case cl => rfl
  case co => rfl
  case gen => rfl
  case kind => rfl
  case code => k_is
  case hbind => intro As h; obtain ⟨a, b, rfl⟩ := twoOf h; rfl
  case hlen => rfl
  case hnd => decide +kernel
  case hloc => decide +kernel
  case hcs => exact fun L => trivial
  case hfr => rfl
  case hσ => exact fun L => rfl
  intro L c' F'

  have hu : ∀ t ∈ under nm ps, t.length ≤ 640 ∧ PySem.intText? (mkS t) = some (tval t) := by
    intro t ht
    obtain ⟨p, hp, e⟩ := List.mem_filterMap.mp ht
    by_cases q : low p.1 = low nm
    · rw [if_pos q] at e; cases e; exact hv p hp
    · rw [if_neg q] at e; cases e
  have hul : (under nm ps).length < 1000 := by
    have := List.length_filterMap_le (fun p : List Nat × List Nat => if low p.1 = low nm then some p.2 else none) ps
    unfold under; omega
  refine ex_ret ?_
  refine ev_call ?_
  wtm_at "zes"
  refine ⟨_, rfl, cw_builtin, ?_⟩
  refine evl_cons ?_
  refine ev_comp F' (v := .lst ((under nm ps).map fun t => V.str (mkS t))) (l := under nm ps) (fx := fun t => V.str (mkS t)) (fy := fun t => some (V.int (tval t))) (cl := []) (fr0 := [("value", none)]) ?_ (.view .lst) rfl ?_ (by omega) ?_ ?_
  · refine ev_meth ?_
    wtm_at "zes"
    refine ⟨_, _, getm_user F' .obj (f := 211) ⟨by k_is, by k_is, by k_is, by k_is⟩ rfl, cw_K F' (by k_is), ?_⟩
    wtm_at "zes"
    exact get_all F' hm hlow hn hz ho hz3 hz5 ⟨rfl, rfl⟩
  · exact ⟨rfl, fun _ => rfl, rfl, by decide +kernel, by decide +kernel, by simp, by decide +kernel, fun C p hp => by rw [List.mem_singleton.mp hp]; rfl⟩
  · intro C c₂ F₂ _ t ht
    wtm_at "zas"
    refine ⟨rfl, rfl, ?_⟩
    refine ifb_t ⟨_, rfl, ?_⟩
    refine ev_call ?_
    wtm_at "zes"
    refine ⟨_, rfl, cw_type, ?_⟩
    wtm_at "zes"
    exact cl_int (hu t ht).2 (by rw [mkS_len]; exact (hu t ht).1) ⟨rfl, rfl⟩
  · intro D
    rw [fm_some]
    wtm_at "zes"
    have e : (under nm ps).map (fun t => V.int (tval t)) = ivs ((under nm ps).map tval) := by unfold ivs; rw [List.map_map]; rfl
    rw [e]
    refine cl_suml F'.hh (.own (List.mem_cons_self ..)) ?_
    exact ⟨_, σ, .inl rfl, List.sublist_cons_self _ _, h⟩

open PySem PySem.W PySem.Spec PySem.Calls PyProof.Rows

theorem touchD8 : Touch PySem.Challenge.rw_sn0093_02 hd0.heap_1 := by
  k_fill
  trivial

theorem flat_get {α : Type} (f : α → List Int) : ∀ (l : List α) (i : Nat) (x : α), l[i]? = some x → ∀ t, t < (f x).length → (l.flatMap f)[((l.take i).flatMap f).length + t]? = some ((f x).getD t 0)
  | [], i, x, h, _, _ => by simp at h
  | a :: r, 0, x, h, t, ht => by
    cases h
    rw [List.flatMap_cons, List.take_zero, List.flatMap_nil, List.length_nil, Nat.zero_add, List.getElem?_append_left ht, List.getElem?_eq_getElem ht, List.getD_eq_getElem?_getD, List.getElem?_eq_getElem ht]; rfl
  | a :: r, i + 1, x, h, t, ht => by
    rw [List.flatMap_cons, List.take_succ_cons, List.flatMap_cons, List.length_append, List.getElem?_append_right (by omega)]
    rw [show (f a).length + ((r.take i).flatMap f).length + t - (f a).length = ((r.take i).flatMap f).length + t by omega]
    exact flat_get f r i x h t ht
theorem flat_len1 {α : Type} (f : α → List Int) (l : List α) (i : Nat) (x : α) (h : l[i]? = some x) : ((l.take (i + 1)).flatMap f).length = ((l.take i).flatMap f).length + (f x).length := by
  rw [take_flat f l i x h, List.length_append]
abbrev TSt := List Nat × List (List Nat × List Nat)
def tstep (st : TSt) (s : Nat) : TSt := if s < 256 then (if s = 15 then [45] else [], st.2) else (st.1, st.2 ++ [(lname ((s - 256) % 4) ((s - 256) / 4 % 4), st.1 ++ dig ((s - 256) / 16))])
def trun (l : List Nat) : TSt := l.foldl tstep ([], [])
theorem trun_snoc (l : List Nat) (s : Nat) : trun (l ++ [s]) = tstep (trun l) s := by unfold trun; rw [List.foldl_append]; rfl
theorem trun_len : ∀ (l : List Nat) (st : TSt), (l.foldl tstep st).2.length ≤ st.2.length + l.length
  | [], st => Nat.le_refl _
  | a :: r, st => by
    have h := trun_len r (tstep st a)
    have h2 : (tstep st a).2.length ≤ st.2.length + 1 := by
      unfold tstep; split <;> simp
    rw [List.foldl_cons, List.length_cons]; omega
theorem trun_sign : ∀ (l : List Nat) (st : TSt), (st.1 = [] ∨ st.1 = [45]) → ((l.foldl tstep st).1 = [] ∨ (l.foldl tstep st).1 = [45])
  | [], st, h => h
  | a :: r, st, h => trun_sign r (tstep st a) (by
    unfold tstep
    split
    · by_cases q : a = 15
      · rw [if_pos q]; exact .inr rfl
      · rw [if_neg q]; exact .inl rfl
    · exact h)
def tabOf (es : List Ent) : List (List Nat × List Nat) := es.map fun e => (lname e.place e.sizes, wtxt e)
theorem trun_ents : ∀ (es : List Ent) (st : TSt), (∀ e ∈ es, e.place < 4 ∧ e.sizes < 4) → ((symsE es).foldl tstep st).2 = st.2 ++ tabOf es
  | [], st, _ => (List.append_nil _).symm
  | e :: r, st, h => by
    have he := h e (List.mem_cons_self ..)
    have ih := trun_ents r (tstep (tstep st (if e.below then 15 else 14)) (256 + 16 * e.weight + 4 * e.sizes + e.place)) fun x hx => h x (List.mem_cons_of_mem _ hx)
    have e1 : (symsE (e :: r)).foldl tstep st = (symsE r).foldl tstep (tstep (tstep st (if e.below then 15 else 14)) (256 + 16 * e.weight + 4 * e.sizes + e.place)) := by
      unfold symsE; rw [List.flatMap_cons, List.foldl_append]; rfl
    rw [e1, ih]
    have e2 : tstep st (if e.below then 15 else 14) = (if e.below then [45] else [], st.2) := by
      unfold tstep; cases e.below <;> rfl
    rw [e2]
    have e3 : ∀ t : TSt, tstep t (256 + 16 * e.weight + 4 * e.sizes + e.place) = (t.1, t.2 ++ [(lname e.place e.sizes, t.1 ++ dig e.weight)]) := fun t => by
      unfold tstep
      rw [if_neg (by omega), show (256 + 16 * e.weight + 4 * e.sizes + e.place - 256) % 4 = e.place by omega, show (256 + 16 * e.weight + 4 * e.sizes + e.place - 256) / 4 % 4 = e.sizes by omega,
        show (256 + 16 * e.weight + 4 * e.sizes + e.place - 256) / 16 = e.weight by omega]
    rw [e3]
    unfold tabOf wtxt
    simp

theorem law_table {mg : Str → Option Value} {mb : MB} {E : Env} {n : Nat} {c : Act} {fr : Frame} {σ : Store} {Φ : V → Store → Prop} (F : Fact (hd0.heap_1 mb.w.params) mg mb E (n + 3) c) {es : List Ent} (hp : ∀ e ∈ es, e.place < 4 ∧ e.sizes < 4 ∧ e.weight < 1000000000) (hz : es.length < 100)
    (h : ∀ D, Φ (.obj 272 (hdr D)) ((D, O.list ((tabOf es).map pv)) :: σ)) : Cl c (.ref 304) [.lst (ivs (octsOf es))] fr σ Φ := by
  have hsy : ∀ s ∈ symsE es, s = 14 ∨ s = 15 ∨ (256 ≤ s ∧ s < 100000000000) := by
    intro s hs
    obtain ⟨e, he, hse⟩ := List.mem_flatMap.mp hs
    have := hp e he
    unfold symE at hse
    rcases List.mem_cons.mp hse with rfl | hse
    · cases e.below
      · exact .inl rfl
      · exact .inr (.inl rfl)
    · rw [List.mem_singleton.mp hse]; omega
  have hend : (trun (symsE es)).2 = tabOf es := by
    have := trun_ents es ([], []) fun e he => ⟨(hp e he).1, (hp e he).2.1⟩
    exact this
  have hsl := symsE_len es
  unfold octsOf
  rw [← hend] at h
  generalize symsE es = syms at hsy hsl h ⊢
  generalize hall : syms ++ [0] = all
  generalize ho : all.flatMap encN = octs
  have pos : ∀ i s, all[i]? = some s → ∀ t, t < (encN s).length → octs[((all.take i).flatMap encN).length + t]? = some ((encN s).getD t 0) := fun i s hs t ht => by rw [← ho]; exact flat_get encN all i s hs t ht
  have hlen : all.length = syms.length + 1 := by rw [← hall]; simp
  have vr : ∀ i s, all[i]? = some s → IsVarW (encN s) ∧ vval (encN s) = (s : Int) := fun i s hs => by
    have hm := List.mem_of_getElem? hs
    refine enc_ok s ?_
    have h7 : (64 : Nat) ^ 7 = 4398046511104 := by decide
    rw [← hall] at hm
    rcases List.mem_append.mp hm with q | q
    · have := hsy s q; omega
    · rw [List.mem_singleton.mp q]; decide
  apply cl_fn ["octets"] ["tape", "table", "sign", "s"] [] [("octets", some (.lst (ivs octs))), ("tape", none), ("table", none), ("sign", none), ("s", none)] (fun L => σ) F
  case look => k_is
  case dat => rfl
  case bd => rfl
  case q => exact rfl
  case sc => exact rfl
  case cd => exact rfl
  case gl => rfl
  case bl => rfl
  case cl => rfl
  case co => rfl
  case gen => rfl
  case kind => rfl
  case code => k_is
  case hbind => intro As h; obtain ⟨a, rfl⟩ := List.length_eq_one_iff.mp h; rfl
  case hlen => rfl
  case hnd => decide +kernel
  case hloc => decide +kernel
  case hcs => exact fun L => trivial
  case hfr => rfl
  case hσ => exact fun L => rfl
  intro L c' F'

  refine ex_asg F' ?_
  refine ev_call ?_
  wtm_at "zes"
  refine ⟨_, rfl, cw_builtin, ?_⟩
  wtm_at "zes"
  refine cl_iter .lst rfl fun I => ?_
  wtm_at "zas"
  refine ex_asg F' ?_
  refine ev_call0 ?_
  wtm_at "zes"
  refine ⟨_, rfl, cw_K F' (by k_is), ?_⟩
  refine cl_make F' (fI := 166) ⟨by k_is, by k_is, by k_is⟩ fun A' FA x dx => ?_
  refine hinit FA rfl fun D => ?_
  refine ⟨rfl, _, _, by wtm_at "zmem", .tail .head, ?_⟩
  wtm_at "zas"
  refine ex_asg F' ?_
  wtm_at "zes"
  wtm_at "zas"
  obtain ⟨s0, hs0⟩ : ∃ s, all[0]? = some s := by
    cases e : all[0]? with
    | some s => exact ⟨s, rfl⟩
    | none => have := List.getElem?_eq_none_iff.mp e; omega
  refine ex_asg F' ?_
  refine ev_call ?_
  wtm_at "zes"
  refine ⟨_, rfl, cw_K F' (by k_is), ?_⟩
  wtm_at "zes"
  refine parse_varintW (f := fun o => (D, .list []) :: (I, o) :: σ) (bs := encN s0) (k := 0) F' (At.head.tail) (vr 0 s0 hs0).1 (fun i hi => by have := pos 0 s0 hs0 i hi; simpa using this) rfl ?_
  rw [(vr 0 s0 hs0).2]
  wtm_at "zas"
  refine ex_while (fun m fr' σ' => ∃ (i s : Nat), all[i]? = some s ∧ m + i = all.length ∧ fr' = (("octets", some (V.lst (ivs octs))) :: ("tape", some (V.raw (.ref I))) :: ("table", some (V.obj 272 (hdr D))) :: ("sign", some (V.str (mkS ((trun (all.take i)).1)))) :: ("s", some (V.int (s : Int))) :: [] : Frame) ∧ σ' = (D, .list ((trun (all.take i)).2.map pv)) :: (I, .iter (ivs octs) ((all.take (i + 1)).flatMap encN).length) :: σ) (fun _ _ => False) all.length ⟨0, s0, hs0, rfl, ?_, ?_⟩ ?_ (fun _ _ h => h.elim)
  · rfl
  · rw [flat_len1 encN all 0 s0 hs0]; rfl
  · rintro m fr' σ' ⟨i, s, hs, hm, rfl, rfl⟩
    have hi : i < all.length := (List.getElem?_eq_some_iff.mp hs).1
    refine te_not ?_
    refine te_plain ?_ (by rfl)
    refine ev_call ?_
    wtm_at "zes"
    refine ⟨_, rfl, cw_K F' (by k_is), ?_⟩
    wtm_at "zes"
    refine is_eof F' ?_
    wtm_at "zes"
    by_cases hs00 : s = 0
    · rw [decide_eq_true (show (s : Int) = 0 by omega)]
      refine ifb_f ?_
      have hil : i = syms.length := by
        by_cases q : i < syms.length
        · exfalso
          rw [← hall, List.getElem?_append_left q] at hs
          have := hsy s (List.mem_of_getElem? hs)
          omega
        · omega
      refine ex_ret ?_
      wtm_at "zes"
      refine ⟨_, _, .inl rfl, List.Sublist.cons_cons _ (List.sublist_cons_self _ _), ?_⟩
      have e : all.take i = syms := by rw [← hall, hil]; simp
      rw [e]; exact h D
    · rw [decide_eq_false (show ¬(s : Int) = 0 by omega)]
      refine ifb_t ?_
      have hil : i + 1 < all.length := by
        by_cases q : i + 1 < all.length
        · exact q
        · exfalso
          have q2 : i = syms.length := by omega
          rw [← hall, q2] at hs
          simp at hs
          exact hs00 hs.symm
      have hsm : s ∈ syms := by
        rw [← hall, List.getElem?_append_left (by omega)] at hs
        exact List.mem_of_getElem? hs
      have hsr := hsy s hsm
      obtain ⟨s1, hs1⟩ : ∃ s, all[i + 1]? = some s := ⟨_, List.getElem?_eq_getElem hil⟩
      have estep : trun (all.take (i + 1)) = tstep (trun (all.take i)) s := by
        rw [List.take_add_one, hs, show (some s).toList = [s] from rfl, trun_snoc]
      have hdl : (trun (all.take i)).2.length < 1000 := by
        have h1 := trun_len (all.take i) ([], [])
        have h2 : (all.take i).length ≤ i := by rw [List.length_take]; omega
        show ((all.take i).foldl tstep ([], [])).2.length < 1000
        simp at h1; omega
      have hsg := trun_sign (all.take i) ([], []) (.inl rfl)
      change (trun (all.take i)).1 = [] ∨ (trun (all.take i)).1 = [45] at hsg
      generalize trun (all.take i) = st at estep hdl hsg ⊢
      refine ex_ifJ (fun fr' σ' => ∃ (st' : TSt) (o : Option V), st' = tstep st s ∧ fr' = (("octets", some (V.lst (ivs octs))) :: ("tape", some (V.raw (.ref I))) :: ("table", some (V.obj 272 (hdr D))) :: ("sign", some (V.str (mkS (st'.1)))) :: ("s", o) :: [] : Frame) ∧ σ' = (D, .list (st'.2.map pv)) :: (I, .iter (ivs octs) ((all.take (i + 1)).flatMap encN).length) :: σ) ?_ ?_
      rotate_left
      · rintro fr' σ' ⟨st', o, e, rfl, rfl⟩
        refine ex_asg F' ?_
        refine ev_call ?_
        wtm_at "zes"
        refine ⟨_, rfl, cw_K F' (by k_is), ?_⟩
        wtm_at "zes"
        refine parse_varintW (f := fun o => (D, .list (st'.2.map pv)) :: (I, o) :: σ) (bs := encN s1) F' (At.head.tail) (vr (i + 1) s1 hs1).1 (pos (i + 1) s1 hs1) rfl ?_
        rw [(vr (i + 1) s1 hs1).2]
        wtm_at "zas"
        refine ex_nil ⟨_, List.Sublist.refl _, all.length - (i + 1), by omega, i + 1, s1, hs1, by omega, ?_, ?_⟩
        · rw [estep, ← e]
        · rw [estep, ← e, flat_len1 encN all (i + 1) s1 hs1]
      refine te_plain ?_ (by rfl)
      refine ev_call ?_
      wtm_at "zes"
      refine ⟨_, rfl, cw_K F' (by k_is), ?_⟩
      wtm_at "zes"
      refine is_terminal F' ?_
      wtm_at "zes"
      refine ⟨fun hc => ?_, fun hc => ?_⟩
      · have hc' := of_decide_eq_true hc
        have h2 : s = 14 ∨ s = 15 := by omega
        refine ex_asg F' ?_
        refine ev_ifj (b := decide (s = 15)) (w := .str (mkS (if s = 15 then [45] else []))) (u := .str (mkS [45])) (v := .str (mkS [])) ?_ ?_ ?_ ?_ ?_
        · refine te_cmp ?_
          wtm_at "zes"
          apply sub_dict F'
          case hl => k_is
          case hk => k_keys
          case e => k_is
          case hr => exact fun _ _ => .int _ _
          case h =>
            wtm_at "zes"
            exact ⟨by rw [decide_eq_decide]; omega, rfl⟩
        · wtm_at "zes"
          exact ⟨rfl, rfl⟩
        · wtm_at "zes"
          exact ⟨rfl, rfl⟩
        · by_cases q : s = 15
          · rw [decide_eq_true q, if_pos q]; rfl
          · rw [decide_eq_false q, if_neg q]; rfl
        wtm_at "zas"
        refine ex_if ?_
        refine te_of (te_and ?_)
        refine te_cmp ?_
        wtm_at "zes"
        have est : tstep st s = (if s = 15 then [45] else [], st.2) := by unfold tstep; rw [if_pos (by omega)]
        refine ⟨fun hc2 => ?_, fun hc2 => ?_⟩
        · have h14 : s = 14 := by
            rcases h2 with q | q
            · exact q
            · exfalso
              rw [if_pos q] at hc2
              exact absurd (mkS_inj (a := [45]) (b := []) (of_decide_eq_true hc2)) (by decide)
          refine te_and ?_
          refine te_cmp ?_
          wtm_at "zes"
          apply sub_dict F'
          case hl => k_is
          case hk => k_keys
          case e => k_is
          case hr => exact fun _ _ => .int _ _
          case h =>
            wtm_at "zes"
            refine ⟨fun hc3 => ?_, fun hc3 => ?_⟩
            · exact absurd (of_decide_eq_true hc3) (by omega)
            · refine ifb_f ?_
              refine ex_nil (ex_nil ⟨rfl, _, _, est.symm, rfl, rfl⟩)
        · refine ifb_f ?_
          refine ex_nil (ex_nil ⟨rfl, _, _, est.symm, rfl, rfl⟩)
      · have hc' := of_decide_eq_false hc
        have h2 : 256 ≤ s ∧ s < 100000000000 := by omega
        have est : tstep st s = (st.1, st.2 ++ [(lname ((s - 256) % 4) ((s - 256) / 4 % 4), st.1 ++ dig ((s - 256) / 16))]) := by unfold tstep; rw [if_neg (by omega)]
        refine ex_aug F' (by wtm_at "zmem") ?_
        wtm_at "zes"
        rw [show (s : Int) - 256 = ((s - 256 : Nat) : Int) by omega]
        generalize hx : s - 256 = x at est ⊢
        refine ⟨_, by wtm_at "zput", ?_⟩
        have f3 := lname_facts (p := x % 4) (s := x / 4 % 4) (by omega) (by omega)
        have hdg := dig_len (w := x / 16) (by omega)
        have hs1l : st.1.length ≤ 1 := by rcases hsg with q | q <;> rw [q] <;> simp
        refine ex_exp F' ?_
        refine ev_meth ?_
        wtm_at "zes"
        refine ⟨_, _, getm_user F' .obj (f := 269) ⟨by k_is, by k_is, by k_is, by k_is⟩ rfl, cw_K F' (by k_is), ?_⟩
        refine evl_cons ?_
        refine ev_call ?_
        wtm_at "zes"
        refine ⟨_, rfl, cw_K F' (by k_is), ?_⟩
        wtm_at "zes"
        rw [show (x : Int) % 4 = ((x % 4 : Nat) : Int) by omega, show (x : Int) / 4 % 4 = ((x / 4 % 4 : Nat) : Int) by omega]
        refine law_name F' (by omega) (by omega) ?_
        refine evl_cons ?_
        refine ev_bin ?_
        wtm_at "zes"
        refine ev_call ?_
        wtm_at "zes"
        refine ⟨_, rfl, cw_type, ?_⟩
        wtm_at "zes"
        rw [show (x : Int) / 16 = ((x / 16 : Nat) : Int) by omega]
        refine cl_str (by omega) ?_
        rw [dig_mk]
        refine bin_sadd (by rw [mkS_len, mkS_len]; omega) ?_
        rw [mkS_app]
        wtm_at "zes"
        refine add_header F' (f := fun o => (D, o) :: (I, .iter (ivs octs) ((all.take (i + 1)).flatMap encN).length) :: σ) At.head rfl (by show 2 < 1000; decide) (by rw [List.length_append]; omega) (by omega) f3.2.2 (okS_app (fun k hk => ?_) (dig_ok _)) ?_
        · rcases hsg with q | q
          · rw [q] at hk; cases hk
          · rw [q] at hk; rw [List.mem_singleton.mp hk]; decide
        refine ex_nil ⟨rfl, _, _, est.symm, rfl, rfl⟩

open PySem PySem.W PySem.Spec PySem.Calls PyProof.Rows

theorem touchD9 : Touch PySem.Challenge.rw_sn0093_02 hd0.heap_1 := by
  k_fill
  trivial

/-- a row of the series, told by the one ahead -/
def scell (a d e : Int) (i : Nat) (prev : List Int) : Nat → List Int
  | 0 => [0]
  | j + 1 => scell a d e i prev j ++ [if i + j = 0 then 1 else a * prev.getD (j + 1) 0 + d * (scell a d e i prev j).getD j 0 - e * prev.getD j 0]
def srow (a d e : Int) (q : Nat) : Nat → List Int
  | 0 => List.replicate (q + 2) 0
  | i + 1 => scell a d e i (srow a d e q i) (q + 1)
theorem scell_len (a d e : Int) (i : Nat) (prev : List Int) : ∀ j, (scell a d e i prev j).length = j + 1
  | 0 => rfl
  | j + 1 => by rw [scell, List.length_append, scell_len a d e i prev j]; rfl
theorem srow_len (a d e : Int) (q : Nat) : ∀ i, (srow a d e q i).length = q + 2
  | 0 => by rw [srow, List.length_replicate]
  | i + 1 => by rw [srow, scell_len]
def series (a b g d : Int) (p q : Nat) : Int := (srow a d (a * d - b * g) q (p + 1)).getD (q + 1) 0
def srows (a d e : Int) (q k : Nat) : List V := (List.range (k + 1)).map fun t => V.lst (ivs (srow a d e q t))
theorem srows_len (a d e : Int) (q k : Nat) : (srows a d e q k).length = k + 1 := by unfold srows; rw [List.length_map, List.length_range]
theorem srows_get {a d e : Int} {q k t : Nat} (h : t < k + 1) : (srows a d e q k)[t]? = some (V.lst (ivs (srow a d e q t))) := by
  unfold srows
  rw [List.getElem?_map, List.getElem?_range h]; rfl
theorem srows_succ (a d e : Int) (q k : Nat) : srows a d e q (k + 1) = srows a d e q k ++ [V.lst (ivs (srow a d e q (k + 1)))] := by
  unfold srows
  rw [List.range_succ, List.map_append]; rfl
theorem law_series {mg : Str → Option Value} {mb : MB} {E : Env} {n : Nat} {c : Act} {fr : Frame} {σ : Store} {Φ : V → Store → Prop} (F : Fact (hd0.heap_1 mb.w.params) mg mb E (n + 1) c) {a b g d : Int} {p q : Nat} (ha : -3000000000 ≤ a ∧ a ≤ 3000000000) (hb : -3000000000 ≤ b ∧ b ≤ 3000000000) (hg : -3000000000 ≤ g ∧ g ≤ 3000000000) (hd : -3000000000 ≤ d ∧ d ≤ 3000000000) (hp : p < 10) (hq : q < 10)
    (h : Φ (.int (series a b g d p q)) σ) : Cl c (.ref 316) [.lst (ivs [a, b, g, d]), .int (p : Int), .int (q : Int)] fr σ Φ := by
  have bx : ∀ x y : Int, -3000000000 ≤ x ∧ x ≤ 3000000000 → -3000000000 ≤ y ∧ y ≤ 3000000000 → -9000000000000000000 ≤ x * y ∧ x * y ≤ 9000000000000000000 := fun x y hx hy => by
    have e1 : x * y ≤ 3000000000 * 3000000000 := by
      by_cases q : 0 ≤ x
      · exact Int.le_trans (Int.mul_le_mul_of_nonneg_left hy.2 q) (Int.mul_le_mul_of_nonneg_right hx.2 (by decide))
      · have h1 : x * y = (-x) * (-y) := by rw [Int.neg_mul_neg]
        rw [h1]
        exact Int.le_trans (Int.mul_le_mul_of_nonneg_left (show -y ≤ 3000000000 by omega) (by omega)) (Int.mul_le_mul_of_nonneg_right (by omega) (by decide))
    have e2 : (-x) * y ≤ 3000000000 * 3000000000 := by
      by_cases q : 0 ≤ -x
      · exact Int.le_trans (Int.mul_le_mul_of_nonneg_left hy.2 q) (Int.mul_le_mul_of_nonneg_right (by omega) (by decide))
      · have h1 : (-x) * y = x * (-y) := by rw [Int.neg_mul, Int.mul_neg]
        rw [h1]
        exact Int.le_trans (Int.mul_le_mul_of_nonneg_left (show -y ≤ 3000000000 by omega) (by omega)) (Int.mul_le_mul_of_nonneg_right (by omega) (by decide))
    rw [Int.neg_mul] at e2
    omega
  have had := bx a d ha hd
  have hbg := bx b g hb hg
  have ba : Builtin.Int.intBits a ≤ 64 := intBits_le_64 (by omega) (by omega)
  have bb : Builtin.Int.intBits b ≤ 64 := intBits_le_64 (by omega) (by omega)
  have bd : Builtin.Int.intBits d ≤ 64 := intBits_le_64 (by omega) (by omega)
  have be : Builtin.Int.intBits (a * d - b * g) ≤ 64 := by
    generalize a * d = x at had ⊢
    generalize b * g = y at hbg ⊢
    exact intBits_le_64 (by omega) (by omega)
  unfold series at h
  clear had hbg bx
  apply cl_fn ["weights", "p", "q"] ["a", "b", "c", "d", "rows", "i", "j", "told"] [] [("weights", some (.lst (ivs [a, b, g, d]))), ("p", some (.int (p : Int))), ("q", some (.int (q : Int))), ("a", none), ("b", none), ("c", none), ("d", none), ("rows", none), ("i", none), ("j", none), ("told", none)] (fun L => σ) F
  case look => k_is
  case dat => rfl
  case bd => rfl
  case q => exact rfl
  case sc => exact rfl
  case cd => exact rfl
  case gl => rfl
  case bl => rfl
  case cl => rfl
  case co => rfl
  case gen => rfl
  case kind => rfl
  case code => k_is
  case hbind => intro As h; obtain ⟨a, b, c, rfl⟩ := threeOf h; rfl
  case hlen => rfl
  case hnd => decide +kernel
  case hloc => decide +kernel
  case hcs => exact fun L => trivial
  case hfr => rfl
  case hσ => exact fun L => rfl
  intro L c' F'

  refine ex_asg F' ?_
  wtm_at "zes"
  refine asg_lstC F' (vs := [V.int a, V.int b, V.int g, V.int d]) .lst ?_
  wtm_at "zas"
  refine ex_asg F' ?_
  refine ev_lst ?_
  refine evl_cons ?_
  refine ev_bin ?_
  refine ev_lstF ?_
  wtm_at "zes"
  refine ⟨by decide, ?_⟩
  wtm_at "zes"
  have e1 : ((q : Int) + 2).toNat = q + 2 := by omega
  refine bin_lmul .lst (by omega) (by rw [e1]; simp; omega) (by omega) ?_
  rw [e1]
  have e2 : (List.replicate (q + 2) [V.int 0]).flatten = ivs (srow a d (a * d - b * g) q 0) := by rw [srow]; simp [ivs]
  rw [e2]
  wtm_at "zes"
  refine ⟨by simp, fun R => ?_⟩
  wtm_at "zas"
  refine ex_for F' (v := .rng 0 ((p + 1 : Nat) : Int) 1) (xs := (List.range (p + 1)).map fun (i : Nat) => V.int (0 + (i : Int) * 1)) (fun k fr' σ' => ∃ o1 o2 o3, fr' = (("weights", some (V.lst (ivs [a, b, g, d]))) :: ("p", some (V.int (p : Int))) :: ("q", some (V.int (q : Int))) :: ("a", some (V.int a)) :: ("b", some (V.int b)) :: ("c", some (V.int g)) :: ("d", some (V.int d)) :: ("rows", some (V.raw (.ref R))) :: ("i", o1) :: ("j", o2) :: ("told", o3) :: [] : Frame) ∧ σ' = (R, O.list (srows a d (a * d - b * g) q k)) :: σ) (fun _ _ => False) ?_ (src_rng (by omega)) ⟨_, _, _, rfl, rfl⟩ (fun _ _ _ _ => src_rng (by omega)) ?_ ?_ (fun _ _ h => h.elim)
  · refine ev_call ?_
    wtm_at "zes"
    refine ⟨_, rfl, cw_type, ?_⟩
    wtm_at "zes"
    exact cl_range1 ⟨by rw [show ((p + 1 : Nat) : Int) = (p : Int) + 1 by omega], rfl⟩
  · rintro c₂ F₂ k x fr' σ' hx ⟨o1, o2, o3, rfl, rfl⟩
    rw [List.getElem?_map] at hx
    obtain ⟨i, hi, rfl⟩ := Option.map_eq_some_iff.mp hx
    obtain ⟨hk, e⟩ := List.getElem?_eq_some_iff.mp hi
    rw [List.length_range] at hk
    rw [List.getElem_range] at e
    subst e
    rw [show (0 + (k : Int) * 1) = (k : Int) by omega]
    wtm_at "zas"
    refine ex_exp F₂ ?_
    refine ev_meth ?_
    wtm_at "zes"
    refine ⟨_, _, getm_append (by wtm_at "zmem"), cw_builtin, ?_⟩
    refine evl_cons ?_
    refine ev_lst ?_
    wtm_at "zes"
    refine ⟨by decide, fun A => ?_⟩
    wtm_at "zes"
    refine cl_append (by wtm_at "zmem") (by rw [srows_len]; omega) (by wtm_at "zputa") ?_
    have g0 : (srows a d (a * d - b * g) q k ++ [V.raw (.ref A)])[((k : Int)).toNat]? = some (V.lst (ivs (srow a d (a * d - b * g) q k))) := by
      rw [Int.toNat_natCast, List.getElem?_append_left (by rw [srows_len]; omega)]; exact srows_get (by omega)
    have g1 : (srows a d (a * d - b * g) q k ++ [V.raw (.ref A)])[((k : Int) + 1).toNat]? = some (V.raw (.ref A)) := by
      rw [show ((k : Int) + 1).toNat = k + 1 by omega, List.getElem?_append_right (by rw [srows_len]; omega), srows_len, Nat.sub_self]; rfl
    have hlp := srow_len a d (a * d - b * g) q k
    have hnext : srow a d (a * d - b * g) q (k + 1) = scell a d (a * d - b * g) k (srow a d (a * d - b * g) q k) (q + 1) := rfl
    rw [srows_succ, hnext]
    generalize srow a d (a * d - b * g) q k = prev at g0 hlp ⊢
    generalize srows a d (a * d - b * g) q k = old at g0 g1 ⊢
    refine ex_for F₂ (v := .rng 0 ((q + 1 : Nat) : Int) 1) (xs := (List.range (q + 1)).map fun (i : Nat) => V.int (0 + (i : Int) * 1)) (fun j fr' σ' => ∃ o2 o3, fr' = (("weights", some (V.lst (ivs [a, b, g, d]))) :: ("p", some (V.int (p : Int))) :: ("q", some (V.int (q : Int))) :: ("a", some (V.int a)) :: ("b", some (V.int b)) :: ("c", some (V.int g)) :: ("d", some (V.int d)) :: ("rows", some (V.raw (.ref R))) :: ("i", some (V.int (k : Int))) :: ("j", o2) :: ("told", o3) :: [] : Frame) ∧ σ' = (A, O.list (ivs (scell a d (a * d - b * g) k prev j))) :: (R, O.list (old ++ [V.raw (.ref A)])) :: σ) (fun _ _ => False) ?_ (src_rng (by omega)) ⟨_, _, rfl, rfl⟩ (fun _ _ _ _ => src_rng (by omega)) ?_ ?_ (fun _ _ h => h.elim)
    · refine ev_call ?_
      wtm_at "zes"
      refine ⟨_, rfl, cw_type, ?_⟩
      wtm_at "zes"
      exact cl_range1 ⟨by rw [show ((q + 1 : Nat) : Int) = (q : Int) + 1 by omega], rfl⟩
    · rintro c₃ F₃ j x fr' σ' hx ⟨o2, o3, rfl, rfl⟩
      rw [List.getElem?_map] at hx
      obtain ⟨i, hi, rfl⟩ := Option.map_eq_some_iff.mp hx
      obtain ⟨hj, e⟩ := List.getElem?_eq_some_iff.mp hi
      rw [List.length_range] at hj
      rw [List.getElem_range] at e
      subst e
      rw [show (0 + (j : Int) * 1) = (j : Int) by omega]
      have hcl := scell_len a d (a * d - b * g) k prev j
      have hsc : scell a d (a * d - b * g) k prev (j + 1) = scell a d (a * d - b * g) k prev j ++ [if k + j = 0 then 1 else a * prev.getD (j + 1) 0 + d * (scell a d (a * d - b * g) k prev j).getD j 0 - (a * d - b * g) * prev.getD j 0] := rfl
      rw [hsc]
      generalize scell a d (a * d - b * g) k prev j = acc at hcl ⊢
      wtm_at "zas"
      refine ex_asg F₃ ?_
      wtm_at "zes"
      refine sub_list (.own (by wtm_at "zmem")) (by omega) (by omega) g0 ?_
      wtm_at "zes"
      refine sub_list .lst (by omega) (by omega) (by rw [show ((j : Int) + 1).toNat = j + 1 by omega]; exact iv_get (by omega)) ?_
      refine bin_mul (.of_left ba) ?_
      wtm_at "zes"
      refine sub_list (.own (by wtm_at "zmem")) (by omega) (by omega) g1 ?_
      wtm_at "zes"
      refine sub_list (.own (by wtm_at "zmem")) (by omega) (by omega) (by rw [Int.toNat_natCast]; exact iv_get (by omega)) ?_
      refine bin_mul (.of_left bd) ?_
      wtm_at "zes"
      refine bin_mul (.of_left ba) ?_
      wtm_at "zes"
      refine bin_mul (.of_left bb) ?_
      wtm_at "zes"
      refine sub_list (.own (by wtm_at "zmem")) (by omega) (by omega) g0 ?_
      wtm_at "zes"
      refine sub_list .lst (by omega) (by omega) (by rw [Int.toNat_natCast]; exact iv_get (by omega)) ?_
      refine bin_mul (.of_left be) ?_
      wtm_at "zes"
      wtm_at "zas"
      refine ex_exp F₃ ?_
      refine ev_meth ?_
      wtm_at "zes"
      refine sub_list (.own (by wtm_at "zmem")) (by omega) (by omega) g1 ?_
      refine ⟨_, _, getm_append (by wtm_at "zmem"), cw_builtin, ?_⟩
      refine evl_cons ?_
      refine ev_ifj (b := decide (k + j = 0)) (w := .int (if k + j = 0 then 1 else a * prev.getD (j + 1) 0 + d * acc.getD j 0 - (a * d - b * g) * prev.getD j 0)) (u := .int 1) (v := .int (a * prev.getD (j + 1) 0 + d * acc.getD j 0 - (a * d - b * g) * prev.getD j 0)) ?_ ?_ ?_ ?_ ?_
      · refine te_cmp ?_
        wtm_at "zes"
        exact ⟨by rw [decide_eq_decide]; omega, rfl⟩
      · wtm_at "zes"
        exact ⟨rfl, rfl⟩
      · wtm_at "zes"
        exact ⟨rfl, rfl⟩
      · by_cases q : k + j = 0
        · rw [decide_eq_true q, if_pos q]; rfl
        · rw [decide_eq_false q, if_neg q]; rfl
      wtm_at "zes"
      refine cl_append (by wtm_at "zmem") (by rw [iv_len]; omega) (by wtm_at "zputa") ?_
      refine ex_nil ⟨_, List.Sublist.refl _, _, _, rfl, ?_⟩
      rw [← ivs_app]; rfl
    · rintro fr' σ' ⟨o2, o3, rfl, rfl⟩
      rw [List.length_map, List.length_range]
      refine ex_freezeIn ?_
      exact ex_nil ⟨_, List.Sublist.refl _, _, _, _, rfl, rfl⟩
  · rintro fr' σ' ⟨o1, o2, o3, rfl, rfl⟩
    rw [List.length_map, List.length_range]
    refine ex_ret ?_
    wtm_at "zes"
    refine sub_list (.own (by wtm_at "zmem")) (by omega) (by omega) (by rw [show ((p : Int) + 1).toNat = p + 1 by omega]; exact srows_get (by omega)) ?_
    wtm_at "zes"
    refine sub_list .lst (by omega) (by omega) (by rw [show ((q : Int) + 1).toNat = q + 1 by omega]; exact iv_get (by rw [srow_len]; omega)) ?_
    exact ⟨_, σ, .inl rfl, List.sublist_cons_self _ _, h⟩

open PySem PySem.W PySem.Spec PySem.Calls PyProof.Rows

/-- the seven numbers, the first k items told -/
def numAt2 (xs : List Int) : Nat → List Nat
  | 0 => [104, 2240017, 160, 89, 130, 45, 16]
  | k + 1 => (numAt2 xs k).set (k % 7) ((numAt2 xs k).getD (k % 7) 0 + (xs.getD k 0 % 1000000000000).toNat)
theorem numAt2_len (xs : List Int) : ∀ k, (numAt2 xs k).length = 7
  | 0 => rfl
  | k + 1 => by rw [numAt2, List.length_set]; exact numAt2_len xs k
theorem emod7 (k : Nat) : ((k : Int) % 7).toNat = k % 7 := by omega
theorem nvs_get7 {l : List Nat} {i : Nat} (h : i < l.length) : (nvs l)[i]? = some (V.int ((l.getD i 0 : Nat) : Int)) := by
  unfold nvs ivs
  rw [List.getElem?_map, List.getElem?_map, List.getD_eq_getElem?_getD, List.getElem?_eq_getElem h]; rfl
theorem nvs_set {l : List Nat} {i z : Nat} : (nvs l).set i (V.int (z : Int)) = nvs (l.set i z) := by
  unfold nvs ivs
  rw [List.map_set, List.map_set]

/-- all words of 0 and 1 -/
def words : Nat → List (List Nat)
  | 0 => [[]]
  | k + 1 => (words k).flatMap fun w => [w ++ [0], w ++ [1]]
theorem words_ok : ∀ (k : Nat), ∀ w ∈ words k, w.length = k ∧ ∀ x ∈ w, x < 2
  | 0, w, h => by
    rw [List.mem_singleton.mp h]; exact ⟨rfl, fun x hx => by cases hx⟩
  | k + 1, w, h => by
    obtain ⟨v, hv, hw⟩ := List.mem_flatMap.mp h
    have ih := words_ok k v hv
    have hw' : w = v ++ [0] ∨ w = v ++ [1] := by simpa using hw
    rcases hw' with rfl | rfl
    · exact ⟨by rw [List.length_append, ih.1]; rfl, fun x hx => (List.mem_append.mp hx).elim (ih.2 x) fun q => by rw [List.mem_singleton.mp q]; decide⟩
    · exact ⟨by rw [List.length_append, ih.1]; rfl, fun x hx => (List.mem_append.mp hx).elim (ih.2 x) fun q => by rw [List.mem_singleton.mp q]; decide⟩
theorem words_len : ∀ k, (words k).length = 2 ^ k
  | 0 => rfl
  | k + 1 => by
    have e : ∀ m : List (List Nat), (m.flatMap fun w => [w ++ [0], w ++ [1]]).length = m.length * 2 := fun m => by
      induction m with
      | nil => rfl
      | cons b r ih => rw [List.flatMap_cons, List.length_append, ih, List.length_cons]; simp; omega
    rw [words, e, words_len k, Nat.pow_succ]
def runC (u k : Nat) : List Nat := List.replicate (u + k) 32 ++ [9]
def leadC (u v : Nat) (l : List Nat) : List Nat := (l.map (runC u)).flatten ++ List.replicate v 32
def cntOf (u : Nat) (l : List Nat) : List Int := l.foldl (fun c k => bump c (u + k)) []
theorem wsRun_rep (r : List Nat) (cnt : List Int) : ∀ (n b : Nat), wsRun (List.replicate n 32 ++ r) cnt b = wsRun r cnt (b + n)
  | 0, b => by simp
  | n + 1, b => by
    rw [List.replicate_succ, List.cons_append, wsRun, if_pos rfl, wsRun_rep r cnt n (b + 1)]
    congr 1; omega
theorem wsRun_leads (u v : Nat) : ∀ (l : List Nat) (cnt : List Int), wsRun (leadC u v l) cnt 0 = (l.foldl (fun c k => bump c (u + k)) cnt, v)
  | [], cnt => by
    have e := wsRun_rep [] cnt v 0
    rw [List.append_nil, Nat.zero_add] at e
    unfold leadC
    rw [List.map_nil, List.flatten_nil, List.nil_append, e]; rfl
  | k :: r, cnt => by
    have ih := wsRun_leads u v r (bump cnt (u + k))
    have e : leadC u v (k :: r) = List.replicate (u + k) 32 ++ (9 :: leadC u v r) := by
      unfold leadC runC; rw [List.map_cons, List.flatten_cons]; simp
    rw [e, wsRun_rep, Nat.zero_add, wsRun, if_neg (by decide), if_pos rfl, ih, List.foldl_cons]
theorem wsRun_leadC (u v : Nat) (l : List Nat) : wsRun (leadC u v l) [] 0 = (cntOf u l, v) := wsRun_leads u v l []
theorem leadC_lt (u v : Nat) (l : List Nat) : ∀ k ∈ leadC u v l, k < 128 := by
  intro k hk
  rcases List.mem_append.mp hk with hk | hk
  · obtain ⟨m, hm, hk⟩ := List.mem_flatten.mp hk
    obtain ⟨j, _, rfl⟩ := List.mem_map.mp hm
    rcases List.mem_append.mp hk with hk | hk
    · rw [(List.mem_replicate.mp hk).2]; decide
    · rw [List.mem_singleton.mp hk]; decide
  · rw [(List.mem_replicate.mp hk).2]; decide
theorem leadC_len {u v : Nat} (hu : u < 2) (hv : v < 2) : ∀ l : List Nat, (∀ x ∈ l, x < 2) → (leadC u v l).length ≤ 3 * l.length + 1
  | [], _ => by unfold leadC; simp; omega
  | k :: r, h => by
    have ih := leadC_len hu hv r fun x hx => h x (List.mem_cons_of_mem _ hx)
    have hk := h k (List.mem_cons_self ..)
    have e : leadC u v (k :: r) = runC u k ++ leadC u v r := by unfold leadC; rw [List.map_cons, List.flatten_cons, List.append_assoc]
    rw [e, List.length_append, List.length_cons]
    unfold runC
    rw [List.length_append, List.length_replicate, List.length_singleton]
    omega
def frontOf (p q : Nat) : List Nat := List.replicate p 0 ++ List.replicate q 1
theorem frontOf_len (p q : Nat) : (frontOf p q).length = p + q := by unfold frontOf; simp
theorem frontOf_lt (p q : Nat) : ∀ x ∈ frontOf p q, x < 2 := by
  intro x hx
  rcases List.mem_append.mp hx with hx | hx <;> rw [(List.mem_replicate.mp hx).2] <;> decide
/-- of the leads just those of that many shorter runs are equal to the first -/
theorem alike_ok {u p q : Nat} (hu : u < 2) (hp : 0 < p ∧ p < 4) (hq : 0 < q ∧ q < 3) : ∀ w ∈ words (p + q), decide (cntOf u (frontOf p q) = cntOf u w) = decide (w.sum = q) := by
  have key : ∀ (u : Fin 2) (p : Fin 3) (q : Fin 2), ((words (p.val + 1 + (q.val + 1))).all fun w => decide (cntOf u.val (frontOf (p.val + 1) (q.val + 1)) = cntOf u.val w) == decide (w.sum = q.val + 1)) = true := by decide +kernel
  intro w hw
  have k := key ⟨u, hu⟩ ⟨p - 1, by omega⟩ ⟨q - 1, by omega⟩
  have ep : p - 1 + 1 = p := by omega
  have eq : q - 1 + 1 = q := by omega
  simp only [ep, eq] at k
  exact eq_of_beq (List.all_eq_true.mp k w hw)
/-- what get_all tells of a name, added up -/
def Wt (ps : List (List Nat × List Nat)) (x : Nat) : Int := ((under (lname x 0) ps).map tval).sum
def prodK (W : Nat → Int) (front w : List Nat) : Nat → Int
  | 0 => 1
  | k + 1 => prodK W front w k * W (2 * front.getD k 0 + w.getD k 0)
def totalOf (W : Nat → Int) (front : List Nat) (q : Nat) (ws : List (List Nat)) : Int := (ws.map fun w => if w.sum = q then prodK W front w front.length else 0).sum
theorem totalOf_succ (W : Nat → Int) (front : List Nat) (q : Nat) (ws : List (List Nat)) (k : Nat) (w : List Nat) (h : ws[k]? = some w) :
    totalOf W front q (ws.take (k + 1)) = totalOf W front q (ws.take k) + (if w.sum = q then prodK W front w front.length else 0) := by
  unfold totalOf
  rw [List.take_add_one, h, List.map_append, List.sum_append]; simp
def wAt (es : List Ent) : List Int := es.foldl (fun l e => l.set e.place (l.getD e.place 0 + wval e)) [0, 0, 0, 0]
theorem wAt_snoc (es : List Ent) (e : Ent) : wAt (es ++ [e]) = (wAt es).set e.place ((wAt es).getD e.place 0 + wval e) := by unfold wAt; rw [List.foldl_append]; rfl
theorem wAt_len' : ∀ (es : List Ent) (l : List Int), (es.foldl (fun l e => l.set e.place (l.getD e.place 0 + wval e)) l).length = l.length
  | [], _ => rfl
  | e :: r, l => by rw [List.foldl_cons, wAt_len' r, List.length_set]
theorem wAt_len (es : List Ent) : (wAt es).length = 4 := wAt_len' es _
/-- what the law needs of its numbers -/
structure Fit2 (nums : List Nat) (a b g d : Int) : Prop where
  w : wAt (entsOf nums 6) = [a, b, g, d]
  ba : -3000000000 ≤ a ∧ a ≤ 3000000000
  bb : -3000000000 ≤ b ∧ b ≤ 3000000000
  bg : -3000000000 ≤ g ∧ g ≤ 3000000000
  bd : -3000000000 ≤ d ∧ d ≤ 3000000000
  bw : ∀ x, x < 4 → -3000000000 ≤ Wt (tabOf (entsOf nums 6)) x ∧ Wt (tabOf (entsOf nums 6)) x ≤ 3000000000
  tot : ∀ p q, 0 < p → p < 4 → 0 < q → q < 3 → totalOf (Wt (tabOf (entsOf nums 6))) (frontOf p q) q (words (p + q)) = series a b g d p q
theorem ents_ok (nums : List Nat) (k : Nat) : ∀ e ∈ entsOf nums k, e.place < 4 ∧ e.sizes < 4 ∧ e.weight < 1000000000 := by
  intro e he
  obtain ⟨i, _, rfl⟩ := List.mem_map.mp he
  unfold ent
  refine ⟨?_, Nat.mod_lt _ (by decide), Nat.mod_lt _ (by decide)⟩
  by_cases q : i < 4
  · rw [if_pos q]; exact q
  · rw [if_neg q]; exact Nat.mod_lt _ (by decide)
theorem entsOf_len (nums : List Nat) (k : Nat) : (entsOf nums k).length = k := by unfold entsOf; simp
theorem ab_get (i : Nat) (hi : i < 2) : (Str.ofString "ab").cps[i]? = some (97 + i) := by
  have : ∀ i : Fin 2, (Str.ofString "ab").cps[i.val]? = some (97 + i.val) := by decide +kernel
  exact this ⟨i, hi⟩
theorem xy_get (i : Nat) (hi : i < 2) : (Str.ofString "xy").cps[i]? = some (120 + i) := by
  have : ∀ i : Fin 2, (Str.ofString "xy").cps[i.val]? = some (120 + i.val) := by decide +kernel
  exact this ⟨i, hi⟩
theorem name_at {f r : Nat} (hf : f < 2) (hr : r < 2) : (⟨#[97 + f]⟩ : Str) ++ ⟨#[120 + r]⟩ = mkS (lname (2 * f + r) 0) := by
  have key : ∀ f r : Fin 2, ((⟨#[97 + f.val]⟩ : Str) ++ ⟨#[120 + r.val]⟩ == mkS (lname (2 * f.val + r.val) 0)) = true := by decide +kernel
  exact eq_of_beq (key ⟨f, hf⟩ ⟨r, hr⟩)

open PySem PySem.W PySem.Spec PySem.Calls PyProof.Rows

theorem touchPB0 : Touch PySem.Challenge.rw_sn0093_02 hd0.heap_1 := by
  k_fill
  trivial

theorem sub_ab {c : Act} {fr : Frame} {σ : Store} {Φ : V → Store → Prop} {value slice : Expr} {j : Nat} (hj : j < 2) (h : Φ (.str ⟨#[97 + j]⟩) σ) (hsl : ∀ o k, subscripted slice false o k = operate [o, k] (getItem o k) := by intros; with_unfolding_all rfl) : Sub c value slice (.str (Str.ofString "ab")) (.int (j : Int)) fr σ Φ :=
  sub_str (by omega) (by omega) (by rw [Int.toNat_natCast]; exact ab_get _ hj) h hsl
theorem sub_xy {c : Act} {fr : Frame} {σ : Store} {Φ : V → Store → Prop} {value slice : Expr} {j : Nat} (hj : j < 2) (h : Φ (.str ⟨#[120 + j]⟩) σ) (hsl : ∀ o k, subscripted slice false o k = operate [o, k] (getItem o k) := by intros; with_unfolding_all rfl) : Sub c value slice (.str (Str.ofString "xy")) (.int (j : Int)) fr σ Φ :=
  sub_str (by omega) (by omega) (by rw [Int.toNat_natCast]; exact xy_get _ hj) h hsl
theorem sub_ents {c : Act} {fr : Frame} {σ : Store} {Φ : V → Store → Prop} {value slice : Expr} {es : List Ent} {j : Nat} {e : Ent} (hj : es[j]? = some e) (hl : es.length < 1000) (h : Φ (entV e) σ) (hsl : ∀ o k, subscripted slice false o k = operate [o, k] (getItem o k) := by intros; with_unfolding_all rfl) : Sub c value slice (.lst (es.map entV)) (.int (j : Int)) fr σ Φ :=
  sub_list .lst (by omega) (by have := (List.getElem?_eq_some_iff.mp hj).1; omega) (by rw [Int.toNat_natCast, List.getElem?_map, hj]; rfl) h hsl

theorem six {α : Type} {l : List α} (h : l.length = 6) : ∃ a b c d e f, l = [a, b, c, d, e, f] := by
  match l, h with
  | [a, b, c, d, e, f], _ => exact ⟨a, b, c, d, e, f, rfl⟩
theorem body_eq {K : Frag} {f : Addr} {o o' : Obj} {fd fd' : FuncData} {b b' : List Stmt} {s s' : Scope} (h : K.lookup f = some o) (h' : K.lookup f = some o') (d : o.data = .func fd) (d' : o'.data = .func fd') (hb : fd.body = .stmts b) (hb' : fd'.body = .stmts b') (hs : fd.scope = s) (hs' : fd'.scope = s') : b = b' ∧ s = s' := by
  rw [h] at h'; cases h'
  rw [d] at d'; cases d'
  rw [hb] at hb'; cases hb'
  rw [hs] at hs'; cases hs'
  exact ⟨rfl, rfl⟩

theorem run_get {u k : Nat} (hk : k < 2) : [V.str (mkS (runC u 0)), V.str (mkS (runC u 1))][((k : Int)).toNat]? = some (V.str (mkS (runC u k))) := by
  rw [Int.toNat_natCast]
  have : k = 0 ∨ k = 1 := by omega
  rcases this with rfl | rfl <;> rfl
theorem runC_len (u k : Nat) : (runC u k).length = u + k + 1 := by unfold runC; simp
theorem runs_short {u : Nat} (hu : u < 2) : ∀ (l : List Nat), (∀ x ∈ l, x < 2) → l.length < 100 → ((l.map fun (k : Nat) => mkS (runC u k)).map Str.length).sum + (l.map fun (k : Nat) => mkS (runC u k)).length * (Str.ofString "").length ≤ 1000000 := by
  intro l h hl
  have e0 : (Str.ofString "").length = 0 := by decide
  rw [e0, Nat.mul_zero, Nat.add_zero]
  have key : ∀ l : List Nat, (∀ k ∈ l, k < 2) → ((l.map fun (k : Nat) => mkS (runC u k)).map Str.length).sum ≤ 3 * l.length := fun l => by
    induction l with
    | nil => intro _; simp
    | cons a r ih =>
      intro hh
      have h1 := ih fun k hk => hh k (List.mem_cons_of_mem _ hk)
      have h2 := hh a (List.mem_cons_self ..)
      rw [List.map_cons, List.map_cons, List.sum_cons, List.length_cons, mkS_len, runC_len]
      omega
  have := key l h
  omega
theorem runs_short2 {u v : Nat} (hu : u < 2) (hv : v < 2) : ∀ (l : List Nat), (∀ x ∈ l, x < 2) → l.length < 100 → (l.map (runC u)).flatten.length + (List.replicate v 32).length ≤ 1000000 := by
  intro l h hl
  have h1 := leadC_len hu hv l h
  unfold leadC at h1
  rw [List.length_append] at h1
  omega
theorem runs_join (u : Nat) (l : List Nat) : Txt.join (Str.ofString "") (l.map fun (k : Nat) => mkS (runC u k)) = mkS (l.map (runC u)).flatten := by
  have := join0 (l.map (runC u))
  rw [List.map_map] at this
  exact this
theorem spaces (m : Nat) : Txt.mul (Str.ofString " ") (m : Int) = mkS (List.replicate m 32) := by
  have := mul1 32 (m : Int)
  rw [Int.toNat_natCast] at this
  exact this
theorem rep_ivs (n : Nat) (x : Nat) : (List.replicate n [V.int (x : Int)]).flatten = nvs (List.replicate n x) := by unfold nvs ivs; simp
theorem sum_cast : ∀ l : List Nat, (l.map fun (x : Nat) => (x : Int)).sum = ((l.sum : Nat) : Int)
  | [] => rfl
  | a :: r => by rw [List.map_cons, List.sum_cons, List.sum_cons, sum_cast r]; omega
theorem tab_low {es : List Ent} (hok : ∀ e ∈ es, e.place < 4 ∧ e.sizes < 4 ∧ e.weight < 1000000000) : ∀ p ∈ tabOf es, Txt.lower (mkS p.1) = mkS (low p.1) := by
  intro p hp
  obtain ⟨e, he, rfl⟩ := List.mem_map.mp hp
  exact (lname_facts (hok e he).1 (hok e he).2.1).1
theorem tab_short {es : List Ent} (hok : ∀ e ∈ es, e.place < 4 ∧ e.sizes < 4 ∧ e.weight < 1000000000) : ∀ p ∈ tabOf es, p.1.length < 1000 := by
  intro p hp
  obtain ⟨e, he, rfl⟩ := List.mem_map.mp hp
  show 2 < 1000
  decide
theorem tab_val {es : List Ent} (hok : ∀ e ∈ es, e.place < 4 ∧ e.sizes < 4 ∧ e.weight < 1000000000) : ∀ p ∈ tabOf es, p.2.length ≤ 640 ∧ PySem.intText? (mkS p.2) = some (tval p.2) := by
  intro p hp
  obtain ⟨e, he, rfl⟩ := List.mem_map.mp hp
  have hw : e.weight < 10 ^ 10 := by have := (hok e he).2.2; omega
  have h1 := wtxt_len e hw
  have h2 := wtxt_int e hw
  refine ⟨by show (wtxt e).length ≤ 640; omega, ?_⟩
  show PySem.intText? (mkS (wtxt e)) = some ((PySem.intText? (mkS (wtxt e))).getD 0)
  rw [h2]; rfl
def wordV (w : List Nat) : V := .lst (nvs w)
def addV (w : List Nat) : V → V
  | .int i => .lst (ivs ((w.map fun (x : Nat) => (x : Int)) ++ [i]))
  | _ => .none
theorem words_V (k : Nat) : ((words k).flatMap fun a => (rngL 0 2 1).map (addV a)) = (words (k + 1)).map wordV := by
  have e : rngL 0 2 1 = [.int 0, .int 1] := by rfl
  rw [e, words]
  induction words k with
  | nil => rfl
  | cons b r ih =>
    rw [List.flatMap_cons, List.flatMap_cons, ih, List.map_append]
    congr 1
    unfold wordV addV nvs
    simp
theorem law_ex {mg : Str → Option Value} {mb : MB} {n : Nat} {c' : Act} {σ : Store} {Φ : V → Store → Prop} {ob : Obj} {fd : FuncData} {body : List Stmt} {scope : Scope} {L fA : Addr} {cdv : Value} {qual : Str}
    (look : (hd0.heap_1 mb.w.params).lookup 321 = some ob) (dat : ob.data = .func fd) (bd : fd.body = .stmts body) (sc : fd.scope = scope) (F' : Fact (hd0.heap_1 mb.w.params) mg mb (envOfC qual scope L fA cdv) (n + 4) c')
    {ns : List Int} (hI : IntsAre mb.vs ns) (hz : ns.length < 100000) {a b g d : Int} (H : Fit2 (numAt2 (ns.take 60) (ns.take 60).length) a b g d) (h : Φ (.bool true) σ) :
    Ex c' body (("script", some (V.raw (.ref mb.a))) :: ("numbers", none) :: ("k", none) :: ("x", none) :: ("table", none) :: ("p", none) :: ("q", none) :: ("end", none) :: ("front", none) :: ("lead", none) :: ("rows", none) :: ("total", none) :: ("row", none) :: ("alike", none) :: ("product", none) :: ("weights", none) :: ("place", none) :: ("sizes", none) :: ("below", none) :: ("weight", none) :: [] : Frame) ((L + 1, O.cell (none)) :: (L + 2, O.cell (none)) :: (L + 3, O.cell (none)) :: (L + 4, O.cell (none)) :: σ) fun fl _ σ' => ∃ v σ'', RetV fl v ∧ Less σ'' σ' ∧ Φ v σ'' := by
  obtain ⟨e1, e2⟩ := body_eq look (by k_is) dat (by rfl) bd (by rfl) sc (by rfl)
  subst e1 e2
  refine ex_asg F' ?_
  refine ev_lst ?_
  wtm_at "zes"
  refine ⟨by decide, fun N => ?_⟩
  wtm_at "zas"
  refine ex_for_enum (vs := ivs (ns.take 60)) F' (fun k fr' σ' => ∃ o1 o2, fr' = (("script", some (V.raw (.ref mb.a))) :: ("numbers", some (V.raw (.ref N))) :: ("k", o1) :: ("x", o2) :: ("table", none) :: ("p", none) :: ("q", none) :: ("end", none) :: ("front", none) :: ("lead", none) :: ("rows", none) :: ("total", none) :: ("row", none) :: ("alike", none) :: ("product", none) :: ("weights", none) :: ("place", none) :: ("sizes", none) :: ("below", none) :: ("weight", none) :: [] : Frame) ∧ σ' = (N, .list (nvs (numAt2 (ns.take 60) k))) :: (L + 1, O.cell (none)) :: (L + 2, O.cell (none)) :: (L + 3, O.cell (none)) :: (L + 4, O.cell (none)) :: σ) (fun _ _ => False) ?_ ?_ ?_ ?_ ?_ ?_
  · wtm_at "zes"
    exact ⟨rfl, rfl⟩
  · wtm_at "zes"
    refine evp_some ?_
    wtm_at "zes"
    refine ⟨_, rfl, ?_⟩
    refine evp_none ?_
    refine slc_given F'.scr hI hz 60 ?_
    wtm_at "zes"
    exact ⟨rfl, rfl⟩
  · exact ⟨_, _, rfl, rfl⟩
  · rintro c₂ F₂ k x fr' σ' hx ⟨o1, o2, rfl, rfl⟩
    rw [enumV_get0] at hx
    cases hv : (ivs (ns.take 60))[k]? with
    | none => rw [hv] at hx; cases hx
    | some v =>
      rw [hv] at hx; cases hx
      have hk : k < (ns.take 60).length := by have := (List.getElem?_eq_some_iff.mp hv).1; unfold ivs at this; rwa [List.length_map] at this
      rw [iv_get hk] at hv
      cases hv
      have hstep : numAt2 (ns.take 60) (k + 1) = (numAt2 (ns.take 60) k).set (k % 7) ((numAt2 (ns.take 60) k).getD (k % 7) 0 + ((ns.take 60).getD k 0 % 1000000000000).toNat) := rfl
      have hln := numAt2_len (ns.take 60) k
      rw [hstep]
      generalize numAt2 (ns.take 60) k = cur at hln ⊢
      generalize (ns.take 60).getD k 0 = x
      wtm_at "zas"
      refine ex_augsub ?_
      wtm_at "zes"
      refine ⟨_, rfl, ?_⟩
      wtm_at "zes"
      have hlt : k % 7 < cur.length := by rw [hln]; exact Nat.mod_lt _ (by decide)
      refine ⟨_, _, _, rfl, by wtm_at "zmem", by omega, by rw [emod7]; exact nvs_get7 hlt, by omega, ?_⟩
      wtm_at "zes"
      refine bin_pow (n := 12) (by decide +kernel) ?_
      refine bin_mod (by decide) ?_
      wtm_at "zes"
      refine ⟨_, _, by wtm_at "zmem", by rw [emod7, nvs_len]; exact hlt, by wtm_at "zputa", ?_⟩
      refine ex_nil ⟨_, List.Sublist.refl _, _, _, rfl, ?_⟩
      have e12 : ((cur.getD (k % 7) 0 : Nat) : Int) + x % 10 ^ 12 = ((cur.getD (k % 7) 0 + (x % 1000000000000).toNat : Nat) : Int) := by
        rw [show (10 : Int) ^ 12 = 1000000000000 from by decide]; omega
      rw [emod7, e12, nvs_set]
  rotate_left
  · rintro _ _ ⟨⟩
  rintro fr' σ' ⟨o1, o0, rfl, rfl⟩
  rw [iv_len]
  have hln := numAt2_len (ns.take 60) (ns.take 60).length
  generalize numAt2 (ns.take 60) (ns.take 60).length = nums at H hln ⊢
  refine ex_freeze "numbers" (by wtm_at "zmem") (by wtm_at "zmem") (by wtm_at "zput") .head ?_
  refine ex_asg F' ?_
  refine ev_call ?_
  wtm_at "zes"
  refine ⟨_, rfl, cw_K F' (by k_is), ?_⟩
  wtm_at "zes"
  refine law_entries F' (by omega) (by omega) ?_
  have hel := entsOf_len nums 6
  have hok := ents_ok nums 6
  have hw := H.w
  have hbw := H.bw
  have htot := H.tot
  generalize entsOf nums 6 = es at hel hok hw hbw htot ⊢
  wtm_at "zas"
  refine ex_asg F' ?_
  refine ev_call ?_
  wtm_at "zes"
  refine ⟨_, rfl, cw_K F' (by k_is), ?_⟩
  refine evl_cons ?_
  refine ev_call ?_
  wtm_at "zes"
  refine ⟨_, rfl, cw_K F' (by k_is), ?_⟩
  wtm_at "zes"
  refine law_octets F' (by omega) hok ?_
  wtm_at "zes"
  refine law_table F' hok (by omega) fun T => ?_
  wtm_at "zas"
  -- signed
  refine ex_asg F' ?_
  refine ev_frozen (vs := es.map fun e => V.str (mkS (wtxt e))) ?_ ?_
  · refine ev_comp F' (v := .lst (es.map entV)) (l := es) (fx := entV) (fy := fun e => some (V.str (mkS (wtxt e)))) (cl := []) (fr0 := [("place", none), ("sizes", none), ("below", none), ("weight", none)]) ?_ (.view .lst) rfl ?_ (by omega) ?_ ?_
    · wtm_at "zes"
      exact ⟨rfl, rfl⟩
    · exact ⟨rfl, fun _ => rfl, rfl, by decide +kernel, by decide +kernel, by simp, by decide +kernel, fun C p hp => by
        simp only [List.mem_cons, List.not_mem_nil, or_false] at hp
        rcases hp with rfl | rfl | rfl | rfl <;> rfl⟩
    · intro C c₂ F₂ _ e he
      have hok1 := hok e he
      unfold entV
      wtm_at "zas"
      refine ⟨rfl, rfl, ?_⟩
      refine ifb_t ⟨_, rfl, ?_⟩
      refine ev_bin ?_
      refine ev_ifj (b := e.below) (w := .str (mkS (if e.below then [45] else []))) (u := .str (mkS [45])) (v := .str (mkS [])) ?_ ?_ ?_ ?_ ?_
      · refine te_plain ?_ (by rfl)
        wtm_at "zes"
        exact ⟨rfl, rfl⟩
      · wtm_at "zes"
        exact ⟨rfl, rfl⟩
      · wtm_at "zes"
        exact ⟨rfl, rfl⟩
      · cases e.below <;> rfl
      refine ev_call ?_
      wtm_at "zes"
      refine ⟨_, rfl, cw_type, ?_⟩
      wtm_at "zes"
      refine cl_str (by omega) ?_
      rw [dig_mk]
      have hdl := dig_len (w := e.weight) (by omega)
      refine bin_sadd (by rw [mkS_len, mkS_len]; cases e.below <;> simp <;> omega) ?_
      rw [mkS_app]
      exact ⟨rfl, rfl⟩
    · intro D
      exact ⟨_, rfl, by rw [fm_some]⟩
  wtm_at "zas"
  -- the pairs are the entries as spelled
  have hps : (tabOf es).length = 6 := by unfold tabOf; rw [List.length_map]; exact hel
  have hasc : ∀ p ∈ tabOf es, (∀ k ∈ p.1, k < 128) ∧ ∀ k ∈ p.2, k < 128 := by
    intro p hp
    obtain ⟨e, he, rfl⟩ := List.mem_map.mp hp
    have := hok e he
    exact ⟨fun k hk => by have := (lname_facts this.1 this.2.1).2.2 k hk; omega, fun k hk => by have := wtxt_ok e k hk; omega⟩
  refine ex_if ?_
  refine te_cmp ?_
  refine ev_meth0 ?_
  wtm_at "zes"
  refine ⟨_, _, getm_user F' .obj (f := 236) ⟨by k_is, by k_is, by k_is, by k_is⟩ rfl, cw_K F' (by k_is), ?_⟩
  refine hitems F' (by wtm_at "zmem") (by rw [List.length_map]; omega) ?_
  refine ev_frozen (vs := (tabOf es).map pv) ?_ ?_
  · refine ev_comp F' (v := .rng 0 6 1) (l := List.range 6) (fx := fun (k : Nat) => V.int (0 + (k : Int) * 1)) (fy := fun k => (es[k]?).map fun e => pv (lname e.place e.sizes, wtxt e)) (cl := [("signed", L + 2), ("entries", L + 1)]) (fr0 := [("k", none)]) ?_ (.rng (by decide) (by decide)) rfl ?_ (by decide) ?_ ?_
    · refine ev_call ?_
      wtm_at "zes"
      refine ⟨_, rfl, cw_type, ?_⟩
      wtm_at "zes"
      exact cl_range1 ⟨rfl, rfl⟩
    · exact ⟨rfl, fun _ => rfl, rfl, by decide +kernel, by decide +kernel, by simp, by decide +kernel, fun C p hp => by rw [List.mem_singleton.mp hp]; rfl⟩
    · intro C c₂ F₂ _ k hk
      have hk6 := List.mem_range.mp hk
      obtain ⟨e, he⟩ : ∃ e, es[k]? = some e := ⟨_, List.getElem?_eq_getElem (by omega)⟩
      have hok1 := hok e (List.mem_of_getElem? he)
      show Asg c₂ _ (V.int (0 + (k : Int) * 1)) _ _ _
      rw [show (0 + (k : Int) * 1) = (k : Int) by omega]
      wtm_at "zas"
      refine ⟨rfl, rfl, ?_⟩
      refine ifb_t ⟨_, by show Option.map _ es[k]? = _; rw [he]; rfl, ?_⟩
      refine ev_tup ?_
      refine evl_cons ?_
      refine ev_call ?_
      wtm_at "zes"
      refine ⟨_, rfl, cw_K F₂ (by k_is), ?_⟩
      wtm_at "zes"
      refine sub_ents he (by omega) ?_
      wtm_at "zes"
      refine sub_tup (by decide) (by decide) rfl ?_
      wtm_at "zes"
      refine sub_ents he (by omega) ?_
      wtm_at "zes"
      refine sub_tup (by decide) (by decide) rfl ?_
      wtm_at "zes"
      refine law_name F₂ hok1.1 hok1.2.1 ?_
      wtm_at "zes"
      refine sub_list .lst (by omega) (by omega) (by rw [Int.toNat_natCast, List.getElem?_map, he]; rfl) ?_
      wtm_at "zes"
      exact ⟨by simp, rfl, rfl⟩
    · intro D
      refine ⟨_, rfl, ?_⟩
      have e6 : (List.range 6).filterMap (fun k => (es[k]?).map fun e => pv (lname e.place e.sizes, wtxt e)) = (tabOf es).map pv := by
        obtain ⟨e0, e1, e2, e3, e4, e5, rfl⟩ := six hel
        rfl
      rw [e6]
  refine cmp_dneD F' (dPairs (tabOf es)) (dPairs (tabOf es)) ?_ ?_ (dPairs_ok _ hasc) (dPairs_ok _ hasc) (by decide) ?_
  · rw [dPairs_toV]; rfl
  · rw [dPairs_toV]; rfl
  rw [SeqAt.eqv_refl _ (dPairs_ok _ hasc).cl]
  wtm_at "zes"
  refine ifb_f (ex_nil ?_)

  -- the shape
  refine ex_asg F' ?_
  wtm_at "zes"
  refine sub_list .lst (by decide) (by decide) (nvs_get7 (i := 6) (by omega)) ?_
  generalize nums.getD 6 0 = sh
  wtm_at "zas"
  refine ex_asg F' ?_
  wtm_at "zes"
  obtain ⟨p, hp, ep⟩ : ∃ p : Nat, (0 < p ∧ p < 4) ∧ 1 + (sh : Int) % 3 = (p : Int) := ⟨1 + sh % 3, by omega, by omega⟩
  rw [ep]
  clear ep
  wtm_at "zas"
  refine ex_asg F' ?_
  wtm_at "zes"
  obtain ⟨q, hq, eq⟩ : ∃ q : Nat, (0 < q ∧ q < 3) ∧ 1 + (sh : Int) / 3 % 2 = (q : Int) := ⟨1 + sh / 3 % 2, by omega, by omega⟩
  rw [eq]
  clear eq
  wtm_at "zas"
  obtain ⟨u, hu2, eu⟩ : ∃ u : Nat, u < 2 ∧ (sh : Int) / 6 % 2 = (u : Int) := ⟨sh / 6 % 2, by omega, by omega⟩
  refine ex_asg F' ?_
  refine ev_frozen (vs := [V.str (mkS (runC u 0)), V.str (mkS (runC u 1))]) ?_ ?_
  · refine ev_comp F' (v := .rng 0 2 1) (l := List.range 2) (fx := fun (k : Nat) => V.int (0 + (k : Int) * 1)) (fy := fun k => some (V.str (mkS (runC u k)))) (cl := [("shape", L + 3)]) (fr0 := [("kind", none)]) ?_ (.rng (by decide) (by decide)) rfl ?_ (by decide) ?_ ?_
    · refine ev_call ?_
      wtm_at "zes"
      refine ⟨_, rfl, cw_type, ?_⟩
      wtm_at "zes"
      exact cl_range1 ⟨rfl, rfl⟩
    · exact ⟨rfl, fun _ => rfl, rfl, by decide +kernel, by decide +kernel, by simp, by decide +kernel, fun C p hp => by rw [List.mem_singleton.mp hp]; rfl⟩
    · intro C c₂ F₂ _ k hk
      have hk2 := List.mem_range.mp hk
      show Asg c₂ _ (V.int (0 + (k : Int) * 1)) _ _ _
      rw [show (0 + (k : Int) * 1) = (k : Int) by omega]
      wtm_at "zas"
      refine ⟨rfl, rfl, ?_⟩
      refine ifb_t ⟨_, rfl, ?_⟩
      wtm_at "zes"
      rw [show (sh : Int) / 6 % 2 + (k : Int) = ((u + k : Nat) : Int) by omega]
      refine bin_smul (m := u + k) (by omega) (by decide) ?_
      wtm_at "zes"
      have e2 : mkS (List.replicate (u + k) 32) ++ Str.ofString "\t" = mkS (runC u k) := mkS_app _ [9]
      rw [spaces]
      refine bin_sadd ?_ ?_
      · rw [mkS_len, List.length_replicate]
        have : (Str.ofString "\t").length = 1 := by decide
        omega
      exact ⟨by rw [e2], rfl⟩
    · intro D
      exact ⟨_, rfl, rfl⟩
  clear eu
  wtm_at "zas"
  refine ex_asg F' ?_
  wtm_at "zes"
  obtain ⟨v, hv2, ev⟩ : ∃ v : Nat, v < 2 ∧ (sh : Int) / 12 % 2 = (v : Int) := ⟨sh / 12 % 2, by omega, by omega⟩
  rw [ev]
  clear ev
  refine bin_smul (m := v) (by omega) (by decide) ?_
  rw [spaces]
  wtm_at "zas"
  refine ex_asg F' ?_
  refine ev_bin ?_
  refine ev_bin ?_
  refine ev_lstF ?_
  wtm_at "zes"
  refine ⟨by decide, ?_⟩
  wtm_at "zes"
  have et : ∀ m : Nat, ((m : Int)).toNat = m := fun m => Int.toNat_natCast m
  refine bin_lmul .lst (by omega) (by rw [et]; simp; omega) (by omega) ?_
  refine ev_bin ?_
  refine ev_lstF ?_
  wtm_at "zes"
  refine ⟨by decide, ?_⟩
  wtm_at "zes"
  refine bin_lmul .lst (by omega) (by rw [et]; simp; omega) (by omega) ?_
  rw [et, et, show (V.int 0) = V.int ((0 : Nat) : Int) from rfl, show (V.int 1) = V.int ((1 : Nat) : Int) from rfl, rep_ivs, rep_ivs]
  refine bin_ladd .lst .lst (by rw [nvs_len, nvs_len, List.length_replicate, List.length_replicate]; omega) ?_
  rw [nvs_app, show List.replicate p 0 ++ List.replicate q 1 = frontOf p q from rfl]
  have hfl := frontOf_len p q
  have hf2 := frontOf_lt p q
  have hal := alike_ok hu2 hp hq
  have htt := htot p q hp.1 hp.2 hq.1 hq.2
  generalize frontOf p q = front at hfl hf2 hal htt ⊢
  wtm_at "zas"
  refine ex_asg F' ?_
  refine ev_call ?_
  wtm_at "zes"
  refine ⟨_, rfl, cw_K F' (by k_is), ?_⟩
  refine evl_cons ?_
  refine ev_bin ?_
  refine ev_meth ?_
  wtm_at "zes"
  refine ⟨_, _, getm_join, cw_builtin, ?_⟩
  refine evl_cons ?_
  refine ev_frozen (vs := svs (front.map fun (k : Nat) => mkS (runC u k))) ?_ ?_
  · refine ev_comp F' (v := .lst (nvs front)) (l := front) (fx := fun (k : Nat) => V.int (k : Int)) (fy := fun (k : Nat) => some (.str (mkS (runC u k)))) (cl := [("runs", L + 4)]) (fr0 := [("kind", none)]) ?_ (.view .lst) (by unfold nvs; exact ivs_cast _) ?_ (by omega) ?_ ?_
    · wtm_at "zes"
      exact ⟨rfl, rfl⟩
    · exact ⟨rfl, fun _ => rfl, rfl, by decide +kernel, by decide +kernel, by simp, by decide +kernel, fun C p hp => by rw [List.mem_singleton.mp hp]; rfl⟩
    · intro C c₃ F₃ _ k hk
      have hk2 := hf2 k hk
      wtm_at "zas"
      refine ⟨rfl, rfl, ?_⟩
      refine ifb_t ⟨_, rfl, ?_⟩
      wtm_at "zes"
      refine sub_list .lst (by omega) (by omega) (run_get hk2) ?_
      exact ⟨rfl, rfl⟩
    · intro D
      refine ⟨D, rfl, ?_⟩
      rw [fm_some, svs, List.map_map]
      rfl
  wtm_at "zes"
  refine cl_join .lst (runs_short hu2 _ hf2 (by omega)) ?_
  rw [runs_join]
  wtm_at "zes"
  refine bin_sadd (by rw [mkS_len, mkS_len]; exact runs_short2 hu2 hv2 _ hf2 (by omega)) ?_
  rw [mkS_app]
  wtm_at "zes"
  have A1len := leadC_len hu2 hv2 _ hf2
  refine cl_make F' (fI := 62) ⟨by k_is, by k_is, by k_is⟩ fun A1 FA1 yA1 dA1 => ?_
  refine ws_init FA1 (codes := leadC u v front) (by omega) (leadC_lt u v _) rfl fun nA1 ntA1 sA1 => ?_
  refine ⟨rfl, _, _, by wtm_at "zmem", .head, ?_⟩
  rw [wsRun_leadC]
  wtm_at "zas"
  -- the words
  refine ex_asg F' ?_
  refine ev_lstF ?_
  refine evl_cons ?_
  refine ev_lstF ?_
  wtm_at "zes"
  refine ⟨by simp, ?_⟩
  wtm_at "zes"
  refine ⟨by simp, ?_⟩
  wtm_at "zas"
  refine ex_for F' (v := .rng 0 ((p + q : Nat) : Int) 1) (xs := (List.range (p + q)).map fun (i : Nat) => V.int (0 + (i : Int) * 1)) (fun k fr' σ' => ∃ o1, fr' = (("script", some (V.raw (.ref mb.a))) :: ("numbers", some (V.lst (nvs nums))) :: ("k", o1) :: ("x", o0) :: ("table", some (V.obj 272 (hdr T))) :: ("p", some (V.int (p : Int))) :: ("q", some (V.int (q : Int))) :: ("end", some (V.str (mkS (List.replicate v 32)))) :: ("front", some (V.lst (nvs front))) :: ("lead", some (V.obj 107 (wsF (mkS (leadC u v front)) nA1 ntA1 (cntOf u front) v sA1))) :: ("rows", some (V.lst ((words k).map wordV))) :: ("total", none) :: ("row", none) :: ("alike", none) :: ("product", none) :: ("weights", none) :: ("place", none) :: ("sizes", none) :: ("below", none) :: ("weight", none) :: [] : Frame) ∧ σ' = (T, O.list ((tabOf es).map pv)) :: (L + 1, O.cell (some (V.lst (es.map entV)))) :: (L + 2, O.cell (some (V.lst (es.map fun e => V.str (mkS (wtxt e)))))) :: (L + 3, O.cell (some (V.int (sh : Int)))) :: (L + 4, O.cell (some (V.lst [V.str (mkS (runC u 0)), V.str (mkS (runC u 1))]))) :: σ) (fun _ _ => False) ?_ (src_rng (by omega)) ⟨_, rfl, rfl⟩ (fun _ _ _ _ => src_rng (by omega)) ?_ ?_ (fun _ _ h => h.elim)
  · refine ev_call ?_
    wtm_at "zes"
    refine ⟨_, rfl, cw_type, ?_⟩
    wtm_at "zes"
    exact cl_range1 ⟨by rw [show ((p + q : Nat) : Int) = (p : Int) + (q : Int) by omega], rfl⟩
  · rintro c₂ F₂ k x fr' σ' hx ⟨o1, rfl, rfl⟩
    rw [List.getElem?_map] at hx
    obtain ⟨i, hi, rfl⟩ := Option.map_eq_some_iff.mp hx
    obtain ⟨hk, e⟩ := List.getElem?_eq_some_iff.mp hi
    rw [List.length_range] at hk
    have hwl := words_len k
    have h2k : 2 ^ k ≤ 2 ^ 5 := Nat.pow_le_pow_right (by decide) (by omega)
    wtm_at "zas"
    refine ex_comp2U F₂ (v := .lst ((words k).map wordV)) (v2 := .rng 0 2 1) (l := words k) (fx := wordV) (ys := rngL 0 2 1) (fz := addV) (cl := []) (fr0 := [("row", none), ("kind", none)]) (fr' := fun D => (("script", some (V.raw (.ref mb.a))) :: ("numbers", some (V.lst (nvs nums))) :: ("k", some (V.int (0 + (i : Int) * 1))) :: ("x", o0) :: ("table", some (V.obj 272 (hdr T))) :: ("p", some (V.int (p : Int))) :: ("q", some (V.int (q : Int))) :: ("end", some (V.str (mkS (List.replicate v 32)))) :: ("front", some (V.lst (nvs front))) :: ("lead", some (V.obj 107 (wsF (mkS (leadC u v front)) nA1 ntA1 (cntOf u front) v sA1))) :: ("rows", some (V.raw (.ref D))) :: ("total", none) :: ("row", none) :: ("alike", none) :: ("product", none) :: ("weights", none) :: ("place", none) :: ("sizes", none) :: ("below", none) :: ("weight", none) :: [] : Frame)) ?_ .lst ?_ (by omega) (fun _ _ => rfl) (.mk (by decide) (by decide)) ?_ ?_ (fun D => by wtm_at "zput") (fun D => ?_)
    · wtm_at "zes"
      exact ⟨rfl, rfl⟩
    · exact ⟨rfl, fun _ => rfl, rfl, by decide +kernel, by decide +kernel, by simp, by decide +kernel, fun C p hp => by
        simp only [List.mem_cons, List.not_mem_nil, or_false] at hp
        rcases hp with rfl | rfl <;> rfl⟩
    · have : (rngL 0 2 1).length = 2 := rfl
      rw [this]; omega
    · intro C c₃ F₃ _ w hw
      wtm_at "zas"
      refine ⟨rfl, rfl, ?_, ?_⟩
      · refine ev_call ?_
        wtm_at "zes"
        refine ⟨_, rfl, cw_type, ?_⟩
        wtm_at "zes"
        exact cl_range1 ⟨rfl, rfl⟩
      · intro c₄ F₄ y hy
        have hwl2 := (words_ok k w hw).1
        obtain ⟨i, ei⟩ : ∃ i : Int, y = .int i := by
          have e : rngL 0 2 1 = [.int 0, .int 1] := by rfl
          rw [e] at hy
          simp only [List.mem_cons, List.not_mem_nil, or_false] at hy
          rcases hy with rfl | rfl <;> exact ⟨_, rfl⟩
        subst ei
        wtm_at "zas"
        refine ⟨rfl, rfl, fun x w hx => ?_, ?_⟩
        · rcases List.mem_cons.mp hx with e | hx
          · cases e; exact List.mem_cons_self ..
          · cases List.mem_singleton.mp hx
        unfold wordV
        refine ev_bin ?_
        wtm_at "zes"
        refine ev_lstF ?_
        wtm_at "zes"
        refine ⟨by simp, ?_⟩
        refine bin_ladd .lst .lst (by rw [nvs_len]; simp; omega) ?_
        refine ⟨?_, rfl⟩
        show V.lst (ivs (w.map fun (x : Nat) => (x : Int)) ++ ivs [i]) = V.lst (ivs ((w.map fun (x : Nat) => (x : Int)) ++ [i]))
        rw [ivs_app]
    rw [words_V]
    refine ex_freeze "rows" (by wtm_at "zmem") (by wtm_at "zmem") (by wtm_at "zput") .head ?_
    exact ex_nil ⟨_, List.Sublist.refl _, _, rfl, rfl⟩
  rintro fr' σ' ⟨o1, rfl, rfl⟩
  rw [List.length_map, List.length_range]
  refine ex_asg F' ?_
  wtm_at "zes"
  wtm_at "zas"
  have hws := words_ok (p + q)
  generalize words (p + q) = ws at hal htt hws ⊢
  -- over the leads
  refine ex_for F' (v := .lst (ws.map wordV)) (xs := ws.map wordV) (fun j fr' σ' => ∃ o1 o2 o3 o4, fr' = (("script", some (V.raw (.ref mb.a))) :: ("numbers", some (V.lst (nvs nums))) :: ("k", o1) :: ("x", o0) :: ("table", some (V.obj 272 (hdr T))) :: ("p", some (V.int (p : Int))) :: ("q", some (V.int (q : Int))) :: ("end", some (V.str (mkS (List.replicate v 32)))) :: ("front", some (V.lst (nvs front))) :: ("lead", some (V.obj 107 (wsF (mkS (leadC u v front)) nA1 ntA1 (cntOf u front) v sA1))) :: ("rows", some (V.lst (ws.map wordV))) :: ("total", some (V.int (totalOf (Wt (tabOf es)) front q (ws.take j)))) :: ("row", o2) :: ("alike", o3) :: ("product", o4) :: ("weights", none) :: ("place", none) :: ("sizes", none) :: ("below", none) :: ("weight", none) :: [] : Frame) ∧ σ' = (T, O.list ((tabOf es).map pv)) :: (L + 1, O.cell (some (V.lst (es.map entV)))) :: (L + 2, O.cell (some (V.lst (es.map fun e => V.str (mkS (wtxt e)))))) :: (L + 3, O.cell (some (V.int (sh : Int)))) :: (L + 4, O.cell (some (V.lst [V.str (mkS (runC u 0)), V.str (mkS (runC u 1))]))) :: σ) (fun _ _ => False) ?_ (.view .lst) ⟨_, _, _, _, rfl, rfl⟩ (fun _ _ _ _ => .view .lst) ?_ ?_ (fun _ _ h => h.elim)
  · wtm_at "zes"
    exact ⟨rfl, rfl⟩
  · rintro c₂ F₂ j x fr' σ' hx ⟨o1, o2, o3, o4, rfl, rfl⟩
    rw [List.getElem?_map] at hx
    obtain ⟨w, hw, rfl⟩ := Option.map_eq_some_iff.mp hx
    have hwm := List.mem_of_getElem? hw
    obtain ⟨hwl, hw2⟩ := hws w hwm
    have hstep := totalOf_succ (Wt (tabOf es)) front q ws j w hw
    rw [hstep]
    generalize totalOf (Wt (tabOf es)) front q (ws.take j) = tot
    unfold wordV
    wtm_at "zas"
    refine ex_asg F₂ ?_
    refine ev_meth ?_
    wtm_at "zes"
    refine ⟨_, _, getm_user F₂ .obj (f := 83) ⟨by k_is, by k_is, by k_is, by k_is⟩ rfl, cw_K F₂ (by k_is), ?_⟩
    refine evl_cons ?_
    refine ev_call ?_
    wtm_at "zes"
    refine ⟨_, rfl, cw_K F₂ (by k_is), ?_⟩
    refine evl_cons ?_
    refine ev_bin ?_
    refine ev_meth ?_
    wtm_at "zes"
    refine ⟨_, _, getm_join, cw_builtin, ?_⟩
    refine evl_cons ?_
    refine ev_frozen (vs := svs (w.map fun (k : Nat) => mkS (runC u k))) ?_ ?_
    · refine ev_comp F₂ (v := .lst (nvs w)) (l := w) (fx := fun (k : Nat) => V.int (k : Int)) (fy := fun (k : Nat) => some (.str (mkS (runC u k)))) (cl := [("runs", L + 4)]) (fr0 := [("kind", none)]) ?_ (.view .lst) (by unfold nvs; exact ivs_cast _) ?_ (by omega) ?_ ?_
      · wtm_at "zes"
        exact ⟨rfl, rfl⟩
      · exact ⟨rfl, fun _ => rfl, rfl, by decide +kernel, by decide +kernel, by simp, by decide +kernel, fun C p hp => by rw [List.mem_singleton.mp hp]; rfl⟩
      · intro C c₃ F₃ _ k hk
        have hk2 := hw2 k hk
        wtm_at "zas"
        refine ⟨rfl, rfl, ?_⟩
        refine ifb_t ⟨_, rfl, ?_⟩
        wtm_at "zes"
        refine sub_list .lst (by omega) (by omega) (run_get hk2) ?_
        exact ⟨rfl, rfl⟩
      · intro D
        refine ⟨D, rfl, ?_⟩
        rw [fm_some, svs, List.map_map]
        rfl
    wtm_at "zes"
    refine cl_join .lst (runs_short hu2 _ hw2 (by omega)) ?_
    rw [runs_join]
    wtm_at "zes"
    refine bin_sadd (by rw [mkS_len, mkS_len]; exact runs_short2 hu2 hv2 _ hw2 (by omega)) ?_
    rw [mkS_app]
    wtm_at "zes"
    have A2len := leadC_len hu2 hv2 _ hw2
    refine cl_make F₂ (fI := 62) ⟨by k_is, by k_is, by k_is⟩ fun A2 FA2 yA2 dA2 => ?_
    refine ws_init FA2 (codes := leadC u v w) (by omega) (leadC_lt u v _) rfl fun nA2 ntA2 sA2 => ?_
    refine ⟨rfl, _, _, by wtm_at "zmem", .head, ?_⟩
    rw [wsRun_leadC]
    wtm_at "zes"
    refine ws_eq F₂ (da := dNorm (cntOf u front) v) (db := dNorm (cntOf u w) v) (by rw [dNorm_toV]; rfl) (by rw [dNorm_toV]; rfl) (dNorm_ok _ _).nd (dNorm_ok _ _).nd (dNorm_ok _ _).cl (dNorm_ok _ _).cl (Nat.le_trans (dNorm_ok _ _).dp (by decide)) (by rw [dNorm_toV]; trivial) (by rw [dNorm_toV]; trivial) ?_
    have ealike : PyData.eqv (dNorm (cntOf u front) v) (dNorm (cntOf u w) v) = decide (w.sum = q) := by
      rw [eqv_norm, ← hal w hwm]
      exact decide_eq_decide.mpr ⟨fun z => z.1, fun z => ⟨z, rfl⟩⟩
    rw [ealike]
    wtm_at "zas"
    refine ex_if ?_
    refine te_cmp ?_
    wtm_at "zes"
    refine ev_call ?_
    wtm_at "zes"
    refine ⟨_, rfl, cw_builtin, ?_⟩
    wtm_at "zes"
    refine cl_suml F₂.hh .lst ?_
    rw [sum_cast]
    wtm_at "zes"
    refine cmp_bne ?_
    wtm_at "zes"
    have ecmp : (decide (w.sum = q) != decide (((w.sum : Nat) : Int) = (q : Int))) = false := by
      have e : decide (((w.sum : Nat) : Int) = (q : Int)) = decide (w.sum = q) := by rw [decide_eq_decide]; omega
      rw [e]; cases decide (w.sum = q) <;> rfl
    rw [ecmp]
    refine ifb_f (ex_nil ?_)
    refine ex_if ?_
    refine te_plain ?_ (by rfl)
    wtm_at "zes"
    refine ⟨fun hc => ?_, fun hc => ?_⟩
    · have hc := of_decide_eq_true hc
      rw [if_pos hc]
      refine ex_asg F₂ ?_
      wtm_at "zes"
      wtm_at "zas"
      refine ex_for F₂ (v := .rng 0 ((p + q : Nat) : Int) 1) (xs := (List.range (p + q)).map fun (i : Nat) => V.int (0 + (i : Int) * 1)) (fun i fr' σ' => ∃ o1, fr' = (("script", some (V.raw (.ref mb.a))) :: ("numbers", some (V.lst (nvs nums))) :: ("k", o1) :: ("x", o0) :: ("table", some (V.obj 272 (hdr T))) :: ("p", some (V.int (p : Int))) :: ("q", some (V.int (q : Int))) :: ("end", some (V.str (mkS (List.replicate v 32)))) :: ("front", some (V.lst (nvs front))) :: ("lead", some (V.obj 107 (wsF (mkS (leadC u v front)) nA1 ntA1 (cntOf u front) v sA1))) :: ("rows", some (V.lst (ws.map wordV))) :: ("total", some (V.int tot)) :: ("row", some (V.lst (nvs w))) :: ("alike", some (V.bool (decide (w.sum = q)))) :: ("product", some (V.int (prodK (Wt (tabOf es)) front w i))) :: ("weights", none) :: ("place", none) :: ("sizes", none) :: ("below", none) :: ("weight", none) :: [] : Frame) ∧ σ' = (T, O.list ((tabOf es).map pv)) :: (L + 1, O.cell (some (V.lst (es.map entV)))) :: (L + 2, O.cell (some (V.lst (es.map fun e => V.str (mkS (wtxt e)))))) :: (L + 3, O.cell (some (V.int (sh : Int)))) :: (L + 4, O.cell (some (V.lst [V.str (mkS (runC u 0)), V.str (mkS (runC u 1))]))) :: σ) (fun _ _ => False) ?_ (src_rng (by omega)) ⟨_, rfl, rfl⟩ (fun _ _ _ _ => src_rng (by omega)) ?_ ?_ (fun _ _ h => h.elim)
      · refine ev_call ?_
        wtm_at "zes"
        refine ⟨_, rfl, cw_type, ?_⟩
        wtm_at "zes"
        exact cl_range1 ⟨by rw [show ((p + q : Nat) : Int) = (p : Int) + (q : Int) by omega], rfl⟩
      · rintro c₃ F₃ i x fr' σ' hx ⟨o1, rfl, rfl⟩
        rw [List.getElem?_map] at hx
        obtain ⟨i', hi, rfl⟩ := Option.map_eq_some_iff.mp hx
        obtain ⟨hi2, e⟩ := List.getElem?_eq_some_iff.mp hi
        rw [List.length_range] at hi2
        rw [List.getElem_range] at e
        subst e
        rw [show (0 + (i : Int) * 1) = (i : Int) by omega]
        have hfi : front.getD i 0 < 2 := by
          rw [List.getD_eq_getElem?_getD, List.getElem?_eq_getElem (by omega)]
          exact hf2 _ (List.getElem_mem _)
        have hri : w.getD i 0 < 2 := by
          rw [List.getD_eq_getElem?_getD, List.getElem?_eq_getElem (by omega)]
          exact hw2 _ (List.getElem_mem _)
        have hpk : prodK (Wt (tabOf es)) front w (i + 1) = prodK (Wt (tabOf es)) front w i * Wt (tabOf es) (2 * front.getD i 0 + w.getD i 0) := rfl
        rw [hpk]
        have hbk := hbw (2 * front.getD i 0 + w.getD i 0) (by omega)
        wtm_at "zas"
        refine ex_aug F₃ (by wtm_at "zmem") ?_
        refine ev_call ?_
        wtm_at "zes"
        refine ⟨_, rfl, cw_K F₃ (by k_is), ?_⟩
        wtm_at "zes"
        refine sub_list .lst (by omega) (by omega) (by rw [Int.toNat_natCast]; exact nvs_get7 (by omega)) ?_
        refine sub_ab hfi ?_
        wtm_at "zes"
        refine sub_list .lst (by omega) (by omega) (by rw [Int.toNat_natCast]; exact nvs_get7 (by omega)) ?_
        refine sub_xy hri ?_
        refine bin_sadd (by show 1 + 1 ≤ 1000000; decide) ?_
        rw [name_at hfi hri]
        have hx4 : 2 * front.getD i 0 + w.getD i 0 < 4 := by omega
        generalize 2 * front.getD i 0 + w.getD i 0 = pl at hbk hx4 ⊢
        wtm_at "zes"
        have hnf := lname_facts hx4 (s := 0) (by decide)
        refine law_weight F₃ (by wtm_at "zmem") (tab_low hok) hnf.1 (by show 2 < 1000; decide) (by rw [hnf.2.1]; exact hnf.2.2) (tab_short hok) (by omega) (tab_val hok) ?_
        have hbits : Builtin.Int.intBits (Wt (tabOf es) pl) ≤ 64 := intBits_le_64 (by omega) (by omega)
        refine ibin_mul (.of_right hbits) ?_
        refine ⟨_, by wtm_at "zput", ?_⟩
        exact ex_nil ⟨_, List.Sublist.refl _, _, rfl, rfl⟩
      · rintro fr' σ' ⟨o1, rfl, rfl⟩
        rw [List.length_map, List.length_range, hfl]
        refine ex_aug F₂ (by wtm_at "zmem") ?_
        wtm_at "zes"
        refine ⟨_, by wtm_at "zput", ?_⟩
        exact ex_nil (ex_nil ⟨_, List.Sublist.refl _, _, _, _, _, rfl, rfl⟩)
    · have hc := of_decide_eq_false hc
      rw [if_neg hc, Int.add_zero]
      exact ex_nil (ex_nil ⟨_, List.Sublist.refl _, _, _, _, _, rfl, rfl⟩)
  rintro fr' σ' ⟨o1, o2, o3, o4, rfl, rfl⟩
  rw [List.length_map, List.take_length, htt]
  -- the weights
  refine ex_asg F' ?_
  refine ev_lst ?_
  wtm_at "zes"
  refine ⟨by decide, fun Q => ?_⟩
  wtm_at "zas"
  refine ex_for F' (v := .lst (es.map entV)) (xs := es.map entV) (fun k fr' σ' => ∃ o5 o6 o7 o8, fr' = (("script", some (V.raw (.ref mb.a))) :: ("numbers", some (V.lst (nvs nums))) :: ("k", o1) :: ("x", o0) :: ("table", some (V.obj 272 (hdr T))) :: ("p", some (V.int (p : Int))) :: ("q", some (V.int (q : Int))) :: ("end", some (V.str (mkS (List.replicate v 32)))) :: ("front", some (V.lst (nvs front))) :: ("lead", some (V.obj 107 (wsF (mkS (leadC u v front)) nA1 ntA1 (cntOf u front) v sA1))) :: ("rows", some (V.lst (ws.map wordV))) :: ("total", some (V.int (series a b g d p q))) :: ("row", o2) :: ("alike", o3) :: ("product", o4) :: ("weights", some (V.raw (.ref Q))) :: ("place", o5) :: ("sizes", o6) :: ("below", o7) :: ("weight", o8) :: [] : Frame) ∧ σ' = (Q, O.list (ivs (wAt (es.take k)))) :: (T, O.list ((tabOf es).map pv)) :: (L + 1, O.cell (some (V.lst (es.map entV)))) :: (L + 2, O.cell (some (V.lst (es.map fun e => V.str (mkS (wtxt e)))))) :: (L + 3, O.cell (some (V.int (sh : Int)))) :: (L + 4, O.cell (some (V.lst [V.str (mkS (runC u 0)), V.str (mkS (runC u 1))]))) :: σ) (fun _ _ => False) ?_ (.view .lst) ⟨_, _, _, _, rfl, rfl⟩ (fun _ _ _ _ => .view .lst) ?_ ?_ (fun _ _ h => h.elim)
  · wtm_at "zes"
    exact ⟨rfl, rfl⟩
  · rintro c₂ F₂ k x fr' σ' hx ⟨o5, o6, o7, o8, rfl, rfl⟩
    rw [List.getElem?_map] at hx
    obtain ⟨e, he, rfl⟩ := Option.map_eq_some_iff.mp hx
    have hok1 := hok e (List.mem_of_getElem? he)
    have hstep : wAt (es.take (k + 1)) = (wAt (es.take k)).set e.place ((wAt (es.take k)).getD e.place 0 + wval e) := by
      rw [List.take_add_one, he, show (some e).toList = [e] from rfl, wAt_snoc]
    have hwal := wAt_len (es.take k)
    rw [hstep]
    generalize wAt (es.take k) = cur at hwal ⊢
    unfold entV
    wtm_at "zas"
    refine ex_augsub ?_
    wtm_at "zes"
    refine ⟨_, rfl, ?_⟩
    wtm_at "zes"
    refine ⟨_, _, _, rfl, by wtm_at "zmem", by omega, by rw [Int.toNat_natCast]; exact iv_get (by omega), by omega, ?_⟩
    refine ev_ifj (b := e.below) (w := .int (wval e)) (u := .int (-(e.weight : Int))) (v := .int (e.weight : Int)) ?_ ?_ ?_ ?_ ?_
    · refine te_plain ?_ (by rfl)
      wtm_at "zes"
      exact ⟨rfl, rfl⟩
    · wtm_at "zes"
      exact ⟨rfl, rfl⟩
    · wtm_at "zes"
      exact ⟨rfl, rfl⟩
    · unfold wval
      cases e.below <;> rfl
    wtm_at "zes"
    refine ⟨_, _, by wtm_at "zmem", by rw [Int.toNat_natCast, iv_len]; omega, by wtm_at "zputa", ?_⟩
    refine ex_nil ⟨_, List.Sublist.refl _, _, _, _, _, rfl, ?_⟩
    rw [Int.toNat_natCast, iv_set]
  rintro fr' σ' ⟨o5, o6, o7, o8, rfl, rfl⟩
  rw [List.length_map, List.take_length, hw]
  refine ex_freeze "weights" (by wtm_at "zmem") (by wtm_at "zmem") (by wtm_at "zput") .head ?_
  refine ex_ret ?_
  wtm_at "zes"
  refine ev_call ?_
  wtm_at "zes"
  refine ⟨_, rfl, cw_K F' (by k_is), ?_⟩
  wtm_at "zes"
  refine law_series F' H.ba H.bb H.bg H.bd (by omega) (by omega) ?_
  refine cmp_eq ?_
  rw [decide_eq_true rfl]
  exact ⟨_, σ, .inl rfl, ((((List.sublist_cons_self _ _).cons _).cons _).cons _).cons _, h⟩

open PySem PySem.W PySem.Spec PySem.Calls PyProof.Rows

theorem touchD11 : Touch PySem.Challenge.rw_sn0093_02 hd0.heap_1 := by
  k_fill
  trivial

theorem joinT {ob : Obj} {fd : FuncData} {body : List Stmt} {scope : Scope} {L fA : Addr} {cdv : Value} {qual : Str} {prog : Program} {w : World} {s₁ : Shared} {h₁ : Heap} {tk₁ : Nat} {mg mb' m : Str → Option Value} {la : Addr} {lvs : List Value} {ns : List Int} {o1 o2 o3 o4 : Obj} {v1 v2 v3 v4 : Option Value} {A : Around}
    {Q : Flow → Shared → Prop} {E : Value → Shared → Prop} (P : ∃ a b g d, Fit2 (numAt2 (ns.take 60) (ns.take 60).length) a b g d)
    (look : (hd0.heap_1 w.params).lookup 321 = some ob) (dat : ob.data = .func fd) (bd : fd.body = .stmts body) (sc : fd.scope = scope) (hA : A = callerA.deeper (envOfC qual scope L fA cdv))
    (KX : (hd0.heap_1 w.params).In s₁.heap) (tg : s₁.heap.Ns mainGlobals mg) (tb : s₁.heap.Ns builtinsNs mb') (tbb : ∀ x : Str, x ≠ "__name__" → mb' x = bootBuiltins x) (tl : s₁.heap.NoLimit) (hL : s₁.heap.IsList la lvs.toArray) (hI : IntsAre lvs ns) (hz : ns.length < 100000)
    (F : Fr s₁.heap L h₁ m) (eL : L = s₁.heap.objs.size) (hm : m "script" = some (.ref la)) (N : News s₁.heap L h₁ [(L + 1 + 1 + 1 + 1, o1), (L + 1 + 1 + 1, o2), (L + 1 + 1, o3), (L + 1, o4)]) (d1 : o1.data = .cell v1) (d2 : o2.data = .cell v2) (d3 : o3.data = .cell v3) (d4 : o4.data = .cell v4)
    (fin : ∀ s' : Shared, (∀ b o, s₁.heap.get? b = some o → s'.heap.get? b = some o) → s'.os = s₁.os → s'.gens = s₁.gens → Q (.ret (.bool true)) s') :
    wpAny (model prog w) A (execs body (envOfC qual scope L fA cdv)) Q E ⟨h₁, s₁.gens, s₁.drawn, tk₁, s₁.os⟩ := by
  obtain ⟨a, b, g, d, H⟩ := P
  obtain ⟨e1, e2⟩ := body_eq look (by k_is) dat (by rfl) bd (by rfl) sc (by rfl)
  have FA : Fact (hd0.heap_1 w.params) mg ⟨mb', la, lvs, w⟩ (envOfC qual scope L fA cdv) 13 ⟨prog, w, A, envOfC qual scope L fA cdv, s₁.heap, [], s₁.gens, s₁.drawn, s₁.os⟩ := by
    subst hA
    exact ⟨rfl, rfl, (by show callerA.depth + 1 + 13 < 800; decide +kernel), (by show callerA.units + 3 + 40 * 13 + 200 < cLine; decide +kernel), (by subst e2; rfl), rfl, rfl, KX, tg, tb, tbb, tl, hL, rfl⟩
  have nl : ∀ b, L ≤ b → s₁.heap.get? b = none := fun b hb => by
    cases q : s₁.heap.get? b with
    | none => rfl
    | some o => exact absurd (Heap.lt_size q) (Nat.not_lt.mpr (eL ▸ hb))
  have st : St ⟨prog, w, A, envOfC qual scope L fA cdv, s₁.heap, [], s₁.gens, s₁.drawn, s₁.os⟩ [("script", some (V.raw (.ref la))), ("numbers", none), ("k", none), ("x", none), ("table", none), ("p", none), ("q", none), ("end", none), ("front", none), ("lead", none), ("rows", none), ("total", none), ("row", none), ("alike", none), ("product", none), ("weights", none), ("place", none), ("sizes", none), ("below", none), ("weight", none)] [(L + 1, O.cell none), (L + 2, O.cell none), (L + 3, O.cell none), (L + 4, O.cell none)] ⟨h₁, s₁.gens, s₁.drawn, tk₁, s₁.os⟩ := by
    refine ⟨⟨h₁, tk₁, rfl⟩, ⟨m, F.ns, fun x v hv => ?_⟩, (by show List.Nodup [(Str.ofString "script"), (Str.ofString "numbers"), (Str.ofString "k"), (Str.ofString "x"), (Str.ofString "table"), (Str.ofString "p"), (Str.ofString "q"), (Str.ofString "end"), (Str.ofString "front"), (Str.ofString "lead"), (Str.ofString "rows"), (Str.ofString "total"), (Str.ofString "row"), (Str.ofString "alike"), (Str.ofString "product"), (Str.ofString "weights"), (Str.ofString "place"), (Str.ofString "sizes"), (Str.ofString "below"), (Str.ofString "weight")]; decide +kernel), ?_, (fun b hb => by cases hb), F.keep, ?_, ?_, ?_⟩
    · rcases List.mem_cons.mp hv with e | hv
      · cases e; exact ⟨_, hm, .raw _⟩
      · exfalso
        repeat (rcases List.mem_cons.mp hv with e | hv; (· cases e))
        cases hv
    · have hk : ([(Str.ofString "script"), (Str.ofString "numbers"), (Str.ofString "k"), (Str.ofString "x"), (Str.ofString "table"), (Str.ofString "p"), (Str.ofString "q"), (Str.ofString "end"), (Str.ofString "front"), (Str.ofString "lead"), (Str.ofString "rows"), (Str.ofString "total"), (Str.ofString "row"), (Str.ofString "alike"), (Str.ofString "product"), (Str.ofString "weights"), (Str.ofString "place"), (Str.ofString "sizes"), (Str.ofString "below"), (Str.ofString "weight")].all fun x => scope.names.lookup x == some .local) = true := by subst e2; decide +kernel
      intro p hp
      have hp2 : p.1 ∈ [(Str.ofString "script"), (Str.ofString "numbers"), (Str.ofString "k"), (Str.ofString "x"), (Str.ofString "table"), (Str.ofString "p"), (Str.ofString "q"), (Str.ofString "end"), (Str.ofString "front"), (Str.ofString "lead"), (Str.ofString "rows"), (Str.ofString "total"), (Str.ofString "row"), (Str.ofString "alike"), (Str.ofString "product"), (Str.ofString "weights"), (Str.ofString "place"), (Str.ofString "sizes"), (Str.ofString "below"), (Str.ofString "weight")] := List.mem_map.mpr ⟨p, hp, rfl⟩
      have := List.all_eq_true.mp hk p.1 hp2
      exact eq_of_beq this
    · intro p hp
      rcases List.mem_cons.mp hp with rfl | hp
      · exact ⟨v4, ⟨o4, N.get (by simp), d4⟩, fun x hx => by cases hx⟩
      rcases List.mem_cons.mp hp with rfl | hp
      · exact ⟨v3, ⟨o3, N.get (by simp), d3⟩, fun x hx => by cases hx⟩
      rcases List.mem_cons.mp hp with rfl | hp
      · exact ⟨v2, ⟨o2, N.get (by simp), d2⟩, fun x hx => by cases hx⟩
      rw [List.mem_singleton.mp hp]
      exact ⟨v1, ⟨o1, N.get (by simp), d1⟩, fun x hx => by cases hx⟩
    · show [L, L + 1, L + 2, L + 3, L + 4].Nodup
      simp
    · intro b hb
      have hb2 : b ∈ [L, L + 1, L + 2, L + 3, L + 4] := hb
      refine nl b ?_
      simp only [List.mem_cons, List.not_mem_nil, or_false] at hb2
      rcases hb2 with rfl | rfl | rfl | rfl | rfl
      · exact Nat.le_refl _
      all_goals exact Nat.le_add_right _ _
  have r := (law_ex (mb := ⟨mb', la, lvs, w⟩) (σ := []) (Φ := fun v σ' => v = .bool true) look dat bd sc FA hI hz H rfl).run _ st
  refine wpAny_mono r ?_ (fun e s' (x : False) => x.elim)
  rintro fl s' x
  obtain ⟨fl', fr', σ', ⟨v, σ'', rv, less, rfl⟩, hs', t', rel⟩ := x
  rcases rv with rfl | ⟨_, e⟩
  · cases rel with
    | ret r =>
      cases r
      exact fin _ hs'.old (by obtain ⟨h', tk', rfl⟩ := hs'.sh; rfl) (by obtain ⟨h', tk', rfl⟩ := hs'.sh; rfl)
  · cases e

end Mine
namespace Mine
open PySem PySem.W PySem.Spec PySem.Calls PyProof.Rows

/-! MacMahon's two sides, written out -/
section
variable (W : Nat → Int) {a b g d : Int} (h0 : W 0 = a) (h1 : W 1 = b) (h2 : W 2 = g) (h3 : W 3 = d)
include h0 h1 h2 h3
theorem mac11 : totalOf W (frontOf 1 1) 1 (words (1 + 1)) = series a b g d 1 1 := by
  simp [totalOf, words, frontOf, prodK, series, srow, scell, List.replicate, h0, h1, h2, h3]; grind
theorem mac12 : totalOf W (frontOf 1 2) 2 (words (1 + 2)) = series a b g d 1 2 := by
  simp [totalOf, words, frontOf, prodK, series, srow, scell, List.replicate, h0, h1, h2, h3]; grind
theorem mac21 : totalOf W (frontOf 2 1) 1 (words (2 + 1)) = series a b g d 2 1 := by
  simp [totalOf, words, frontOf, prodK, series, srow, scell, List.replicate, h0, h1, h2, h3]; grind
theorem mac22 : totalOf W (frontOf 2 2) 2 (words (2 + 2)) = series a b g d 2 2 := by
  simp [totalOf, words, frontOf, prodK, series, srow, scell, List.replicate, h0, h1, h2, h3]; grind
theorem mac31 : totalOf W (frontOf 3 1) 1 (words (3 + 1)) = series a b g d 3 1 := by
  simp [totalOf, words, frontOf, prodK, series, srow, scell, List.replicate, h0, h1, h2, h3]; grind
theorem mac32 : totalOf W (frontOf 3 2) 2 (words (3 + 2)) = series a b g d 3 2 := by
  simp [totalOf, words, frontOf, prodK, series, srow, scell, List.replicate, h0, h1, h2, h3]; grind
theorem mac {p q : Nat} (hp : 0 < p) (hp' : p < 4) (hq : 0 < q) (hq' : q < 3) : totalOf W (frontOf p q) q (words (p + q)) = series a b g d p q := by
  have cp : p = 1 ∨ p = 2 ∨ p = 3 := by omega
  have cq : q = 1 ∨ q = 2 := by omega
  rcases cp with rfl | rfl | rfl <;> rcases cq with rfl | rfl
  · exact mac11 W h0 h1 h2 h3
  · exact mac12 W h0 h1 h2 h3
  · exact mac21 W h0 h1 h2 h3
  · exact mac22 W h0 h1 h2 h3
  · exact mac31 W h0 h1 h2 h3
  · exact mac32 W h0 h1 h2 h3
end
/-- what the entries of a place add up to -/
def at' (es : List Ent) (x : Nat) : Int := (es.map fun e => if e.place = x then wval e else 0).sum
theorem tval_w (e : Ent) (h : e.weight < 10 ^ 10) : tval (wtxt e) = wval e := by unfold tval; rw [wtxt_int e h]; rfl
theorem lname_inj {x y : Nat} (hx : x < 4) (hy : y < 4) (h : lname x 0 = lname y 0) : x = y := by
  have key : ∀ x y : Fin 4, lname x.val 0 = lname y.val 0 → x.val = y.val := by decide +kernel
  exact key ⟨x, hx⟩ ⟨y, hy⟩ h
theorem Wt_at {x : Nat} (hx : x < 4) : ∀ es : List Ent, (∀ e ∈ es, e.place < 4 ∧ e.sizes < 4 ∧ e.weight < 1000000000) → Wt (tabOf es) x = at' es x
  | [], _ => rfl
  | e :: r, h => by
    have he := h e (List.mem_cons_self ..)
    have ih := Wt_at hx r fun z hz => h z (List.mem_cons_of_mem _ hz)
    have hv := tval_w e (by have := he.2.2; omega)
    unfold Wt at' under at ih ⊢
    unfold tabOf at ih ⊢
    rw [List.map_cons, List.filterMap_cons, List.map_cons, List.sum_cons, ← ih]
    have l1 : low (lname e.place e.sizes) = lname e.place 0 := (lname_facts he.1 he.2.1).2.1
    have l2 : low (lname x 0) = lname x 0 := (lname_facts hx (by decide)).2.1
    by_cases q : e.place = x
    · rw [if_pos q]
      have e1 : low (lname e.place e.sizes, wtxt e).1 = low (lname x 0) := by show low (lname e.place e.sizes) = _; rw [l1, l2, q]
      rw [if_pos e1]
      simp [hv]
    · rw [if_neg q]
      have e1 : ¬low (lname e.place e.sizes, wtxt e).1 = low (lname x 0) := fun z => q (lname_inj he.1 hx (by rw [← l1, ← l2]; exact z))
      rw [if_neg e1]
      simp
theorem getD_set (l : List Int) (i x : Nat) (v : Int) (hi : i < l.length) : (l.set i v).getD x 0 = if i = x then v else l.getD x 0 := by
  rw [List.getD_eq_getElem?_getD, List.getElem?_set]
  by_cases q : i = x
  · subst q; simp [hi]
  · simp [q, List.getD_eq_getElem?_getD]
theorem wAt_at' (x : Nat) : ∀ (es : List Ent) (l : List Int), l.length = 4 → (∀ e ∈ es, e.place < 4) → (es.foldl (fun l e => l.set e.place (l.getD e.place 0 + wval e)) l).getD x 0 = l.getD x 0 + at' es x
  | [], l, _, _ => by unfold at'; simp
  | e :: r, l, hl, h => by
    have he := h e (List.mem_cons_self ..)
    rw [List.foldl_cons, wAt_at' x r _ (by rw [List.length_set]; exact hl) fun z hz => h z (List.mem_cons_of_mem _ hz), getD_set _ _ _ _ (by omega)]
    unfold at'
    rw [List.map_cons, List.sum_cons]
    by_cases q : e.place = x
    · subst q; rw [if_pos rfl, if_pos rfl]; omega
    · rw [if_neg q, if_neg q]; omega
theorem four {l : List Int} (h : l.length = 4) : l = [l.getD 0 0, l.getD 1 0, l.getD 2 0, l.getD 3 0] := by
  match l, h with
  | [a, b, c, d], _ => rfl
theorem wval_le (e : Ent) (h : e.weight < 1000000000) : -1000000000 ≤ wval e ∧ wval e ≤ 1000000000 := by
  unfold wval
  cases e.below <;> simp <;> omega
theorem at_le (nums : List Nat) {x : Nat} (hx : x < 4) : -3000000000 ≤ at' (entsOf nums 6) x ∧ at' (entsOf nums 6) x ≤ 3000000000 := by
  have hw : ∀ k, -1000000000 ≤ wval (ent k (nums.getD k 0)) ∧ wval (ent k (nums.getD k 0)) ≤ 1000000000 := fun k => wval_le _ (Nat.mod_lt _ (by decide))
  have e : at' (entsOf nums 6) x = (if (ent 0 (nums.getD 0 0)).place = x then wval (ent 0 (nums.getD 0 0)) else 0) + ((if (ent 1 (nums.getD 1 0)).place = x then wval (ent 1 (nums.getD 1 0)) else 0) + ((if (ent 2 (nums.getD 2 0)).place = x then wval (ent 2 (nums.getD 2 0)) else 0) +
      ((if (ent 3 (nums.getD 3 0)).place = x then wval (ent 3 (nums.getD 3 0)) else 0) + ((if (ent 4 (nums.getD 4 0)).place = x then wval (ent 4 (nums.getD 4 0)) else 0) + ((if (ent 5 (nums.getD 5 0)).place = x then wval (ent 5 (nums.getD 5 0)) else 0) + 0))))) := rfl
  have p0 : (ent 0 (nums.getD 0 0)).place = 0 := rfl
  have p1 : (ent 1 (nums.getD 1 0)).place = 1 := rfl
  have p2 : (ent 2 (nums.getD 2 0)).place = 2 := rfl
  have p3 : (ent 3 (nums.getD 3 0)).place = 3 := rfl
  rw [e, p0, p1, p2, p3]
  have w0 := hw 0
  have w1 := hw 1
  have w2 := hw 2
  have w3 := hw 3
  have w4 := hw 4
  have w5 := hw 5
  generalize wval (ent 0 (nums.getD 0 0)) = v0 at *
  generalize wval (ent 1 (nums.getD 1 0)) = v1 at *
  generalize wval (ent 2 (nums.getD 2 0)) = v2 at *
  generalize wval (ent 3 (nums.getD 3 0)) = v3 at *
  generalize wval (ent 4 (nums.getD 4 0)) = v4 at *
  generalize wval (ent 5 (nums.getD 5 0)) = v5 at *
  generalize (ent 4 (nums.getD 4 0)).place = x4
  generalize (ent 5 (nums.getD 5 0)).place = x5
  clear hw e p0 p1 p2 p3
  have t4 : -1000000000 ≤ (if x4 = x then v4 else 0) ∧ (if x4 = x then v4 else 0) ≤ 1000000000 := by split <;> omega
  have t5 : -1000000000 ≤ (if x5 = x then v5 else 0) ∧ (if x5 = x then v5 else 0) ≤ 1000000000 := by split <;> omega
  generalize (if x4 = x then v4 else 0) = u4 at *
  generalize (if x5 = x then v5 else 0) = u5 at *
  have cx : x = 0 ∨ x = 1 ∨ x = 2 ∨ x = 3 := by omega
  rcases cx with rfl | rfl | rfl | rfl <;> simp <;> omega
theorem fit2 (nums : List Nat) : ∃ a b g d, Fit2 nums a b g d := by
  have hok := ents_ok nums 6
  have hl : ∀ x, x < 4 → -3000000000 ≤ at' (entsOf nums 6) x ∧ at' (entsOf nums 6) x ≤ 3000000000 := fun x hx => at_le nums hx
  generalize hes : entsOf nums 6 = es at hok hl
  have hW : ∀ x, x < 4 → Wt (tabOf es) x = at' es x := fun x hx => Wt_at hx es hok
  have hA : ∀ x, x < 4 → (wAt es).getD x 0 = at' es x := fun x hx => by
    have e := wAt_at' x es [0, 0, 0, 0] rfl fun e he => (hok e he).1
    have z : ([0, 0, 0, 0] : List Int).getD x 0 = 0 := by
      have cx : x = 0 ∨ x = 1 ∨ x = 2 ∨ x = 3 := by omega
      rcases cx with rfl | rfl | rfl | rfl <;> rfl
    rw [z, Int.zero_add] at e
    exact e
  refine ⟨at' es 0, at' es 1, at' es 2, at' es 3, ?_, hl 0 (by decide), hl 1 (by decide), hl 2 (by decide), hl 3 (by decide), ?_, ?_⟩
  · rw [hes, four (wAt_len es), hA 0 (by decide), hA 1 (by decide), hA 2 (by decide), hA 3 (by decide)]
  · intro x hx
    rw [hes, hW x hx]; exact hl x hx
  · intro p q hp hp' hq hq'
    rw [hes]
    exact mac _ (hW 0 (by decide)) (hW 1 (by decide)) (hW 2 (by decide)) (hW 3 (by decide)) hp hp' hq hq'

end Mine
namespace Mine
open PySem PySem.W PySem.Spec PySem.Calls PyProof.Rows
local macro_rules | `(tactic| k_qdec) => `(tactic| kernel_rfl)
theorem T : PySem.Challenge.rw_sn0093_02.Holds := hd1 (by
  k_go0
  rename_i w s₀ s₁ mg mb' G Y fa o pm doc ho hg KX XX VV GL T B TE TW a1 a2 M cd a3 hcd ns hs hlay0 hL1 hr1 hl2 as0 as1 la lvs as2 hL ra w1 r0 hI hr hcond1 hcond2 K0 hD h₁ tk₁ F o1 o2 o3 o4 c1 c2 c3 c4 N0 X0
  have hgs : s₁.gens = #[] := hg
  exact joinT (fit2 _) (look := by k_is) (dat := rfl) (bd := rfl) (sc := rfl) (hA := rfl) KX T.g T.b T.builtins T.nolimit hL hI (by omega) F rfl rfl N0 c1 c2 c3 c4 (fun s' h1 h2 h3 => ⟨.inl ⟨.bool true, .bool true, [], rfl, fun _ => rfl, .bool true, (by with_unfolding_all rfl), fun _ => ⟨.nil, by simp⟩⟩, h1, h2, h3.trans hgs⟩))

end Mine
theorem PySem.Challenge.cw_sn0093_02_holds : PySem.Challenge.rw_sn0093_02.Holds := by
  exact Mine.T
