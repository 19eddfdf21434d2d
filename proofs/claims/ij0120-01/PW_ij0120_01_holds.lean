import PyProof.Rows.All
import Wide.All
import OpenK.AllK
import Wide.FinOn
import Lean
import PySem.Challenge.RW_ij0120_01
set_option Elab.async false
set_option maxRecDepth 100000
set_option compiler.extract_closed false
namespace Mine
open PySem PySem.W PySem.Calls PyProof.Rows
section
open PySem PySem.W PyProof.Rows
/-- the code's meaning, by the library's quick forms -/
noncomputable def quickDen : Code → Sem Fin := Fast.tw11892475500146522536 Fast.tw14364793385576792824
theorem quickDen_eq : denote treeTable = quickDen := by unfold quickDen; rw [← Fast.te11892475500146522536, ← Fast.te14364793385576792824]
/-- a number is made whole ahead of what uses it (else the kernel keeps a chain of additions) -/
noncomputable def whole {α : Type} (n : Nat) (f : Nat → α) : α := match n with
  | 0 => f 0
  | k + 1 => f (k + 1)
theorem whole_eq {α : Type} (n : Nat) (f : Nat → α) : whole n f = f n := by cases n <;> rfl
noncomputable def wholeT {α : Type} (s : SharedT) (f : SharedT → α) : α := match s with
  | ⟨T, n, life, gens, drawn, toks, os⟩ => whole n fun n => whole toks fun toks => f ⟨T, n, life, gens, drawn, toks, os⟩
theorem wholeT_eq {α : Type} (s : SharedT) (f : SharedT → α) : wholeT s f = f s := by unfold wholeT; dsimp only; rw [whole_eq, whole_eq]
/-- the top's run over a tree of objects, by the library's quick forms -/
noncomputable def runT (p : Program) (w : World) (n₀ : Nat) (ann : Option Value) : Nat → SharedT → Thread → Option SharedT
  | 0, _, _ => none
  | n + 1, s, t => match through t with
    | true => some s
    | false => match Fast.tw6613529449190102663 n₀ ann t with
      | false => none
      | true => wholeT s fun s => match Fast.tw10156331382660048174 quickDen p w s t with
        | some (s', t') => runT p w n₀ ann n s' t'
        | none => none
theorem runT_of {p : Program} {w : World} {n₀ : Nat} {ann : Option Value} : ∀ {n : Nat} {s s' : SharedT} {t : Thread}, runT p w n₀ ann n s t = some s' → topRun treeTable p w n₀ ann n s.abs t = some s'.abs
  | 0, _, _, _, h => by cases h
  | n + 1, s, s', t, h => by
    unfold runT at h
    unfold topRun
    rw [← Fast.te6613529449190102663, ← Fast.te10156331382660048174, ← quickDen_eq] at h
    cases he : through t with
    | true => rw [he] at h; cases h; rfl
    | false =>
      rw [he] at h
      cases hk : stepOk n₀ ann t with
      | false => rw [hk] at h; cases h
      | true =>
        rw [hk] at h
        dsimp only at h
        rw [wholeT_eq] at h
        cases hs : stepT (denote treeTable) p w s t with
        | none => rw [hs] at h; cases h
        | some r => obtain ⟨s₂, t₂⟩ := r; rw [hs] at h; rw [stepT_spec hs]; exact runT_of h
noncomputable def insAll : List Obj → BT → Nat → Option BT
  | [], t, _ => some t
  | o :: r, t, n => match ((t.ins n o).get n).isSome with
    | true => insAll r (t.ins n o) (n + 1)
    | false => none
theorem insAll_of {life : Life} : ∀ {l : List Obj} {t t' : BT} {n : Nat}, insAll l t n = some t' → absHeap t' (n + l.length) life = l.foldl Heap.push (absHeap t n life)
  | [], _, _, _, h => by cases h; rfl
  | o :: r, t, t', n, h => by
    unfold insAll at h
    cases hi : ((t.ins n o).get n).isSome with
    | false => rw [hi] at h; cases h
    | true =>
      rw [hi] at h
      have := insAll_of (life := life) h
      rw [List.foldl_cons, ← absHeap_ins hi, ← this, List.length_cons]
      congr 1; omega
theorem push_all {life : Life} : ∀ (l : List Obj) (a : Array Obj), l.foldl Heap.push ⟨a, life⟩ = ⟨a ++ l.toArray, life⟩
  | [], a => by simp
  | o :: r, a => by
    rw [List.foldl_cons]
    show r.foldl Heap.push ⟨a.push o, life⟩ = _
    rw [push_all r]
    simp
noncomputable def toT (s : Shared) : Option SharedT := (insAll s.heap.objs.toList .nil 0).map fun t => ⟨t, s.heap.objs.toList.length, s.heap.life, s.gens, s.drawn, s.toks, s.os⟩
theorem toT_of {s : Shared} {st : SharedT} (h : toT s = some st) : st.abs = s := by
  obtain ⟨⟨objs, life⟩, gens, drawn, toks, os⟩ := s
  obtain ⟨t, ht, rfl⟩ := Option.map_eq_some_iff.mp h
  have := insAll_of (life := life) ht
  rw [Nat.zero_add] at this
  unfold SharedT.abs
  dsimp only at this ⊢
  rw [this]
  have e0 : absHeap .nil 0 life = ⟨#[], life⟩ := rfl
  rw [e0, push_all]
  simp
/-- the run behind the opening, over a tree -/
noncomputable def stubT (p : Program) (w : World) (N : Nat) (s₀ : Shared) : Option SharedT :=
  (toT s₀).bind fun st => runT p w s₀.heap.objs.size (s₀.heap.nsMap mainGlobals "__annotations__") N st (topStub p)
theorem stubT_of {p : Program} {w : World} {N : Nat} {s₀ : Shared} {s₁ : SharedT} (h : stubT p w N s₀ = some s₁) : topRun treeTable p w s₀.heap.objs.size (s₀.heap.nsMap mainGlobals "__annotations__") N s₀ (topStub p) = some s₁.abs := by
  obtain ⟨st, h2, h3⟩ := Option.bind_eq_some_iff.mp h
  have := runT_of h3
  rwa [toT_of h2] at this
/-- the top's end, over a tree -/
noncomputable def endsT (p : Program) (w : World) (N : Nat) : Option SharedT := (fencedOpening treeTable p w N).bind fun s₀ =>
  match s₀.heap.isNs mainGlobals && s₀.gens.size == 0 with
  | true => (stubT p w N s₀).bind fun s₁ => match staticsOk (importedModules p.main.body) s₀.heap s₁.abs.heap && namesBound p s₁.abs.heap && gensDone s₁.abs && laidKept s₀.heap s₁.abs.heap with
      | true => some s₁
      | false => none
  | false => none
theorem endsT_of {p : Program} {w : World} {N : Nat} {s : SharedT} (h : endsT p w N = some s) : openEnds treeTable p w N = some s.abs := by
  obtain ⟨s₀, h1, h2⟩ := Option.bind_eq_some_iff.mp h
  refine Option.bind_eq_some_iff.mpr ⟨s₀, h1, ?_⟩
  unfold topFrom
  cases hg : (s₀.heap.isNs mainGlobals && s₀.gens.size == 0) with
  | false => rw [hg] at h2; cases h2
  | true =>
    rw [hg] at h2
    obtain ⟨s₁, h3, h4⟩ := Option.bind_eq_some_iff.mp h2
    refine Option.bind_eq_some_iff.mpr ⟨s₁.abs, stubT_of h3, ?_⟩
    cases hk : (staticsOk (importedModules p.main.body) s₀.heap s₁.abs.heap && namesBound p s₁.abs.heap && gensDone s₁.abs && laidKept s₀.heap s₁.abs.heap) with
    | false => rw [hk] at h4; cases h4
    | true => rw [hk] at h4; cases h4; rfl
/-- an object of the tree -/
noncomputable def atT (s : SharedT) (a : Addr) : Option Obj := match Nat.blt a s.n with
  | true => alive ((s.tree.get a).getD default)
  | false => none
theorem atT_eq (s : SharedT) (a : Addr) : s.abs.heap.get? a = atT s a := by
  unfold atT
  show (absHeap s.tree s.n s.life).get? a = _
  unfold Heap.get?
  rw [absHeap_at]
  cases h : Nat.blt a s.n with
  | false =>
    have : ¬ a < s.n := fun q => Bool.noConfusion (h.symm.trans (Nat.ble_eq_true_of_le q : Nat.blt a s.n = true))
    rw [if_neg this]
  | true =>
    have : a < s.n := Nat.le_of_ble_eq_true h
    rw [if_pos this]
    obtain ⟨c, d, dt, sl⟩ := (s.tree.get a).getD default
    cases dt <;> rfl
section
variable {p q : Program} {loose : List Str} {Xt : Shared → Bool} {α : Type} {Yf : Shared → α} {Ya : World → α} {N : Nat}
/-- the end, as the looks see it, and what is kept of it, for one answer of a row -/
def BothAt (p q : Program) (loose : List Str) (Xt : Shared → Bool) (Yf : Shared → α) (Ya : World → α) (N : Nat) (row : String) (b : Bool) : Prop := ∀ w : World, (openEnds treeTable p (w.withFollow row b) N).map (fun s => (openSeen q loose (importedModules p.main.body) Xt true s, Yf s)) = some (openGood q loose, Ya (w.withFollow row b))
theorem left_two (row : String) (b0 : BothAt p q loose Xt Yf Ya N row false) (b1 : BothAt p q loose Xt Yf Ya N row true) : LeftO p q loose Xt Yf Ya N :=
  byRow2 row (P := fun w => (openEnds treeTable p w N).map (fun s => (openSeen q loose (importedModules p.main.body) Xt true s, Yf s)) = some (openGood q loose, Ya w)) b0 b1
/-- the same, as the kernel looks at it: over the tree -/
theorem both_of {K : Params → Frag} {as ts : List Addr} {e : ∀ P, as = (K P).map (·.1)} {row : String} {b : Bool}
    (h : ∀ w : World, (endsT p (w.withFollow row b) N).map (fun s => (Fast.tw4187177175401517315 q loose (importedModules p.main.body) Xt true s.abs, as.map (atT s), ts.map (atT s))) = some (openGood q loose, (K (w.withFollow row b).params).map (fun p => some p.2), ts.map fun _ => some (tabObj #[]))) :
    BothAt p q loose Xt (kmHook K as e ts).obs (kmHook K as e ts).val N row b := fun w => by
  obtain ⟨s, e1, e2⟩ := Option.map_eq_some_iff.mp (h w)
  rw [endsT_of e1, Fast.te4187177175401517315]
  have e3 : s.abs.heap.get? = atT s := funext (atT_eq s)
  show some (_, (as.map s.abs.heap.get?, ts.map s.abs.heap.get?)) = _
  rw [e3]
  exact congrArg some e2
end
/-- the statements of the top that the view keeps -/
noncomputable def topKeep : List Nat := [0, 1, 3, 4, 5, 6, 7, 8, 9, 10, 12, 16, 18, 20, 21, 23, 25, 27, 28, 29, 31, 32, 34, 35, 36, 37, 38, 39]
noncomputable def topView : Program := view PySem.Challenge.pw_ij0120_01 topKeep
noncomputable def topLoose : List Str := [Str.ofString "groupby", Str.ofString "_grouper", Str.ofString "count", Str.ofString "itemgetter", Str.ofString "_rank"]
noncomputable def topXt (s : Shared) : Bool := xlAt topView [] s && recOk (RowW.records PySem.Challenge.rw_ij0120_01.row.toRowW) s
theorem head_two {r : OpenRow} {q : Program} {loose : List Str} {Xt : Shared → Bool} {XP : (Str → Option Value) → Heap → Prop} {α : Type} {Yf : Shared → α} {Ya : World → α} {YP : World → Heap → Prop} {d : DefRec} {kwd : List (Str × Expr)} {N : Nat} (row : String)
    (hY : ∀ w s, Yf s = Ya w → YP w s.heap) (hYk : ∀ w h h', YP w h → (∀ b o, h.get? b = some o → h'.get? b = some o) → YP w h')
    (hX : ∀ s, Xt s = true → XP (s.heap.nsMap mainGlobals) s.heap) (hXk : ∀ mg h h', XP mg h → (∀ b o, h.get? b = some o → h'.get? b = some o) → XP mg h')
    (hdef : defOf q r.name = some (d, kwd)) (hp : r.prog.theDef r.name = some (d.params, d.body, d.scope)) (hk : kwWritten? d.params.kwonlyargs d.params.kw_defaults = some kwd) (hRf : ∀ s, Xt s = true → RecFacts r.records s.heap) (hwr : (!r.writes || r.records.isEmpty) = true)
    (k1 : r.wellSaid = true) (ok : (chainsOk q && opensWell r.prog && (frees r.toRowW && r.within.isEmpty)) = true) (hb : r.prog.bare) (hw : r.toRowW.promised)
    (call : (BothAt r.prog q loose Xt Yf Ya N row false ∧ BothAt r.prog q loose Xt Yf Ya N row true) ∧ WalkO q loose XP YP r.toRowW d kwd fun f vs => PySem.call f vs) : r.Holds :=
  holds_open (left_two row call.1.1 call.1.2) hY hYk hX hXk hdef hp hk hRf hwr k1 ok hb hw call.2
set_option hygiene false in
local macro_rules | `(tactic| o_head $H) => `(tactic| (
  refine head_two (q := topView) (loose := [Str.ofString "groupby", Str.ofString "_grouper", Str.ofString "count", Str.ofString "itemgetter", Str.ofString "_rank"]) (Xt := topXt) (XP := XL topView []) (Yf := Hook.obs $H) (Ya := Hook.val $H) (YP := Hook.says $H) (N := 6396) "special-get-raises" (Hook.of $H) (Hook.keeps $H) (fun s e => xl_of s (Bool.and_eq_true_iff.mp e).1) XL.keeps (by rfl) (by rfl) (by rfl) (fun s e => recFacts_of (Bool.and_eq_true_iff.mp e).2) (by rfl) (by first | assumption | decide +kernel) (by decide +kernel) ⟨rfl, rfl, rfl, rfl, rfl, by decide +kernel⟩ ?hw ?hc))
theorem well_said : OpenLaw.wellSaid PySem.Challenge.rw_ij0120_01 = true := by rw [Fast.te9446332074065402090]; kernel_rfl
local macro_rules | `(tactic| o_law) => `(tactic| refine holds_law well_said fun _ => ?_)
set_option maxHeartbeats 8000000 in
open_top hd for PySem.Challenge.rw_ij0120_01
/-- the objects that the walk reads, and what they are -/
noncomputable def topAs : List Addr := [2, 3, 15, 17, 18, 20, 21, 29, 31, 32, 34, 35, 36, 38, 39, 41, 42, 43, 45, 46, 48, 49, 57, 58, 59, 61, 62, 64, 65, 66, 68, 69, 71, 72, 73, 75, 76, 78, 79, 80, 82, 83, 85, 86, 87, 89, 90, 91, 92, 93, 94, 95, 96, 97, 98, 99, 100, 110, 111, 113, 114, 116, 117, 118, 120, 121, 123, 124, 125, 127, 128, 130, 131, 132, 134, 135, 136, 137, 138, 141, 143, 144, 146, 147, 155, 156, 157, 159, 160, 162, 163, 164, 166, 167, 169, 170, 171, 173, 174, 176, 177, 178, 180, 181, 183, 184, 185, 187, 188, 189, 190, 191, 201, 202, 204, 205, 207, 208, 209, 211, 212, 214, 215, 216, 218, 219, 221, 222, 223, 225, 226, 228, 229, 230, 232, 233, 234, 237, 238, 240, 241, 243, 244, 245, 247, 248, 250, 251, 252, 259, 261, 262, 264, 265, 266, 267, 268, 271, 278, 280, 281, 283, 284, 285, 287, 288, 290, 291, 292, 294, 295, 297, 298, 299, 300, 301, 304, 306, 307, 309, 310, 311, 313, 314, 316, 317, 318, 320, 321, 323, 324, 325, 327, 328, 330, 331, 332, 334, 335, 337, 338, 339, 341, 342, 344, 345, 349, 351, 352, 354, 355, 356, 358, 359, 361, 362, 363, 365, 366, 368, 369, 370, 372, 373, 375, 376, 377, 379, 380, 382, 383, 384, 387, 388, 389, 392, 393, 394, 397, 398]
theorem as_ok : ∀ P, topAs = (hd.heap_1 P).map (·.1) := fun _ => by kernel_rfl
noncomputable def topHook : Hook := kmHook hd.heap_1 topAs as_ok [390]
end
section
open PySem PySem.W PyProof.Rows
theorem both0 : BothAt PySem.Challenge.pw_ij0120_01 topView topLoose topXt topHook.obs topHook.val 6396 "special-get-raises" false := both_of fun w => by kernel_rfl
theorem both1 : BothAt PySem.Challenge.pw_ij0120_01 topView topLoose topXt topHook.obs topHook.val 6396 "special-get-raises" true := both_of fun w => by kernel_rfl
end
theorem lt_room1 {d b L : Nat} (a : Nat) (h : d + b < L) (e : a ≤ b) : d + a < L := by omega
theorem lt_room2 {d b L : Nat} (a c : Nat) (h : d + b < L) (e : a + c ≤ b) : d + a + c < L := by omega
theorem lt_room3 {d b L : Nat} (a c f : Nat) (h : d + b < L) (e : a + c + f ≤ b) : d + a + c + f < L := by omega
theorem lt_room4 {d b L : Nat} (a c f g : Nat) (h : d + b < L) (e : a + c + f + g ≤ b) : d + a + c + f + g < L := by omega
theorem lt_room0 {d b L : Nat} (h : d + b < L) : d < L := by omega
/-- a step up among tokens: the beginning of a statement lies below its end -/
def Up (a b : Nat) : Prop := a ≤ b
theorem le_up {a b c : Nat} (h : a ≤ b) (e : Up b c) : a ≤ c := Nat.le_trans h e
theorem pos_up {b c : Nat} (h : 0 < b) (e : Up b c) : 0 < c := Nat.lt_of_lt_of_le h e
theorem pos_add {b c : Nat} (h : 0 < b) : 0 < b + c := Nat.lt_of_lt_of_le h (Nat.le_add_right _ _)
theorem lt_room5 {d b L : Nat} (a c f g i : Nat) (h : d + b < L) (e : a + c + f + g + i ≤ b) : d + a + c + f + g + i < L := by omega
theorem lt_roomk {d b L k : Nat} (a : Nat) (h : d + b < L) (hk : k ≤ 20) (e : a + 20 ≤ b) : d + a + k < L := by omega
theorem lt_roomt {d b L k : Nat} (a c f g : Nat) (h : d + b < L) (hk : k ≤ 20) (e : a + c + f + 200 + g ≤ b) : d + a + c + f + 10 * k + g < L := by omega
theorem pos_of_le {a b : Nat} (h : 0 < a) (e : a ≤ b) : 0 < b := Nat.lt_of_lt_of_le h e
theorem le_add1 {a b c : Nat} (h : a ≤ b) : a ≤ b + c := Nat.le_trans h (Nat.le_add_right _ _)
theorem ne_up {a b : Nat} (h : a < b) : a ≠ b := Nat.ne_of_lt h
theorem ne_dn {a b : Nat} (h : b < a) : a ≠ b := Nat.ne_of_gt h
theorem lt_of_add1 {a b : Nat} (h : a + 1 ≤ b) : a < b := h
theorem lt_of_add2 {a b : Nat} (h : a + 1 + 1 ≤ b) : a < b := Nat.lt_of_succ_lt h
theorem not_le_of {a b : Nat} (h : a < b) : ¬ b ≤ a := Nat.not_le_of_gt h
theorem not_lt_of {a b : Nat} (h : a ≤ b) : ¬ b < a := Nat.not_lt_of_le h
theorem sub_nil {R : List (Addr × Obj)} : ∀ q ∈ ([] : List (Addr × Obj)), q ∈ R := fun _ h => nomatch h
theorem sub_cons {p : Addr × Obj} {r R : List (Addr × Obj)} (h : p ∈ R) (t : ∀ q ∈ r, q ∈ R) : ∀ q ∈ p :: r, q ∈ R := fun _ hq => (List.mem_cons.mp hq).elim (fun e => e ▸ h) (t _)
theorem sub_tl {p : Addr × Obj} {r R : List (Addr × Obj)} (t : ∀ q ∈ r, q ∈ R) : ∀ q ∈ r, q ∈ p :: R := fun q hq => .tail _ (t q hq)
theorem sub_trans {A B C : List (Addr × Obj)} (h : ∀ q ∈ A, q ∈ B) (k : ∀ q ∈ B, q ∈ C) : ∀ q ∈ A, q ∈ C := fun q hq => k q (h q hq)
theorem sub_app {a b R : List (Addr × Obj)} (h : ∀ q ∈ a, q ∈ R) (t : ∀ q ∈ b, q ∈ R) : ∀ q ∈ a ++ b, q ∈ R := fun _ hq => (List.mem_append.mp hq).elim (h _) (t _)
theorem sub_appR {r a b : List (Addr × Obj)} (t : ∀ q ∈ r, q ∈ b) : ∀ q ∈ r, q ∈ a ++ b := fun q hq => List.mem_append_right _ (t q hq)
theorem sub_appL {r a b : List (Addr × Obj)} (t : ∀ q ∈ r, q ∈ a) : ∀ q ∈ r, q ∈ a ++ b := fun q hq => List.mem_append_left _ (t q hq)
theorem all_ne_cons {a x : Addr} {o : Obj} {r : List (Addr × Obj)} (h : a ≠ x) (t : ∀ q ∈ r, q.1 ≠ x) : ∀ q ∈ (a, o) :: r, q.1 ≠ x := fun q hq => (List.mem_cons.mp hq).elim (fun e => e ▸ h) (t q)
theorem all_lt_cons {a x : Addr} {o : Obj} {r : List (Addr × Obj)} (h : @LT.lt Nat _ a x) (t : ∀ q ∈ r, @LT.lt Nat _ q.1 x) : ∀ q ∈ (a, o) :: r, @LT.lt Nat _ q.1 x := fun q hq => (List.mem_cons.mp hq).elim (fun e => e ▸ h) (t q)
theorem ne_out {a b x : Addr} {r : List (Addr × Obj)} (h : ∀ q ∈ r, @LT.lt Nat _ q.1 a ∨ @LT.lt Nat _ b q.1) (e1 : @LE.le Nat _ a x) (e2 : @LE.le Nat _ x b) : ∀ q ∈ r, q.1 ≠ x := fun q hq => (h q hq).elim (fun z => Nat.ne_of_lt (Nat.lt_of_lt_of_le z e1)) (fun z => Nat.ne_of_gt (Nat.lt_of_le_of_lt e2 z))
local macro_rules | `(tactic| omega) => `(tactic| k_extra "my Om omega 9")
local macro_rules | `(tactic| simp) => `(tactic| k_extra "my Om simp 11")
theorem lines_Om : True := by
  k_with "om in" => (first
      | with_reducible assumption
      | with_reducible exact List.mem_cons_self
      | (with_reducible refine List.mem_cons_of_mem _ ?_; k_extra "om in")
      | (with_reducible refine List.mem_append_right _ ?_; k_extra "om in")
      | (with_reducible refine List.mem_append_left _ ?_; k_extra "om in"))
  k_with "om sub" => (first
      | with_reducible assumption
      | with_reducible exact fun _ h => h
      | (with_reducible refine sub_cons ?a ?b; (case a => k_extra "om in"); (case b => k_extra "om sub"))
      | (with_reducible refine sub_app ?a ?b; (case a => k_extra "om sub"); (case b => k_extra "om sub"))
      | (with_reducible refine sub_tl ?_; k_extra "om sub")
      | (with_reducible refine sub_appR ?_; k_extra "om sub")
      | (with_reducible refine sub_appL ?_; k_extra "om sub")
      | with_reducible exact sub_nil)
  k_with "om room" => (first
      | (with_reducible refine lt_room1 _ (by assumption) ?_; decide)
      | (with_reducible refine lt_room2 _ _ (by assumption) ?_; decide)
      | (with_reducible refine lt_room3 _ _ _ (by assumption) ?_; decide)
      | (with_reducible refine lt_room4 _ _ _ _ (by assumption) ?_; decide)
      | (with_reducible refine lt_room5 _ _ _ _ _ (by assumption) ?_; decide)
      | (with_reducible refine lt_roomk _ (by assumption) (by assumption) ?_; decide)
      | (with_reducible refine lt_roomt _ _ _ _ (by assumption) (by assumption) ?_; decide)
      | (with_reducible exact lt_room0 (by assumption)))
  k_with "om lt1" => (first
      | with_reducible assumption
      | with_reducible exact And.left (by assumption)
      | with_reducible exact And.left (And.right (by assumption))
      | with_reducible exact And.left (And.right (And.right (by assumption)))
      | with_reducible exact And.left (And.right (And.right (And.right (by assumption))))
      | with_reducible exact And.left (And.right (And.right (And.right (And.right (by assumption)))))
      | with_reducible exact And.left (And.right (And.right (And.right (And.right (And.right (by assumption))))))
      | with_reducible exact And.left (And.right (And.right (And.right (And.right (And.right (And.right (by assumption)))))))
      | with_reducible exact And.right (by assumption)
      | with_reducible exact And.right (And.right (by assumption))
      | with_reducible exact And.right (And.right (And.right (by assumption)))
      | with_reducible exact And.right (And.right (And.right (And.right (by assumption)))))
  k_with "om lt0" => (solve
      | iterate 12 (first | done | with_reducible assumption | with_reducible refine Nat.lt_trans ?_ (by assumption)))
  k_with "om lt" => (solve
      | iterate 12 (first | done | with_reducible assumption | with_reducible refine Nat.lt_trans ?_ (by assumption))
      | iterate 12 (first | done | k_extra "om lt1" | with_reducible refine Nat.lt_trans ?_ (by assumption)))
  k_with "om le" => (solve
      | iterate 24 (first | done | with_reducible assumption | with_reducible exact Nat.le_refl _ | with_reducible refine le_add1 ?_ | with_reducible refine le_up ?_ (by assumption) | with_reducible refine Nat.le_trans ?_ (by assumption) | with_reducible refine Nat.le_trans (m := 1048576) ?_ (by decide))
      | iterate 24 (first | done | with_reducible assumption | with_reducible exact Nat.le_refl _ | with_reducible refine le_add1 ?_ | with_reducible refine Nat.le_trans ?_ (by assumption))
      | (with_reducible refine Nat.le_trans (by assumption) ?_; decide)
      | decide)
  k_with "om pos" => (solve
      | iterate 24 (first | done | with_reducible assumption | with_reducible exact Nat.succ_pos _ | with_reducible refine pos_add ?_ | with_reducible refine pos_up ?_ (by assumption) | with_reducible refine pos_of_le ?_ (by assumption))
      | iterate 40 (first | done | with_reducible assumption | with_reducible exact Nat.succ_pos _ | with_reducible refine pos_of_le ?_ (by assumption)))
  k_with "om" => ((k_whole; first
      | (with_reducible show _ ≤ _; first | k_extra "om le" | (with_reducible refine Nat.le_of_lt ?_; k_extra "om lt"))
      | (with_reducible show _ ≠ _; first | (with_reducible refine ne_up ?_; k_extra "om lt0") | (with_reducible refine ne_dn ?_; k_extra "om lt0") | (with_reducible refine ne_dn ?_; k_extra "om lt") | (with_reducible refine ne_up ?_; k_extra "om lt"))
      | (with_reducible show 0 < _; k_extra "om pos")
      | (with_reducible show _ < _; first | k_extra "om room" | k_extra "om lt" | (with_reducible refine lt_of_add1 ?_; k_extra "om le") | (with_reducible refine Nat.lt_of_lt_of_le (by assumption) ?_; k_extra "om le"))
      | (with_reducible show ¬ _ ≤ _; with_reducible refine not_le_of ?_; k_extra "om lt")
      | (with_reducible show ¬ _ < _; with_reducible refine not_lt_of ?_; k_extra "om le")))
  k_with "my Om omega 9" => (first | k_extra "om" | ((fail_if_success (fail_if_success omega (splitDisjunctions := true))); (first | lia | omega (splitDisjunctions := true))))
  k_with "om peel" => ((repeat first | (with_reducible refine all_ne_cons ?a ?_; (case a => ((try dsimp only); omega))) | (with_reducible refine all_lt_cons ?a ?_; (case a => ((try dsimp only); omega)))))
  k_with "my Om simp 11" => (first | (k_whole; (with_reducible show _ ∈ _); k_extra "om in") | simp (contextual := false))
  trivial

section
abbrev PR : Program := PySem.Challenge.rw_ij0120_01.row.prog
abbrev Led := List (Addr × Obj)
/-- what a call does, told for every caller: from the ledger `news` to a ledger `news'` and a value of which `Post` holds (the tokens at the start and at the end go first) -/
def Ct (w : World) (k : Nat) (f : Value) (vs : List Value) (kw : List (Str × Value)) (news : Led) (Post : Nat → Nat → Led → Value → Prop) : Prop :=
  ∀ (p : Program) (loose : List Str) (mean : ExcName → Option Value) (mg mb : Str → Option Value) (dp un : Nat) (gd : Option (List Code)) (cn : Str) (cs : Scope) (a : Addr) (ccd : Value) (cl : List (Str × Addr)) (outer : List Env) (A₀ : Around) (base h₀ : Heap) (L : Addr) (m : Str → Option Value) (s : Shared) (Q E : Value → Shared → Prop),
    Below A₀ base outer h₀ → Fr h₀ L s.heap m → (hd.heap_1 w.params).In h₀ → News h₀ L s.heap news → Top p loose mean mg mb h₀ → cs.kind = .function → dp + k < recursionLimit → un + 10 * k < cLine → 0 < s.toks →
    (∀ r news' h' tk', s.toks ≤ tk' → Fr h₀ L h' m → News h₀ L h' news' → Post s.toks tk' news' r → Q r { s with heap := h', toks := tk' }) →
    wpAny (model PR w) (ktrTop dp un gd cn cs L a ccd cl outer) (call f vs kw) Q E s
/-- the ledger as it was -/
abbrev Same (news : Led) (P : Nat → Nat → Value → Prop) : Nat → Nat → Led → Value → Prop := fun n n' news' r => news' = news ∧ P n n' r
def Said (_ : OpenLaw) (_ : Params → Frag) (P : Prop) : Prop := P
theorem said {P : Prop} (h : Said PySem.Challenge.rw_ij0120_01 hd.heap_1 P) : P := h
theorem Ct.use {w : World} {k : Nat} {f : Value} {vs : List Value} {kw : List (Str × Value)} {news : Led} {Post : Nat → Nat → Led → Value → Prop} (C : Ct w k f vs kw news Post)
    {p : Program} {loose : List Str} {mean : ExcName → Option Value} {mg mb : Str → Option Value} {dp un : Nat} {gd : Option (List Code)} {cn : Str} {cs : Scope} {a : Addr} {ccd : Value} {cl : List (Str × Addr)} {outer : List Env} {A₀ : Around} {base h₀ : Heap} {L : Addr} {m : Str → Option Value} {s : Shared} {Q E : Value → Shared → Prop}
    (B : Below A₀ base outer h₀) (F : Fr h₀ L s.heap m) (X : (hd.heap_1 w.params).In h₀) (N : News h₀ L s.heap news) (T : Top p loose mean mg mb h₀) (hk : cs.kind = .function) (hd : dp + k < recursionLimit) (hu : un + 10 * k < cLine) (ht : 0 < s.toks)
    (ret : ∀ r news' h' tk', s.toks ≤ tk' → Fr h₀ L h' m → News h₀ L h' news' → Post s.toks tk' news' r → Q r { s with heap := h', toks := tk' }) :
    wpAny (model PR w) (ktrTop dp un gd cn cs L a ccd cl outer) (call f vs kw) Q E s := C _ _ _ _ _ _ _ _ _ _ _ _ _ _ _ _ _ _ _ _ _ _ B F X N T hk hd hu ht ret
/-- behind a statement: the tokens have not fallen -/
def After (n : Nat) (P : Shared → Prop) (s' : Shared) : Prop := n ≤ s'.toks → P s'
theorem after_gen {n : Nat} {P : Shared → Prop} {h : Heap} {g : Array GenState} {d : Drawn} {t : Nat} {os : OsState} (H : ∀ k, n ≤ k → Up n k → t ≤ k → P ⟨h, g, d, k, os⟩) : After n P ⟨h, g, d, t, os⟩ := fun hn => H t hn hn (Nat.le_refl _)
theorem after_any {n : Nat} {P : Shared → Prop} {s : Shared} (H : n ≤ s.toks → P s) : After n P s := H
theorem gen_toks {α : Type} {M : Model} {A : Around} {t : Sem α} {Q : α → Shared → Prop} {E : Value → Shared → Prop} {h : Heap} {g : Array GenState} {d : Drawn} {n tk : Nat} {os : OsState} (hn : n ≤ tk)
    (H : ∀ k, n ≤ k → wpAny M A t Q E ⟨h, g, d, k, os⟩) : wpAny M A t Q E ⟨h, g, d, tk, os⟩ := H tk hn
section
variable {prog : Program} {w : World} {A : Around} {E : Value → Shared → Prop} {s : Shared} {env : Env}
theorem execs_cons_tk {M : Model} {st : Stmt} {rest : List Stmt} {Q : Flow → Shared → Prop}
    (h : wpAny M A (exec st env) (fun f s' => After s.toks (fun s₂ => match f with | .next => wpAny M A (execs rest env) Q E s₂ | f => Q f s₂) s') E s) : wpAny M A (execs (st :: rest) env) Q E s :=
  wpAny_execs_cons (wpAny_mono (wpAny_toks h) (fun f s' x => by have y := x.2 x.1; cases f <;> exact y) fun _ _ x => x.2)
/-- what goes on behind a statement, under a name -/
def Kont (M : Model) (A : Around) (rest : List Stmt) (env : Env) (Q : Flow → Shared → Prop) (E : Value → Shared → Prop) (n : Nat) (q : Flow → Shared → Prop) : Prop :=
  (∀ s', After n (fun s₂ => wpAny M A (execs rest env) Q E s₂) s' → q .next s') ∧ ∀ f s', f ≠ .next → After n (fun s₂ => Q f s₂) s' → q f s'
theorem execs_cons_k {M : Model} {st : Stmt} {rest : List Stmt} {Q : Flow → Shared → Prop} (h : ∀ q, Kont M A rest env Q E s.toks q → wpAny M A (exec st env) q E s) : wpAny M A (execs (st :: rest) env) Q E s :=
  execs_cons_tk (h _ ⟨fun _ x => x, fun f _ hf x => by cases f <;> first | exact absurd rfl hf | exact x⟩)
/-- a way out, under a name -/
def Named (Q q : Flow → Shared → Prop) : Prop := ∀ f s', Q f s' → q f s'
theorem execs_cons_q {M : Model} {st : Stmt} {rest : List Stmt} {Q : Flow → Shared → Prop} (h : ∀ q₀, Named Q q₀ → ∀ q, Kont M A rest env q₀ E s.toks q → wpAny M A (exec st env) q E s) : wpAny M A (execs (st :: rest) env) Q E s :=
  execs_cons_k (h Q fun _ _ x => x)
section
variable {M : Model} {rest : List Stmt} {Q q : Flow → Shared → Prop} {n : Nat} {h : Heap} {g : Array GenState} {d : Drawn} {t : Nat} {os : OsState} {s₀ : Shared}
theorem named_q {f : Flow} (N : Named Q q) (H : Q f s) : q f s := N f s H
theorem kont_next (K : Kont M A rest env Q E n q) (H : ∀ k, n ≤ k → Up n k → t ≤ k → wpAny M A (execs rest env) Q E ⟨h, g, d, k, os⟩) : q .next ⟨h, g, d, t, os⟩ := K.1 _ (after_gen H)
theorem kont_nextS (s₀ : Shared) (K : Kont M A rest env Q E n q) (H : ∀ k, n ≤ k → Up n k → t ≤ k → wpAny M A (execs rest env) Q E ⟨h, s₀.gens, s₀.drawn, k, s₀.os⟩) : q .next ⟨h, s₀.gens, s₀.drawn, t, s₀.os⟩ := K.1 _ (after_gen H)
theorem kont_ret {v : Value} (K : Kont M A rest env Q E n q) (H : ∀ k, n ≤ k → Up n k → t ≤ k → Q (.ret v) ⟨h, g, d, k, os⟩) : q (.ret v) ⟨h, g, d, t, os⟩ := K.2 _ _ (fun e => nomatch e) (after_gen H)
theorem kont_brk (K : Kont M A rest env Q E n q) (H : ∀ k, n ≤ k → Up n k → t ≤ k → Q .brk ⟨h, g, d, k, os⟩) : q .brk ⟨h, g, d, t, os⟩ := K.2 _ _ (fun e => nomatch e) (after_gen H)
theorem kont_cont (K : Kont M A rest env Q E n q) (H : ∀ k, n ≤ k → Up n k → t ≤ k → Q .cont ⟨h, g, d, k, os⟩) : q .cont ⟨h, g, d, t, os⟩ := K.2 _ _ (fun e => nomatch e) (after_gen H)
end
theorem sub_str_str : isSubtype (.type "str") (.type "str") = pure true := by rw [isSubtype_type]; kernel_rfl
theorem issub_nested_str {k : Value} {dep : Int} {tk : Tok} {Q : Fin → Shared → Prop} (hk : k = .int dep tk) (hq : Q (.done (.ret (.bool true))) s) :
    wpAny (model prog w) A (Builtin.«issubclass.nested» ⟨[.type "str", .type "str", k], []⟩) Q E s := by
  subst hk
  have hself := sub_str_str
  repeat (any_goals (first | assumption | (rw [hself]) | wp_step))
theorem issub_meets (T : Addr) : Meets (Builtin.«issubclass» ⟨[.type "str", .ref T], []⟩) (fun _ R s => IsTup s.heap T #[.type "str", .type "bytes"] ∧ R (.ok (.ret (.bool true))) s) := by
  intro prog w A R s ⟨hT, hs⟩
  refine issubclass_outer ?_
  obtain ⟨o, ho, hc, n, hd⟩ := hT
  have hsub : isSubtype (.type "tuple") (.type "tuple") = pure true := by rw [isSubtype_type]; kernel_rfl
  have hty : s.TypeIs (.ref T) "tuple" := ⟨_, ho, hc⟩
  unfold Builtin.«issubclass.nested» Builtin.Builtins.unionMembers
  refine wpAny_bind (wpAny_typeOf hty ?_)
  repeat (any_goals (first | assumption | wp_step))
  rw [hd]
  refine wpAny_pure ?_
  simp only [Option.getD_some, List.forIn_toArray, List.forIn_cons]
  refine wpAny_bind (wpAny_bind (wpAny_bind (call_function_meets (by decide +kernel) (by decide +kernel) F.entry_issubclass_nested (by unfold argsOk; kernel_rfl) (S := fun _ R s => R (.ok (.ret (.bool true))) s) ?_ ?_)))
  · intro prog w A R s hs
    exact issub_nested_str (k := rawInt 1) rfl hs
  · show wpAny _ _ (truthy (Value.bool true) >>= _) _ _ _
    refine wpAny_bind (wpAny_truthy_bool ?_)
    repeat (any_goals (first | assumption | wp_step))
theorem issub_str {T : Addr} {Q : Value → Shared → Prop} (hT : IsTup s.heap T #[.type "str", .type "bytes"]) (hq : Q (.bool true) s) :
    wpAny (model prog w) A (call (.builtin "issubclass") [.type "str", .ref T]) Q E s :=
  call_issubclass (issub_meets T) ⟨hT, hq⟩
end
/-- a made str: its token is the old one's (and it is the old str), or fresh -/
def Tk (t : Nat) (x : Str) (n : Nat) (t' : Nat) (y : Str) (n' : Nat) : Prop := (t' = t ∧ y = x) ∨ (n ≤ t' ∧ t' < n')
section
variable {prog : Program} {w : World} {A : Around} {E : Value → Shared → Prop} {s : Shared} {value slice : Expr} {x y : Str} {t u : Tok} {h₀ : Heap} {L : Addr} {m : Str → Option Value} {news : Led} {Q : Value → Shared → Prop}
theorem post_tk {c : Prop} [Decidable c] {y z : Str} (hz : (if c then y else z).length ≤ sizeLine)
    (h : ∀ t' k, s.toks ≤ k → Tk t y s.toks t' (if c then y else z) k → Q (.str (if c then y else z) t') { s with toks := k }) : (if c then Made.val (.str y t) else Made.str z).post Q s := by
  by_cases hc : c
  · rw [if_pos hc]; have h' := h t s.toks (Nat.le_refl _) (by rw [if_pos hc]; exact .inl ⟨rfl, rfl⟩); rw [if_pos hc] at h'; exact h'
  · rw [if_neg hc]; have h' := h s.toks (s.toks + 1) (Nat.le_succ _) (.inr ⟨Nat.le_refl _, Nat.lt_succ_self _⟩); rw [if_neg hc] at h' hz; exact ⟨hz, h'⟩
theorem slice_tk_ns {j : Int} {uj : Tok} (hF : Fr h₀ L s.heap m) (hN : News h₀ L s.heap news)
    (h : ∀ h' t' k, Fr h₀ L h' m → News h₀ L h' news → s.toks ≤ k → Tk t x s.toks t' (Txt.slice x none (some j)) k → (Txt.slice x none (some j)).length ≤ x.length → Q (.str (Txt.slice x none (some j)) t') { s with heap := h', toks := k })
    (hs : subscripted slice false (.str x t) (.ref s.heap.objs.size) = operate [.ref s.heap.objs.size, .str x t] (getItem (.str x t) (.ref s.heap.objs.size)) := by with_unfolding_all rfl)
    (ht : ∀ r, letTemporaryGo value (.str x t) r = pure () := by intro _; with_unfolding_all rfl) (hsz : x.length ≤ sizeLine := by size_fits) :
    wpAny (model prog w) A (subscriptTail value slice (.str x t) (.ref s.heap.objs.size)) Q E { s with heap := s.heap.push { cls := .type "slice", data := .fields #[.none, .int j uj, .none] } } :=
  tail_of_ItemOn ⟨"str", _, F.slot_str_getitem.lookup, typeIs_str _ _ _, wpAny_getItem_str_slice (l := none) (u := some (j, uj)) (st := none) ⟨_, Heap.get?_push_size _ rfl, rfl, rfl⟩ rfl
    (post_tk (s := { s with heap := s.heap.push _ }) (Nat.le_trans (Txt.slice_le x none (some j)) hsz)
      fun t' k h1 h2 => h _ t' k (Fr.pushS hF _) (hN.pushKeep _) h1 h2 (PyProof.Txt.length_slice_le x _ _))⟩ hs ht
theorem slice_tk_sn {i : Int} {ui : Tok} (hF : Fr h₀ L s.heap m) (hN : News h₀ L s.heap news)
    (h : ∀ h' t' k, Fr h₀ L h' m → News h₀ L h' news → s.toks ≤ k → Tk t x s.toks t' (Txt.slice x (some i) none) k → (Txt.slice x (some i) none).length ≤ x.length → Q (.str (Txt.slice x (some i) none) t') { s with heap := h', toks := k })
    (hs : subscripted slice false (.str x t) (.ref s.heap.objs.size) = operate [.ref s.heap.objs.size, .str x t] (getItem (.str x t) (.ref s.heap.objs.size)) := by with_unfolding_all rfl)
    (ht : ∀ r, letTemporaryGo value (.str x t) r = pure () := by intro _; with_unfolding_all rfl) (hsz : x.length ≤ sizeLine := by size_fits) :
    wpAny (model prog w) A (subscriptTail value slice (.str x t) (.ref s.heap.objs.size)) Q E { s with heap := s.heap.push { cls := .type "slice", data := .fields #[.int i ui, .none, .none] } } :=
  tail_of_ItemOn ⟨"str", _, F.slot_str_getitem.lookup, typeIs_str _ _ _, wpAny_getItem_str_slice (l := some (i, ui)) (u := none) (st := none) ⟨_, Heap.get?_push_size _ rfl, rfl, rfl⟩ rfl
    (post_tk (s := { s with heap := s.heap.push _ }) (Nat.le_trans (Txt.slice_le x (some i) none) hsz)
      fun t' k h1 h2 => h _ t' k (Fr.pushS hF _) (hN.pushKeep _) h1 h2 (PyProof.Txt.length_slice_le x _ _))⟩ hs ht
theorem slice_tk_ss {i j : Int} {ui uj : Tok} (hF : Fr h₀ L s.heap m) (hN : News h₀ L s.heap news)
    (h : ∀ h' t' k, Fr h₀ L h' m → News h₀ L h' news → s.toks ≤ k → Tk t x s.toks t' (Txt.slice x (some i) (some j)) k → (Txt.slice x (some i) (some j)).length ≤ x.length → Q (.str (Txt.slice x (some i) (some j)) t') { s with heap := h', toks := k })
    (hs : subscripted slice false (.str x t) (.ref s.heap.objs.size) = operate [.ref s.heap.objs.size, .str x t] (getItem (.str x t) (.ref s.heap.objs.size)) := by with_unfolding_all rfl)
    (ht : ∀ r, letTemporaryGo value (.str x t) r = pure () := by intro _; with_unfolding_all rfl) (hsz : x.length ≤ sizeLine := by size_fits) :
    wpAny (model prog w) A (subscriptTail value slice (.str x t) (.ref s.heap.objs.size)) Q E { s with heap := s.heap.push { cls := .type "slice", data := .fields #[.int i ui, .int j uj, .none] } } :=
  tail_of_ItemOn ⟨"str", _, F.slot_str_getitem.lookup, typeIs_str _ _ _, wpAny_getItem_str_slice (l := some (i, ui)) (u := some (j, uj)) (st := none) ⟨_, Heap.get?_push_size _ rfl, rfl, rfl⟩ rfl
    (post_tk (s := { s with heap := s.heap.push _ }) (Nat.le_trans (Txt.slice_le x (some i) (some j)) hsz)
      fun t' k h1 h2 => h _ t' k (Fr.pushS hF _) (hN.pushKeep _) h1 h2 (PyProof.Txt.length_slice_le x _ _))⟩ hs ht
theorem rstrip_tk (hq : ∀ t' k, s.toks ≤ k → Tk t x s.toks t' (Txt.rstripChars x y) k → (Txt.rstripChars x y).length ≤ x.length → Q (.str (Txt.rstripChars x y) t') { s with toks := k }) (hsz : x.length ≤ sizeLine := by size_fits) :
    wpAny (model prog w) A (call (.builtin "str.rstrip") [.str x t, .str y u]) Q E s :=
  call_gives F.slot_str_rstrip (typeIs_str _ _ _) F.entry_str_rstrip (F.args_str_rstrip_2 _ _) (gives_str_rstrip_chars x y t u)
    (post_tk (Nat.le_trans (len_rstripChars x y) hsz) fun t' k h1 h2 => hq t' k h1 h2 (len_rstripChars x y))
theorem mul_tk {n : Int} (hok : MulOk x n) (h : ∀ t' k, s.toks ≤ k → Q (.str (Txt.mul x n) t') { s with toks := k }) : wpAny (model prog w) A (binaryOp .Mult (.str x t) (.int n u)) Q E s :=
  wpAny_with_toks (Nat.le_refl _) (SB.mul hok fun t' k h1 => h t' k h1)
/-- glued: the token is one of the two (and then the text is that one's), or fresh -/
theorem add_tk (h : ∀ (t' k : Nat), s.toks ≤ k → (@Eq Nat t' t ∧ y.length = 0) ∨ (@Eq Nat t' u ∧ x.length = 0) ∨ (s.toks ≤ t' ∧ t' < k) → Q (.str (x ++ y) t') { s with toks := k }) (hsz : x.length + y.length ≤ sizeLine := by size_fits) :
    wpAny (model prog w) A (binaryOp .Add (.str x t) (.str y u)) Q E s := by
  refine PySem.P.add_str ?_
  by_cases hx : (x.length == 0) = true
  · rw [if_pos hx]
    have e : x ++ y = y := by rw [show x = Str.empty from Str.ext' (by simpa [Str.length, Str.empty] using hx)]; exact Str.empty_append y
    have h' := h u s.toks (Nat.le_refl _) (.inr (.inl ⟨rfl, by simpa using hx⟩))
    rw [e] at h'; exact h'
  · rw [if_neg hx]
    by_cases hy : (y.length == 0) = true
    · rw [if_pos hy]
      have e : x ++ y = x := by rw [show y = Str.empty from Str.ext' (by simpa [Str.length, Str.empty] using hy)]; exact Str.append_empty x
      have h' := h t s.toks (Nat.le_refl _) (.inl ⟨rfl, by simpa using hy⟩)
      rw [e] at h'; exact h'
    · rw [if_neg hy]
      exact ⟨by rw [Str.length_append]; exact hsz, h s.toks (s.toks + 1) (Nat.le_succ _) (.inr (.inr ⟨Nat.le_refl _, Nat.lt_succ_self _⟩))⟩
end
theorem Tk.mono {t : Tok} {x : Str} {a b n n' : Nat} {t' : Tok} {y : Str} (h : Tk t x a t' y b) (h1 : n ≤ a) (h2 : b ≤ n') : Tk t x n t' y n' :=
  h.imp id fun ⟨p, q⟩ => ⟨Nat.le_trans h1 p, Nat.lt_of_lt_of_le q h2⟩
theorem Tk.trans {t : Tok} {x : Str} {a b a' b' n n' : Nat} {t' t'' : Tok} {y z : Str} (k : Tk t' y a' t'' z b') (h : Tk t x a t' y b) (h1 : n ≤ a) (h2 : b ≤ n') (h3 : n ≤ a') (h4 : b' ≤ n') : Tk t x n t'' z n' := by
  rcases k with ⟨rfl, rfl⟩ | k
  · exact h.mono h1 h2
  · exact .inr ⟨Nat.le_trans h3 k.1, Nat.lt_of_lt_of_le k.2 h4⟩
def sl : Str := Str.ofString "/"
def dt : Str := Str.ofString "."
def hdS (x : Str) : Str := Txt.slice x none (some (Txt.rfind x sl + 1))
def headOf (x : Str) : Str := if (hdS x).length ≠ 0 ∧ (hdS x != Txt.mul sl (hdS x).length) = true then Txt.rstripChars (hdS x) sl else hdS x
def tailOf (x : Str) : Str := Txt.slice x (some (Txt.rfind x sl + 1)) none
abbrev tpObj (vs : List Value) : Obj := { cls := .type "tuple", data := .seq vs.toArray }
abbrev lsObj (vs : List Value) (n : Nat) : Obj := { cls := .type "list", data := .seq vs.toArray n }
abbrev liObj (l : Addr) (i : Nat) : Obj := { cls := .type "list_iterator", data := .fields #[.ref l, .int (i : Int) 0] }
/-- a new pair of strs -/
abbrev PairPost (t : Tok) (x a b : Str) (news : Led) : Nat → Nat → Led → Value → Prop := fun n n' news' r => ∃ D t1 t2, r = .ref D ∧ news' = (D, tpObj [.str a t1, .str b t2]) :: news ∧ (∀ q ∈ news, q.1 < D) ∧ Tk t x n t1 a n' ∧ Tk t x n t2 b n'
theorem ret_pair {t : Tok} {x a b a' b' : Str} {news led : Led} {s : Shared} {Q : Value → Shared → Prop} {h₀ h' : Heap} {L D : Addr} {m : Str → Option Value} {tk' : Nat} {t1 t2 : Tok}
    (hret : ∀ r news' h' tk', s.toks ≤ tk' → Fr h₀ L h' m → News h₀ L h' news' → PairPost t x a b news s.toks tk' news' r → Q r { s with heap := h', toks := tk' })
    (F : Fr h₀ L h' m) (N : News h₀ L h' led) (hD : (D, tpObj [.str a' t1, .str b' t2]) ∈ led) (hs : ∀ q ∈ news, q ∈ led) (hl : ∀ q ∈ news, q.1 < D) (ha : a' = a) (hb : b' = b)
    (k1 : Tk t x s.toks t1 a' tk') (k2 : Tk t x s.toks t2 b' tk') (h1 : s.toks ≤ tk') : Q (.ref D) { s with heap := h', toks := tk' } := by
  subst ha hb
  refine hret _ ((D, tpObj [.str a' t1, .str b' t2]) :: news) _ _ h1 F (fun p hp => N p ?_) ⟨D, t1, t2, rfl, rfl, hl, k1, k2⟩
  rcases List.mem_cons.mp hp with rfl | hp
  · exact hD
  · exact hs p hp
theorem of_allLt {d : Addr} {l : Led} : AllLt d l → ∀ p ∈ l, p.1 < d := by
  induction l with
  | nil => intro _ p hp; cases hp
  | cons q r ih =>
    intro h p hp
    rcases List.mem_cons.mp hp with rfl | hp
    · exact h.1
    · exact ih h.2 p hp
theorem ne_all1 {x d : Addr} {l : Led} (h : ∀ q ∈ l, q.1 < d) (hx : @LE.le Nat _ d x) : ∀ q ∈ l, q.1 ≠ x := fun q hq => Nat.ne_of_lt (Nat.lt_of_lt_of_le (h q hq) hx)
theorem ne_all2 {x d : Addr} {l : Led} (h : AllLt d l) (hx : @LE.le Nat _ d x) : ∀ q ∈ l, q.1 ≠ x := ne_all1 (of_allLt h) hx
end
section
section
variable {prog : Program} {w : World} {A : Around} {E : Value → Shared → Prop} {s : Shared} {env : Env}
/-- what is wanted behind the body of a loop -/
def WFlow (Q : Flow → Shared → Prop) (rest : Shared → Prop) (f : Flow) (s : Shared) : Prop := match f with
  | .next => rest s
  | .cont => rest s
  | .brk => Q .next s
  | .ret v => Q (.ret v) s
def WTurn (prog : Program) (w : World) (A : Around) (E : Value → Shared → Prop) (env : Env) (body : List Stmt) (Q : Flow → Shared → Prop) (rest : Shared → Prop) (b : Bool) (s : Shared) : Prop :=
  if b = true then wpAny (model prog w) A (execs body env) (WFlow Q rest) E s else Q .next s
/-- the end of a turn: some smaller measure, the invariant -/
def Again (I : Nat → Shared → Prop) (n : Nat) (s : Shared) : Prop := ∃ m, m < n ∧ I m s
theorem while_inv {test : Expr} {body : List Stmt} {pos : Pos} {Q : Flow → Shared → Prop} (I : Nat → Shared → Prop)
    (turn : ∀ n s, I n s → wpAny (model prog w) A (isTrue test env (eval test env)) (WTurn prog w A E env body Q (Again I n)) E s) (n : Nat) (h : I n s) (hE : PassesOwn (model prog w) A env E := by passes_own) :
    wpAny (model prog w) A (exec (.While test body [] pos) env) Q E s := by
  show wpAny _ _ (do standAt pos; runOwn (.whileLoop test body [] env) env) _ _ _
  refine wpAny_bind (wpAny_standAt (wpAny_runOwn ?_))
  refine codeAny_loop' rfl I (fun n s hI => ?_) n h
  show wpAny _ _ ((whileTurn test body [] env).onRaise (fun x => do noteFrame x env; theTreesLotGoes x)) _ _ s
  refine wpAny_noted ?_
  unfold whileTurn
  refine wpAny_bind (wpAny_passesOwn hE (wpAny_mono (turn n s hI) (fun b s₁ h₁ => ?_) fun _ _ z => z))
  cases b with
  | true =>
    unfold WTurn at h₁
    rw [if_pos rfl] at h₁ ⊢
    refine wpAny_bind (wpAny_passesOwn hE (wpAny_mono h₁ (fun f s₂ h₂ => ?_) fun _ _ z => z))
    cases f with
    | next => exact wpAny_pure (.inl ⟨rfl, h₂⟩)
    | cont => exact wpAny_pure (.inl ⟨rfl, h₂⟩)
    | brk => exact wpAny_pure h₂
    | ret v => exact wpAny_pure h₂
  | false =>
    unfold WTurn at h₁
    rw [if_neg (by decide)] at h₁ ⊢
    refine wpAny_bind ?_
    exact wpAny_execs_nil (wpAny_pure h₁)
/-- the end of a turn of a frame's loop: the frame's map again as `J` says, nothing else turned -/
def TurnFr (g : Heap) (L : Addr) (news : Led) (s₀ : Shared) (J : Nat → Nat → (Str → Option Value) → Prop) (n : Nat) (s : Shared) : Prop :=
  ∃ n' m', n' < n ∧ J n' s.toks m' ∧ Fr g L s.heap m' ∧ News g L s.heap news ∧ s₀.toks ≤ s.toks ∧ s = { s₀ with heap := s.heap, toks := s.toks }
theorem TurnFr.intro {g h : Heap} {L : Addr} {news : Led} {s₀ : Shared} {J : Nat → Nat → (Str → Option Value) → Prop} {n n' k : Nat} {m' : Str → Option Value} (F : Fr g L h m') (N : News g L h news) (hk : s₀.toks ≤ k) (hJ : J n' k m') (hn : n' < n) :
    TurnFr g L news s₀ J n { s₀ with heap := h, toks := k } := ⟨n', m', hn, hJ, F, N, hk, rfl⟩
theorem while_fr {test : Expr} {body : List Stmt} {pos : Pos} {Q : Flow → Shared → Prop} {g : Heap} {L : Addr} {m : Str → Option Value} {news : Led} (F : Fr g L s.heap m) (N : News g L s.heap news)
    (J : Nat → Nat → (Str → Option Value) → Prop) {n : Nat} (h0 : J n s.toks m)
    (turn : ∀ n m h k, s.toks ≤ k → J n k m → Fr g L h m → News g L h news → wpAny (model prog w) A (isTrue test env (eval test env)) (WTurn prog w A E env body Q (TurnFr g L news s J n)) E { s with heap := h, toks := k })
    (hE : PassesOwn (model prog w) A env E := by passes_own) :
    wpAny (model prog w) A (exec (.While test body [] pos) env) Q E s := by
  refine while_inv (fun n s' => ∃ m', J n s'.toks m' ∧ Fr g L s'.heap m' ∧ News g L s'.heap news ∧ s.toks ≤ s'.toks ∧ s' = { s with heap := s'.heap, toks := s'.toks }) (fun n s' hI => ?_) n ⟨m, h0, F, N, Nat.le_refl _, rfl⟩ hE
  obtain ⟨m', hJ, F', N', hk, e⟩ := hI
  have t := turn n m' s'.heap s'.toks hk hJ F' N'
  rw [← e] at t
  refine wpAny_mono t (fun b s₁ h₁ => ?_) fun _ _ z => z
  cases b with
  | true =>
    unfold WTurn at h₁ ⊢
    rw [if_pos rfl] at h₁ ⊢
    refine wpAny_mono h₁ (fun f s₂ h₂ => ?_) fun _ _ z => z
    cases f with
    | next => obtain ⟨n', m', a, b, c, d, e, f⟩ := h₂; exact ⟨n', a, m', b, c, d, e, f⟩
    | cont => obtain ⟨n', m', a, b, c, d, e, f⟩ := h₂; exact ⟨n', a, m', b, c, d, e, f⟩
    | brk => exact h₂
    | ret v => exact h₂
  | false => exact h₁
/-- an iterator object by its steps: `P i` tells the object ahead of step i, `V i` the value of step i (with the tokens before and behind) -/
structure Steps (prog : Program) (w : World) (I : Addr) (P : Nat → Obj → Prop) (n : Nat) (need : Led) (V : Nat → Value → Nat → Nat → Prop) : Prop where
  item : ∀ (A : Around) (E : Value → Shared → Prop) (s : Shared) (Q : Option Value → Shared → Prop) (i : Nat) (o : Obj), i < n → P i o → s.heap.get? I = some o → (∀ q ∈ need, s.heap.get? q.1 = some q.2) →
    (∀ v h' k o', V i v s.toks k → s.toks ≤ k → P (i + 1) o' → h'.get? I = some o' → Heap.SameBut I s.heap h' → Q (some v) { s with heap := h', toks := k }) → wpAny (model prog w) A (pyNext (.ref I)) Q E s
  fin : ∀ (A : Around) (E : Value → Shared → Prop) (s : Shared) (Q : Option Value → Shared → Prop) (o : Obj), A.handled = none → P n o → s.heap.get? I = some o → (∀ q ∈ need, s.heap.get? q.1 = some q.2) →
    (∀ h', Heap.ExtBut I s.heap h' → Q none { s with heap := h' }) → wpAny (model prog w) A (pyNext (.ref I)) Q E s
def IsLi (l : Addr) (i : Nat) (o : Obj) : Prop := o.cls = .type "list_iterator" ∧ o.data = .fields #[.ref l, .int (i : Int) 0]
theorem steps_list {I l : Addr} {vs : List Value} {k : Nat} : Steps prog w I (IsLi l) vs.length [(l, lsObj vs k)] (fun i v t t' => vs[i]? = some v ∧ t' = t) where
  item := fun A E s Q i o hi ho hI hn h => by
    have hl : s.heap.IsList l vs.toArray := ⟨_, hn _ (.head _), rfl, k, rfl⟩
    refine wpAny_pyNext_list_item (i := i) (x := vs[i]) ⟨o, hI, ho.1, ho.2⟩ hl (by simp [hi]) fun h' hit hs => ?_
    obtain ⟨o', ho', hc, hd⟩ := hit
    exact h _ h' s.toks o' ⟨by simp [hi], rfl⟩ (Nat.le_refl _) ⟨hc, hd⟩ ho' hs
  fin := fun A E s Q o hh ho hI hn h => by
    have hl : s.heap.IsList l vs.toArray := ⟨_, hn _ (.head _), rfl, k, rfl⟩
    exact wpAny_pyNext_list_end hh (i := vs.length) ⟨o, hI, ho.1, ho.2⟩ hl (by simp) fun h' hs => h h' hs
def IsRi (a : Int) (n i : Nat) (o : Obj) : Prop := o = { cls := .type "range_iterator", dict := none, data := .fields #[rawInt (a + i), rawInt (n - i), rawInt 1], slots := #[] }
theorem steps_range {I : Addr} {a : Int} {n : Nat} : Steps prog w I (IsRi a n) n [] (fun i v t t' => v = .int (a + i) t ∧ t' = t + 1) where
  item := fun A E s Q i o hi ho hI _ h => by
    subst ho
    refine wpAny_pyNext_range_item hI (by omega) fun h' hit hs => ?_
    refine h _ h' _ _ ⟨rfl, rfl⟩ (Nat.le_succ _) ?_ hit hs
    show _ = _
    have e1 : a + (i : Int) + 1 = a + ((i + 1 : Nat) : Int) := by push_cast; omega
    have e2 : (n : Int) - i - 1 = (n : Int) - ((i + 1 : Nat) : Int) := by push_cast; omega
    rw [e1, e2]
  fin := fun A E s Q o hh ho hI _ h => by
    subst ho
    exact wpAny_pyNext_range_end hh hI (by omega) h
/-- the end of a turn of a for in a frame -/
def TurnF (g : Heap) (L I : Addr) (P : Nat → Obj → Prop) (s₀ : Shared) (J : Nat → Nat → (Str → Option Value) → Led → Prop) (i : Nat) (s : Shared) : Prop :=
  ∃ m' led' o, P i o ∧ J i s.toks m' led' ∧ Fr g L s.heap m' ∧ News g L s.heap ((I, o) :: led') ∧ s₀.toks ≤ s.toks ∧ s = { s₀ with heap := s.heap, toks := s.toks }
theorem TurnF.intro {g h : Heap} {L I : Addr} {P : Nat → Obj → Prop} {s₀ : Shared} {J : Nat → Nat → (Str → Option Value) → Led → Prop} {i k : Nat} {m' : Str → Option Value} {led led' : Led} {o : Obj} (hP : P i o) (F : Fr g L h m') (N : News g L h led) (hI : (I, o) ∈ led) (hs : ∀ q ∈ led', q ∈ led) (hk : s₀.toks ≤ k) (hJ : J i k m' led') :
    TurnF g L I P s₀ J i { s₀ with heap := h, toks := k } := ⟨m', led', o, hP, hJ, F, (fun q hq => N q (by rcases List.mem_cons.mp hq with rfl | hq; exact hI; exact hs q hq)), hk, rfl⟩
theorem fr_ext {g h h' : Heap} {L I : Addr} {m : Str → Option Value} {led : Led} {o : Obj} (F : Fr g L h m) (N : News g L h ((I, o) :: led)) (hne : ∀ q ∈ led, q.1 ≠ I) (hs : Heap.ExtBut I h h') : Fr g L h' m ∧ News g L h' led := by
  have hI := N (I, o) (.head _)
  obtain ⟨oL, a1, a2, hoL, a3⟩ := F.ns
  refine ⟨⟨⟨oL, a1, a2, hs L oL hI.2.1.symm hoL, a3⟩, fun b x e => hs b x ?_ (F.keep b x e), F.above⟩, fun q hq => ⟨hs q.1 q.2 (hne q hq) (N q (.tail _ hq)).1, (N q (.tail _ hq)).2⟩⟩
  rintro rfl
  rw [hI.2.2] at e
  cases e
theorem forLoop_fr {target : Expr} {body : List Stmt} {Q : Flow → Shared → Prop} {g : Heap} {L I : Addr} {P : Nat → Obj → Prop} {n : Nat} {need : Led} {V : Nat → Value → Nat → Nat → Prop} {m : Str → Option Value} {led : Led} {o : Obj}
    (S : Steps prog w I P n need V) (hh : A.handled = none) (F : Fr g L s.heap m) (N : News g L s.heap ((I, o) :: led)) (hP : P 0 o)
    (J : Nat → Nat → (Str → Option Value) → Led → Prop) (h0 : J 0 s.toks m led) (hJ : ∀ i k m led, J i k m led → (∀ q ∈ need, q ∈ led) ∧ ∀ q ∈ led, q.1 ≠ I)
    (hg : ∀ (i : Nat) (o : Obj) (v : Value) (s : Shared) (Q : Unit → Shared → Prop) (E : Value → Shared → Prop), P i o → s.heap.get? I = some o → Q () s → wpAny (model prog w) A (letOwnedTupleGo target (.ref I) v) Q E s)
    (turn : ∀ i v m led o h k k0, s.toks ≤ k0 → k0 ≤ k → i < n → J i k0 m led → V i v k0 k → P (i + 1) o → Fr g L h m → News g L h ((I, o) :: led) →
      wpAny (model prog w) A (assign target env v) (fun _ s₂ => wpAny (model prog w) A (execs body env) (WFlow Q (TurnF g L I P s J (i + 1))) E s₂) E { s with heap := h, toks := k })
    (fin : ∀ m led h k, s.toks ≤ k → J n k m led → Fr g L h m → News g L h led → Q .next { s with heap := h, toks := k })
    (hE : PassesOwn (model prog w) A env E := by passes_own) :
    codeAny (model prog w) A (.forLoop target (.ref I) body [] env) (fun r s' => match r with | .ok f => Q f s' | .error e => cameBackBy (model prog w) A env E e s') s := by
  refine codeAny_forLoop_any (fun c s' => ∃ i m led o, c = n - i ∧ i ≤ n ∧ P i o ∧ J i s'.toks m led ∧ Fr g L s'.heap m ∧ News g L s'.heap ((I, o) :: led) ∧ s.toks ≤ s'.toks ∧ s' = { s with heap := s'.heap, toks := s'.toks }) (fun c s' hI => ?_) n
    ⟨0, m, led, o, rfl, Nat.zero_le _, hP, h0, F, N, Nat.le_refl _, rfl⟩
  obtain ⟨i, m', led', o', rfl, hi, hP', hJ', F', N', hk, e⟩ := hI
  have hn := hJ i _ m' led' hJ'
  have needs : ∀ q ∈ need, s'.heap.get? q.1 = some q.2 := fun q hq => (N' q (.tail _ (hn.1 q hq))).1
  by_cases hin : i < n
  · refine S.item A _ s' _ i o' hin hP' (N' _ (.head _)).1 needs fun v h' k o2 hV hkk hP2 ho2 hs => ?_
    have hI' := N' _ (.head _)
    have F2 : Fr g L h' m' := F'.change hs hI'.2.1 hI'.2.2
    have N2 : News g L h' ((I, o2) :: led') := N'.setIn (own := []) (fun _ hq => nomatch hq) hn.2 hs ho2
    refine hg (i + 1) o2 v _ _ _ hP2 ho2 ?_
    have t := turn i v m' led' o2 h' k s'.toks hk hkk hin hJ' hV hP2 F2 N2
    have e3 : ({ s' with heap := h', toks := k } : Shared) = { s with heap := h', toks := k } := by rw [e]
    rw [e3]
    refine wpAny_passesOwn hE (wpAny_mono t (fun _ s₂ h₂ => ?_) fun _ _ z => z)
    refine wpAny_passesOwn hE (wpAny_mono h₂ (fun f s₃ h₃ => ?_) fun _ _ z => z)
    cases f with
    | next => obtain ⟨m3, led3, o3, a1, a2, a3, a4, a5, a6⟩ := h₃; exact ⟨n - (i + 1), by omega, i + 1, m3, led3, o3, rfl, by omega, a1, a2, a3, a4, a5, a6⟩
    | cont => obtain ⟨m3, led3, o3, a1, a2, a3, a4, a5, a6⟩ := h₃; exact ⟨n - (i + 1), by omega, i + 1, m3, led3, o3, rfl, by omega, a1, a2, a3, a4, a5, a6⟩
    | brk => exact h₃
    | ret v => exact h₃
  · obtain rfl : i = n := by omega
    refine S.fin A _ s' _ o' hh hP' (N' _ (.head _)).1 needs fun h' hs => ?_
    obtain ⟨F2, N2⟩ := fr_ext F' N' hn.2 hs
    refine wpAny_execs_nil ?_
    have z := fin m' led' h' s'.toks hk hJ' F2 N2
    have e3 : ({ s' with heap := h' } : Shared) = { s with heap := h', toks := s'.toks } := by rw [e]
    rw [e3]; exact z
theorem off_new {g h : Heap} {L : Addr} {led : Led} (N : News g L h led) {a : Addr} (ha : a ∈ led.map (·.1)) : a ≠ h.objs.size := by
  obtain ⟨q, hq, rfl⟩ := List.mem_map.mp ha
  exact Nat.ne_of_lt (Heap.lt_size (N q hq).1)
theorem for_range {x : Str} {px : Pos} {body : List Stmt} {Q : Flow → Shared → Prop} {g : Heap} {L r : Addr} {n : Nat} {b : Int} {t u v : Tok} {m : Str → Option Value} {led : Led}
    (hh : A.handled = none) (hr : IsRange s.heap r 0 b 1 t u v) (hb : b = (n : Int)) (hn : n < 2 ^ 62) (F : Fr g L s.heap m) (N : News g L s.heap led)
    (J : Nat → Nat → (Str → Option Value) → Led → Prop) (h0 : J 0 s.toks m led) (hJ : ∀ i k m led', J i k m led' → ∀ q ∈ led', q.1 ∈ led.map (·.1))
    (turn : ∀ I i m led o h k tk, s.toks ≤ tk → tk < k → i < n → J i tk m led → Fr g L h m → News g L h ((I, o) :: led) → IsRi 0 n (i + 1) o →
      wpAny (model prog w) A (storeName env x (.int (i : Int) tk)) (fun _ s₂ => wpAny (model prog w) A (execs body env) (WFlow Q (TurnF g L I (IsRi 0 n) s J (i + 1))) E s₂) E { s with heap := h, toks := k })
    (fin : ∀ m led h k, s.toks ≤ k → J n k m led → Fr g L h m → News g L h led → Q .next { s with heap := h, toks := k })
    (hE : PassesOwn (model prog w) A env E := by passes_own) :
    wpAny (model prog w) A (pyIter (.ref r)) (fun it s₂ => codeAny (model prog w) A (.forLoop (.Name x px) it body [] env) (fun r s' => match r with | .ok f => Q f s' | .error e => cameBackBy (model prog w) A env E e s') s₂) E s := by
  subst hb
  have hsz : Builtin.Range.rangeSize 0 (n : Int) 1 = n := by
    unfold Builtin.Range.rangeSize
    simp
    omega
  refine wpAny_pyIter_range hr ?_ ?_
  · unfold Builtin.Range.small
    rw [hsz]
    unfold Builtin.Range.rangeFitsLong
    simp
    omega
  · rw [hsz]
    refine forLoop_fr (s := { s with heap := s.heap.push _ }) (g := g) (L := L) (m := m) (led := led) (steps_range (a := 0) (n := n)) hh (F.push _) (N.push F _) (by show _ = _; simp) J h0 (fun i k m led' h => ⟨(fun _ hq => (nomatch hq)), fun q hq => off_new N (hJ i k m led' h q hq)⟩)
      (fun i o v s Q E _ _ h => wpAny_pure h) (fun i v m led o h k k0 h1 h2 h3 h4 h5 h6 h7 h8 => ?_) fin hE
    obtain ⟨rfl, rfl⟩ := h5
    refine wpAny_assign_Name ?_
    have z := turn _ i m led o h _ k0 h1 (Nat.lt_succ_self _) h3 h4 h7 h8 h6
    rw [show (0 : Int) + (i : Int) = i by omega]
    exact z
theorem for_tk {M : Model} {target : Expr} {iter : Expr} {body orelse : List Stmt} {pos : Pos} {Q : Flow → Shared → Prop}
    (h : wpAny M A (eval iter env) (fun x s₁ => After s.toks (fun s₁ => wpAny M A (pyIter x) (fun it s₂ =>
      codeAny M A (.forLoop target it body orelse env) (fun r s' => match r with | .ok f => Q f s' | .error e => cameBackBy M A env E e s') s₂) E s₁) s₁) E s)
    (hs : ∀ x, foldedSetIterable iter env x = pure x := by intro _; rfl) :
    wpAny M A (exec (.For target iter body orelse pos) env) Q E s :=
  wpAny_For (wpAny_mono (wpAny_toks h) (fun x s₁ z => z.2 z.1) fun _ _ z => z.2) hs
def IsSi (ty : String) (x : Str) (t : Tok) (i : Nat) (o : Obj) : Prop := o.cls = .type ty ∧ o.data = .fields #[.str x t, .int (i : Int) 0]
theorem steps_str {I : Addr} {ty : String} (hty : ty = "str_ascii_iterator" ∨ ty = "str_iterator") {x : Str} {t : Tok} : Steps prog w I (IsSi ty x t) x.length [] (fun i v t t' => (∃ c, x.cps[i]? = some c ∧ v = .str ⟨#[c]⟩ t) ∧ t' = t + 1) where
  item := fun A E s Q i o hi ho hI _ h => by
    have hx : x.cps[i]? = some x.cps[i] := by simp [Str.length] at hi; simp [hi]
    rcases hty with rfl | rfl
    · refine wpAny_pyNext_ascii_item (i := i) ⟨o, hI, ho.1, ho.2⟩ hx fun h' hit hs => ?_
      obtain ⟨o', ho', hc, hd⟩ := hit
      exact h _ h' _ o' ⟨⟨_, hx, rfl⟩, rfl⟩ (Nat.le_succ _) ⟨hc, hd⟩ ho' hs
    · refine wpAny_pyNext_wide_item (i := i) ⟨o, hI, ho.1, ho.2⟩ hx fun h' hit hs => ?_
      obtain ⟨o', ho', hc, hd⟩ := hit
      exact h _ h' _ o' ⟨⟨_, hx, rfl⟩, rfl⟩ (Nat.le_succ _) ⟨hc, hd⟩ ho' hs
  fin := fun A E s Q o hh ho hI _ h => by
    have hx : x.cps[x.length]? = none := by simp [Str.length]
    rcases hty with rfl | rfl
    · exact wpAny_pyNext_ascii_end hh (i := x.length) ⟨o, hI, ho.1, ho.2⟩ hx h
    · exact wpAny_pyNext_wide_end hh (i := x.length) ⟨o, hI, ho.1, ho.2⟩ hx h
theorem for_str {y : Str} {px : Pos} {body : List Stmt} {Q : Flow → Shared → Prop} {g : Heap} {L : Addr} {x : Str} {t : Tok} {m : Str → Option Value} {led : Led}
    (hh : A.handled = none) (F : Fr g L s.heap m) (N : News g L s.heap led)
    (J : Nat → Nat → (Str → Option Value) → Led → Prop) (h0 : J 0 s.toks m led) (hJ : ∀ i k m led', J i k m led' → ∀ q ∈ led', q.1 ∈ led.map (·.1))
    (turn : ∀ I P i m led o h k tk c, s.toks ≤ tk → tk < k → i < x.length → x.cps[i]? = some c → J i tk m led → Fr g L h m → News g L h ((I, o) :: led) → P (i + 1) o →
      wpAny (model prog w) A (storeName env y (.str ⟨#[c]⟩ tk)) (fun _ s₂ => wpAny (model prog w) A (execs body env) (WFlow Q (TurnF g L I P s J (i + 1))) E s₂) E { s with heap := h, toks := k })
    (fin : ∀ m led h k, s.toks ≤ k → J x.length k m led → Fr g L h m → News g L h led → Q .next { s with heap := h, toks := k })
    (hE : PassesOwn (model prog w) A env E := by passes_own) :
    wpAny (model prog w) A (pyIter (.str x t)) (fun it s₂ => codeAny (model prog w) A (.forLoop (.Name y px) it body [] env) (fun r s' => match r with | .ok f => Q f s' | .error e => cameBackBy (model prog w) A env E e s') s₂) E s := by
  have key : ∀ ty, (ty = "str_ascii_iterator" ∨ ty = "str_iterator") → codeAny (model prog w) A (.forLoop (.Name y px) (.ref s.heap.objs.size) body [] env) (fun r s' => match r with | .ok f => Q f s' | .error e => cameBackBy (model prog w) A env E e s')
      { s with heap := s.heap.push { cls := .type ty, data := .fields #[.str x t, .int 0 0] } } := fun ty hty => by
    refine forLoop_fr (s := { s with heap := s.heap.push _ }) (g := g) (L := L) (m := m) (led := led) (steps_str hty (x := x) (t := t)) hh (F.push _) (N.push F _) ⟨rfl, by simp⟩ J h0 (fun i k m led' h => ⟨(fun _ hq => (nomatch hq)), fun q hq => off_new N (hJ i k m led' h q hq)⟩)
      (fun i o v s Q E _ _ h => wpAny_pure h) (fun i v m led o h k k0 h1 h2 h3 h4 h5 h6 h7 h8 => ?_) fin hE
    obtain ⟨⟨c, hc, rfl⟩, rfl⟩ := h5
    exact wpAny_assign_Name (turn _ (IsSi ty x t) i m led o h _ k0 c h1 (Nat.lt_succ_self _) h3 hc h4 h7 h8 h6)
  cases ha : x.cps.all (· < 128) with
  | true => exact wpAny_pyIter_ascii ha (key _ (.inl rfl))
  | false => exact wpAny_pyIter_wide ha (key _ (.inr rfl))
theorem letGo_list {target : Expr} {I : Addr} {i : Nat} {l : Addr} {o : Obj} {v : Value} {Q : Unit → Shared → Prop} (ho : IsLi l i o) (hI : s.heap.get? I = some o) (h : Q () s) :
    wpAny (model prog w) A (letOwnedTupleGo target (.ref I) v) Q E s := by
  obtain ⟨hc, hd⟩ := ho
  unfold letOwnedTupleGo
  split
  · cases v <;> first | exact wpAny_pure h | skip
    refine wpAny_bind (wpAny_load hI ?_)
    rw [hc, hd]
    dsimp only
    rw [if_neg (by simp)]
    exact wpAny_pure h
  · cases v <;> first | exact wpAny_pure h | skip
    refine wpAny_bind (wpAny_load hI ?_)
    rw [hc, hd]
    dsimp only
    rw [if_neg (by simp)]
    exact wpAny_pure h
  · exact wpAny_pure h
/-- a for over a made list of the ledger -/
theorem for_list {target : Expr} {body : List Stmt} {Q : Flow → Shared → Prop} {g : Heap} {L l : Addr} {vs : List Value} {n0 : Nat} {m : Str → Option Value} {led : Led}
    (hh : A.handled = none) (F : Fr g L s.heap m) (N : News g L s.heap led) (hl : (l, lsObj vs n0) ∈ led)
    (J : Nat → Nat → (Str → Option Value) → Led → Prop) (h0 : J 0 s.toks m led) (hJ : ∀ i k m led', J i k m led' → (l, lsObj vs n0) ∈ led' ∧ ∀ q ∈ led', q.1 ∈ led.map (·.1))
    (turn : ∀ I i v m led o h k, s.toks ≤ k → i < vs.length → vs[i]? = some v → J i k m led → Fr g L h m → News g L h ((I, o) :: led) → IsLi l (i + 1) o →
      wpAny (model prog w) A (assign target env v) (fun _ s₂ => wpAny (model prog w) A (execs body env) (WFlow Q (TurnF g L I (IsLi l) s J (i + 1))) E s₂) E { s with heap := h, toks := k })
    (fin : ∀ m led h k, s.toks ≤ k → J vs.length k m led → Fr g L h m → News g L h led → Q .next { s with heap := h, toks := k })
    (hE : PassesOwn (model prog w) A env E := by passes_own) :
    wpAny (model prog w) A (pyIter (.ref l)) (fun it s₂ => codeAny (model prog w) A (.forLoop target it body [] env) (fun r s' => match r with | .ok f => Q f s' | .error e => cameBackBy (model prog w) A env E e s') s₂) E s := by
  refine wpAny_pyIter_list (l := l) (items := vs.toArray) ⟨_, (N _ hl).1, rfl, n0, rfl⟩ ?_
  refine forLoop_fr (s := { s with heap := s.heap.push _ }) (g := g) (L := L) (m := m) (led := led) (steps_list (l := l) (vs := vs) (k := n0)) hh (F.push _) (N.push F _) ⟨rfl, by simp⟩ J h0
    (fun i k m led' h => ⟨(fun q hq => by rcases List.mem_singleton.mp hq with rfl; exact (hJ i k m led' h).1), fun q hq => off_new N ((hJ i k m led' h).2 q hq)⟩)
    (fun i o v s Q E hP hI h => letGo_list hP hI h) (fun i v m led o h k k0 h1 h2 h3 h4 h5 h6 h7 h8 => ?_) fin hE
  obtain ⟨h5, rfl⟩ := h5
  exact turn _ i v m led o h _ h1 h3 h5 h4 h7 h8 h6
end
end
section
theorem map_slot_init : Slot "map" "__init__" "object.__init__" :=
  .of (owner := "object") (n := "__init__") (by rw [typeLookup_type, builtinLookup_eq_fast]; kernel_rfl) (by decide +kernel) (by decide +kernel) (by decide +kernel)
    (by first | exact .inl (by decide +kernel) | exact .inr (by decide +kernel)) (by rw [isSubtype_type]; kernel_rfl)
theorem map_slot_iter : Slot "map" "__iter__" "map.__iter__" :=
  .of (owner := "map") (n := "__iter__") (by rw [typeLookup_type, builtinLookup_eq_fast]; kernel_rfl) (by decide +kernel) (by decide +kernel) (by decide +kernel)
    (by first | exact .inl (by decide +kernel) | exact .inr (by decide +kernel)) (by rw [isSubtype_type]; kernel_rfl)
theorem map_slot_next : Slot "map" "__next__" "map.__next__" :=
  .of (owner := "map") (n := "__next__") (by rw [typeLookup_type, builtinLookup_eq_fast]; kernel_rfl) (by decide +kernel) (by decide +kernel) (by decide +kernel)
    (by first | exact .inl (by decide +kernel) | exact .inr (by decide +kernel)) (by rw [isSubtype_type]; kernel_rfl)
theorem map_entry_iter : entryFor table "map.__iter__" = some Builtin.«dict_keyiterator.__iter__» := by rw [table_eq_tree, Fast.te12177470255685639600]; kernel_rfl
theorem map_entry_next : entryFor table "map.__next__" = some Builtin.«map.__next__» := entryFor_of_tree (by kernel_rfl)
theorem map_entry_new : entryFor table "map.__new__" = some Builtin.«map.__new__» := entryFor_of_tree (by kernel_rfl)
theorem map_args_iter (a : Value) : argsOk "map.__iter__" ⟨[a], []⟩ := by unfold argsOk; kernel_rfl
theorem map_args_next (a : Value) : argsOk "map.__next__" ⟨[a], []⟩ := by unfold argsOk; kernel_rfl
theorem map_mro : mroOf (.type "map") = pure [.type "map", .type "object"] := by rw [mroOf_type]; kernel_rfl
theorem map_lookup_new : typeLookup (.type "map") "__new__" = pure (some (.builtin "map.__new__")) := by rw [typeLookup_type, builtinLookup_eq_fast]; kernel_rfl
theorem map_called : TypeCalled "map" "map.__new__" "object.__init__" :=
  ⟨by decide +kernel, by decide +kernel, ⟨_, _, map_mro⟩, madeBy_type map_mro map_lookup_new (by decide +kernel), by decide +kernel, by rw [isSubtype_type]; kernel_rfl, map_slot_init⟩
theorem map_typeCall (a b : Value) : checkTypeCall "map" ⟨[a, b], []⟩ = pure () := by rw [Fast.te11612656972197000677]; kernel_rfl
theorem map_newCall (a b : Value) : checkBuiltinCall "map.__new__" ⟨[.type "map", a, b], []⟩ = pure () := by rw [Fast.te10254737850608025244]; kernel_rfl
theorem map_sub : isSubtype (.type "map") (.type "map") = pure true := by rw [isSubtype_type]; kernel_rfl
end
section
section
variable {prog : Program} {w : World} {A : Around} {E : Value → Shared → Prop} {s : Shared}
/-- a call of a built-in class by the tree of its `__new__` -/
theorem type_any {T newId : String} {Bn : Builtin} {args : List Value} {Q : Value → Shared → Prop} (ft : TypeCalled T newId "object.__init__")
    (hne : (some newId != some "object.__new__") = true) (hct : checkTypeCall T ⟨args, []⟩ = pure ()) (hcn : checkBuiltinCall newId ⟨.type T :: args, []⟩ = pure ())
    (hok : ∀ obj, argsOk "object.__init__" ⟨obj :: args, []⟩) (entryN : entryFor table newId = some Bn)
    (h : wpAny (model prog w) A.in1.in1 (Bn ⟨.type T :: args, []⟩) (fun fin s' => ∃ v, fin = .done (.ret v) ∧ s'.TypeIs v T ∧ Q v s') E s) : wpAny (model prog w) A (call (.type T) args) Q E s :=
  callType_newIn (S := fun A R s => wpAny (model prog w) A.in1 (Bn ⟨.type T :: args, []⟩) (fun fin s' => ∃ v, fin = .done (.ret v) ∧ R (.ok (.ret v)) s') (fun e s' => R (.error e) s') s) ft hne hct hcn hok entryN
    (fun A R s h => wpAny_mono h (fun fin s' ⟨v, e, hr⟩ => by subst e; exact hr) fun _ _ z => z)
    (wpAny_mono h (fun fin s' ⟨v, e, hr⟩ => ⟨v, e, hr⟩) fun _ _ z => z)
abbrev mapObj (T : Addr) (f : Value) : Obj := { cls := .type "map", data := .fields #[.ref T, f] }
abbrev zipObj (f0 : Value) (b : Bool) (TI TO : Addr) : Obj := { cls := .type "zip", data := .fields #[f0, .bool b, .bool false, .ref TI, .ref TO] }
variable {h₀ : Heap} {L : Addr} {m : Str → Option Value} {news : Led}
theorem call_map {l : Addr} {f : Value} {vs : List Value} {n0 : Nat} {Q : Value → Shared → Prop} (F : Fr h₀ L s.heap m) (N : News h₀ L s.heap news) (hl : (l, lsObj vs n0) ∈ news)
    (h : ∀ li T mo h', Fr h₀ L h' m → News h₀ L h' ((mo, mapObj T f) :: (T, tpObj [.ref li]) :: (li, liObj l 0) :: news) → (∀ q ∈ news, q.1 < li) → li < T → T < mo → Q (.ref mo) { s with heap := h' }) :
    wpAny (model prog w) A (call (.type "map") [f, .ref l]) Q E s := by
  refine type_any map_called (by decide) (map_typeCall _ _) (map_newCall _ _) (fun obj => PySem.F.args_object_init_3 obj _ _) map_entry_new ?_
  obtain ⟨hp, g, d, tk, os⟩ := s
  have hsub := map_sub
  have hL1 : Heap.IsList (Shared.heap ⟨hp, g, d, tk, os⟩) l vs.toArray := ⟨_, (N _ hl).1, rfl, n0, rfl⟩
  wp_walk using wpAny_pyIter_list hL1
  have F1 := F.push (liObj l 0)
  have N1 := N.push F (liObj l 0)
  have F2 := F1.push (tpObj [.ref hp.objs.size])
  have N2 := N1.push F1 (tpObj [.ref hp.objs.size])
  have F3 := F2.push (mapObj (hp.push (liObj l 0)).objs.size f)
  have N3 := N2.push F2 (mapObj (hp.push (liObj l 0)).objs.size f)
  have e1 : (hp.push (liObj l 0)).objs.size = hp.objs.size + 1 := Heap.size_push ..
  have e2 : ((hp.push (liObj l 0)).push (tpObj [.ref hp.objs.size])).objs.size = hp.objs.size + 2 := by rw [Heap.size_push, e1]
  have l1 : hp.objs.size < (hp.push (liObj l 0)).objs.size := by rw [e1]; exact Nat.lt_succ_self _
  have l2 : (hp.push (liObj l 0)).objs.size < ((hp.push (liObj l 0)).push (tpObj [.ref hp.objs.size])).objs.size := by rw [e1, e2]; exact Nat.lt_succ_self _
  exact ⟨_, rfl, ⟨_, Heap.get?_push_size _ rfl, rfl⟩, h _ _ _ _ F3 N3 (fun q hq => Heap.lt_size (N q hq).1) l1 l2⟩
/-- zip of two things, each by what its iterator is -/
theorem call_zip {a b : Value} {Q : Value → Shared → Prop}
    (h : wpAny (model prog w) A.in1.in1 (pyIter a) (fun i1 s1 => wpAny (model prog w) A.in1.in1 (pyIter b) (fun i2 s2 => ∃ (L : Addr) (m : Str → Option Value) (news : Led), Fr h₀ L s2.heap m ∧ News h₀ L s2.heap news ∧
      ∀ TI TO z h', Fr h₀ L h' m → News h₀ L h' ((z, zipObj .none false TI TO) :: (TO, tpObj [.none, .none]) :: (TI, tpObj [i1, i2]) :: news) → (∀ q ∈ news, q.1 < TI) → TI < TO → TO < z → Q (.ref z) { s2 with heap := h' }) E s1) E s) :
    wpAny (model prog w) A (call (.type "zip") [a, b]) Q E s := by
  refine type_any PySem.F.called_zip (by decide) (PySem.F.typeCall_zip_2 _ _) (PySem.F.newCall_zip_2 _ _) (fun obj => PySem.F.args_object_init_3 obj _ _) PySem.F.entry_zip_new ?_
  have hsub := sub_zip
  have c1 : ∀ (Q1 : Value → Shared → Prop), (∀ i1 s1, wpAny (model prog w) A.in1.in1 (pyIter b) (fun i2 s2 => ∃ (L : Addr) (m : Str → Option Value) (news : Led), Fr h₀ L s2.heap m ∧ News h₀ L s2.heap news ∧
      ∀ TI TO z h', Fr h₀ L h' m → News h₀ L h' ((z, zipObj .none false TI TO) :: (TO, tpObj [.none, .none]) :: (TI, tpObj [i1, i2]) :: news) → (∀ q ∈ news, q.1 < TI) → TI < TO → TO < z → Q (.ref z) { s2 with heap := h' }) E s1 → Q1 i1 s1) →
      wpAny (model prog w) A.in1.in1 (pyIter a) Q1 E s := fun Q1 k => wpAny_mono h (fun i1 s1 z => k i1 s1 z) fun _ _ z => z
  wp_walk using c1
  intro i1 s1 h1
  have c2 : ∀ (Q1 : Value → Shared → Prop), (∀ i2 s2, (∃ (L : Addr) (m : Str → Option Value) (news : Led), Fr h₀ L s2.heap m ∧ News h₀ L s2.heap news ∧
      ∀ TI TO z h', Fr h₀ L h' m → News h₀ L h' ((z, zipObj .none false TI TO) :: (TO, tpObj [.none, .none]) :: (TI, tpObj [i1, i2]) :: news) → (∀ q ∈ news, q.1 < TI) → TI < TO → TO < z → Q (.ref z) { s2 with heap := h' }) → Q1 i2 s2) →
      wpAny (model prog w) A.in1.in1 (pyIter b) Q1 E s1 := fun Q1 k => wpAny_mono h1 (fun i2 s2 z => k i2 s2 z) fun _ _ z => z
  wp_walk using c2
  intro i2 s2 ⟨L, m, news, F, N, k⟩
  obtain ⟨hp, g, d, tk, os⟩ := s2
  wp_walk
  have F1 := F.push (tpObj [i1, i2])
  have N1 := N.push F (tpObj [i1, i2])
  have F2 := F1.push (tpObj [.none, .none])
  have N2 := N1.push F1 (tpObj [.none, .none])
  have F3 := F2.push (zipObj .none false hp.objs.size (hp.push (tpObj [i1, i2])).objs.size)
  have N3 := N2.push F2 (zipObj .none false hp.objs.size (hp.push (tpObj [i1, i2])).objs.size)
  have e1 : (hp.push (tpObj [i1, i2])).objs.size = hp.objs.size + 1 := Heap.size_push ..
  have e2 : ((hp.push (tpObj [i1, i2])).push (tpObj [.none, .none])).objs.size = hp.objs.size + 2 := by rw [Heap.size_push, e1]
  have l1 : hp.objs.size < (hp.push (tpObj [i1, i2])).objs.size := by rw [e1]; exact Nat.lt_succ_self _
  have l2 : (hp.push (tpObj [i1, i2])).objs.size < ((hp.push (tpObj [i1, i2])).push (tpObj [.none, .none])).objs.size := by rw [e1, e2]; exact Nat.lt_succ_self _
  exact ⟨_, rfl, ⟨_, Heap.get?_push_size _ rfl, rfl⟩, k _ _ _ _ F3 N3 (fun q hq => Heap.lt_size (N q hq).1) l1 l2⟩
theorem map_pyIter {mo T : Addr} {f : Value} {Q : Value → Shared → Prop} (hm : s.heap.get? mo = some (mapObj T f)) (h : Q (.ref mo) s) : wpAny (model prog w) A (pyIter (.ref mo)) Q E s := by
  have hT : s.TypeIs (.ref mo) "map" := ⟨_, hm, rfl⟩
  refine wpAny_pyIter_slot hT map_slot_iter (wpAny_call_entry map_slot_iter hT map_entry_iter ?_ (map_args_iter _))
  show wpAny _ _ (ret (.ref mo)) _ _ s
  exact wpAny_pure ⟨_, rfl, "map", _, hT, map_slot_next.lookup, h⟩
/-- what map's next does: a value of the list, the key of it -/
theorem map_next {mo T li l : Addr} {f v : Value} {vs : List Value} {n0 i : Nat} {o : Obj} {Q : Value → Shared → Prop} (F : Fr h₀ L s.heap m) (N : News h₀ L s.heap ((mo, mapObj T f) :: (T, tpObj [.ref li]) :: (li, o) :: news)) (ho : IsLi l i o) (hl : (l, lsObj vs n0) ∈ news)
    (hv : vs[i]? = some v) (hli : ∀ q ∈ news, q.1 ≠ li) (h1 : T ≠ li) (h2 : mo ≠ li)
    (h : ∀ h' o', IsLi l (i + 1) o' → Fr h₀ L h' m → News h₀ L h' ((mo, mapObj T f) :: (T, tpObj [.ref li]) :: (li, o') :: news) → wpAny (model prog w) A.in1 (call f [v]) Q E { s with heap := h' }) :
    wpAny (model prog w) A (Builtin.SmallTypes.nextOf (.ref mo)) Q E s := by
  have hm := (N _ (.head _)).1
  have hTT := (N _ (.tail _ (.head _))).1
  have hN := N _ (.tail _ (.tail _ (.head _)))
  have hT : s.TypeIs (.ref mo) "map" := ⟨_, hm, rfl⟩
  unfold Builtin.SmallTypes.nextOf
  refine wpAny_bind (wpAny_callSpecial?_slot (name := Str.ofString "__next__") hT map_slot_next (wpAny_call_entry map_slot_next hT map_entry_next ?_ (map_args_next _)))
  have hL : s.heap.IsList l vs.toArray := ⟨_, (N _ (.tail _ (.tail _ (.tail _ hl)))).1, rfl, n0, rfl⟩
  have hI : s.heap.IsListIter li l i := ⟨_, hN.1, ho.1, ho.2⟩
  show wpAny _ _ (field (.ref mo) 0 >>= _) _ _ _
  refine wpAny_bind (wpAny_field hm rfl (x := .ref T) rfl ?_)
  refine wpAny_bind (wpAny_seqItems hTT rfl ?_)
  simp only [List.forIn_toArray, List.forIn_cons, List.forIn_nil]
  refine wpAny_bind (wpAny_bind (wpAny_bind (wpAny_holding ?_)))
  refine wpAny_nextOf_list_item hI hL (by simpa using hv) fun h1' hi1 hs1 => ?_
  obtain ⟨o', ho', hc, hd⟩ := hi1
  have F2 : Fr h₀ L h1' m := F.change hs1 hN.2.1 hN.2.2
  have N2 : News h₀ L h1' ((mo, mapObj T f) :: (T, tpObj [.ref li]) :: (li, o') :: news) := fun q hq => by
    rcases List.mem_cons.mp hq with rfl | hq
    · exact ⟨hs1.extBut _ _ h2 (N _ (.head _)).1, (N _ (.head _)).2⟩
    rcases List.mem_cons.mp hq with rfl | hq
    · exact ⟨hs1.extBut _ _ h1 (N _ (.tail _ (.head _))).1, (N _ (.tail _ (.head _))).2⟩
    rcases List.mem_cons.mp hq with rfl | hq
    · exact ⟨ho', hN.2⟩
    · exact ⟨hs1.extBut _ _ (hli q hq) (N _ (.tail _ (.tail _ (.tail _ hq)))).1, (N _ (.tail _ (.tail _ (.tail _ hq)))).2⟩
  refine wpAny_pure (wpAny_pure ?_)
  refine wpAny_bind (wpAny_field (N2 _ (.head _)).1 rfl (x := f) rfl ?_)
  refine wpAny_bind (wpAny_holding (wpAny_mono (h h1' o' ⟨hc, hd⟩ F2 N2) (fun r s' hr => ?_) fun _ _ z => z))
  refine wpAny_bind (wpAny_letGo ?_)
  exact wpAny_pure ⟨_, rfl, wpAny_pure hr⟩
theorem map_end {mo T li l : Addr} {f : Value} {vs : List Value} {n0 : Nat} {o : Obj} {Q : Value → Shared → Prop} (hh : A.handled = none) (F : Fr h₀ L s.heap m) (N : News h₀ L s.heap ((mo, mapObj T f) :: (T, tpObj [.ref li]) :: (li, o) :: news)) (ho : IsLi l vs.length o) (hl : (l, lsObj vs n0) ∈ news)
    (hli : ∀ q ∈ news, q.1 ≠ li)
    (h : ∀ h' e, Fr h₀ L h' m → News h₀ L h' news → (∃ o, h'.get? e = some o ∧ o.cls = .type "StopIteration") → E (.ref e) { s with heap := h' }) :
    wpAny (model prog w) A (Builtin.SmallTypes.nextOf (.ref mo)) Q E s := by
  have hm := (N _ (.head _)).1
  have hTT := (N _ (.tail _ (.head _))).1
  have hN := N _ (.tail _ (.tail _ (.head _)))
  have hT : s.TypeIs (.ref mo) "map" := ⟨_, hm, rfl⟩
  unfold Builtin.SmallTypes.nextOf
  refine wpAny_bind (wpAny_callSpecial?_slot (name := Str.ofString "__next__") hT map_slot_next (wpAny_call_entry map_slot_next hT map_entry_next ?_ (map_args_next _)))
  have hL : s.heap.IsList l vs.toArray := ⟨_, (N _ (.tail _ (.tail _ (.tail _ hl)))).1, rfl, n0, rfl⟩
  have hI : s.heap.IsListIter li l vs.length := ⟨_, hN.1, ho.1, ho.2⟩
  show wpAny _ _ (field (.ref mo) 0 >>= _) _ _ _
  refine wpAny_bind (wpAny_field hm rfl (x := .ref T) rfl ?_)
  refine wpAny_bind (wpAny_seqItems hTT rfl ?_)
  simp only [List.forIn_toArray, List.forIn_cons, List.forIn_nil]
  refine wpAny_bind (wpAny_bind (wpAny_bind (wpAny_holding ?_)))
  refine wpAny_nextOf_list_end (by exact hh) hI hL (by simp) fun h' e hs he => ?_
  obtain ⟨F2, N2⟩ := fr_ext F (fun q hq => by
    rcases List.mem_cons.mp hq with rfl | hq
    · exact hN
    · exact N q (.tail _ (.tail _ (.tail _ hq))) : News h₀ L s.heap ((li, o) :: news)) hli hs
  exact h h' e F2 N2 he
/-- an owned tuple's field: free, or the tuple that was handed out, which still lives -/
def Out (h : Heap) (f0 : Value) : Prop := f0 = .none ∨ ∃ (T : Addr) (o : Obj), f0 = rawInt T ∧ h.get? T = some o
/-- zip's next, told by what the two draws do. `J1`: the state behind the first draw -/
theorem zip_next {z TI TO i1 i2 : Addr} {f0 a b : Value} {b0 : Bool} {Q : Value → Shared → Prop} (F : Fr h₀ L s.heap m) (N : News h₀ L s.heap ((z, zipObj f0 b0 TI TO) :: (TO, tpObj [a, b]) :: (TI, tpObj [.ref i1, .ref i2]) :: news))
    (ho : Out s.heap f0) (hz : TO ≠ z) (hz2 : TI ≠ z) (hz3 : TI ≠ TO) (hn : ∀ q ∈ news, q.1 ≠ z) (hn2 : ∀ q ∈ news, q.1 ≠ TO) (hlz : z < s.heap.objs.size) : True := trivial
end
end
section
abbrev LTN (a b : Nat) : Prop := a < b
structure ZOrd (li T mo dx cn TI TO z : Nat) : Prop where
  a1 : li < T
  a2 : T < mo
  a3 : mo < dx
  a4 : dx < cn
  a5 : cn < TI
  a6 : TI < TO
  a7 : TO < z
abbrev cntObj (dx : Addr) (i : Int) (t : Nat) (b : Bool) (u : Nat) : Obj := { cls := .ref 188, dict := some dx, data := .plain, slots := #[some (.int i t), some (.bool b), some (.int 1 u)] }
abbrev ZL (li T mo dx cn TI TO z : Addr) (zo too : Obj) (kf : Value) (o co : Obj) (R : Led) : Led :=
  (z, zo) :: (TO, too) :: (TI, tpObj [.ref mo, .ref cn]) :: (mo, mapObj T kf) :: (T, tpObj [.ref li]) :: (li, o) :: (cn, co) :: (dx, dictOf [] 0) :: R
/-- a call in a frame, told for some more units -/
def Runs (w : World) (A : Around) (g : Heap) (L : Addr) (m : Str → Option Value) (f : Value) (vs : List Value) (news : Led) (Post : Nat → Nat → Led → Value → Prop) : Prop :=
  ∀ (c : Nat) (s : Shared) (Q E : Value → Shared → Prop), c ≤ 9 → Fr g L s.heap m → News g L s.heap news → 0 < s.toks →
    (∀ r news' h' tk', s.toks ≤ tk' → Fr g L h' m → News g L h' news' → Post s.toks tk' news' r → Q r { s with heap := h', toks := tk' }) → wpAny (model PR w) { A with units := A.units + c } (call f vs) Q E s
theorem Ct.runs {w : World} {k : Nat} {f : Value} {vs : List Value} {news : Led} {Post : Nat → Nat → Led → Value → Prop} (C : Ct w k f vs [] news Post)
    {p : Program} {loose : List Str} {mean : ExcName → Option Value} {mg mb : Str → Option Value} {dp un : Nat} {gd : Option (List Code)} {cn : Str} {cs : Scope} {a : Addr} {ccd : Value} {cl : List (Str × Addr)} {outer : List Env} {A₀ : Around} {base h₀ : Heap} {L : Addr} {m : Str → Option Value}
    (B : Below A₀ base outer h₀) (X : (hd.heap_1 w.params).In h₀) (T : Top p loose mean mg mb h₀) (hk : cs.kind = .function) (hd : dp + k < recursionLimit) (hu : un + 10 * k + 10 < cLine) :
    Runs w (ktrTop dp un gd cn cs L a ccd cl outer) h₀ L m f vs news Post := fun c s Q E hc F N ht h =>
  C _ _ _ _ _ dp (un + c) gd cn cs a ccd cl outer A₀ base h₀ L m s Q E B F X N T hk hd (by omega) ht h
theorem news_put {g h h' : Heap} {L a : Addr} {o o' : Obj} {led led' : Led} (N : News g L h led) (hs : Heap.SameBut a h h') (ha : (a, o) ∈ led) (ho' : h'.get? a = some o') (hl : ∀ q ∈ led', q = (a, o') ∨ (q ∈ led ∧ q.1 ≠ a)) : News g L h' led' := fun q hq => by
  rcases hl q hq with rfl | ⟨h1, h2⟩
  · exact ⟨ho', (N _ ha).2⟩
  · exact ⟨hs.extBut _ _ h2 (N q h1).1, (N q h1).2⟩
theorem news_sub {g h : Heap} {L : Addr} {led led' : Led} (N : News g L h led) (hl : ∀ q ∈ led', q ∈ led) : News g L h led' := fun q hq => N q (hl q hq)
theorem news_at0 {g h h' : Heap} {L a : Addr} {o o' : Obj} {r : Led} (N : News g L h ((a, o) :: r)) (hs : Heap.SameBut a h h') (ho' : h'.get? a = some o') (hr : ∀ q ∈ r, q.1 ≠ a) : News g L h' ((a, o') :: r) :=
  news_put N hs (.head _) ho' fun q hq => (List.mem_cons.mp hq).imp id fun hq => ⟨.tail _ hq, hr q hq⟩
theorem news_at1 {g h h' : Heap} {L a b : Addr} {o o' p : Obj} {r : Led} (N : News g L h ((b, p) :: (a, o) :: r)) (hs : Heap.SameBut a h h') (ho' : h'.get? a = some o') (hb : b ≠ a) (hr : ∀ q ∈ r, q.1 ≠ a) : News g L h' ((b, p) :: (a, o') :: r) :=
  news_put N hs (.tail _ (.head _)) ho' fun q hq => by
    rcases List.mem_cons.mp hq with rfl | hq
    · exact .inr ⟨.head _, hb⟩
    · exact (List.mem_cons.mp hq).imp id fun hq => ⟨.tail _ (.tail _ hq), hr q hq⟩
section
variable {w : World} {A : Around} {E : Value → Shared → Prop} {s : Shared} {h₀ : Heap} {L : Addr} {m : Str → Option Value} {R : Led} {li T mo dx cn TI TO z dl : Addr}
/-- a key's told call: `need` in the ledger; the new things are `ks` -/
def KeyRuns (w : World) (A : Around) (g : Heap) (L : Addr) (m : Str → Option Value) (kf v : Value) (need : Led) (K : Nat → Nat → Led → Value → Prop) : Prop :=
  ∀ news : Led, (∀ q ∈ need, q ∈ news) → Runs w A g L m kf [v] news (fun n n' news' r => ∃ ks, news' = ks ++ news ∧ (∀ p ∈ ks, ∀ q ∈ news, @LT.lt Nat _ q.1 p.1) ∧ K n n' ks r)
def CntRuns (w : World) (A : Around) (g : Heap) (L : Addr) (m : Str → Option Value) (cn dx : Addr) : Prop :=
  ∀ (i : Int) (t u : Nat) (b : Bool) (news : Led), (∀ q ∈ news, q.1 ≠ cn) → Runs w A g L m (.ref 177) [.ref cn] ((cn, cntObj dx i t b u) :: (dx, dictOf [] 0) :: news) (fun n n' news' r => ∃ t', r = .int i t ∧ news' = (cn, cntObj dx (i + 1) t' b u) :: (dx, dictOf [] 0) :: news)
theorem draw_map {zo too o co : Obj} {v kf : Value} {i n0 c : Nat} {vs : List Value} {need : Led} {K : Nat → Nat → Led → Value → Prop} {Q : Value → Shared → Prop}
    (O : ZOrd li T mo dx cn TI TO z) (hc : c ≤ 8) (F : Fr h₀ L s.heap m) (N : News h₀ L s.heap (ZL li T mo dx cn TI TO z zo too kf o co R))
    (hR : ∀ q ∈ R, @LT.lt Nat _ q.1 li ∨ @LT.lt Nat _ z q.1) (ho : IsLi dl i o) (hdl : (dl, lsObj vs n0) ∈ R) (hv : vs[i]? = some v) (hneed : ∀ q ∈ need, q ∈ R) (ht : 0 < s.toks)
    (key : KeyRuns w A h₀ L m kf v need K)
    (h : ∀ x ks o' h' tk', s.toks ≤ tk' → Fr h₀ L h' m → News h₀ L h' (ZL li T mo dx cn TI TO z zo too kf o' co (ks ++ R)) → IsLi dl (i + 1) o' → K s.toks tk' ks x → (∀ p ∈ ks, ∀ q ∈ (z, zo) :: R, @LT.lt Nat _ q.1 p.1) → Q x { s with heap := h', toks := tk' }) :
    wpAny (model PR w) { A with units := A.units + c } (Builtin.SmallTypes.nextOf (.ref mo)) Q E s := by
  obtain ⟨a1, a2, a3, a4, a5, a6, a7⟩ := O
  refine map_next (mo := mo) (T := T) (li := li) (l := dl) (o := o) (f := kf) (v := v) (vs := vs) (n0 := n0) (i := i) (news := (z, zo) :: (TO, too) :: (TI, tpObj [.ref mo, .ref cn]) :: (cn, co) :: (dx, dictOf [] 0) :: R) F (news_sub N (by first | k_extra "om sub" | (intro q hq; simp only [List.mem_cons] at hq ⊢; rcases hq with rfl | rfl | rfl | rfl | rfl | rfl | rfl | rfl | hq <;> simp [*]))) ho (.tail _ (.tail _ (.tail _ (.tail _ (.tail _ hdl))))) hv ?_ (by refine neN ?_; omega) (by refine neN ?_; omega) fun h₂ o' ho' F2 N2 => ?_
  · k_extra "om peel"
    exact ne_out hR (by omega) (by omega)
  · refine key _ (fun q hq => ?_) (c + 1) _ _ _ (by omega) F2 N2 ht fun r news' h' tk' htk F3 N3 ⟨ks, e, hks, hK⟩ => ?_
    · have := hneed q hq; k_extra "om in"
    · subst e
      refine h r ks o' h' tk' htk F3 (news_sub N3 ?_) ho' hK fun p hp q hq => hks p hp q ?_
      · first | k_extra "om sub" | (intro q hq; simp only [List.mem_cons, List.mem_append] at hq ⊢; rcases hq with rfl | rfl | rfl | rfl | rfl | rfl | rfl | rfl | hq | hq <;> simp [*])
      · first | (revert hq; revert q; k_extra "om sub") | (simp only [List.mem_cons] at hq ⊢; rcases hq with rfl | hq <;> simp [*])
theorem cnt_next_is (w : World) : findIn (hd.heap_1 w.params) (.ref 188) "__next__" = some (some (.ref 177)) := by
  refine said ?_
  w_on
  k_fill
  unfold Said
  k_is
theorem cnt_next_fn (w : World) : typeIn (hd.heap_1 w.params) (.ref 177) = some (.type "function") := by
  refine said ?_
  w_on
  k_fill
  unfold Said
  k_is
theorem draw_cnt {zo too o : Obj} {kf : Value} {u t c : Nat} {i : Int} {cb : Bool} {Q : Value → Shared → Prop}
    (O : ZOrd li T mo dx cn TI TO z) (hc : c ≤ 9) (X : (hd.heap_1 w.params).In h₀) (F : Fr h₀ L s.heap m) (N : News h₀ L s.heap (ZL li T mo dx cn TI TO z zo too kf o (cntObj dx i t cb u) R))
    (hR : ∀ q ∈ R, @LT.lt Nat _ q.1 li ∨ @LT.lt Nat _ z q.1) (ht : 0 < s.toks) (cnt : CntRuns w A h₀ L m cn dx)
    (h : ∀ t' h' tk', s.toks ≤ tk' → Fr h₀ L h' m → News h₀ L h' (ZL li T mo dx cn TI TO z zo too kf o (cntObj dx (i + 1) t' cb u) R) → Q (.int i t) { s with heap := h', toks := tk' }) :
    wpAny (model PR w) { A with units := A.units + c } (Builtin.SmallTypes.nextOf (.ref cn)) Q E s := by
  obtain ⟨a1, a2, a3, a4, a5, a6, a7⟩ := O
  have Xs := X.keeps F.keep
  have I : InstAt s.heap cn (cntObj dx i t cb u) 188 (some (dictOf [] 0)) := InstAt.of_news N (.tail _ (.tail _ (.tail _ (.tail _ (.tail _ (.tail _ (.head _))))))) (.tail _ (.tail _ (.tail _ (.tail _ (.tail _ (.tail _ (.tail _ (.head _))))))))
  unfold Builtin.SmallTypes.nextOf
  refine wpAny_bind (special_fn (name := Str.ofString "__next__") Xs I (cnt_next_is w) (cnt_next_fn w) ?_)
  refine cnt i t u cb ((z, zo) :: (TO, too) :: (TI, tpObj [.ref mo, .ref cn]) :: (mo, mapObj T kf) :: (T, tpObj [.ref li]) :: (li, o) :: R) ?_ c _ _ _ hc F (news_sub N ?_) ht fun r news' h' tk' htk F' N' ⟨t', e1, e2⟩ => ?_
  · k_extra "om peel"
    exact ne_out hR (by omega) (by omega)
  · first | k_extra "om sub" | (intro q hq; simp only [List.mem_cons] at hq ⊢; rcases hq with rfl | rfl | rfl | rfl | rfl | rfl | rfl | rfl | hq <;> simp [*])
  · subst e1 e2
    refine wpAny_pure (h t' h' tk' htk F' (news_sub N' ?_))
    first | k_extra "om sub" | (intro q hq; simp only [List.mem_cons] at hq ⊢; rcases hq with rfl | rfl | rfl | rfl | rfl | rfl | rfl | rfl | hq <;> simp [*])
theorem zip_item {f0 a b v kf : Value} {b0 cb : Bool} {o : Obj} {i u t n0 : Nat} {vs : List Value} {need : Led} {K : Nat → Nat → Led → Value → Prop} {Q : Value → Shared → Prop}
    (O : ZOrd li T mo dx cn TI TO z) (hA : A.handled = none) (X : (hd.heap_1 w.params).In h₀) (F : Fr h₀ L s.heap m) (N : News h₀ L s.heap (ZL li T mo dx cn TI TO z (zipObj f0 b0 TI TO) (tpObj [a, b]) kf o (cntObj dx i t cb u) R))
    (hR : ∀ q ∈ R, @LT.lt Nat _ q.1 li ∨ @LT.lt Nat _ z q.1) (hf : f0 = .none ∨ ∃ (T' : Addr) (o' : Obj), f0 = rawInt T' ∧ (T', o') ∈ R) (ho : IsLi dl i o) (hdl : (dl, lsObj vs n0) ∈ R) (hv : vs[i]? = some v) (hneed : ∀ q ∈ need, q ∈ R) (ht : 0 < s.toks)
    (key : KeyRuns w A h₀ L m kf v need K) (cnt : CntRuns w A h₀ L m cn dx)
    (h : ∀ f0' b0' a' b' o' t' x ks D h' tk' n n', s.toks ≤ n → n ≤ n' → n' ≤ tk' → Fr h₀ L h' m → News h₀ L h' (ZL li T mo dx cn TI TO z (zipObj f0' b0' TI TO) (tpObj [a', b']) kf o' (cntObj dx ((i + 1 : Nat) : Int) t' cb u) ((D, tpObj [x, .int i t]) :: (ks ++ R))) →
      IsLi dl (i + 1) o' → K n n' ks x → (∀ p ∈ ks, @LT.lt Nat _ z p.1) → (∀ p ∈ ks, ∀ q ∈ R, @LT.lt Nat _ q.1 p.1) → @LT.lt Nat _ z D → (∀ q ∈ ks ++ R, @LT.lt Nat _ q.1 D) → (∃ (T' : Addr) (o' : Obj), f0' = rawInt T' ∧ (T', o') ∈ (D, tpObj [x, .int i t]) :: (ks ++ R)) →
      Q (.ref D) { s with heap := h', toks := tk' }) :
    wpAny (model PR w) A.in1 (Builtin.«zip.__next__» ⟨[.ref z], []⟩) (fun fin s' => ∃ v, fin = .done (.ret v) ∧ Q v s') E s := by
  obtain ⟨a1, a2, a3, a4, a5, a6, a7⟩ := O
  have lt7 : ∀ q ∈ R, q.1 ≠ z := ne_out hR (by omega) (by omega)
  have lt6 : ∀ q ∈ R, q.1 ≠ TO := ne_out hR (by omega) (by omega)
  have lt0 : ∀ q ∈ R, q.1 ≠ li := ne_out hR (by omega) (by omega)
  have lt4 : ∀ q ∈ R, q.1 ≠ cn := ne_out hR (by omega) (by omega)
  have offz : ∀ (too o co : Obj), ∀ q ∈ ((TO, too) :: (TI, tpObj [.ref mo, .ref cn]) :: (mo, mapObj T kf) :: (T, tpObj [.ref li]) :: (li, o) :: (cn, co) :: (dx, dictOf [] 0) :: R), q.1 ≠ z := fun too o co => by
    k_extra "om peel"
    exact lt7
  have offT : ∀ (o co : Obj), ∀ q ∈ ((TI, tpObj [.ref mo, .ref cn]) :: (mo, mapObj T kf) :: (T, tpObj [.ref li]) :: (li, o) :: (cn, co) :: (dx, dictOf [] 0) :: R), q.1 ≠ TO := fun o co => by
    k_extra "om peel"
    exact lt6
  have hz := (N _ (.head _)).1
  have hTI := (N _ (.tail _ (.tail _ (.head _)))).1
  have hTO := (N _ (.tail _ (.head _))).1
  show wpAny _ _ (field (.ref z) 2 >>= _) _ _ _
  refine wpAny_bind (wpAny_field hz rfl (x := .bool false) rfl ?_)
  show wpAny _ _ (field (.ref z) 3 >>= _) _ _ _
  refine wpAny_bind (wpAny_field hz rfl (x := .ref TI) rfl ?_)
  refine wpAny_bind (wpAny_seqItems hTI rfl ?_)
  show wpAny _ _ (Builtin.SmallTypes.ownedTupleIsFree (.ref z) >>= _) _ _ _
  refine wpAny_bind ?_
  unfold Builtin.SmallTypes.ownedTupleIsFree
  refine wpAny_bind (wpAny_field hz rfl (x := f0) rfl ?_)
  rcases hf with rfl | ⟨T', oT, rfl, hT'⟩
  · refine wpAny_pure ?_
    simp only [if_true]
    refine wpAny_bind (wpAny_rule ?_)
    refine wpAny_bind (wpAny_field hz rfl (x := .ref TO) rfl ?_)
    refine wpAny_bind (wpAny_setField_rec hz (by simp) fun h₁ hz₁ hs₁ => ?_)
    have F1 : Fr h₀ L h₁ m := F.change hs₁ (N _ (.head _)).2.1 (N _ (.head _)).2.2
    have N1 : News h₀ L h₁ (ZL li T mo dx cn TI TO z (zipObj .ellipsis b0 TI TO) (tpObj [a, b]) kf o (cntObj dx i t cb u) R) := news_at0 N hs₁ hz₁ (offz _ _ _)
    refine wpAny_bind ?_
    simp only [List.zipIdx_cons, List.zipIdx_nil, List.forIn_cons, List.forIn_nil]
    refine wpAny_bind (wpAny_bind (wpAny_onRaise ?_))
    show wpAny _ _ (Builtin.SmallTypes.nextOf (.ref mo) >>= _) _ _ _
    refine wpAny_bind (draw_map (c := 1) ⟨a1, a2, a3, a4, a5, a6, a7⟩ (by omega) F1 N1 hR ho hdl hv hneed ht key fun x ks o' h₂ k2 hk2 F2 N2 ho' hK hks => wpAny_pure ?_)
    have hTO2 := (N2 _ (.tail _ (.head _)))
    refine wpAny_bind (wpAny_seqItems hTO2.1 rfl ?_)
    refine wpAny_bind (wpAny_updateSeq_pair hTO2.1 fun h₃ hTO₃ hs₃ => ?_)
    have F3 : Fr h₀ L h₃ m := F2.change hs₃ hTO2.2.1 hTO2.2.2
    have lz : ∀ q ∈ ks ++ R, @LT.lt Nat _ q.1 li ∨ @LT.lt Nat _ z q.1 := fun q hq => by
      rcases List.mem_append.mp hq with hq | hq
      · exact .inr (hks q hq _ (.head _))
      · exact hR q hq
    have offT2 : ∀ (o co : Obj), ∀ q ∈ ((TI, tpObj [.ref mo, .ref cn]) :: (mo, mapObj T kf) :: (T, tpObj [.ref li]) :: (li, o) :: (cn, co) :: (dx, dictOf [] 0) :: (ks ++ R)), q.1 ≠ TO := fun o co => by
      k_extra "om peel"
      exact ne_out lz (by omega) (by omega)
    have N3 : News h₀ L h₃ (ZL li T mo dx cn TI TO z (zipObj .ellipsis b0 TI TO) (tpObj [x, b]) kf o' (cntObj dx i t cb u) (ks ++ R)) := news_at1 N2 hs₃ hTO₃ (by refine neN ?_; omega) (offT2 _ _)
    refine wpAny_bind (wpAny_letGo (wpAny_pure ?_))
    refine wpAny_bind (wpAny_bind (wpAny_onRaise ?_))
    show wpAny _ _ (Builtin.SmallTypes.nextOf (.ref cn) >>= _) _ _ _
    refine wpAny_bind (draw_cnt (c := 1) ⟨a1, a2, a3, a4, a5, a6, a7⟩ (by omega) X F3 N3 lz (Nat.lt_of_lt_of_le ht hk2) cnt fun t' h₄ k4 hk4 F4 N4 => wpAny_pure ?_)
    have hTO4 := (N4 _ (.tail _ (.head _)))
    refine wpAny_bind (wpAny_seqItems hTO4.1 rfl ?_)
    refine wpAny_bind (wpAny_updateSeq_pair hTO4.1 fun h₅ hTO₅ hs₅ => ?_)
    have F5 : Fr h₀ L h₅ m := F4.change hs₅ hTO4.2.1 hTO4.2.2
    have N5 : News h₀ L h₅ (ZL li T mo dx cn TI TO z (zipObj .ellipsis b0 TI TO) (tpObj [x, .int i t]) kf o' (cntObj dx (i + 1) t' cb u) (ks ++ R)) := news_at1 N4 hs₅ hTO₅ (by refine neN ?_; omega) (offT2 _ _)
    refine wpAny_bind (wpAny_letGo (wpAny_pure (wpAny_pure ?_)))
    refine wpAny_bind (wpAny_seqItems (N5 _ (.tail _ (.head _))).1 rfl ?_)
    refine wpAny_bind (wpAny_newTuple ?_)
    have F6 := F5.push (tpObj [x, .int i t])
    have N6 := N5.push F5 (tpObj [x, .int i t])
    have big : ∀ q ∈ ZL li T mo dx cn TI TO z (zipObj .ellipsis b0 TI TO) (tpObj [x, .int i t]) kf o' (cntObj dx (i + 1) t' cb u) (ks ++ R), @LT.lt Nat _ q.1 h₅.objs.size := fun q hq => Heap.lt_size (N5 q hq).1
    show wpAny _ _ (Builtin.SmallTypes.ownedTupleHandOut (.ref z) (.ref h₅.objs.size) >>= _) _ _ _
    refine wpAny_bind ?_
    unfold Builtin.SmallTypes.ownedTupleHandOut
    have N6' := news_sub (led' := ZL li T mo dx cn TI TO z (zipObj .ellipsis b0 TI TO) (tpObj [x, .int i t]) kf o' (cntObj dx (i + 1) t' cb u) ((h₅.objs.size, tpObj [x, .int i t]) :: (ks ++ R))) N6 (by first | k_extra "om sub" | (intro q hq; simp only [List.mem_cons] at hq ⊢; rcases hq with rfl | rfl | rfl | rfl | rfl | rfl | rfl | rfl | rfl | hq <;> simp [*]))
    have offz6 : ∀ q ∈ ((TO, tpObj [x, .int i t]) :: (TI, tpObj [.ref mo, .ref cn]) :: (mo, mapObj T kf) :: (T, tpObj [.ref li]) :: (li, o') :: (cn, cntObj dx (i + 1) t' cb u) :: (dx, dictOf [] 0) :: (h₅.objs.size, tpObj [x, .int i t]) :: (ks ++ R)), q.1 ≠ z := by
      have hz5 := big _ (.head _)
      dsimp only at hz5
      k_extra "om peel"
      exact ne_out lz (by omega) (by omega)
    refine wpAny_bind (wpAny_setField_rec (N6' _ (.head _)).1 (by simp) fun h₇ hz₇ hs₇ => ?_)
    have F7 : Fr h₀ L h₇ m := F6.change hs₇ (N6' _ (.head _)).2.1 (N6' _ (.head _)).2.2
    have N7 : News h₀ L h₇ (ZL li T mo dx cn TI TO z (zipObj (rawInt h₅.objs.size) b0 TI TO) (tpObj [x, .int i t]) kf o' (cntObj dx (i + 1) t' cb u) ((h₅.objs.size, tpObj [x, .int i t]) :: (ks ++ R))) := news_at0 N6' hs₇ hz₇ offz6
    refine wpAny_setField_rec (N7 _ (.head _)).1 (by simp) fun h₈ hz₈ hs₈ => ?_
    have F8 : Fr h₀ L h₈ m := F7.change hs₈ (N7 _ (.head _)).2.1 (N7 _ (.head _)).2.2
    have N8 : News h₀ L h₈ (ZL li T mo dx cn TI TO z (zipObj (rawInt h₅.objs.size) false TI TO) (tpObj [x, .int i t]) kf o' (cntObj dx (i + 1) t' cb u) ((h₅.objs.size, tpObj [x, .int i t]) :: (ks ++ R))) := news_at0 N7 hs₈ hz₈ offz6
    refine wpAny_pure ⟨_, rfl, ?_⟩
    exact h _ _ _ _ _ _ _ ks _ _ _ s.toks k2 (Nat.le_refl _) hk2 hk4 F8 N8 ho' hK (fun p hp => hks p hp _ (.head _)) (fun p hp q hq => hks p hp q (.tail _ hq)) (big _ (.head _))
      (fun q hq => big q (by k_extra "om in")) ⟨_, _, rfl, .head _⟩
  · have lv := (N (T', oT) (by k_extra "om in") : s.heap.get? T' = some oT ∧ _)
    show wpAny _ _ (loadIfAlive ((T' : Int).toNat) >>= _) _ _ _
    rw [Int.toNat_natCast]
    refine wpAny_bind (kdx_alive lv.1 ?_)
    simp only [Option.isNone_some, Bool.false_eq_true, if_false]
    refine wpAny_bind (wpAny_field hz rfl (x := .bool b0) rfl ?_)
    have two : ∃ h₁, Fr h₀ L h₁ m ∧ News h₀ L h₁ (ZL li T mo dx cn TI TO z (zipObj (rawInt T') true TI TO) (tpObj [a, b]) kf o (cntObj dx i t cb u) R) ∧ ∀ Q', Q' false { s with heap := h₁ } →
        wpAny (model PR w) A.in1 (if (Value.bool b0 != Value.bool true) = true then do setField (Value.ref z) 1 (Value.bool true); pure false else pure false) Q' E s := by
      cases b0 with
      | true => exact ⟨s.heap, F, N, fun Q' hq => by rw [if_neg (by decide)]; exact wpAny_pure hq⟩
      | false =>
        obtain ⟨h₁, hq⟩ : ∃ h₁, (h₁.get? z = some (zipObj (rawInt T') true TI TO) ∧ Heap.SameBut z s.heap h₁) ∧ ∀ Q' : Bool → Shared → Prop, Q' false { s with heap := h₁ } → wpAny (model PR w) A.in1 (do setField (Value.ref z) 1 (Value.bool true); pure false) Q' E s :=
          ⟨s.heap.update z (Obj.mapFields (·.setIfInBounds 1 (.bool true))), ⟨by rw [Heap.get?_update_self _ hz rfl]; rfl, Heap.SameBut.update ..⟩, fun Q' hq => wpAny_bind (wpAny_setField hz rfl (by show 1 < 5; decide) (wpAny_pure hq))⟩
        exact ⟨h₁, F.change hq.1.2 (N _ (.head _)).2.1 (N _ (.head _)).2.2, news_at0 N hq.1.2 hq.1.1 (offz _ _ _), fun Q' hq' => by rw [if_pos (by decide)]; exact hq.2 Q' hq'⟩
    obtain ⟨h₁, F1, N1, two⟩ := two
    refine two _ ?_
    rw [if_neg (by decide)]
    simp only [List.forIn_toArray, List.forIn_cons, List.forIn_nil]
    refine wpAny_bind (wpAny_bind (wpAny_bind (wpAny_holding ?_)))
    show wpAny _ _ (Builtin.SmallTypes.nextOf (.ref mo) >>= _) _ _ _
    refine wpAny_bind (draw_map (c := 1) ⟨a1, a2, a3, a4, a5, a6, a7⟩ (by omega) F1 N1 hR ho hdl hv hneed ht key fun x ks o' h₂ k2 hk2 F2 N2 ho' hK hks => wpAny_pure ?_)
    have lz : ∀ q ∈ ks ++ R, @LT.lt Nat _ q.1 li ∨ @LT.lt Nat _ z q.1 := fun q hq => by
      rcases List.mem_append.mp hq with hq | hq
      · exact .inr (hks q hq _ (.head _))
      · exact hR q hq
    refine wpAny_pure (wpAny_bind (wpAny_bind (wpAny_holding ?_)))
    show wpAny _ _ (Builtin.SmallTypes.nextOf (.ref cn) >>= _) _ _ _
    refine wpAny_bind (draw_cnt (c := 1) ⟨a1, a2, a3, a4, a5, a6, a7⟩ (by omega) X F2 N2 lz (Nat.lt_of_lt_of_le ht hk2) cnt fun t' h₄ k4 hk4 F4 N4 => wpAny_pure ?_)
    refine wpAny_pure (wpAny_pure ?_)
    refine wpAny_bind (wpAny_newTuple ?_ (by show 2 ≤ sizeLine; rw [sizeLine_eq]; decide))
    have F6 := F4.push (tpObj [x, .int i t])
    have N6 := N4.push F4 (tpObj [x, .int i t])
    have big : ∀ q ∈ ZL li T mo dx cn TI TO z (zipObj (rawInt T') true TI TO) (tpObj [a, b]) kf o' (cntObj dx (i + 1) t' cb u) (ks ++ R), @LT.lt Nat _ q.1 h₄.objs.size := fun q hq => Heap.lt_size (N4 q hq).1
    have N6' := news_sub (led' := ZL li T mo dx cn TI TO z (zipObj (rawInt T') true TI TO) (tpObj [a, b]) kf o' (cntObj dx (i + 1) t' cb u) ((h₄.objs.size, tpObj [x, .int i t]) :: (ks ++ R))) N6 (by first | k_extra "om sub" | (intro q hq; simp only [List.mem_cons] at hq ⊢; rcases hq with rfl | rfl | rfl | rfl | rfl | rfl | rfl | rfl | rfl | hq <;> simp [*]))
    refine wpAny_pure ⟨_, rfl, ?_⟩
    exact h _ _ _ _ _ _ _ ks _ _ _ s.toks k2 (Nat.le_refl _) hk2 hk4 F6 N6' ho' hK (fun p hp => hks p hp _ (.head _)) (fun p hp q hq => hks p hp q (.tail _ hq)) (big _ (.head _))
      (fun q hq => big q (by k_extra "om in")) ⟨T', oT, rfl, .tail _ (List.mem_append_right _ hT')⟩
theorem zip_pyNext {f0 a b v kf : Value} {b0 cb : Bool} {o : Obj} {i u t n0 : Nat} {vs : List Value} {need : Led} {K : Nat → Nat → Led → Value → Prop} {Q : Option Value → Shared → Prop}
    (O : ZOrd li T mo dx cn TI TO z) (hA : A.handled = none) (X : (hd.heap_1 w.params).In h₀) (F : Fr h₀ L s.heap m) (N : News h₀ L s.heap (ZL li T mo dx cn TI TO z (zipObj f0 b0 TI TO) (tpObj [a, b]) kf o (cntObj dx i t cb u) R))
    (hR : ∀ q ∈ R, @LT.lt Nat _ q.1 li ∨ @LT.lt Nat _ z q.1) (hf : f0 = .none ∨ ∃ (T' : Addr) (o' : Obj), f0 = rawInt T' ∧ (T', o') ∈ R) (ho : IsLi dl i o) (hdl : (dl, lsObj vs n0) ∈ R) (hv : vs[i]? = some v) (hneed : ∀ q ∈ need, q ∈ R) (ht : 0 < s.toks)
    (key : KeyRuns w A h₀ L m kf v need K) (cnt : CntRuns w A h₀ L m cn dx)
    (h : ∀ f0' b0' a' b' o' t' x ks D h' tk' n n', s.toks ≤ n → n ≤ n' → n' ≤ tk' → Fr h₀ L h' m → News h₀ L h' (ZL li T mo dx cn TI TO z (zipObj f0' b0' TI TO) (tpObj [a', b']) kf o' (cntObj dx ((i + 1 : Nat) : Int) t' cb u) ((D, tpObj [x, .int i t]) :: (ks ++ R))) →
      IsLi dl (i + 1) o' → K n n' ks x → (∀ p ∈ ks, @LT.lt Nat _ z p.1) → (∀ p ∈ ks, ∀ q ∈ R, @LT.lt Nat _ q.1 p.1) → @LT.lt Nat _ z D → (∀ q ∈ ks ++ R, @LT.lt Nat _ q.1 D) → (∃ (T' : Addr) (o' : Obj), f0' = rawInt T' ∧ (T', o') ∈ (D, tpObj [x, .int i t]) :: (ks ++ R)) →
      Q (some (.ref D)) { s with heap := h', toks := tk' }) :
    wpAny (model PR w) A (pyNext (.ref z)) Q E s := by
  have hT : s.TypeIs (.ref z) "zip" := ⟨_, (N _ (.head _)).1, rfl⟩
  unfold pyNext
  exact wpAny_bind (wpAny_attempt (wpAny_callSpecial?_slot (name := Str.ofString "__next__") hT PySem.F.slot_zip_next
    (wpAny_call_entry PySem.F.slot_zip_next hT PySem.F.entry_zip_next
      (zip_item O hA X F N hR hf ho hdl hv hneed ht key cnt fun f0' b0' a' b' o' t' x ks D h' tk' n n' c1 c2 c3 c4 c5 c6 c7 c8 c9 c10 c11 c12 => wpAny_pure (h f0' b0' a' b' o' t' x ks D h' tk' n n' c1 c2 c3 c4 c5 c6 c7 c8 c9 c10 c11 c12)) (PySem.F.args_zip_next_1 _))))
theorem zip_pyEnd {a b kf : Value} {b0 cb : Bool} {o : Obj} {u t n0 : Nat} {i : Int} {T' : Addr} {oT : Obj} {vs : List Value} {Q : Option Value → Shared → Prop}
    (O : ZOrd li T mo dx cn TI TO z) (hA : A.handled = none) (F : Fr h₀ L s.heap m) (N : News h₀ L s.heap (ZL li T mo dx cn TI TO z (zipObj (rawInt T') b0 TI TO) (tpObj [a, b]) kf o (cntObj dx i t cb u) R))
    (hR : ∀ q ∈ R, @LT.lt Nat _ q.1 li ∨ @LT.lt Nat _ z q.1) (hf : (T', oT) ∈ R) (ho : IsLi dl vs.length o) (hdl : (dl, lsObj vs n0) ∈ R)
    (h : ∀ h', Fr h₀ L h' m → News h₀ L h' R → Q none { s with heap := h' }) :
    wpAny (model PR w) A (pyNext (.ref z)) Q E s := by
  obtain ⟨a1, a2, a3, a4, a5, a6, a7⟩ := O
  have hz := (N _ (.head _)).1
  have hTI := (N _ (.tail _ (.tail _ (.head _)))).1
  have hT : s.TypeIs (.ref z) "zip" := ⟨_, hz, rfl⟩
  unfold pyNext
  refine wpAny_bind (wpAny_attempt (wpAny_callSpecial?_slot (name := Str.ofString "__next__") hT PySem.F.slot_zip_next
    (wpAny_call_entry PySem.F.slot_zip_next hT PySem.F.entry_zip_next ?_ (PySem.F.args_zip_next_1 _))))
  show wpAny _ _ (field (.ref z) 2 >>= _) _ _ _
  refine wpAny_bind (wpAny_field hz rfl (x := .bool false) rfl ?_)
  show wpAny _ _ (field (.ref z) 3 >>= _) _ _ _
  refine wpAny_bind (wpAny_field hz rfl (x := .ref TI) rfl ?_)
  refine wpAny_bind (wpAny_seqItems hTI rfl ?_)
  show wpAny _ _ (Builtin.SmallTypes.ownedTupleIsFree (.ref z) >>= _) _ _ _
  refine wpAny_bind ?_
  unfold Builtin.SmallTypes.ownedTupleIsFree
  refine wpAny_bind (wpAny_field hz rfl (x := rawInt T') rfl ?_)
  have lv := (N (T', oT) (by k_extra "om in") : s.heap.get? T' = some oT ∧ _)
  show wpAny _ _ (loadIfAlive ((T' : Int).toNat) >>= _) _ _ _
  rw [Int.toNat_natCast]
  refine wpAny_bind (kdx_alive lv.1 ?_)
  simp only [Option.isNone_some, Bool.false_eq_true, if_false]
  refine wpAny_bind (wpAny_field hz rfl (x := .bool b0) rfl ?_)
  have offz : ∀ q ∈ ((TO, tpObj [a, b]) :: (TI, tpObj [.ref mo, .ref cn]) :: (mo, mapObj T kf) :: (T, tpObj [.ref li]) :: (li, o) :: (cn, cntObj dx i t cb u) :: (dx, dictOf [] 0) :: R), q.1 ≠ z := by
    k_extra "om peel"
    exact ne_out hR (by omega) (by omega)
  have two : ∃ h₁, Fr h₀ L h₁ m ∧ News h₀ L h₁ (ZL li T mo dx cn TI TO z (zipObj (rawInt T') true TI TO) (tpObj [a, b]) kf o (cntObj dx i t cb u) R) ∧ ∀ (Q' : Bool → Shared → Prop) (E' : Value → Shared → Prop), Q' false { s with heap := h₁ } →
      wpAny (model PR w) A.in1 (if (Value.bool b0 != Value.bool true) = true then do setField (Value.ref z) 1 (Value.bool true); pure false else pure false) Q' E' s := by
    cases b0 with
    | true => exact ⟨s.heap, F, N, fun Q' E' hq => by rw [if_neg (by decide)]; exact wpAny_pure hq⟩
    | false =>
      obtain ⟨h₁, hq⟩ : ∃ h₁, (h₁.get? z = some (zipObj (rawInt T') true TI TO) ∧ Heap.SameBut z s.heap h₁) ∧ ∀ (Q' : Bool → Shared → Prop) (E' : Value → Shared → Prop), Q' false { s with heap := h₁ } → wpAny (model PR w) A.in1 (do setField (Value.ref z) 1 (Value.bool true); pure false) Q' E' s :=
        ⟨s.heap.update z (Obj.mapFields (·.setIfInBounds 1 (.bool true))), ⟨by rw [Heap.get?_update_self _ hz rfl]; rfl, Heap.SameBut.update ..⟩, fun Q' E' hq => wpAny_bind (wpAny_setField hz rfl (by show 1 < 5; decide) (wpAny_pure hq))⟩
      exact ⟨h₁, F.change hq.1.2 (N _ (.head _)).2.1 (N _ (.head _)).2.2, news_at0 N hq.1.2 hq.1.1 offz, fun Q' E' hq' => by rw [if_pos (by decide)]; exact hq.2 Q' E' hq'⟩
  obtain ⟨h₁, F1, N1, two⟩ := two
  refine two _ _ ?_
  rw [if_neg (by decide)]
  simp only [List.forIn_toArray, List.forIn_cons, List.forIn_nil]
  refine wpAny_bind (wpAny_bind (wpAny_bind (wpAny_holding ?_)))
  show wpAny _ _ (Builtin.SmallTypes.nextOf (.ref mo) >>= _) _ _ _
  refine wpAny_bind (map_end (mo := mo) (T := T) (li := li) (f := kf) (o := o) (by exact hA) (news := (TI, tpObj [.ref mo, .ref cn]) :: R) (n0 := n0) (l := dl) (vs := vs) F1 (news_sub N1 (by first | k_extra "om sub" | (intro q hq; simp only [List.mem_cons] at hq ⊢; rcases hq with rfl | rfl | rfl | rfl | hq <;> simp [*]))) ho (.tail _ hdl) ?_ fun h' e F2 N2 he => ?_)
  · k_extra "om peel"
    exact ne_out hR (by omega) (by omega)
  · obtain ⟨oe, hoe, hce⟩ := he
    refine wpAny_bind (wpAny_isInstance (T := "StopIteration") (b := true) ⟨oe, hoe, hce⟩ isSubtype_stop ?_)
    exact wpAny_pure (h h' F2 fun q hq => N2 q (.tail _ hq))
end
end
section
/-- the tuples that were drawn, with what the key made for each -/
inductive Grow (K : Value → Nat → Nat → Led → Value → Prop) (vs : List Value) (R : Led) (lo n0 : Nat) : Nat → Nat → List (Addr × Value × Nat) → Led → Prop
  | nil {n : Nat} : n0 ≤ n → Grow K vs R lo n0 0 n [] R
  | snoc {i n n1 n2 n3 t : Nat} {ds : List (Addr × Value × Nat)} {R' ks : Led} {v x : Value} {D : Addr} : Grow K vs R lo n0 i n ds R' → vs[i]? = some v → n ≤ n1 → n1 ≤ n2 → n2 ≤ n3 → K v n1 n2 ks x → (∀ p ∈ ks, @LT.lt Nat _ lo p.1) → (∀ p ∈ ks, ∀ q ∈ R', @LT.lt Nat _ q.1 p.1) →
      @LT.lt Nat _ lo D → (∀ q ∈ ks ++ R', @LT.lt Nat _ q.1 D) → Grow K vs R lo n0 (i + 1) n3 (ds ++ [(D, x, t)]) ((D, tpObj [x, .int i t]) :: (ks ++ R'))
theorem Grow.mono {K : Value → Nat → Nat → Led → Value → Prop} {vs : List Value} {R : Led} {lo n0 i n n' : Nat} {ds : List (Addr × Value × Nat)} {R' : Led} (h : Grow K vs R lo n0 i n ds R') (hn : n ≤ n') : Grow K vs R lo n0 i n' ds R' := by
  cases h with
  | nil h => exact .nil (Nat.le_trans h hn)
  | snoc g a b c d e f h1 h2 h3 => exact .snoc g a b c (Nat.le_trans d hn) e f h1 h2 h3
theorem Grow.sub {K : Value → Nat → Nat → Led → Value → Prop} {vs : List Value} {R : Led} {lo n0 i n : Nat} {ds : List (Addr × Value × Nat)} {R' : Led} (h : Grow K vs R lo n0 i n ds R') : ∀ q ∈ R, q ∈ R' := by
  induction h with
  | nil _ => exact fun _ h => h
  | snoc _ _ _ _ _ _ _ _ _ _ ih => exact fun q hq => .tail _ (List.mem_append_right _ (ih q hq))
theorem Grow.new {K : Value → Nat → Nat → Led → Value → Prop} {vs : List Value} {R : Led} {lo n0 i n : Nat} {ds : List (Addr × Value × Nat)} {R' : Led} (h : Grow K vs R lo n0 i n ds R') : ∀ q ∈ R', q ∈ R ∨ @LT.lt Nat _ lo q.1 := by
  induction h with
  | nil _ => exact fun _ h => .inl h
  | snoc _ _ _ _ _ _ c _ d _ ih => 
    intro q hq
    rcases List.mem_cons.mp hq with rfl | hq
    · exact .inr d
    rcases List.mem_append.mp hq with hq | hq
    · exact .inr (c q hq)
    · exact ih q hq
theorem Grow.len {K : Value → Nat → Nat → Led → Value → Prop} {vs : List Value} {R : Led} {lo n0 i n : Nat} {ds : List (Addr × Value × Nat)} {R' : Led} (h : Grow K vs R lo n0 i n ds R') : ds.length = i := by
  induction h with
  | nil _ => rfl
  | snoc _ _ _ _ _ _ _ _ _ _ ih => simp [ih]
theorem zip_nolen : typeLookup (.type "zip") "__len__" = pure none := by rw [typeLookup_type, builtinLookup_eq_fast]; kernel_rfl
theorem zip_nohint : typeLookup (.type "zip") "__length_hint__" = pure none := by rw [typeLookup_type, builtinLookup_eq_fast]; kernel_rfl
section
variable {w : World} {A : Around} {E : Value → Shared → Prop} {h₀ : Heap} {L : Addr} {m : Str → Option Value} {R : Led} {li T mo dx cn TI TO z dl S : Addr}
theorem ext_loop {kf res : Value} {cb : Bool} {u n0 : Nat} {vs : List Value} {need : Led} {K : Value → Nat → Nat → Led → Value → Prop} {R_ : Result → Shared → Prop} {nt : Nat}
    (O : ZOrd li T mo dx cn TI TO z) (hA : A.handled = none) (X : (hd.heap_1 w.params).In h₀) (hR : ∀ q ∈ R, @LT.lt Nat _ q.1 li) (hS : @LT.lt Nat _ z S) (hdl : (dl, lsObj vs n0) ∈ R) (hneed : ∀ q ∈ need, q ∈ R) (hvs : vs.length ≤ 1000)
    (key : ∀ v ∈ vs, KeyRuns w A.in1 h₀ L m kf v need (K v)) (cnt : CntRuns w A.in1 h₀ L m cn dx) :
    ∀ (k i : Nat) (s : Shared) (c : Nat) (ds : List (Addr × Value × Nat)) (R' : Led) (f0 a b : Value) (b0 : Bool) (o : Obj) (t : Nat), vs.length - i = k → i ≤ vs.length → 0 < vs.length → 0 < s.toks → Fr h₀ L s.heap m →
      News h₀ L s.heap (ZL li T mo dx cn TI TO z (zipObj f0 b0 TI TO) (tpObj [a, b]) kf o (cntObj dx i t cb u) ((S, lsObj (ds.map fun d => .ref d.1) c) :: R')) → Grow K vs R S nt i s.toks ds R' → IsLi dl i o →
      (f0 = .none ∧ i = 0 ∨ ∃ (T' : Addr), f0 = rawInt T' ∧ (T' = S ∨ ∃ o', (T', o') ∈ R')) →
      (∀ ds R' c h' tk', s.toks ≤ tk' → Fr h₀ L h' m → News h₀ L h' ((S, lsObj (ds.map fun d => .ref d.1) c) :: R') → Grow K vs R S nt vs.length tk' ds R' → R_ (.ok (.ret res)) { s with heap := h', toks := tk' }) →
      codeAny (model PR w) A (.builtin "list.extend.loop" ⟨[.ref S, .ref z, res], []⟩) R_ s := by
  have O' := O
  obtain ⟨a1, a2, a3, a4, a5, a6, a7⟩ := O'
  intro k
  induction k with
  | zero =>
    intro i s c ds R' f0 a b b0 o t hk hi hpos ht F N G ho hf fin
    have hin : i = vs.length := by omega
    subst hin
    rcases hf with ⟨_, h0⟩ | ⟨T', rfl, hT'⟩
    · exact absurd h0 (by omega)
    obtain ⟨o', hT'⟩ : ∃ o', (T', o') ∈ (S, lsObj (ds.map fun d => Value.ref d.1) c) :: R' := by
      rcases hT' with rfl | ⟨o', h⟩
      · exact ⟨_, .head _⟩
      · exact ⟨o', .tail _ h⟩
    refine codeAny_builtin PySem.F.entry_extend_loop ?_
    rw [Around.under_plainId PySem.F.plain_extend_loop _]
    show wpAny _ A.in1 (pyNext (.ref z) >>= _) _ _ s
    refine wpAny_bind (zip_pyEnd (T' := T') (oT := o') O (by exact hA) F N ?_ hT' ho (.tail _ (G.sub _ hdl)) fun h' F' N' => ?_)
    · intro q hq
      rcases List.mem_cons.mp hq with rfl | hq
      · exact .inr hS
      · rcases G.new q hq with h | h
        · exact .inl (hR q h)
        · exact .inr (Nat.lt_trans hS h)
    · exact wpAny_pure (fin ds R' c h' s.toks (Nat.le_refl _) F' N' G)
  | succ k ih =>
    intro i s c ds R' f0 a b b0 o t hk hi hpos ht F N G ho hf fin
    have hlt : i < vs.length := by omega
    have hRR : ∀ q ∈ (S, lsObj (ds.map fun d => Value.ref d.1) c) :: R', @LT.lt Nat _ q.1 li ∨ @LT.lt Nat _ z q.1 := by
      intro q hq
      rcases List.mem_cons.mp hq with rfl | hq
      · exact .inr hS
      · rcases G.new q hq with h | h
        · exact .inl (hR q h)
        · exact .inr (Nat.lt_trans hS h)
    refine codeAny_builtin PySem.F.entry_extend_loop ?_
    rw [Around.under_plainId PySem.F.plain_extend_loop _]
    show wpAny _ A.in1 (pyNext (.ref z) >>= _) _ _ s
    have hf' : f0 = .none ∨ ∃ (T' : Addr) (o' : Obj), f0 = rawInt T' ∧ (T', o') ∈ ((S, lsObj (ds.map fun d => Value.ref d.1) c) :: R') := by
      rcases hf with ⟨h, _⟩ | ⟨T', h1, h2⟩
      · exact .inl h
      · rcases h2 with rfl | ⟨o', h2⟩
        · exact .inr ⟨_, _, h1, .head _⟩
        · exact .inr ⟨T', o', h1, .tail _ h2⟩
    refine wpAny_bind (zip_pyNext O (by exact hA) X F N hRR hf' ho (.tail _ (G.sub _ hdl)) (List.getElem?_eq_getElem hlt) (fun q hq => .tail _ (G.sub _ (hneed q hq))) ht (key _ (List.getElem_mem hlt)) cnt
      fun f0' b0' a' b' o' t' x ks D h' tk' n n' c1 c2' c3 F2 N2 ho' hK c7 c8 c9 c10 hf2 => ?_)
    have hSn := N2 (S, lsObj (ds.map fun d => .ref d.1) c) (by simp)
    show wpAny _ A.in1 (updateSeq S (·.push (.ref D)) >>= _) _ _ _
    refine wpAny_bind ?_
    have hlen : ds.length = i := G.len
    refine wpAny_updateSeq hSn.1 rfl (wpAny_pure ⟨plainId_quiet PySem.F.plain_extend_loop _, ?_⟩) (by show (List.toArray _).size ≤ _; rw [sizeLine_eq]; simp [hlen]; omega) (by show ((List.toArray _).push _).size ≤ _; rw [sizeLine_eq]; simp [hlen]; omega)
    have hs := Heap.SameBut.update h' S (Obj.mapSeq (·.push (.ref D)))
    have hSz : ∀ q ∈ ks ++ R', q.1 ≠ S := by
      intro q hq
      rcases List.mem_append.mp hq with hq | hq
      · refine neN ?_; have := c8 q hq _ (.head _); dsimp only at this; omega
      · rcases G.new q hq with h | h
        · refine neN ?_; have := hR q h; omega
        · refine neN ?_; omega
    obtain ⟨c2, hc2⟩ : ∃ c2, (h'.update S (Obj.mapSeq (·.push (.ref D)))).get? S = some (lsObj ((ds ++ [(D, x, t)]).map fun d => .ref d.1) c2) := by
      have e := get?_update_seq hSn.1 (·.push (.ref D))
      rw [List.push_toArray] at e
      rw [List.map_append]
      exact ⟨_, e⟩
    have F3 : Fr h₀ L (h'.update S (Obj.mapSeq (·.push (.ref D)))) m := F2.change hs hSn.2.1 hSn.2.2
    have N3 : News h₀ L (h'.update S (Obj.mapSeq (·.push (.ref D)))) (ZL li T mo dx cn TI TO z (zipObj f0' b0' TI TO) (tpObj [a', b']) kf o' (cntObj dx ((i + 1 : Nat) : Int) t' cb u) ((S, lsObj ((ds ++ [(D, x, t)]).map fun d => .ref d.1) c2) :: ((D, tpObj [x, .int i t]) :: (ks ++ R')))) := by
      refine news_put (o := lsObj (ds.map fun d => .ref d.1) c) N2 hs (by simp) hc2 fun q hq => ?_
      simp only [List.mem_cons, List.mem_append] at hq
      rcases hq with rfl | rfl | rfl | rfl | rfl | rfl | rfl | rfl | rfl | rfl | hq
      all_goals first
        | exact .inl rfl
        | (refine .inr ⟨by simp only [List.mem_cons, true_or, or_true], ?_⟩; refine neN ?_; dsimp only; omega)
        | skip
      · refine .inr ⟨by simp only [List.mem_cons, true_or, or_true], ?_⟩
        have := c10 (S, lsObj (ds.map fun d => Value.ref d.1) c) (by simp)
        refine neN ?_; dsimp only at this ⊢; omega
      · refine .inr ⟨?_, hSz q (List.mem_append.mpr hq)⟩
        simp only [List.mem_cons, List.mem_append]
        rcases hq with hq | hq <;> simp [hq]
    refine ih (i + 1) _ c2 (ds ++ [(D, x, t)]) ((D, tpObj [x, .int i t]) :: (ks ++ R')) f0' a' b' b0' o' t' (by omega) hlt hpos (Nat.lt_of_lt_of_le ht (Nat.le_trans c1 (Nat.le_trans c2' c3))) F3 N3
      (.snoc G (List.getElem?_eq_getElem hlt) c1 c2' c3 hK (fun p hp => c8 p hp _ (.head _)) (fun p hp q hq => c8 p hp q (.tail _ hq)) (c10 (S, lsObj (ds.map fun d => Value.ref d.1) c) (by simp)) (fun q hq => c10 q (by simp only [List.mem_append, List.mem_cons] at hq ⊢; rcases hq with hq | hq <;> simp [hq]))) ho' (.inr ?_)
      fun ds2 R2 c3' h2 tk2 hk2 F4 N4 G4 => ?_
    · obtain ⟨T', o'', e1, e2⟩ := hf2
      refine ⟨T', e1, ?_⟩
      simp only [List.mem_cons, List.mem_append] at e2
      rcases e2 with e2 | e2 | e2 | e2
      · exact .inr ⟨o'', by rw [e2]; exact .head _⟩
      · exact .inr ⟨_, .tail _ (List.mem_append_left _ e2)⟩
      · exact .inl (Prod.mk.inj e2).1
      · exact .inr ⟨_, .tail _ (List.mem_append_right _ e2)⟩
    · exact fin ds2 R2 c3' h2 tk2 (Nat.le_trans (Nat.le_trans c1 (Nat.le_trans c2' c3)) hk2) F4 N4 G4
theorem collect_zip {s : Shared} {kf : Value} {cb : Bool} {u t n0 : Nat} {o : Obj} {vs : List Value} {need : Led} {K : Value → Nat → Nat → Led → Value → Prop} {Q : List Value → Shared → Prop}
    (O : ZOrd li T mo dx cn TI TO z) (hA : A.handled = none) (X : (hd.heap_1 w.params).In h₀) (hR : ∀ q ∈ R, @LT.lt Nat _ q.1 li) (hdl : (dl, lsObj vs n0) ∈ R) (hneed : ∀ q ∈ need, q ∈ R) (hvs : vs.length ≤ 1000) (hpos : 0 < vs.length) (ht : 0 < s.toks)
    (key : ∀ v ∈ vs, KeyRuns w A.in1 h₀ L m kf v need (K v)) (cnt : CntRuns w A.in1 h₀ L m cn dx)
    (F : Fr h₀ L s.heap m) (N : News h₀ L s.heap (ZL li T mo dx cn TI TO z (zipObj .none false TI TO) (tpObj [.none, .none]) kf o (cntObj dx (0 : Nat) t cb u) R)) (ho : IsLi dl 0 o)
    (h : ∀ S ds R' h' tk', s.toks ≤ tk' → @LT.lt Nat _ z S → Fr h₀ L h' m → News h₀ L h' R' → Grow K vs R S s.toks vs.length tk' ds R' → Q (ds.map fun d => .ref d.1) { s with heap := h', toks := tk' }) :
    wpAny (model PR w) A (collect (.ref z)) Q E s := by
  have hz := N _ (.head _)
  have hlt := Heap.lt_size hz.1
  unfold collect
  refine wpAny_bind (wpAny_runValue (codeAny_builtin PySem.F.entry_proto_collect ?_))
  rw [Around.under_plainId PySem.F.plain_proto_collect _]
  show wpAny _ A.in1 (newList [] >>= fun l => again (.builtin "list.__iadd__" ⟨[l, .ref z], []⟩)) _ _ s
  refine wpAny_bind (wpAny_newObj_type ?_)
  refine wpAny_pure ⟨plainId_quiet PySem.F.plain_list_iadd _, codeAny_builtin PySem.F.entry_list_iadd ?_⟩
  rw [Around.under_plainId PySem.F.plain_list_iadd _]
  have F1 := F.push (lsObj [] 0)
  have N1 := N.push F (lsObj [] 0)
  have hT : Shared.TypeIs { s with heap := s.heap.push (lsObj [] 0) } (.ref z) "zip" := ⟨_, (N1 _ (.tail _ (.head _))).1, rfl⟩
  show wpAny _ A.in1 (Builtin.List.listExtendWith (.ref s.heap.objs.size) (.ref z) (.ref s.heap.objs.size)) _ _ _
  unfold Builtin.List.listExtendWith
  refine wpAny_bind (wpAny_typeOf hT ?_)
  have h1 : Builtin.List.listSameRef (.ref s.heap.objs.size) (.ref z) = false := by simp [Builtin.List.listSameRef, Nat.ne_of_gt hlt]
  have h2 : (Value.type "zip" == Value.type "list") = false := by decide
  have h3 : (Value.type "zip" == Value.type "tuple") = false := by decide
  simp only [h1, h2, h3, Bool.or_false, Bool.false_eq_true, if_false]
  refine wpAny_bind (wpAny_pyIter_zip (N1 _ (.tail _ (.head _))).1 ?_)
  refine wpAny_bind (wpAny_holding ?_)
  unfold Builtin.List.listLengthHint
  refine wpAny_bind (wpAny_specialOf hT zip_nolen ?_)
  show wpAny _ A.in1 (specialOf (Value.ref z) (Str.ofString "__length_hint__") >>= _) _ _ _
  refine wpAny_bind (wpAny_specialOf hT zip_nohint ?_)
  refine wpAny_pure ?_
  show wpAny _ A.in1 (rule "list.extend.makes-room" >>= fun _ => Builtin.List.listTouch (.ref s.heap.objs.size) >>= fun _ =>
    again (.builtin "list.extend.loop" ⟨[.ref s.heap.objs.size, .ref z, .ref s.heap.objs.size], []⟩)) _ _ _
  refine wpAny_bind (wpAny_rule ?_)
  have hS₁ := N1 _ (.head _)
  refine wpAny_bind ?_
  show wpAny _ A.in1 (updateSeq s.heap.objs.size (·.push .none) >>= fun _ => updateSeq s.heap.objs.size (·.pop)) _ _ _
  refine wpAny_bind (wpAny_updateSeq hS₁.1 rfl ?_)
  have e2 := get?_update_seq hS₁.1 (·.push .none)
  refine wpAny_updateSeq e2 rfl ?_
  have e3 := get?_update_seq e2 (·.pop)
  have sb1 := Heap.SameBut.update (s.heap.push (lsObj [] 0)) s.heap.objs.size (Obj.mapSeq (·.push Value.none))
  have sb2 := Heap.SameBut.update ((s.heap.push (lsObj [] 0)).update s.heap.objs.size (Obj.mapSeq (·.push Value.none))) s.heap.objs.size (Obj.mapSeq (·.pop))
  have offS : ∀ q ∈ ZL li T mo dx cn TI TO z (zipObj .none false TI TO) (tpObj [.none, .none]) kf o (cntObj dx (0 : Nat) t cb u) R, q.1 ≠ s.heap.objs.size := fun q hq => Nat.ne_of_lt (Heap.lt_size (N q hq).1)
  have F2 := (F1.change sb1 hS₁.2.1 hS₁.2.2).change sb2 hS₁.2.1 hS₁.2.2
  have N2 := news_at0 (news_at0 N1 sb1 e2 offS) sb2 e3 offS
  have N3 : ∃ c, News h₀ L (((s.heap.push (lsObj [] 0)).update s.heap.objs.size (Obj.mapSeq (·.push Value.none))).update s.heap.objs.size (Obj.mapSeq (·.pop))) ((s.heap.objs.size, lsObj (([] : List (Addr × Value × Nat)).map fun d => .ref d.1) c) :: ZL li T mo dx cn TI TO z (zipObj .none false TI TO) (tpObj [.none, .none]) kf o (cntObj dx (0 : Nat) t cb u) R) := ⟨_, N2⟩
  obtain ⟨c, N3⟩ := N3
  refine wpAny_pure ⟨plainId_quiet PySem.F.plain_extend_loop _, ext_loop (S := s.heap.objs.size) (nt := s.toks) (cb := cb) (u := u) O hA X hR hlt hdl hneed hvs key cnt vs.length 0 _ c [] R .none .none .none false o t (by omega) (Nat.zero_le _) hpos ht F2 (news_sub N3 ?_) (.nil (Nat.le_refl _)) ho (.inl ⟨rfl, rfl⟩) fun ds R' c' h' tk' htk F4 N4 G4 => ?_⟩
  · first
      | k_extra "om sub"
      | (intro q hq
         simp only [List.mem_cons] at hq ⊢
         rcases hq with rfl | rfl | rfl | rfl | rfl | rfl | rfl | rfl | rfl | hq <;> simp [*])
  · show wpAny _ A (load s.heap.objs.size >>= _) _ _ _
    refine wpAny_bind (wpAny_load (N4 _ (.head _)).1 ?_)
    exact wpAny_pure (h _ ds R' h' tk' htk hlt F4 (fun q hq => N4 q (.tail _ hq)) G4)
end
end
section
/-- a key's texts: one str, or the two of a pair -/
abbrev KV := List Str
def kl (k : KV) : List (List Nat) := k.map (·.cps.toList)
inductive IsKey (R : Led) : Value → KV → Prop
  | one {a : Str} {t : Nat} : IsKey R (.str a t) [a]
  | two {a b : Str} {t1 t2 : Nat} {D : Addr} : (D, tpObj [.str a t1, .str b t2]) ∈ R → IsKey R (.ref D) [a, b]
theorem IsKey.mono {R R' : Led} {x : Value} {k : KV} (h : IsKey R x k) (hs : ∀ q ∈ R, q ∈ R') : IsKey R' x k := by
  cases h with
  | one => exact .one
  | two h => exact .two (hs _ h)
theorem str_toList_inj {a b : Str} (h : a.cps.toList = b.cps.toList) : a = b := Str.ext' (Array.toList_inj.mp h)
theorem kl_inj : ∀ {k k' : KV}, kl k = kl k' → k = k'
  | [], [], _ => rfl
  | [], _ :: _, h => by simp [kl] at h
  | _ :: _, [], h => by simp [kl] at h
  | a :: r, b :: r', h => by
    simp only [kl, List.map_cons, List.cons.injEq] at h
    rw [str_toList_inj h.1, kl_inj h.2]
def kLt (k k' : KV) : Bool := decide (kl k < kl k')
theorem kLt_one (a b : Str) : kLt [a] [b] = decide (a.cps.toList < b.cps.toList) := by
  unfold kLt kl
  apply decide_eq_decide.mpr
  simp only [List.map_cons, List.map_nil, List.cons_lt_cons_iff]
  constructor
  · rintro (h | ⟨_, h⟩)
    · exact h
    · exact absurd h (List.lt_irrefl _)
  · exact .inl
theorem kLt_two (a b c d : Str) : kLt [a, b] [c, d] = if a = c then decide (b.cps.toList < d.cps.toList) else decide (a.cps.toList < c.cps.toList) := by
  unfold kLt kl
  simp only [List.map_cons, List.map_nil, List.cons_lt_cons_iff]
  by_cases h : a = c
  · subst h
    rw [if_pos rfl]
    apply decide_eq_decide.mpr
    constructor
    · rintro (h | ⟨_, h | ⟨_, h⟩⟩)
      · exact absurd h (List.lt_irrefl _)
      · exact h
      · exact absurd h (List.lt_irrefl _)
    · exact fun h => .inr ⟨rfl, .inl h⟩
  · rw [if_neg h]
    apply decide_eq_decide.mpr
    constructor
    · rintro (h' | ⟨h', _⟩)
      · exact h'
      · exact absurd (str_toList_inj h') h
    · exact .inl
section
variable {prog : Program} {w : World} {A : Around} {E : Value → Shared → Prop} {s : Shared} {h₀ : Heap} {L : Addr} {m : Str → Option Value} {R : Led}
theorem key_tuple {D : Addr} {a b : Str} {t1 t2 : Nat} (h : s.heap.get? D = some (tpObj [.str a t1, .str b t2])) : IsTupleKey (PySem.strKind prog w) s.heap [a, b] D :=
  ⟨_, _, _, h, rfl, rfl, .cons (by show Value.isStrOf a (.str a t1) = true; simp [Value.isStrOf]) (.cons (by show Value.isStrOf b (.str b t2) = true; simp [Value.isStrOf]) .nil)⟩
theorem key_eq {x x' : Value} {k k' : KV} {Q : Bool → Shared → Prop} (hu : A.units < cLine) (N : News h₀ L s.heap R) (hx : IsKey R x k) (hx' : IsKey R x' k') (hl : k.length = k'.length) (h : Q (decide (k = k')) s) :
    wpAny (model prog w) A (eqBool x x') Q E s := by
  cases hx with
  | one =>
    cases hx' with
    | one => exact wpAny_eqBool_str (by simpa using h)
    | two _ => simp at hl
  | two hD =>
    cases hx' with
    | one => simp at hl
    | two hD' => exact wpAny_eqBool_tuple hu (key_tuple (N _ hD).1) (key_tuple (N _ hD').1) h
theorem lt_pair {D D' : Addr} {a b c d : Str} {t1 t2 t3 t4 : Nat} {Q : Value → Shared → Prop} (hu : A.units < cLine) (hD : s.heap.get? D = some (tpObj [.str a t1, .str b t2])) (hD' : s.heap.get? D' = some (tpObj [.str c t3, .str d t4]))
    (h : Q (.bool (kLt [a, b] [c, d])) s) : wpAny (model prog w) A (compareOp .Lt (.ref D) (.ref D')) Q E s := by
  have hT : s.TypeIs (.ref D) "tuple" := ⟨_, hD, rfl⟩
  have hT' : s.TypeIs (.ref D') "tuple" := ⟨_, hD', rfl⟩
  refine wpAny_richCompare_same_room (op := .Lt) hT hT' PySem.F.slot_tuple_lt (wpAny_call_entry PySem.F.slot_tuple_lt hT PySem.F.entry_tuple_lt ?_ (PySem.F.args_tuple_lt_2 _ _)) hu
  show wpAny _ _ (isInstance (.ref D') (.type "tuple") >>= _) _ _ s
  refine wpAny_bind (wpAny_isInstance hT' isSubtype_tuple_tuple ?_)
  simp only [Bool.not_true, Bool.false_eq_true, if_false]
  refine wpAny_bind (wpAny_tupleItemsOf hD rfl ?_)
  refine wpAny_bind (wpAny_tupleItemsOf hD' rfl ?_)
  rw [kLt_two] at h
  show wpAny _ _ (forIn [(Value.str a t1, Value.str c t3), (Value.str b t2, Value.str d t4)] _ _ >>= _) _ _ s
  simp only [List.forIn_cons, List.forIn_nil]
  refine wpAny_bind (wpAny_bind (wpAny_bind (wpAny_eqBool_str ?_)))
  by_cases hac : a = c
  · subst hac
    rw [if_pos rfl] at h
    simp only [decide_true, Bool.not_true, Bool.false_eq_true, if_false]
    refine wpAny_pure (wpAny_bind (wpAny_bind (wpAny_eqBool_str ?_)))
    by_cases hbd : b = d
    · subst hbd
      simp only [decide_true, Bool.not_true, Bool.false_eq_true, if_false]
      refine wpAny_pure (wpAny_pure ?_)
      refine wpAny_pure ⟨_, rfl, (fun e => nomatch e), ?_⟩
      have e : decide (b.cps.toList < b.cps.toList) = false := decide_eq_false (List.lt_irrefl _)
      rw [e] at h
      exact h
    · simp only [hbd, decide_false, Bool.not_false, if_true]
      refine wpAny_bind (wpAny_rule (wpAny_bind (PySem.P.lt_str ?_)))
      exact wpAny_bind (wpAny_pure (wpAny_pure (wpAny_pure (wpAny_pure ⟨_, rfl, (fun e => nomatch e), h⟩))))
  · rw [if_neg hac] at h
    simp only [hac, decide_false, Bool.not_false, if_true]
    refine wpAny_bind (wpAny_rule (wpAny_bind (PySem.P.lt_str ?_)))
    exact wpAny_bind (wpAny_pure (wpAny_pure (wpAny_pure (wpAny_pure ⟨_, rfl, (fun e => nomatch e), h⟩))))
/-- the order of the tuples that sort sees -/
def tLt (k k' : KV) (i j : Nat) : Bool := if k = k' then decide (i < j) else kLt k k'
theorem tuple_lt {D D' : Addr} {x x' : Value} {k k' : KV} {i j : Nat} {t t' : Nat} {b : Bool} {Q : Bool → Shared → Prop} (hu : A.units < cLine) (N : News h₀ L s.heap R) (hD : (D, tpObj [x, .int i t]) ∈ R) (hD' : (D', tpObj [x', .int j t']) ∈ R)
    (hx : IsKey R x k) (hx' : IsKey R x' k') (hl : k.length = k'.length) (hb : b = decide (k.length = 1)) (h : Q (tLt k k' i j) s) : wpAny (model prog w) A (keyLt' (tuples' b) (.ref D) (.ref D')) Q E s := by
  refine kat_lt (N _ hD).1 rfl (N _ hD').1 rfl ?_
  show KatLex prog w A b _ Q [(x, x'), (.int i t, .int j t')] 0 s
  refine kat_cons (key_eq hu N hx hx' hl ?_)
  unfold tLt at h
  by_cases hk : k = k'
  · rw [decide_eq_true hk]
    rw [if_pos hk] at h
    refine kat_yes (kat_cons (wpAny_eqBool_int ?_))
    by_cases hij : i = j
    · subst hij
      rw [show ((i : Int) == (i : Int)) = true by simp]
      refine kat_yes (kat_nil ?_)
      rw [show decide (i < i) = false by simp] at h
      exact h
    · rw [show ((i : Int) == (j : Int)) = false by simp; omega]
      refine kat_no ?_
      have e : (b && (0 + 1 == 0)) = false := by simp
      rw [e]
      refine kat_one _ _ ?_
      refine PySem.P.lt_int ?_
      show Q (decide ((i : Int) < (j : Int))) s
      rw [show decide ((i : Int) < (j : Int)) = decide (i < j) from decide_eq_decide.mpr (by omega)]
      exact h
  · rw [decide_eq_false hk]
    rw [if_neg hk] at h
    refine kat_no ?_
    subst hb
    cases hx with
    | one =>
      cases hx' with
      | two _ => simp at hl
      | one =>
        rw [show (decide ([_].length = 1) && 0 == 0) = true by simp]
        rw [kLt_one] at h
        exact oneLt_str h
    | two hP =>
      cases hx' with
      | one => simp at hl
      | two hP' =>
        rw [show (decide ([_, _].length = 1) && 0 == 0) = false by simp]
        exact kat_one _ _ (lt_pair hu (N _ hP).1 (N _ hP').1 h)
end
end
section
/-- sort's tree by a known order; none where it asks beyond n -/
def krun {α : Type} (n : Nat) (lt : Nat → Nat → Bool) : KasT α → Option α
  | .ret a => some a
  | .ask i j k => if i < n ∧ j < n then krun n lt (k (lt i j)) else none
theorem krun_wp {α : Type} {n : Nat} {lt : Nat → Nat → Bool} {cmp : Nat → Nat → (Bool → Shared → Prop) → Shared → Prop} {Q : α → Shared → Prop} {a : α} :
    ∀ (t : KasT α) (s : Shared), krun n lt t = some a → (∀ i j C, i < n → j < n → C (lt i j) s → cmp i j C s) → Q a s → t.kasWp cmp Q s
  | .ret b, s, h, _, hq => by cases h; exact hq
  | .ask i j k, s, h, hc, hq => by
    unfold krun at h
    split at h
    · rename_i hij
      exact hc i j _ hij.1 hij.2 (krun_wp (k (lt i j)) s h hc hq)
    · cases h
def pms : Nat → List Nat → List (List Nat)
  | 0, _ => [[]]
  | k + 1, av => av.flatMap fun x => (pms k (av.erase x)).map (x :: ·)
theorem mem_pms : ∀ (l av : List Nat), l.Nodup → (∀ x ∈ l, x ∈ av) → l ∈ pms l.length av
  | [], _, _, _ => by simp [pms]
  | x :: r, av, hn, hs => by
    simp only [List.length_cons, pms, List.mem_flatMap, List.mem_map]
    refine ⟨x, hs x (.head _), r, mem_pms r _ (List.nodup_cons.mp hn).2 (fun y hy => ?_), rfl⟩
    refine (List.mem_erase_of_ne ?_).mpr (hs y (.tail _ hy))
    rintro rfl
    exact (List.nodup_cons.mp hn).1 hy
def chk (n : Nat) (rs : List Nat) : Bool := match krun n (fun i j => decide (rs.getD i 0 < rs.getD j 0)) (kas_sort n) with
  | some p => p.toList.map (fun i => rs.getD i 0) == List.range n && p.toList.isPerm (List.range n)
  | none => false
theorem chk2 : (pms 2 (List.range 2)).all (chk 2) = true := by decide +kernel
theorem chk3 : (pms 3 (List.range 3)).all (chk 3) = true := by decide +kernel
theorem chk4 : (pms 4 (List.range 4)).all (chk 4) = true := by decide +kernel
theorem chk5 : (pms 5 (List.range 5)).all (chk 5) = true := by decide +kernel
theorem chk6 : (pms 6 (List.range 6)).all (chk 6) = true := by decide +kernel
end
section
theorem filter_le {p q : Nat → Bool} : ∀ l : List Nat, (∀ x ∈ l, p x = true → q x = true) → (l.filter p).length ≤ (l.filter q).length
  | [], _ => Nat.le_refl _
  | x :: r, h => by
    have ih := filter_le r fun y hy => h y (.tail _ hy)
    cases hp : p x with
    | false =>
      rw [List.filter_cons_of_neg (by simp [hp])]
      cases hq : q x with
      | false => rw [List.filter_cons_of_neg (by simp [hq])]; exact ih
      | true => rw [List.filter_cons_of_pos hq]; simp; omega
    | true =>
      rw [List.filter_cons_of_pos hp, List.filter_cons_of_pos (h x (.head _) hp)]; simp; omega
theorem filter_lt {p q : Nat → Bool} : ∀ l : List Nat, (∀ x ∈ l, p x = true → q x = true) → (∃ x ∈ l, q x = true ∧ p x = false) → (l.filter p).length < (l.filter q).length
  | [], _, ⟨_, h, _⟩ => by cases h
  | x :: r, h, ⟨y, hy, h1, h2⟩ => by
    rcases List.mem_cons.mp hy with rfl | hy
    · have ih := filter_le r fun z hz => h z (.tail _ hz)
      rw [List.filter_cons_of_neg (by simp [h2]), List.filter_cons_of_pos h1]; simp; omega
    · have ih := filter_lt r (fun z hz => h z (.tail _ hz)) ⟨y, hy, h1, h2⟩
      cases hp : p x with
      | false =>
        rw [List.filter_cons_of_neg (by simp [hp])]
        cases hq : q x with
        | false => rw [List.filter_cons_of_neg (by simp [hq])]; exact ih
        | true => rw [List.filter_cons_of_pos hq]; simp; omega
      | true => rw [List.filter_cons_of_pos hp, List.filter_cons_of_pos (h x (.head _) hp)]; simp; omega
/-- a strict order of the places below n -/
structure TOrd (n : Nat) (tl : Nat → Nat → Bool) : Prop where
  irr : ∀ i, i < n → tl i i = false
  tri : ∀ i j, i < n → j < n → i ≠ j → tl i j = true ∨ tl j i = true
  trans : ∀ i j k, i < n → j < n → k < n → tl i j = true → tl j k = true → tl i k = true
def rk (n : Nat) (tl : Nat → Nat → Bool) (i : Nat) : Nat := ((List.range n).filter fun j => tl j i).length
theorem rk_mono {n : Nat} {tl : Nat → Nat → Bool} (O : TOrd n tl) {i j : Nat} (hi : i < n) (hj : j < n) (h : tl i j = true) : rk n tl i < rk n tl j :=
  filter_lt _ (fun x hx hp => O.trans x i j (List.mem_range.mp hx) hi hj hp h) ⟨i, List.mem_range.mpr hi, h, O.irr i hi⟩
theorem rk_lt {n : Nat} {tl : Nat → Nat → Bool} (O : TOrd n tl) {i : Nat} (hi : i < n) : rk n tl i < n := by
  have := filter_lt (p := fun j => tl j i) (q := fun _ => true) (List.range n) (fun _ _ _ => rfl) ⟨i, List.mem_range.mpr hi, rfl, O.irr i hi⟩
  rw [List.filter_eq_self.mpr (fun _ _ => rfl), List.length_range] at this
  exact this
theorem rk_iff {n : Nat} {tl : Nat → Nat → Bool} (O : TOrd n tl) {i j : Nat} (hi : i < n) (hj : j < n) : tl i j = decide (rk n tl i < rk n tl j) := by
  by_cases hij : i = j
  · subst hij; rw [O.irr i hi]; simp
  · cases h : tl i j with
    | true => simp [rk_mono O hi hj h]
    | false =>
      have := (O.tri i j hi hj hij).resolve_left (by simp [h])
      have := rk_mono O hj hi this
      simp; omega
theorem krun_congr {α : Type} {n : Nat} {lt lt' : Nat → Nat → Bool} (h : ∀ i j, i < n → j < n → lt i j = lt' i j) : ∀ t : KasT α, krun n lt t = krun n lt' t
  | .ret _ => rfl
  | .ask i j k => by
    unfold krun
    by_cases hij : i < n ∧ j < n
    · rw [if_pos hij, if_pos hij, h i j hij.1 hij.2]; exact krun_congr h _
    · rw [if_neg hij, if_neg hij]
theorem chk_all {n : Nat} (h2 : 2 ≤ n) (h6 : n ≤ 6) : (pms n (List.range n)).all (chk n) = true := by
  match n, h2, h6 with
  | 2, _, _ => exact chk2
  | 3, _, _ => exact chk3
  | 4, _, _ => exact chk4
  | 5, _, _ => exact chk5
  | 6, _, _ => exact chk6
  | (k + 7), _, h => exact absurd h (by omega)
theorem sort_pure {n : Nat} {tl : Nat → Nat → Bool} (O : TOrd n tl) (h2 : 2 ≤ n) (h6 : n ≤ 6) : ∃ p : Array Nat, krun n tl (kas_sort n) = some p ∧ p.toList.Perm (List.range n) ∧ p.toList.Pairwise (fun i j => tl i j = true) := by
  let rs := (List.range n).map (rk n tl)
  have hl : rs.length = n := by simp [rs]
  have hg : ∀ i, i < n → rs.getD i 0 = rk n tl i := fun i hi => by simp [rs, List.getD, hi]
  have hnd : rs.Nodup := by
    rw [List.nodup_iff_pairwise_ne, List.pairwise_map]
    refine List.Pairwise.imp_of_mem ?_ List.nodup_range
    intro a b ha hb hab e
    have ha := List.mem_range.mp ha
    have hb := List.mem_range.mp hb
    rcases O.tri a b ha hb hab with h | h
    · have := rk_mono O ha hb h; omega
    · have := rk_mono O hb ha h; omega
  have hm : rs ∈ pms n (List.range n) := by
    have := mem_pms rs (List.range n) hnd (fun x hx => by
      obtain ⟨i, hi, rfl⟩ := List.mem_map.mp hx
      exact List.mem_range.mpr (rk_lt O (List.mem_range.mp hi)))
    rwa [hl] at this
  have hc := List.all_eq_true.mp (chk_all h2 h6) rs hm
  unfold chk at hc
  have e := krun_congr (n := n) (lt := fun i j => decide (rs.getD i 0 < rs.getD j 0)) (lt' := tl) (fun i j hi hj => by simp only [hg i hi, hg j hj]; exact (rk_iff O hi hj).symm) (kas_sort n)
  rw [e] at hc
  cases hk : krun n tl (kas_sort n) with
  | none => rw [hk] at hc; cases hc
  | some p =>
    rw [hk] at hc
    simp only [Bool.and_eq_true, beq_iff_eq, List.isPerm_iff] at hc
    refine ⟨p, rfl, hc.2, ?_⟩
    have hlt : (p.toList.map fun i => rs.getD i 0).Pairwise (· < ·) := by rw [hc.1]; exact List.pairwise_lt_range
    rw [List.pairwise_map] at hlt
    refine List.Pairwise.imp_of_mem ?_ hlt
    intro a b ha hb hab
    have ha := List.mem_range.mp (hc.2.mem_iff.mp ha)
    have hb := List.mem_range.mp (hc.2.mem_iff.mp hb)
    rw [hg a ha, hg b hb] at hab
    rw [rk_iff O ha hb]; exact decide_eq_true hab
def pos (b : Bool) (n i : Nat) : Nat := if b = true then n - 1 - i else i
theorem pos_lt {b : Bool} {n i : Nat} (h : i < n) : pos b n i < n := by unfold pos; split <;> omega
theorem pos_ord {b : Bool} {n : Nat} {tl : Nat → Nat → Bool} (O : TOrd n tl) : TOrd n (fun i j => tl (pos b n i) (pos b n j)) where
  irr := fun i hi => O.irr _ (pos_lt hi)
  tri := fun i j hi hj hij => O.tri _ _ (pos_lt hi) (pos_lt hj) (by unfold pos; split <;> omega)
  trans := fun i j k hi hj hk => O.trans _ _ _ (pos_lt hi) (pos_lt hj) (pos_lt hk)
theorem getD_rev {α : Type} {b : Bool} {vs : List α} {d : α} {i : Nat} (hi : i < vs.length) : (katRev b vs).getD i d = vs.getD (pos b vs.length i) d := by
  unfold katRev pos
  cases b with
  | false => rfl
  | true =>
    rw [if_pos rfl, if_pos rfl]
    simp only [List.getD]
    rw [List.getElem?_reverse hi]
theorem range_pos {b : Bool} {n : Nat} (h6 : n ≤ 6) : ((List.range n).map (pos b n)).Perm (List.range n) := by
  cases b with
  | false => 
    have : (List.range n).map (pos false n) = List.range n := by
      have : pos false n = id := by funext i; simp [pos]
      rw [this, List.map_id]
    rw [this]
  | true =>
    refine List.isPerm_iff.mp ?_
    match n, h6 with
    | 0, _ => rfl
    | 1, _ => rfl
    | 2, _ => rfl
    | 3, _ => rfl
    | 4, _ => rfl
    | 5, _ => rfl
    | 6, _ => rfl
    | (k + 7), h => exact absurd h (by omega)
end
section
theorem lex_tri {α : Type} [LT α] (h : ∀ a b : α, a = b ∨ a < b ∨ b < a) : ∀ a b : List α, a = b ∨ a < b ∨ b < a
  | [], [] => .inl rfl
  | [], _ :: _ => .inr (.inl (List.nil_lt_cons _ _))
  | _ :: _, [] => .inr (.inr (List.nil_lt_cons _ _))
  | a :: r, b :: r' => by
    rcases h a b with rfl | h1 | h1
    · rcases lex_tri h r r' with rfl | h2 | h2
      · exact .inl rfl
      · exact .inr (.inl (List.cons_lt_cons_iff.mpr (.inr ⟨rfl, h2⟩)))
      · exact .inr (.inr (List.cons_lt_cons_iff.mpr (.inr ⟨rfl, h2⟩)))
    · exact .inr (.inl (List.cons_lt_cons_iff.mpr (.inl h1)))
    · exact .inr (.inr (List.cons_lt_cons_iff.mpr (.inl h1)))
theorem lex_trans {α : Type} [LT α] (h : ∀ a b c : α, a < b → b < c → a < c) : ∀ a b c : List α, a < b → b < c → a < c
  | _, [], _, h1, _ => absurd h1 (List.not_lt_nil _)
  | _, _ :: _, [], _, h2 => absurd h2 (List.not_lt_nil _)
  | [], _ :: _, _ :: _, _, _ => List.nil_lt_cons _ _
  | a :: r, b :: r', c :: r'', h1, h2 => by
    rw [List.cons_lt_cons_iff] at h1 h2 ⊢
    rcases h1 with h1 | ⟨rfl, h1⟩ <;> rcases h2 with h2 | ⟨rfl, h2⟩
    · exact .inl (h _ _ _ h1 h2)
    · exact .inl h1
    · exact .inl h2
    · exact .inr ⟨rfl, lex_trans h _ _ _ h1 h2⟩
theorem lex_irr {α : Type} [LT α] (h : ∀ a : α, ¬ a < a) : ∀ a : List α, ¬ a < a
  | [], h1 => List.not_lt_nil _ h1
  | a :: r, h1 => by
    rw [List.cons_lt_cons_iff] at h1
    rcases h1 with h1 | ⟨_, h1⟩
    · exact h a h1
    · exact lex_irr h r h1
theorem kl_tri (k k' : KV) : k = k' ∨ kLt k k' = true ∨ kLt k' k = true := by
  rcases lex_tri (lex_tri (fun a b : Nat => by omega)) (kl k) (kl k') with h | h | h
  · exact .inl (kl_inj h)
  · exact .inr (.inl (decide_eq_true h))
  · exact .inr (.inr (decide_eq_true h))
theorem kl_trans {k k' k'' : KV} (h1 : kLt k k' = true) (h2 : kLt k' k'' = true) : kLt k k'' = true :=
  decide_eq_true (lex_trans (lex_trans (fun a b c : Nat => Nat.lt_trans)) _ _ _ (of_decide_eq_true h1) (of_decide_eq_true h2))
theorem kl_irr (k : KV) : kLt k k = false := decide_eq_false (lex_irr (lex_irr Nat.lt_irrefl) _)
theorem tl_ord (n : Nat) (kf : Nat → KV) : TOrd n (fun i j => tLt (kf i) (kf j) i j) where
  irr := fun i _ => by simp [tLt]
  tri := fun i j _ _ hij => by
    unfold tLt
    by_cases h : kf i = kf j
    · rw [if_pos h, if_pos h.symm]; simp; omega
    · rw [if_neg h, if_neg (Ne.symm h)]; exact (kl_tri _ _).resolve_left h
  trans := fun i j k _ _ _ h1 h2 => by
    unfold tLt at *
    by_cases h : kf i = kf j
    · rw [if_pos h] at h1
      rw [← h] at h2
      by_cases h' : kf i = kf k
      · rw [if_pos h'] at h2 ⊢; simp at *; omega
      · rw [if_neg h'] at h2 ⊢; exact h2
    · rw [if_neg h] at h1
      by_cases h' : kf j = kf k
      · rw [← h', if_neg h]; exact h1
      · rw [if_neg h'] at h2
        have h3 := kl_trans h1 h2
        by_cases h4 : kf i = kf k
        · rw [h4, kl_irr] at h3; cases h3
        · rw [if_neg h4]; exact h3
section
variable {prog : Program} {w : World} {A : Around} {E : Value → Shared → Prop} {s : Shared} {h₀ : Heap} {L a : Addr} {m : Str → Option Value} {news : Led}
theorem key_tups {h : Heap} {R : Led} {kf : Nat → KV} {n : Nat} (N : News h₀ L h R) : ∀ (vs : List Value), (∀ v ∈ vs, ∃ D x t i, v = .ref D ∧ (D, tpObj [x, .int ((i : Nat) : Int) t]) ∈ R ∧ IsKey R x (kf i) ∧ i < n) →
    ∃ fs, KatTups h vs fs ∧ fs.length = vs.length ∧ ∀ f ∈ fs, ∃ i, i < n ∧ IsKey R f (kf i)
  | [], _ => ⟨[], .nil, rfl, fun _ h => nomatch h⟩
  | v :: r, hv => by
    obtain ⟨fs, h1, h2, h3⟩ := key_tups N r fun v hv' => hv v (.tail _ hv')
    obtain ⟨D, x, t, i, rfl, hD, hx, hi⟩ := hv v (.head _)
    refine ⟨x :: fs, .cons (N _ hD).1 rfl rfl rfl h1, by simp [h2], fun f hf => ?_⟩
    rcases List.mem_cons.mp hf with rfl | hf
    · exact ⟨i, hi, hx⟩
    · exact h3 f hf
theorem sort_model {vs : List Value} {n c0 ℓ : Nat} {b : Bool} {kf : Nat → KV} {P : PySem.Fin → Shared → Prop} (F : Fr h₀ L s.heap m) (N : News h₀ L s.heap ((a, lsObj vs c0) :: news)) (hna : ∀ p ∈ news, p.1 ≠ a) (hu : A.units < cLine)
    (hn : vs.length = n) (h1 : 1 ≤ n) (h6 : n ≤ 6) (hk : ∀ i, i < n → ∃ D x t, vs[i]? = some (.ref D) ∧ (D, tpObj [x, .int i t]) ∈ news ∧ IsKey news x (kf i)) (hl : ∀ i, i < n → (kf i).length = ℓ)
    (h : ∀ (q : List Nat) e h', Fr h₀ L h' m → News h₀ L h' ((a, lsObj ((katRev b q).map fun i => vs.getD i Value.none) e) :: news) → q.Perm (List.range n) → q.Pairwise (fun i j => tLt (kf i) (kf j) i j = true) → P (.done (.ret .none)) { s with heap := h' }) :
    wpAny (model prog w) A (Builtin.«list.sort» ⟨[.ref a], [(Str.ofString "reverse", .bool b)]⟩) P E s := by
  have na := N _ (.head _)
  have ho : s.heap.get? a = some (seqObj "list" vs.toArray c0) := na.1
  have s1 := Heap.SameBut.update s.heap a (Obj.mapSeq fun _ => (#[] : Array Value))
  obtain ⟨e1, ho1⟩ : ∃ e1, (s.heap.update a (Obj.mapSeq fun _ => (#[] : Array Value))).get? a = some (seqObj "list" #[] e1) := ⟨_, get?_update_seq ho fun _ => #[]⟩
  have F1 := F.change s1 na.2.1 na.2.2
  have N1 := news_at0 N s1 ho1 hna
  have F3 : Fr h₀ L (((s.heap.update a (Obj.mapSeq fun _ => (#[] : Array Value))).push (seqObj "tuple" vs.toArray 0)).push (seqObj "list" #[] 0)) m := (F1.push _).push _
  have N3 : News h₀ L (((s.heap.update a (Obj.mapSeq fun _ => (#[] : Array Value))).push (seqObj "tuple" vs.toArray 0)).push (seqObj "list" #[] 0)) ((a, seqObj "list" #[] e1) :: news) :=
    N1.grown fun b x e => Heap.get?_push_of_some _ (Heap.get?_push_of_some _ e)
  rw [list_sort_rev]
  refine wpAny_bind (listItems_at ho rfl ?_)
  refine wpAny_bind (listUpdate_at ho rfl ?_ (by rw [List.size_toArray, sizeLine_eq]; omega) (Nat.zero_le _))
  refine wpAny_bind (seqEpoch_at ho1 rfl ?_)
  refine wpAny_bind (wpAny_newTuple ?_ (by show vs.length ≤ _; rw [sizeLine_eq]; omega))
  refine wpAny_bind (wpAny_newList ?_ (Nat.zero_le _))
  refine wpAny_holding ?_
  show wpAny (model prog w) A _ P E { s with heap := ((s.heap.update a (Obj.mapSeq fun _ => (#[] : Array Value))).push (seqObj "tuple" vs.toArray 0)).push (seqObj "list" #[] 0) }
  dsimp only
  have step : ∀ (t : Sem PySem.Fin) (s : Shared), wpAny (model prog w) A t P E s → wpAny (model prog w) A (if b = true then (do let _ ← rule "list.sort.reverse"; t) else t) P E s := by
    intro t s ht
    split
    · exact wpAny_bind (wpAny_rule ht)
    · exact ht
  refine step _ _ ?_
  -- the end: the list is filled
  have fin : ∀ (st' : SortSt) (q : List Nat), (arrOf st').map (·.2) = List.toArray (katRev b ((katRev b q).map fun i => vs.getD i Value.none)) → failedOf st' = none → q.length = n → q.Perm (List.range n) → q.Pairwise (fun i j => tLt (kf i) (kf j) i j = true) →
      wpAny (model prog w) A (do
        let touched := (← seqEpoch a) != e1
        Builtin.List.listUpdate (.ref a) fun _ => if b = true then ((arrOf st').map (·.2)).reverse else (arrOf st').map (·.2)
        if let some e := failedOf st' then rule "list.sort.comparison-raised"; throw e
        if touched then rule "list.sort.modified"; raiseError "ValueError" "list modified during sort"
        ret .none) P E { s with heap := ((s.heap.update a (Obj.mapSeq fun _ => (#[] : Array Value))).push (seqObj "tuple" vs.toArray 0)).push (seqObj "list" #[] 0) } := by
    intro st' q hout hf hq hp ho
    have n3 := N3 _ (.head _)
    have hrr : (if b = true then ((arrOf st').map (·.2)).reverse else (arrOf st').map (·.2)) = List.toArray ((katRev b q).map fun i => vs.getD i Value.none) := by
      rw [hout]
      cases b with
      | false => rfl
      | true => simp [katRev]
    have hsz : (List.toArray ((katRev b q).map fun i => vs.getD i Value.none)).size = n := by rw [List.size_toArray, List.length_map, kat_len, hq]
    refine wpAny_bind (seqEpoch_at n3.1 rfl ?_)
    rw [hrr]
    have s2 := Heap.SameBut.update (((s.heap.update a (Obj.mapSeq fun _ => (#[] : Array Value))).push (seqObj "tuple" vs.toArray 0)).push (seqObj "list" #[] 0)) a (Obj.mapSeq fun _ => List.toArray ((katRev b q).map fun i => vs.getD i Value.none))
    have hc2 := get?_update_seq n3.1 fun _ => List.toArray ((katRev b q).map fun i => vs.getD i Value.none)
    refine wpAny_bind (listUpdate_at n3.1 rfl ?_ (Nat.zero_le _) (Nat.le_trans (Nat.le_of_eq hsz) (by rw [sizeLine_eq]; omega)))
    rw [hf]
    simp only [bne_self_eq_false, Bool.false_eq_true, if_false]
    exact wpAny_pure (h q _ _ (F3.change s2 n3.2.1 n3.2.2) (news_at0 N3 s2 hc2 hna) hp ho)
  by_cases hn2 : vs.toArray.size < 2
  · rw [if_pos hn2, if_pos hn2]
    have hn1 : n = 1 := by rw [List.size_toArray] at hn2; omega
    subst hn1
    obtain ⟨v, rfl⟩ : ∃ v, vs = [v] := List.length_eq_one_iff.mp hn
    refine wpAny_bind (wpAny_pure ?_)
    rw [StateT.run_pure]
    refine wpAny_bind (wpAny_pure ?_)
    refine fin _ [0] ?_ ?_ rfl (List.Perm.refl _) (List.pairwise_singleton _ _)
    · show Array.map (·.2) (if b = true then (#[v].zip #[v]).reverse else #[v].zip #[v]) = _
      cases b <;> simp [katRev]
    · rfl
  · rw [if_neg hn2, if_neg hn2]
    have h2 : 2 ≤ n := by rw [List.size_toArray] at hn2; omega
    have hl12 : ℓ = 1 ∨ ℓ = 2 := by
      obtain ⟨D, x, t, _, _, hx⟩ := hk 0 (by omega)
      have := hl 0 (by omega)
      generalize kf 0 = k at hx this
      cases hx with
      | one => exact .inl (by simpa using this.symm)
      | two => exact .inr (by simpa using this.symm)
    have Nn : News h₀ L (((s.heap.update a (Obj.mapSeq fun _ => (#[] : Array Value))).push (seqObj "tuple" vs.toArray 0)).push (seqObj "list" #[] 0)) news := fun q hq => N3 q (.tail _ hq)
    obtain ⟨fs, ht1, ht2, ht3⟩ := key_tups (n := n) (kf := kf) Nn vs fun v hv => by
      obtain ⟨i, hi, e⟩ := List.getElem_of_mem hv
      obtain ⟨D, x, t, h3, h4, h5⟩ := hk i (by omega)
      rw [List.getElem?_eq_getElem hi, e] at h3
      exact ⟨D, x, t, i, Option.some.inj h3, h4, h5, by omega⟩
    have kind : ∀ Q : SortKind → Shared → Prop, Q (tuples' (decide (ℓ = 1))) { s with heap := ((s.heap.update a (Obj.mapSeq fun _ => (#[] : Array Value))).push (seqObj "tuple" vs.toArray 0)).push (seqObj "list" #[] 0) } →
        wpAny (model prog w) A (keyKind' vs.toArray) Q E { s with heap := ((s.heap.update a (Obj.mapSeq fun _ => (#[] : Array Value))).push (seqObj "tuple" vs.toArray 0)).push (seqObj "list" #[] 0) } := by
      intro Q hq
      rcases hl12 with rfl | rfl
      · refine kat_kind (T := .type "str") ht1 (by omega) (fun f hf => ?_) rfl hq
        obtain ⟨i, hi, hx⟩ := ht3 f hf
        have := hl i hi
        generalize kf i = k at hx this
        cases hx with
        | one => exact Looks.of_pure rfl
        | two => simp at this
      · refine kat_kind (T := .type "tuple") ht1 (by omega) (fun f hf => ?_) rfl hq
        obtain ⟨i, hi, hx⟩ := ht3 f hf
        have := hl i hi
        generalize kf i = k at hx this
        cases hx with
        | one => simp at this
        | two hD => exact (Looks.ld (Nn _ hD).1).andThen .now
    refine wpAny_bind (kind _ ?_)
    obtain ⟨p, hp1, hp2, hp3⟩ := sort_pure (pos_ord (b := b) (tl_ord n kf)) h2 h6
    have hvl : (katRev b vs).length = n := by rw [kat_len, hn]
    have ask : (kas_sort (katRev b vs).length).kasWp (kas_ask prog w A (tuples' (decide (ℓ = 1))) (katRev b vs)) (fun p' s' => p' = p ∧ s' = { s with heap := ((s.heap.update a (Obj.mapSeq fun _ => (#[] : Array Value))).push (seqObj "tuple" vs.toArray 0)).push (seqObj "list" #[] 0) })
        { s with heap := ((s.heap.update a (Obj.mapSeq fun _ => (#[] : Array Value))).push (seqObj "tuple" vs.toArray 0)).push (seqObj "list" #[] 0) } := by
      rw [hvl]
      refine krun_wp _ _ hp1 (fun i j C hi hj hC => ?_) ⟨rfl, rfl⟩
      unfold kas_ask
      rw [getD_rev (by omega), getD_rev (by omega), hn]
      obtain ⟨D, x, t, g1, g2, g3⟩ := hk (pos b n i) (pos_lt hi)
      obtain ⟨D', x', t', g1', g2', g3'⟩ := hk (pos b n j) (pos_lt hj)
      have e : vs.getD (pos b n i) Value.none = .ref D := by simp [List.getD, g1]
      have e' : vs.getD (pos b n j) Value.none = .ref D' := by simp [List.getD, g1']
      rw [e, e']
      exact tuple_lt hu Nn g2 g2' g3 g3' (by rw [hl _ (pos_lt hi), hl _ (pos_lt hj)]) (by rw [hl _ (pos_lt hi)]) hC
    have hzip : (if b = true then (vs.toArray.zip vs.toArray).reverse else vs.toArray.zip vs.toArray) = (katRev b vs).toArray.zip (katRev b vs).toArray := kat_pairs b rfl
    rw [hzip]
    refine wpAny_bind (wpAny_mono (kat_run (Q := fun st' s' => arrOf st' = p.map (kas_item ((katRev b vs).toArray.zip (katRev b vs).toArray)) ∧ failedOf st' = none ∧ s' = { s with heap := ((s.heap.update a (Obj.mapSeq fun _ => (#[] : Array Value))).push (seqObj "tuple" vs.toArray 0)).push (seqObj "list" #[] 0) })
      rfl (by omega) (by omega) (fun p' st' s' (_ : p'.size = _) (a2 : arrOf st' = _) (a3 : failedOf st' = none) (a4 : p' = p ∧ s' = _) => ⟨a4.1 ▸ a2, a3, a4.2⟩) ask) ?_ fun _ _ x => x)
    rintro ⟨⟨⟩, st'⟩ s' ⟨har, hf, rfl⟩
    refine fin st' (p.toList.map (pos b n)) ?_ hf ?_ ((hp2.map _).trans (range_pos h6)) ?_
    · rw [kat_snds rfl har]
      congr 1
      have e1 : ∀ (l : List Nat) (f : Nat → Value), katRev b ((katRev b l).map f) = l.map f := fun l f => by cases b <;> simp [katRev]
      rw [e1, List.map_map]
      refine List.map_congr_left fun i hi => ?_
      have hi := List.mem_range.mp (hp2.mem_iff.mp hi)
      rw [getD_rev (by omega), hn]; rfl
    · rw [List.length_map, hp2.length_eq, List.length_range]
    · rw [List.pairwise_map]; exact hp3
end
end
section
theorem pis_entry : entryFor table "proto.is" = some Builtin.«proto.is» := by first | exact entryFor_of_fast (by kernel_rfl) | exact entryFor_of_tree (by kernel_rfl)
theorem pis_plain : plainId "proto.is" = true := by decide +kernel
theorem statics_at (w : World) : (hd.heap_1 w.params).lookup 2 = some { cls := .none, data := .dict #[] } := by
  refine said ?_
  w_on
  k_fill
  unfold Said
  rfl
section
variable {prog : Program} {w : World} {A : Around} {E : Value → Shared → Prop} {s : Shared}
theorem booked_of {h₀ h : Heap} {L : Addr} {m : Str → Option Value} (X : (hd.heap_1 w.params).In h₀) (F : Fr h₀ L h m) : NoneBooked h := by
  have o := X.keeps F.keep 2 _ (statics_at w)
  refine ⟨fun _ => none, ⟨_, _, _, o, rfl, ?_, fun name => ?_⟩, rfl⟩
  · intro e he; simp at he
  · rfl
theorem is_str {y z : Str} {t u : Nat} {Q : Bool → Shared → Prop} (hb : NoneBooked s.heap) (ht : t ≠ 0) (hu : u ≠ 0) (hc : t = u → y = z) (hq : ∀ b, (b = true → y = z) → Q b s) :
    wpAny (model prog w) A (isSame (.str y t) (.str z u)) Q E s := by
  show wpAny (model prog w) A (isSame.created (y == z) t u) Q E s
  unfold isSame.created
  have h0 : (((t : Tok) == 0) || ((u : Tok) == 0)) = false := by simp [ht, hu]
  rw [if_neg (by rw [h0]; decide)]
  by_cases htu : t = u
  · rw [if_pos (by simp [htu])]
    exact wpAny_pure (hq _ fun _ => hc htu)
  · rw [if_neg (by simpa using htu)]
    by_cases hyz : y = z
    · rw [if_neg (by simp [hyz])]
      refine wpAny_bind (wpAny_sharingNotTold_none hb ?_)
      rw [if_neg (by decide)]
      refine wpAny_bind (wpAny_sharingNotTold_none hb ?_)
      rw [if_neg (by decide)]
      exact wpAny_bind (wpAny_rule (wpAny_bind (wpAny_askSetting (wpAny_pure (hq _ fun _ => hyz)))))
    · rw [if_pos (by simpa using hyz)]
      exact wpAny_pure (hq _ fun h => by cases h)
theorem pis {p q : Value} {Q : Value → Shared → Prop} (h : wpAny (model prog w) A.in1 (isSame p q) (fun b s' => Q (.bool b) s') E s) : wpAny (model prog w) A (runValue (.builtin "proto.is" ⟨[p, q], []⟩)) Q E s := by
  refine wpAny_runValue (codeAny_builtin pis_entry ?_)
  rw [Around.under_plainId pis_plain _]
  show wpAny _ _ (isSame p q >>= _) _ _ _
  refine wpAny_bind (wpAny_mono h (fun b s' hq => ?_) fun _ _ z => z)
  exact wpAny_pure hq
theorem is_pair {D D' : Addr} {a b c d : Str} {t1 t2 t3 t4 : Nat} {Q : Bool → Shared → Prop} (hb : NoneBooked s.heap) (hD : s.heap.get? D = some (tpObj [.str a t1, .str b t2])) (hD' : s.heap.get? D' = some (tpObj [.str c t3, .str d t4]))
    (h1 : t1 ≠ 0) (h2 : t2 ≠ 0) (h3 : t3 ≠ 0) (h4 : t4 ≠ 0) (c1 : t1 = t3 → a = c) (c2 : t2 = t4 → b = d) (hq : ∀ r, (r = true → a = c ∧ b = d) → Q r s) :
    wpAny (model prog w) A (isSame (.ref D) (.ref D')) Q E s := by
  by_cases e : D = D'
  · subst e
    refine wpAny_isSame_ref_self (hq _ fun _ => ?_)
    have := hD.symm.trans hD'
    simp at this
    exact ⟨this.1.1, this.2.1⟩
  unfold isSame
  dsimp only
  rw [if_neg (by simpa using e)]
  refine wpAny_bind (wpAny_load hD (wpAny_bind (wpAny_load hD' ?_)))
  show wpAny (model prog w) A (sameTuple D D' #[Value.str a t1, Value.str b t2] #[Value.str c t3, Value.str d t4]) Q E s
  unfold sameTuple
  refine wpAny_bind (wpAny_askSetting ?_)
  refine wpAny_ite ?_
  split
  · exact wpAny_pure (hq _ fun h => by cases h)
  refine wpAny_ite ?_
  split
  · exact wpAny_pure (hq _ fun h => by cases h)
  refine wpAny_bind (wpAny_holding ?_)
  have fin : ∀ r, (r = true → a = c ∧ b = d) → wpAny (model prog w) A (if r = true then do rule "is.world.tuple-shared"; pure true else pure false) Q E s := by
    intro r hr
    cases r with
    | true => exact wpAny_bind (wpAny_rule (wpAny_pure (hq _ hr)))
    | false => exact wpAny_pure (hq _ hr)
  unfold sameItems
  rw [if_neg (by simp)]
  show wpAny _ _ (forIn [(Value.str a t1, Value.str c t3), (Value.str b t2, Value.str d t4)] _ _ >>= _) _ _ s
  simp only [List.forIn_cons, List.forIn_nil]
  refine wpAny_bind (wpAny_bind (wpAny_bind (pis (is_str hb h1 h3 c1 fun r1 hr1 => ?_))))
  cases r1 with
  | false => exact wpAny_pure (wpAny_pure (wpAny_pure (fin false fun h => by cases h)))
  | true =>
    refine wpAny_bind (wpAny_askSetting ?_)
    refine wpAny_pure (wpAny_bind (wpAny_bind (pis (is_str hb h2 h4 c2 fun r2 hr2 => ?_))))
    cases r2 with
    | false => exact wpAny_pure (wpAny_pure (wpAny_pure (fin false fun h => by cases h)))
    | true =>
      refine wpAny_bind (wpAny_askSetting ?_)
      exact wpAny_pure (wpAny_pure (wpAny_pure (fin true fun _ => ⟨hr1 rfl, hr2 rfl⟩)))
end
end
section
inductive KeyMade (p : Str) (t n n' : Nat) : KV → Led → Value → List Nat → Prop
  | one {a : Str} {t1 : Nat} : Tk t p n t1 a n' → KeyMade p t n n' [a] [] (.str a t1) [t1]
  | two {a b : Str} {t1 t2 : Nat} {D : Addr} : Tk t p n t1 a n' → Tk t p n t2 b n' → KeyMade p t n n' [a, b] [(D, tpObj [.str a t1, .str b t2])] (.ref D) [t1, t2]
def KK (kp : Str → KV) (v : Value) (n n' : Nat) (ks : Led) (x : Value) : Prop := ∃ p t ts, v = .str p t ∧ KeyMade p t n n' (kp p) ks x ts
inductive KeyTok (R : Led) : Value → KV → List Nat → Prop
  | one {a : Str} {t : Nat} : KeyTok R (.str a t) [a] [t]
  | two {a b : Str} {t1 t2 : Nat} {D : Addr} : (D, tpObj [.str a t1, .str b t2]) ∈ R → KeyTok R (.ref D) [a, b] [t1, t2]
theorem KeyTok.mono {R R' : Led} {x : Value} {k : KV} {ts : List Nat} (h : KeyTok R x k ts) (hs : ∀ q ∈ R, q ∈ R') : KeyTok R' x k ts := by
  cases h with
  | one => exact .one
  | two h => exact .two (hs _ h)
theorem KeyTok.key {R : Led} {x : Value} {k : KV} {ts : List Nat} (h : KeyTok R x k ts) : IsKey R x k := by
  cases h with
  | one => exact .one
  | two h => exact .two h
/-- what was drawn: place by place the tuple, its key and the key's tokens -/
structure Drawn (R : Led) (n : Nat) (kf : Nat → KV) (ds : List (Addr × Value × Nat)) (tk : Nat → List Nat) : Prop where
  len : ds.length = n
  at_ : ∀ i, i < n → ∃ D x t, ds[i]? = some (D, x, t) ∧ (D, tpObj [x, .int i t]) ∈ R ∧ KeyTok R x (kf i) (tk i)
  pos : ∀ i, i < n → ∀ τ ∈ tk i, τ ≠ 0
  same : ∀ (i j c τ : Nat), i < n → j < n → (tk i)[c]? = some τ → (tk j)[c]? = some τ → (kf i)[c]? = (kf j)[c]?
theorem Drawn.mono {R R' : Led} {n : Nat} {kf : Nat → KV} {ds : List (Addr × Value × Nat)} {tk : Nat → List Nat} (h : Drawn R n kf ds tk) (hs : ∀ q ∈ R, q ∈ R') : Drawn R' n kf ds tk :=
  ⟨h.len, fun i hi => by obtain ⟨D, x, t, a, b, c⟩ := h.at_ i hi; exact ⟨D, x, t, a, hs _ b, c.mono hs⟩, h.pos, h.same⟩
theorem Tk.or {t : Tok} {x y : Str} {n t' n' : Nat} (h : Tk t x n t' y n') : (@Eq Nat t' t ∧ y = x) ∨ (n ≤ t' ∧ t' < n') := h
theorem Grow.drawn {kp : Str → KV} {vs : List Value} {R : Led} {lo n0 : Nat} {P : Nat → Str} {T : Nat → Nat} (hv : ∀ i, i < vs.length → vs[i]? = some (.str (P i) (T i))) (hT : ∀ i, i < vs.length → T i < n0 ∧ T i ≠ 0) (hn0 : 0 < n0)
    (hc : ∀ i j, i < vs.length → j < vs.length → T i = T j → P i = P j) :
    ∀ {i n : Nat} {ds : List (Addr × Value × Nat)} {R' : Led}, Grow (KK kp) vs R lo n0 i n ds R' → i ≤ vs.length → ∃ tk : Nat → List Nat, Drawn R' i (fun j => kp (P j)) ds tk ∧ n0 ≤ n ∧ ∀ (j c τ : Nat), j < i → (tk j)[c]? = some τ → (τ = T j ∧ (kp (P j))[c]? = some (P j)) ∨ (n0 ≤ τ ∧ τ < n) := by
  intro i n ds R' g
  induction g with
  | nil h => exact fun _ => ⟨fun _ => [], ⟨rfl, fun i hi => absurd hi (by omega), fun i hi => absurd hi (by omega), fun i j c τ hi => absurd hi (by omega)⟩, h, fun j c τ hj => absurd hj (by omega)⟩
  | @snoc i n n1 n2 n3 t ds R' ks v x D g hvi h1 h2 h3 hK _ _ _ _ ih =>
    intro hi
    obtain ⟨tk, dr, hn, hj⟩ := ih (by omega)
    obtain ⟨p, t0, ts, rfl, hm⟩ := hK
    have hi' : i < vs.length := by omega
    have e0 := (hv i hi').symm.trans hvi
    have hp : p = P i := by have := Option.some.inj e0; injection this with a b; exact a.symm
    have ht0 : t0 = T i := by have := Option.some.inj e0; injection this with a b; exact b.symm
    subst hp ht0
    have sub : ∀ q ∈ R', q ∈ (D, tpObj [x, .int (i : Int) t]) :: (ks ++ R') := fun q hq => .tail _ (List.mem_append_right _ hq)
    -- the new tokens
    have hnew : ∀ (c τ : Nat), ts[c]? = some τ → (τ = T i ∧ (kp (P i))[c]? = some (P i)) ∨ (n1 ≤ τ ∧ τ < n2) := by
      intro c τ hcτ
      generalize kp (P i) = k at hm
      cases hm with
      | @one a t1 h =>
        match c with
        | 0 =>
          have hcτ : t1 = τ := by simpa using hcτ
          subst hcτ
          rcases h.or with ⟨e1, e2⟩ | h
          · exact .inl ⟨e1, by simp [e2]⟩
          · exact .inr h
        | c + 1 => simp at hcτ
      | @two a b t1 t2 D' h h' =>
        match c with
        | 0 =>
          have hcτ : t1 = τ := by simpa using hcτ
          subst hcτ
          rcases h.or with ⟨e1, e2⟩ | h
          · exact .inl ⟨e1, by simp [e2]⟩
          · exact .inr h
        | 1 =>
          have hcτ : t2 = τ := by simpa using hcτ
          subst hcτ
          rcases h'.or with ⟨e1, e2⟩ | h
          · exact .inl ⟨e1, by simp [e2]⟩
          · exact .inr h
        | c + 2 => simp at hcτ
    have hkt : KeyTok ((D, tpObj [x, .int (i : Int) t]) :: (ks ++ R')) x (kp (P i)) ts := by
      generalize kp (P i) = k at hm
      cases hm with
      | one h => exact .one
      | two h h' => exact .two (.tail _ (List.mem_append_left _ (.head _)))
    let tk' := fun j => if j = i then ts else tk j
    have hlen : ds.length = i := dr.len
    have hall : ∀ (j c τ : Nat), j < i + 1 → (tk' j)[c]? = some τ → (τ = T j ∧ (kp (P j))[c]? = some (P j)) ∨ (n0 ≤ τ ∧ τ < n3) := by
      intro j c τ hjl h
      by_cases hji : j = i
      · subst hji
        simp only [tk', if_true] at h
        rcases hnew c τ h with h | h
        · exact .inl h
        · exact .inr ⟨by omega, by omega⟩
      · simp only [tk', if_neg hji] at h
        rcases hj j c τ (by omega) h with h | h
        · exact .inl h
        · exact .inr ⟨h.1, by omega⟩
    refine ⟨tk', ⟨by simp [hlen], fun j hjl => ?_, fun j hjl τ hτ => ?_, fun j j' c τ hjl hjl' hh hh' => ?_⟩, by omega, hall⟩
    · by_cases hji : j = i
      · subst hji
        refine ⟨D, x, t, ?_, .head _, ?_⟩
        · rw [List.getElem?_append_right (by omega), hlen]; simp
        · simp only [tk', if_true]; exact hkt
      · obtain ⟨D', x', t', a, b, c⟩ := dr.at_ j (by omega)
        refine ⟨D', x', t', ?_, sub _ b, ?_⟩
        · rw [List.getElem?_append_left (by omega)]; exact a
        · simp only [tk', if_neg hji]; exact c.mono sub
    · obtain ⟨c, hcl, rfl⟩ := List.getElem_of_mem hτ
      rcases hall j c _ hjl (List.getElem?_eq_getElem hcl) with h | h
      · rw [h.1]; exact (hT j (by omega)).2
      · omega
    · by_cases hji : j = i <;> by_cases hji' : j' = i
      · rw [hji, hji']
      · subst hji
        simp only [tk', if_true] at hh
        simp only [tk', if_neg hji'] at hh'
        rcases hnew c τ hh with h | h <;> rcases hj j' c τ (by omega) hh' with h' | h'
        · rw [h.2, h'.2, hc j j' (by omega) (by omega) (by omega)]
        · have := (hT j (by omega)).1; omega
        · have := (hT j' (by omega)).1; omega
        · omega
      · subst hji'
        simp only [tk', if_true] at hh'
        simp only [tk', if_neg hji] at hh
        rcases hnew c τ hh' with h | h <;> rcases hj j c τ (by omega) hh with h' | h'
        · rw [h.2, h'.2, hc j j' (by omega) (by omega) (by omega)]
        · have := (hT j' (by omega)).1; omega
        · have := (hT j (by omega)).1; omega
        · omega
      · simp only [tk', if_neg hji, if_neg hji'] at hh hh'
        exact dr.same j j' c τ (by omega) (by omega) hh hh'
section
variable {prog : Program} {w : World} {A : Around} {E : Value → Shared → Prop} {s : Shared} {h₀ : Heap} {L : Addr} {m : Str → Option Value} {R : Led}
theorem is_key {x x' : Value} {k k' : KV} {ts ts' : List Nat} {Q : Bool → Shared → Prop} (hb : NoneBooked s.heap) (N : News h₀ L s.heap R) (hx : KeyTok R x k ts) (hx' : KeyTok R x' k' ts') (hl : k.length = k'.length)
    (h0 : ∀ τ ∈ ts, τ ≠ 0) (h0' : ∀ τ ∈ ts', τ ≠ 0) (hc : ∀ (c τ : Nat), ts[c]? = some τ → ts'[c]? = some τ → k[c]? = k'[c]?) (hq : ∀ r, (r = true → k = k') → Q r s) : wpAny (model prog w) A (isSame x x') Q E s := by
  cases hx with
  | one =>
    cases hx' with
    | two _ => simp at hl
    | one => exact is_str hb (h0 _ (.head _)) (h0' _ (.head _)) (fun e => by subst e; simpa using hc 0 _ rfl rfl) fun r hr => hq r fun h => by rw [hr h]
  | two hD =>
    cases hx' with
    | one => simp at hl
    | two hD' =>
      exact is_pair hb (N _ hD).1 (N _ hD').1 (h0 _ (.head _)) (h0 _ (.tail _ (.head _))) (h0' _ (.head _)) (h0' _ (.tail _ (.head _))) (fun e => by subst e; simpa using hc 0 _ rfl rfl) (fun e => by subst e; simpa using hc 1 _ rfl rfl)
        fun r hr => hq r fun h => by rw [(hr h).1, (hr h).2]
end
end
section
theorem Grow.last {K : Value → Nat → Nat → Led → Value → Prop} {vs : List Value} {R : Led} {lo n0 i n : Nat} {ds : List (Addr × Value × Nat)} {R' : Led} (h : Grow K vs R lo n0 i n ds R') (hi : 1 ≤ i) : ∃ q ∈ R', @LT.lt Nat _ lo q.1 := by
  cases h with
  | nil _ => omega
  | snoc _ _ _ _ _ _ _ _ d _ => exact ⟨_, .head _, d⟩
section
variable {w : World} {A : Around} {E : Value → Shared → Prop} {h₀ : Heap} {L : Addr} {m : Str → Option Value} {R : Led} {li T mo dx cn TI TO z dl S : Addr}
theorem sorted_zip {s : Shared} {kf : Value} {cb b : Bool} {u t n0 ℓ : Nat} {o : Obj} {vs : List Value} {need : Led} {kp : Str → KV} {P : Nat → Str} {TT : Nat → Nat} {Q : Value → Shared → Prop}
    (O : ZOrd li T mo dx cn TI TO z) (hA : A.handled = none) (hu : A.units + 3 < cLine) (X : (hd.heap_1 w.params).In h₀) (hR : ∀ q ∈ R, @LT.lt Nat _ q.1 li) (hdl : (dl, lsObj vs n0) ∈ R) (hneed : ∀ q ∈ need, q ∈ R) (h1 : 1 ≤ vs.length) (h6 : vs.length ≤ 6) (ht : 0 < s.toks)
    (hv : ∀ i, i < vs.length → vs[i]? = some (.str (P i) (TT i))) (hT : ∀ i, i < vs.length → TT i < s.toks ∧ TT i ≠ 0) (hc : ∀ i j, i < vs.length → j < vs.length → TT i = TT j → P i = P j) (hkl : ∀ i, i < vs.length → (kp (P i)).length = ℓ)
    (key : ∀ v ∈ vs, KeyRuns w A.in1.in1 h₀ L m kf v need (KK kp v)) (cnt : CntRuns w A.in1.in1 h₀ L m cn dx)
    (F : Fr h₀ L s.heap m) (N : News h₀ L s.heap (ZL li T mo dx cn TI TO z (zipObj .none false TI TO) (tpObj [.none, .none]) kf o (cntObj dx (0 : Nat) t cb u) R)) (ho : IsLi dl 0 o)
    (h : ∀ (q : List Nat) ds R' SL c tk h' tk', s.toks ≤ tk' → Fr h₀ L h' m → News h₀ L h' ((SL, lsObj ((katRev b q).map fun i => (ds.map fun d => Value.ref d.1).getD i Value.none) c) :: R') → Drawn R' vs.length (fun i => kp (P i)) ds tk →
      (∀ p ∈ R', @LT.lt Nat _ p.1 SL) → (∀ q ∈ R, q ∈ R') → (∀ q ∈ R', q ∈ R ∨ @LT.lt Nat _ z q.1) → @LT.lt Nat _ z SL → q.Perm (List.range vs.length) → q.Pairwise (fun i j => tLt (kp (P i)) (kp (P j)) i j = true) → Q (.ref SL) { s with heap := h', toks := tk' }) :
    wpAny (model PR w) A (call (.builtin "sorted") [.ref z] [(Str.ofString "reverse", .bool b)]) Q E s := by
  refine call_function_entry_kw kind_sorted plain_sorted entry_sorted (args_sorted_rev _ _) ?_
  unfold Builtin.«sorted»
  refine wpAny_bind (m := checkCount "sorted" 1 1 _) (wpAny_pure ?_)
  refine wpAny_bind (collect_zip O (by exact hA) X hR hdl hneed (by omega) h1 ht key cnt F N ho fun S ds R' h' tk' htk hS F' N' G => ?_)
  obtain ⟨tk, dr, hn, hj⟩ := Grow.drawn hv hT ht hc G (Nat.le_refl _)
  refine wpAny_bind (wpAny_newList ?_ (by rw [List.length_map, dr.len, sizeLine_eq]; omega))
  have F1 := F'.push (lsObj (ds.map fun d => Value.ref d.1) 0)
  have N1 := N'.push F' (lsObj (ds.map fun d => Value.ref d.1) 0)
  have big : ∀ q ∈ R', @LT.lt Nat _ q.1 h'.objs.size := fun q hq => Heap.lt_size (N' q hq).1
  have hz : @LT.lt Nat _ z h'.objs.size := by
    obtain ⟨q, hq, hq2⟩ := G.last h1
    exact Nat.lt_trans hS (Nat.lt_trans hq2 (big q hq))
  refine wpAny_bind (wpAny_holding (wpAny_call_entry_kw slot_list_sort ⟨_, (N1 _ (.head _)).1, rfl⟩ entry_list_sort ?_ (args_list_sort_rev _ _)))
  refine sort_model (s := { s with heap := h'.push (lsObj (ds.map fun d => Value.ref d.1) 0), toks := tk' }) (kf := fun i => kp (P i)) (ℓ := ℓ) F1 N1 (fun p hp => Nat.ne_of_lt (big p hp)) (by show A.units + 1 + 1 < cLine; omega) (by rw [List.length_map, dr.len]) h1 h6 (fun i hi => ?_) (fun i hi => hkl i hi) fun q e h2 F2 N2 hp ho => ?_
  · obtain ⟨D, x, t', a, b, c⟩ := dr.at_ i hi
    exact ⟨D, x, t', by rw [List.getElem?_map, a]; rfl, b, c.key⟩
  · exact ⟨_, rfl, wpAny_pure ⟨_, rfl, h q ds R' _ e tk h2 tk' htk F2 N2 dr big G.sub (fun q hq => (G.new q hq).imp id fun h => Nat.lt_trans hS h) hz hp ho⟩⟩
end
end
section
/-- a list iterator that has come to its end -/
def IsEd (o : Obj) : Prop := o.cls = .type "list_iterator" ∧ ∃ y, o.data = .fields #[.none, y]
section
variable {prog : Program} {w : World} {A : Around} {E : Value → Shared → Prop} {s : Shared} {h₀ : Heap} {L it l : Addr} {m : Str → Option Value} {news : Led} {g : Obj → Led} {o : Obj}
theorem next_open {Q : Value → Shared → Prop} {T id : String} (hT : s.TypeIs (.ref it) T) (hs : Slot T "__next__" id) (h : wpAny (model prog w) A.in1 (callSpecial? (.ref it) (Str.ofString "__next__")) (fun r s' => ∃ v, r = some v ∧ Q v s') E s) :
    wpAny (model prog w) A (call (.builtin "next") [.ref it]) Q E s := by
  refine call_function_entry (by decide +kernel) (by decide +kernel) kdk_entry_next (kdk_args_next _) ?_
  unfold Builtin.«next»
  refine wpAny_bind (m := someArgs "next" 1 2 _) (wpAny_of_eq (a := [Value.ref it]) (by first | rfl | kernel_rfl!) ?_)
  dsimp only
  refine wpAny_bind (wpAny_specialOf (name := Str.ofString "__next__") hT hs.lookup ?_)
  refine wpAny_ite_split (fun hab => by simp at hab) (fun _ => ?_)
  refine wpAny_bind (wpAny_mono h (fun r s' hr => ?_) fun _ _ z => z)
  obtain ⟨v, rfl, hv⟩ := hr
  exact wpAny_pure ⟨_, rfl, hv⟩
theorem raise_stop {α : Type} {Q : α → Shared → Prop} (hh : A.handled = none) (h : ∀ h' e, Heap.MadeExc s.heap h' e "StopIteration" [] → E (.ref e) { s with heap := h' }) : wpAny (model prog w) A (Builtin.SmallTypes.stopIteration : Sem α) Q E s := by
  unfold Builtin.SmallTypes.stopIteration
  refine wpAny_bind ?_
  simp only [newExc, newTuple]
  refine wpAny_bind (wpAny_newObj_type ?_ (by size_fits))
  refine wpAny_bind (m := firstArgMember _ _) (wpAny_of_eq (a := Value.none) (by first | rfl | (simp only [firstArgMember]; rfl)) ?_)
  refine wpAny_newObj_type ?_ (by size_fits)
  simp only [raiseNew]
  refine wpAny_bind (wpAny_handled ?_)
  rw [hh]
  refine wpAny_bind (wpAny_pure (wpAny_throw ?_))
  refine h _ _ ⟨fun b o e => Heap.get?_push_of_some _ (Heap.get?_push_of_some _ e), Heap.get?_none_of_le (by rw [Heap.size_push]; exact Nat.le_succ _), _, Heap.get?_push_size _ rfl, Heap.get?_none_of_le (Nat.le_refl _), Heap.get?_push_of_some _ (Heap.get?_push_size _ rfl)⟩
theorem next_item {vs : List Value} {k i : Nat} {v : Value} {Q : Value → Shared → Prop} (F : Fr h₀ L s.heap m) (N : News h₀ L s.heap news) (U : UpdF it o news g) (ho : IsLi l i o) (hl : (l, lsObj vs k) ∈ news) (hv : vs[i]? = some v)
    (h : ∀ h' o', IsLi l (i + 1) o' → Fr h₀ L h' m → News h₀ L h' (g o') → Q v { s with heap := h' }) : wpAny (model prog w) A (call (.builtin "next") [.ref it]) Q E s := by
  obtain ⟨pre, post, e, hg, a, b⟩ := U.split
  have hmem : (it, o) ∈ news := by rw [e]; exact List.mem_append_right _ (.head _)
  have hm := N (it, o) hmem
  have hI : s.heap.IsListIter it l i := ⟨_, hm.1, ho.1, ho.2⟩
  have hL : s.heap.IsList l vs.toArray := ⟨_, (N _ hl).1, rfl, k, rfl⟩
  refine next_open hI.typeIs slot_listiter_next ?_
  refine wpAny_callSpecial?_slot (name := Str.ofString "__next__") hI.typeIs slot_listiter_next (wpAny_call_entry slot_listiter_next hI.typeIs entry_listiter_next ?_ (args_listiter_next _))
  show wpAny _ _ (field (.ref it) 0 >>= _) _ _ s
  refine wpAny_bind (wpAny_field hm.1 ho.2 (x := .ref l) rfl ?_)
  show wpAny _ _ (if (Value.ref l == Value.none) = true then _ else _) _ _ s
  rw [if_neg (show ¬ ((Value.ref l == Value.none) = true) from Bool.false_ne_true)]
  show wpAny _ _ (field (.ref it) 1 >>= _) _ _ s
  refine wpAny_bind (wpAny_field hm.1 ho.2 (x := .int i 0) rfl ?_)
  show wpAny _ _ (seqItems? (.ref l) >>= _) _ _ s
  refine wpAny_bind (wpAny_seqItems (N _ hl).1 rfl ?_)
  have hx : vs.toArray[i]? = some v := by simpa using hv
  simp only [Int.toNat_natCast, hx]
  refine wpAny_bind (wpAny_setField hm.1 ho.2 (by simp) ?_)
  have hs := Heap.SameBut.update s.heap it (Obj.mapFields (·.setIfInBounds 1 (rawInt ((i : Int) + 1))))
  refine wpAny_pure ⟨_, rfl, _, rfl, h _ _ ⟨(Obj.cls_mapFields ..).trans ho.1, by rw [Obj.data_mapFields ho.2]; simp [rawInt]⟩ (F.change hs hm.2.1 hm.2.2) (hg _ ▸ (show News h₀ L s.heap (pre ++ (it, o) :: post) from e ▸ N).setIn a b hs (Heap.get?_update_self _ hm.1 (Obj.isFreed_of_fields (Obj.data_mapFields ho.2 _))))⟩
theorem next_end {vs : List Value} {k : Nat} {Q : Value → Shared → Prop} (hh : A.handled = none) (F : Fr h₀ L s.heap m) (N : News h₀ L s.heap news) (U : UpdF it o news g) (ho : IsLi l vs.length o) (hl : (l, lsObj vs k) ∈ news)
    (h : ∀ h1 o' h' e, IsEd o' → Fr h₀ L h1 m → News h₀ L h1 (g o') → Heap.MadeExc h1 h' e "StopIteration" [] → E (.ref e) { s with heap := h' }) : wpAny (model prog w) A (call (.builtin "next") [.ref it]) Q E s := by
  obtain ⟨pre, post, e, hg, a, b⟩ := U.split
  have hmem : (it, o) ∈ news := by rw [e]; exact List.mem_append_right _ (.head _)
  have hm := N (it, o) hmem
  have hI : s.heap.IsListIter it l vs.length := ⟨_, hm.1, ho.1, ho.2⟩
  refine next_open hI.typeIs slot_listiter_next ?_
  refine wpAny_callSpecial?_slot (name := Str.ofString "__next__") hI.typeIs slot_listiter_next (wpAny_call_entry slot_listiter_next hI.typeIs entry_listiter_next ?_ (args_listiter_next _))
  show wpAny _ _ (field (.ref it) 0 >>= _) _ _ s
  refine wpAny_bind (wpAny_field hm.1 ho.2 (x := .ref l) rfl ?_)
  show wpAny _ _ (if (Value.ref l == Value.none) = true then _ else _) _ _ s
  rw [if_neg (show ¬ ((Value.ref l == Value.none) = true) from Bool.false_ne_true)]
  show wpAny _ _ (field (.ref it) 1 >>= _) _ _ s
  refine wpAny_bind (wpAny_field hm.1 ho.2 (x := .int vs.length 0) rfl ?_)
  show wpAny _ _ (seqItems? (.ref l) >>= _) _ _ s
  refine wpAny_bind (wpAny_seqItems (N _ hl).1 rfl ?_)
  have hx : vs.toArray[vs.length]? = none := by simp
  simp only [Int.toNat_natCast, hx]
  refine wpAny_bind (wpAny_rule (wpAny_bind (wpAny_setField hm.1 ho.2 (by simp) ?_)))
  have hs := Heap.SameBut.update s.heap it (Obj.mapFields (·.setIfInBounds 0 .none))
  refine raise_stop (by exact hh) fun h' ex hx => ?_
  exact h _ _ _ _ ⟨(Obj.cls_mapFields ..).trans ho.1, _, by rw [Obj.data_mapFields ho.2]; simp; rfl⟩ (F.change hs hm.2.1 hm.2.2) (hg _ ▸ (show News h₀ L s.heap (pre ++ (it, o) :: post) from e ▸ N).setIn a b hs (Heap.get?_update_self _ hm.1 (Obj.isFreed_of_fields (Obj.data_mapFields ho.2 _)))) hx
theorem next_ended {Q : Value → Shared → Prop} (hh : A.handled = none) (N : News h₀ L s.heap news) (hi : (it, o) ∈ news) (ho : IsEd o)
    (h : ∀ h' e, Heap.MadeExc s.heap h' e "StopIteration" [] → E (.ref e) { s with heap := h' }) : wpAny (model prog w) A (call (.builtin "next") [.ref it]) Q E s := by
  have hm := N (it, o) hi
  obtain ⟨hc, y, hd⟩ := ho
  have hT : s.TypeIs (.ref it) "list_iterator" := ⟨_, hm.1, hc⟩
  refine next_open hT slot_listiter_next ?_
  refine wpAny_callSpecial?_slot (name := Str.ofString "__next__") hT slot_listiter_next (wpAny_call_entry slot_listiter_next hT entry_listiter_next ?_ (args_listiter_next _))
  show wpAny _ _ (field (.ref it) 0 >>= _) _ _ s
  refine wpAny_bind (wpAny_field hm.1 hd (x := .none) rfl ?_)
  rw [if_pos (by decide)]
  refine wpAny_bind (wpAny_rule ?_)
  exact wpAny_bind (raise_stop (by exact hh) fun h' e hx => h h' e hx)
end
end
section
open PySem PySem.W PySem.Calls PyProof.Rows PySem.Spec
abbrev frs (l : List Env) : List Addr := l.filterMap (·.frame)
/-- the ground of a frame, turned by the notes of an exception (slots of frames alone) -/
structure Gd (w : World) (p : Program) (loose : List Str) (mean : ExcName → Option Value) (mg mb : Str → Option Value) (A₀ : Around) (base : Heap) (outer : List Env) (g₀ g : Heap) : Prop where
  turn : KtsTurn (frs outer) g₀ g
  below : Below A₀ base outer g
  inn : (hd.heap_1 w.params).In g
  top : Top p loose mean mg mb g
  dicts : KtsDicts (frs outer) g
section
variable {w : World} {p : Program} {loose : List Str} {mean : ExcName → Option Value} {mg mb : Str → Option Value} {A A₀ : Around} {base h₀ g g' hh : Heap} {outer : List Env} {L a ac : Addr} {m : Str → Option Value} {cn : Str} {cs : Scope} {ccd : Value} {cl : List (Str × Addr)} {news : Led}
theorem Gd.trans {g₁ g₂ g₃ : Heap} (x : Gd w p loose mean mg mb A₀ base outer g₁ g₂) (y : Gd w p loose mean mg mb A₀ base outer g₂ g₃) : Gd w p loose mean mg mb A₀ base outer g₁ g₃ := ⟨x.turn.trans y.turn, y.below, y.inn, y.top, y.dicts⟩
theorem mem_frsX {b : Addr} (hm : b ∈ frs (envX cn cs L a ccd cl :: outer)) : b = L ∨ b ∈ frs outer := by
  obtain ⟨env, he, hf⟩ := List.mem_filterMap.mp hm
  rcases List.mem_cons.mp he with rfl | he
  · exact .inl (Option.some.inj hf).symm
  · exact .inr (List.mem_filterMap.mpr ⟨env, he, hf⟩)
theorem pushX {h : Heap} (K : Below A₀ base outer h₀) (F : Fr h₀ L h m) (hk : cs.kind = .function) (hA : A.frames = some (envX cn cs L a ccd cl :: outer)) : Below A base (envX cn cs L a ccd cl :: outer) h := by
  have hnew : base.get? L = none := by
    cases hq : base.get? L with
    | none => rfl
    | some o => exact absurd (Nat.lt_of_lt_of_le (Heap.lt_size (K.stays L o hq)) F.above) (Nat.lt_irrefl _)
  refine ⟨hA, fun b o e => F.keep b o (K.stays b o e), ?_⟩
  exact .cons (by show cs.kind ≠ .module; rw [hk]; decide) rfl F.ns hnew (K.frames.of_keeps fun b o e _ => ⟨o, F.keep b o e, rfl⟩)
/-- the ground that a callee sees: the heap without the ledger -/
theorem prepX {s : Shared} (B : Below A₀ base outer h₀) (F : Fr h₀ L s.heap m) (N : News h₀ L s.heap news) (D : KtsDicts (frs outer) h₀) (hA : A.frames = some (envX cn cs L a ccd cl :: outer)) (hck : cs.kind = .function) :
    ∃ g, Fr h₀ L g m ∧ h₀.StaysIn g ∧ Below A base (envX cn cs L a ccd cl :: outer) g ∧ KtsDicts (frs (envX cn cs L a ccd cl :: outer)) g ∧ (∀ b o, g.get? b = some o → s.heap.get? b = some o) ∧ (∀ q ∈ news, g.get? q.1 = none) ∧ g.objs.size = s.heap.objs.size := by
  have nm : ∀ b o, h₀.get? b = some o → b ∉ news.map (·.1) := fun b o e q => by
    obtain ⟨p, hp, rfl⟩ := List.mem_map.mp q
    rw [(N p hp).2.2] at e; cases e
  have st : h₀.StaysIn (hideAll s.heap (news.map (·.1))) := fun b o e => hideAll_get _ (F.keep b o e) (nm b o e)
  obtain ⟨oL, es, ep, hL, hLd, hLk, hLf⟩ := F.ns
  have nL : L ∉ news.map (·.1) := fun q => by
    obtain ⟨p, hp, e⟩ := List.mem_map.mp q
    exact (N p hp).2.1 e
  have hLg := hideAll_get (news.map (·.1)) hL nL
  have Fg : Fr h₀ L (hideAll s.heap (news.map (·.1))) m := ⟨⟨oL, es, ep, hLg, hLd, hLk, hLf⟩, st, F.above⟩
  refine ⟨_, Fg, st, pushX B Fg hck hA, fun b hb => ?_, fun b o e => of_hideAll _ e, fun q hq => hideAll_none _ (List.mem_map_of_mem hq), hideAll_size _ _⟩
  rcases mem_frsX hb with rfl | hb
  · exact ⟨oL, es, ep, hLg, hLd⟩
  · obtain ⟨o, es', n', ho', hd'⟩ := D b hb
    exact ⟨o, es', n', st b o ho', hd'⟩
/-- a turn of the callee's ground is a turn of the caller's -/
theorem turn_up (XB : (hd.heap_1 w.params).In base) (TB : Top p loose mean mg mb base) (B : Below A₀ base outer h₀) (F : Fr h₀ L g m) (D : KtsDicts (frs outer) h₀) (TK : KtsTurn (frs (envX cn cs L a ccd cl :: outer)) g g') (S : ∀ b o, g'.get? b = some o → hh.get? b = some o) :
    ∃ h₁, Gd w p loose mean mg mb A₀ base outer h₀ h₁ ∧ Fr h₁ L hh m ∧ (∀ b, g'.get? b = none → h₁.get? b = none) := by
  have nL₀ : h₀.get? L = none := kts_self F
  obtain ⟨T₁, S₁⟩ := kts_turn_at (h := hh) (fs := frs outer) (g := h₀)
    (fun b hb => by
      obtain ⟨_, o, ho', _⟩ := B.frames.mem hb
      exact ⟨o, ho'⟩)
    (fun b o e nmem => S b o (TK.other b o (F.keep b o e) (fun q => by
      rcases mem_frsX q with z | z
      · rw [z, nL₀] at e
        cases e
      · exact nmem z)))
    (fun b o e hm => by
      obtain ⟨sl', hs'⟩ := TK.up (F.keep b o e)
      exact ⟨sl', S _ _ hs'⟩)
  have B₃ : Below A₀ base outer (ktsHeap hh (frs outer) h₀) := ⟨B.stack, fun b o e => T₁.other b o (B.stays b o e) (fun hm => by
    rw [(B.frames.mem hm).1] at e
    cases e), B.frames.of_keeps fun b o e _ => by
    obtain ⟨sl', hs'⟩ := T₁.up e
    exact ⟨_, hs', rfl⟩⟩
  obtain ⟨oL, es, ep, hL, hLd, hLk, hLf⟩ := F.ns
  obtain ⟨sl, hs⟩ := TK.up hL
  refine ⟨_, ⟨T₁, B₃, XB.keeps B₃.stays, TB.keeps B₃.stays, D.turn T₁⟩, ⟨⟨_, es, ep, S _ _ hs, hLd, hLk, hLf⟩, S₁, by rw [T₁.size]; exact F.above⟩, fun b hb => T₁.none_ _ ?_⟩
  cases q : h₀.get? b with
  | none => rfl
  | some o =>
    obtain ⟨sl', hs'⟩ := TK.up (F.keep _ _ q)
    rw [hs'] at hb
    cases hb
end
section
variable {w : World} {A₀ A : Around} {s : Shared} {base h₀ : Heap} {outer : List Env} {L ac : Addr} {m : Str → Option Value} {cn : Str} {cs : Scope} {ccd : Value} {cl : List (Str × Addr)} {news : Led} {p : Program} {loose : List Str} {mean : ExcName → Option Value} {mg mb : Str → Option Value}
    {R : Result → Shared → Prop} {name qual : Str} {params : Arguments} {body : List Stmt} {scope : Scope} {dV kV doc pm cdv ct oc : Value} {an od : Option Addr} {osl : Array (Option Value)} {f : Addr} {args : Args} {binds : List (Str × Value)}
theorem code_defX (B : Below A₀ base outer h₀) (F : Fr h₀ L s.heap m) (X₀ : (hd.heap_1 w.params).In h₀) (N : News h₀ L s.heap news) (T : Top p loose mean mg mb h₀) (XB : (hd.heap_1 w.params).In base) (TB : Top p loose mean mg mb base) (D : KtsDicts (frs outer) h₀)
    (hA : A.frames = some (envX cn cs L ac ccd cl :: outer)) (hck : cs.kind = .function)
    (ho : (hd.heap_1 w.params).lookup f = some ⟨oc, od, .func (fnOf name qual params body scope dV kV doc pm an cdv ct), osl⟩) (hcd : codeIn (hd.heap_1 w.params) cdv qual = true) (hroom : A.depth < recursionLimit)
    (hbind : BindsTo s (fnOf name qual params body scope dV kV doc pm an cdv ct) args binds) (hloc : ∀ y ∈ binds, scope.names.lookup y.1 = some .local)
    (h : ∀ g L' h₁, Fr h₀ L g m → Fr g L' h₁ (fun y => binds.reverse.lookup y) → News g L' h₁ news → Below A base (envX cn cs L ac ccd cl :: outer) g → (hd.heap_1 w.params).In g → Top p loose mean mg mb g → KtsDicts (frs (envX cn cs L ac ccd cl :: outer)) g →
      wpAny (model PR w) (A.deeper (envOf qual scope L' f cdv)) (execs body (envOf qual scope L' f cdv))
        (fun fl s' => LeaveS (frs (envX cn cs L ac ccd cl :: outer)) A₀ base outer (hd.heap_1 w.params) p loose mean mg mb h₀ h₀ L m g R (match fl with | .ret v => v | _ => .none) s')
        (fun e s' => wpAny (model PR w) (A.deeper (envOf qual scope L' f cdv)) (leaving (envOf qual scope L' f cdv) e) (fun _ s'' => R (.error e) s'') (fun e' s'' => R (.error e') s'') s')
        { s with heap := h₁, toks := s.toks + binds.length })
    (hco : scope.isCoroutine = false) (hgen : scope.isGenerator = false) (hk : scope.kind = .function)
    (hcell : ∀ x ∈ scope.names, x.2 ≠ .cell) : codeAny (model PR w) A (.call (.ref f) args) R s := by
  have X := X₀.keeps F.keep
  refine codeAny_call_def (fd := fnOf name qual params body scope dV kV doc pm an cdv ct) (body := body) (binds := binds) hroom (X _ _ ho) rfl (T.nolimit.keeps F.keep) (codeRec_of X hcd) rfl hbind hcell hloc (fun h₁ hns hk₁ => ?_) hco hgen hk
  obtain ⟨g, Fg, st, B₂, D₂, og, ng, zg⟩ := prepX (A := A) (a := ac) (cn := cn) (cs := cs) (ccd := ccd) (cl := cl) B F N D hA hck
  refine wpAny_mono (h g s.heap.objs.size h₁ Fg ⟨hns, fun b o e => hk₁ b o (og b o e), Nat.le_of_eq zg⟩
    (fun p hp => ⟨hk₁ _ _ (N p hp).1, Nat.ne_of_lt (Heap.lt_size (N p hp).1), ng p hp⟩) B₂ (X₀.keeps st) (T.keeps st) D₂) (fun fl s' hl => ?_) fun _ _ y => y
  have nL₀ : h₀.get? L = none := kts_self F
  obtain ⟨oL, es, ep, hL, hLd, hLk, hLf⟩ := Fg.ns
  rcases hl with ⟨L', m', news', F', N', k⟩ | ⟨g', L', m', news', T', F', N', k⟩
  · refine k ⟨⟨oL, es, ep, F'.keep _ _ hL, hLd, hLk, hLf⟩, fun b o e => F'.keep b o (st b o e), F.above⟩ fun p hp => ⟨(N' p hp).1, fun q => ?_, ?_⟩
    · have := (N' p hp).2.2; rw [q, hL] at this; cases this
    · cases q : h₀.get? p.1 with
      | none => rfl
      | some o => have := (N' p hp).2.2; rw [st _ _ q] at this; cases this
  · obtain ⟨h₁', G, F₁, z⟩ := turn_up (w := w) (p := p) (loose := loose) (mean := mean) (mg := mg) (mb := mb) XB TB B Fg D T' F'.keep
    refine k h₁' G.turn F₁ (fun p hp => ⟨(N' p hp).1, fun q => ?_, z _ (N' p hp).2.2⟩) G.below G.inn G.top G.dicts
    obtain ⟨sl, hs⟩ := T'.up hL
    have := (N' p hp).2.2; rw [q, hs] at this; cases this
/-- a new exception in this very frame, met by a clause over a built-in class -/
theorem caught_new {E : Value → Shared → Prop} {s' : Shared} {h g : Heap} {L a e : Addr} {m : Str → Option Value} {name : Str} {scope : Scope} {cd : Value} {b₀ : Stmt} {suite : List Stmt} {pos np : Pos} {rest : List ExceptHandler} {Q : Flow → Shared → Prop} {news : Led} {x : Str} {T' X : String}
    (hx : Heap.NewExc h s'.heap e X) (F : Fr g L h m) (N : News g L h news) (K : Below A₀ base outer g) (XB : (hd.heap_1 w.params).In base) (TB : Top p loose mean mg mb base) (D : KtsDicts (frs outer) g)
    (ex : nsIn (hd.heap_1 w.params) mainGlobals x = some none) (hv : bootBuiltins x = some (.type T')) (hn' : x ≠ "__name__")
    (hexc : isSubtype (.type T') (.type "BaseException") = pure true) (hnt : isSubtype (.type ((Manifest.find? T').elim "type" fun y => y.metatype)) (.type "tuple") = pure false) (hsub : isSubtype (.type X) (.type T') = pure true)
    (k : ∀ h' g', KtsTurn (frs outer) g g' → Fr g' L h' m → News g' L h' news → Below A₀ base outer g' → (hd.heap_1 w.params).In g' → Top p loose mean mg mb g' → KtsDicts (frs outer) g' →
      wpAny (model PR w) ((A₀.deeper (envOf name scope L a cd)).mark (some (.ref e))) (execs (b₀ :: suite) (envOf name scope L a cd)) Q E { s' with heap := h' })
    (hk : scope.kind = .function := by rfl) (hx' : (envOf name scope L a cd).kindOf x = some .globalImplicit := by rfl) (hd' : (x == ("__debug__" : Str)) = false := by decide)
    (hE : PassesOwnAt (model PR w) ((A₀.deeper (envOf name scope L a cd)).mark (some (.ref e))) (A₀.deeper (envOf name scope L a cd)) (envOf name scope L a cd) E := by passes_own) :
    wpAny (model PR w) (A₀.deeper (envOf name scope L a cd)) (noteFrame (.ref e) (envOf name scope L a cd))
      (fun _ s₂ => wpAny (model PR w) (A₀.deeper (envOf name scope L a cd)) (setFlight (.ref e) none) (fun _ s₃ =>
        wpAny (model PR w) (A₀.deeper (envOf name scope L a cd)) (handleBy (.ref e) (envOf name scope L a cd) (.ExceptHandler (some (.Name x np)) none (b₀ :: suite) pos :: rest)) Q E s₃) E s₂) E s' := by
  have K' := K.push (name := name) (a := a) (cd := cd) F hk
  have hin : ∀ env ∈ (envOf name scope L a cd :: outer), ∀ b, env.frame = some b → b ∈ (envOf name scope L a cd :: outer).filterMap (·.frame) := fun env he b hb => List.mem_filterMap.mpr ⟨env, he, hb⟩
  obtain ⟨ob, tp, he, hcls, hdd⟩ := hx.there
  have hen : (hideAll h ((envOf name scope L a cd :: outer).filterMap (·.frame))).get? e = none := by
    cases q : (hideAll h ((envOf name scope L a cd :: outer).filterMap (·.frame))).get? e with
    | none => rfl
    | some o => have := of_hideAll _ q; rw [hx.new] at this; cases this
  have hBG : ∀ b o, h.get? b = some o → b ∉ (envOf name scope L a cd :: outer).filterMap (·.frame) → (hideAll h ((envOf name scope L a cd :: outer).filterMap (·.frame))).get? b = some o := fun b o q nm => hideAll_get _ q nm
  have hl : ∀ q ∈ news, (hideAll h ((envOf name scope L a cd :: outer).filterMap (·.frame))).get? q.1 = some q.2 := fun q hq => by
    refine hideAll_get _ (N q hq).1 fun hm => ?_
    rcases kts_mem hm with z | z
    · exact (N q hq).2.1 z
    · obtain ⟨o, ho, _⟩ := (K.frames.mem z).2
      rw [(N q hq).2.2] at ho; cases ho
  have hL : (hideAll h ((envOf name scope L a cd :: outer).filterMap (·.frame))).get? L = none := hideAll_none _ (List.mem_filterMap.mpr ⟨_, .head _, rfl⟩)
  have first : ∀ (Q1 : Unit → Shared → Prop), (∀ h', Heap.HeldW (hideAll h ((envOf name scope L a cd :: outer).filterMap (·.frame))) (envOf name scope L a cd :: outer) e (.type X) tp L h' → s'.heap.UpToSlots h' → Q1 () { s' with heap := h' }) →
      wpAny (model PR w) (A₀.deeper (envOf name scope L a cd)) (noteFrame (.ref e) (envOf name scope L a cd)) Q1 E s' := fun Q1 hQ => by
    unfold noteFrame
    simp only [show (envOf name scope L a cd).frame = some L from rfl]
    refine wpAny_bind (wpAny_field he hdd (x := .none) rfl ?_)
    rw [if_neg (by decide)]
    refine wpAny_entryW (a0 := tp) (Around.frames_deeper K.stack) ((funFrames_hide K'.frames hin).of_keeps fun b o hb _ => ⟨o, hx.keeps b o hb, rfl⟩) rfl he (fun b o hb => hx.keeps b o (of_hideAll _ hb)) hen hdd (by show 1 < 6; decide) rfl fun h' hN => ?_
    obtain ⟨k1, k2, k3, k4⟩ := hN
    exact hQ h' ⟨k1, hen, k2, by rw [← hcls]; exact k3⟩ k4
  refine first _ fun h₄ hheld₄ hsm₄ => ?_
  have hsm : h.UpToSlots s'.heap := Heap.UpToSlots.of_keeps hx.keeps
  refine wpAny_landsW hheld₄ fun h₅ hheld hsm₅' => ?_
  have hsm₅ := hsm₄.trans hsm₅'
  obtain ⟨g₅, T₅, F₅, K₅⟩ := kts_ground K F hBG hheld.1 (hsm.trans hsm₅)
  have X₅ : (Mine.hd.heap_1 w.params).In g₅ := XB.keeps K₅.stays
  have P₅ : TopRead p loose mg mb g₅ := topRead_of (TB.keeps K₅.stays)
  obtain ⟨ob, hob, hobc⟩ := hheld.there
  refine wpAny_handleBy_builtin (X := X) (T := T') (b := true) hexc hnt hsub (name_B F₅ X₅ P₅ ex hv hn' ⟨rfl, ⟨ob, hob, hobc⟩, ?_⟩ hk hx' hd')
  refine lands_againW hheld fun h₆ hfl₆ hsm₆ => ?_
  obtain ⟨g₆, T₆, F₆, K₆⟩ := kts_ground K F hBG hfl₆.1 ((hsm.trans hsm₅).trans hsm₆)
  have Nl : News g₆ L h₆ news := fun q hq => ⟨hfl₆.1 _ _ (hl q hq), (N q hq).2.1, T₆.none_ _ (N q hq).2.2⟩
  exact wpAny_passesOwnAt hE (k h₆ g₆ T₆ F₆ Nl K₆ (XB.keeps K₆.stays) (TB.keeps K₆.stays) (D.turn T₆))
end
end
section
section
variable {prog : Program} {w : World} {A : Around} {E : Value → Shared → Prop} {s : Shared} {K : Frag} {x C L p : Addr} {h₀ : Heap} {m : Str → Option Value} {ox od : Obj} {name : Str} {v : Value} {i : Nat}
theorem method_slot {pl : Sem Bool} {Q : Value × List Value → Shared → Prop} (F : Fr h₀ L s.heap m) (X₀ : K.In h₀) (I : InstAt s.heap x ox C (some od)) (hg : plainGet K C name = true) (hc : isClsIn K C = true)
    (ha : findIn K (.ref C) name = some (some (.ref p))) (hT : typeIn K (.ref p) = some (.type "member_descriptor")) (hn : specialIn K (.ref p) "__get__" = some (some (.builtin "member_descriptor.__get__"))) (ht : takesIn K (.ref p) = some true) (hp : slotIn K p C = some i)
    (hv : (ox.slots[i]?).join = some v) (hh : handedIn v = true) (h : Q (v, []) { s with toks := s.toks + 1 }) : wpAny (model prog w) A (getMethod (.ref x) name pl) Q E s := by
  have X := X₀.keeps F.keep
  have hcan := PySem.F.canon_object_ga
  unfold getMethod specialOf
  refine wpAny_bind (wpAny_bind (I.type.here ((looks_findIn X (plainGet_of hg).1).here ?_)))
  dsimp only
  rw [hcan, if_neg (by decide)]
  refine wpAny_bind (wpAny_bind (I.type.here ((looks_findIn X (plainGet_of hg).2).here ?_)))
  refine wpAny_bind (wpAny_bind (I.type.here ((looks_findIn X ha).here (wpAny_bind ((looks_typeIn X hT).here ?_)))))
  rw [if_pos (by decide +kernel)]
  refine wpAny_bind (get_slot F X₀ I hg hc ha hn ht hp hv hh ?_)
  exact wpAny_pure h
theorem cmp_is {M : Model} {a b : Value} {Q : Value → Shared → Prop} (h : wpAny M A (isSame a b) (fun r s' => Q (.bool r) s') E s) : wpAny M A (compareOp .Is a b) Q E s := by
  show wpAny M A (isSame a b >>= fun r => pure (Value.bool r)) Q E s
  exact wpAny_bind (wpAny_mono h (fun _ _ z => wpAny_pure z) fun _ _ z => z)
theorem key_cmp {x x' : Value} {k k' : KV} {R : Led} {Q : Value → Shared → Prop} (hu : A.units < cLine) (N : News h₀ L s.heap R) (hx : IsKey R x k) (hx' : IsKey R x' k') (hl : k.length = k'.length) (h : Q (.bool (decide (k = k'))) s) :
    wpAny (model prog w) A (compareOp .Eq x x') Q E s := by
  cases hx with
  | @one a t =>
    cases hx' with
    | two _ => simp at hl
    | @one b u =>
      refine PySem.P.eq_str ?_
      rw [show (a.cps.toList == b.cps.toList) = decide ([a] = [b]) from ?_]
      · exact h
      · by_cases e : a = b
        · subst e; simp
        · have : a.cps.toList ≠ b.cps.toList := fun q => e (str_toList_inj q)
          rw [show decide ([a] = [b]) = false from decide_eq_false (by simpa using e), beq_eq_false_iff_ne.mpr this]
  | two hD =>
    cases hx' with
    | one => simp at hl
    | two hD' =>
      have k1 := key_tuple (prog := prog) (w := w) (N _ hD).1
      have k2 := key_tuple (prog := prog) (w := w) (N _ hD').1
      exact wpAny_richCompare_same_room (op := .Eq) k1.typeIs k2.typeIs PySem.F.slot_tuple_eq (wpAny_call_entry PySem.F.slot_tuple_eq k1.typeIs PySem.F.entry_tuple_eq (PySem.tuple_eq_tree k1 k2 ⟨_, rfl, (fun e => nomatch e), h⟩) (PySem.F.args_tuple_eq_2 _ _)) hu
end
end
section
theorem Gd.refl {w : World} {p : Program} {loose : List Str} {mean : ExcName → Option Value} {mg mb : Str → Option Value} {A₀ : Around} {base h₀ : Heap} {outer : List Env}
    (B : Below A₀ base outer h₀) (X : (hd.heap_1 w.params).In h₀) (T : Top p loose mean mg mb h₀) (D : KtsDicts (frs outer) h₀) : Gd w p loose mean mg mb A₀ base outer h₀ h₀ := ⟨.refl, B, X, T, D⟩
/-- what a call does in which an exception is met: the ground may be turned; where StopIteration flies out, PostE -/
def CtS (w : World) (k : Nat) (f : Value) (vs : List Value) (kw : List (Str × Value)) (news : Led) (Post : Nat → Nat → Led → Value → Prop) (PostE : Nat → Nat → Led → Prop) : Prop :=
  ∀ (p : Program) (loose : List Str) (mean : ExcName → Option Value) (mg mb : Str → Option Value) (dp un : Nat) (gd : Option (List Code)) (cn : Str) (cs : Scope) (a : Addr) (ccd : Value) (cl : List (Str × Addr)) (outer : List Env) (A₀ : Around) (base h₀ : Heap) (L : Addr) (m : Str → Option Value) (s : Shared) (Q E : Value → Shared → Prop),
    Below A₀ base outer h₀ → Fr h₀ L s.heap m → (hd.heap_1 w.params).In h₀ → News h₀ L s.heap news → Top p loose mean mg mb h₀ → (hd.heap_1 w.params).In base → Top p loose mean mg mb base → KtsDicts (frs outer) h₀ → cs.kind = .function → dp + k < recursionLimit → un + 10 * k < cLine → 0 < s.toks →
    (∀ h₁ r news' h' tk', s.toks ≤ tk' → Gd w p loose mean mg mb A₀ base outer h₀ h₁ → Fr h₁ L h' m → News h₁ L h' news' → Post s.toks tk' news' r → Q r { s with heap := h', toks := tk' }) →
    (∀ h₁ G e t news' h' tk', s.toks ≤ tk' → Gd w p loose mean mg mb A₀ base outer h₀ h₁ → Fr h₁ L G m → G.UpToSlots h' → RaisedS base G (envX cn cs L a ccd cl :: outer) e (.type "StopIteration") t [] news' h' → PostE s.toks tk' news' → E (.ref e) { s with heap := h', toks := tk' }) →
    wpAny (model PR w) (ktrTop dp un gd cn cs L a ccd cl outer) (call f vs kw) Q E s
end
section
open PySem PySem.W PySem.Calls PyProof.Rows PySem.Spec
section
variable {w : World} {p : Program} {loose : List Str} {mean : ExcName → Option Value} {mg mb : Str → Option Value} {A A₀ : Around} {base h₁ G : Heap} {outer : List Env} {L a e t : Addr} {m : Str → Option Value} {cn : Str} {cs : Scope} {ccd : Value} {cl : List (Str × Addr)} {news : Led} {s : Shared} {E : Value → Shared → Prop}
theorem groundX {B h₅ : Heap} (K : Below A₀ base outer h₁) (D : KtsDicts (frs outer) h₁) (F : Fr h₁ L G m) (hBG : ∀ b o, G.get? b = some o → b ∉ frs (envX cn cs L a ccd cl :: outer) → B.get? b = some o) (hBh : B.StaysIn h₅) (hsm : G.UpToSlots h₅) :
    ∃ g', KtsTurn (frs outer) h₁ g' ∧ Fr g' L h₅ m ∧ Below A₀ base outer g' := by
  obtain ⟨T, S⟩ := kts_turn_at (h := h₅) (fs := frs outer) (g := h₁)
    (fun b hb => by
      obtain ⟨_, o, ho, _⟩ := K.frames.mem hb
      exact ⟨o, ho⟩)
    (fun b o e nm => hBh b o (hBG b o (F.keep b o e) (fun hm => by
      rcases mem_frsX hm with z | z
      · rw [z, kts_self F] at e
        cases e
      · exact nm z)))
    (fun b o e hm => by
      obtain ⟨o', es, n, ho, hd⟩ := D b hm
      rw [e] at ho
      cases ho
      exact hsm b o (F.keep b o e) (fun vs q => by rw [hd] at q; cases q))
  refine ⟨_, T, ⟨hsm.ns F.ns, S, by rw [T.size]; exact F.above⟩, ⟨K.stack, fun b o e => T.other b o (K.stays b o e) (fun hm => by
    rw [(K.frames.mem hm).1] at e
    cases e), K.frames.of_keeps fun b o e _ => ?_⟩⟩
  obtain ⟨sl, hs⟩ := T.up e
  exact ⟨_, hs, rfl⟩
/-- an exception out of a call is met in the caller's frame: the ground is turned -/
theorem meetX (XB : (hd.heap_1 w.params).In base) (TB : Top p loose mean mg mb base) (R : RaisedS base G (envX cn cs L a ccd cl :: outer) e (.type "StopIteration") t [] news s.heap) (hsm : G.UpToSlots s.heap) (F : Fr h₁ L G m) (GG : Gd w p loose mean mg mb A₀ base outer h₁ h₁) :
    ∃ g', Gd w p loose mean mg mb A₀ base outer h₁ g' ∧ Fr g' L s.heap m ∧ News g' L s.heap news ∧ s.TypeIs (.ref e) "StopIteration" := by
  obtain ⟨⟨B, hB, hBG, hl, hfl, hnew⟩, htup⟩ := R
  have hL : B.get? L = none := by
    obtain ⟨_, ⟨L', _, hf, hn', _⟩, _⟩ := hfl.2.2.1
    obtain rfl : L = L' := Option.some.inj hf
    exact hn'
  obtain ⟨g', T', F', K'⟩ := groundX (a := a) (cn := cn) (cs := cs) (ccd := ccd) (cl := cl) GG.below GG.dicts F hBG hfl.1 hsm
  obtain ⟨_, _, _, oe, ws, T, oT, ts, he, hc, hd, h1, _⟩ := id hfl
  refine ⟨g', ⟨T', K', XB.keeps K'.stays, TB.keeps K'.stays, GG.dicts.turn T'⟩, F', fun q hq => ⟨hfl.1 _ _ (hl q hq).1, fun z => ?_, T'.none_ _ (kts_none F.keep (hl q hq).2.1)⟩, ⟨oe, he, hc.1⟩⟩
  have := (hl q hq).1; rw [z, hL] at this; cases this
theorem owit_stopS {Q : Option Value → Shared → Prop} (XB : (hd.heap_1 w.params).In base) (TB : Top p loose mean mg mb base) (R : RaisedS base G (envX cn cs L a ccd cl :: outer) e (.type "StopIteration") t [] news s.heap) (hsm : G.UpToSlots s.heap) (F : Fr h₁ L G m) (GG : Gd w p loose mean mg mb A₀ base outer h₁ h₁)
    (k : ∀ g', Gd w p loose mean mg mb A₀ base outer h₁ g' → Fr g' L s.heap m → News g' L s.heap news → Q none s) : OwitStop (model PR w) A Q E (.ref e) s := by
  obtain ⟨g', G', F', N', hT⟩ := meetX XB TB R hsm F GG
  unfold OwitStop
  refine wpAny_isInstance hT isSubtype_stop ?_
  show (if true = true then Q none s else E (.ref e) s)
  rw [if_pos rfl]
  exact k g' G' F' N'
theorem Gd.self {g g' : Heap} (x : Gd w p loose mean mg mb A₀ base outer g g') : Gd w p loose mean mg mb A₀ base outer g' g' := ⟨.refl, x.below, x.inn, x.top, x.dicts⟩
end
end
section
open PySem PySem.W PySem.Calls PyProof.Rows PySem.Spec
section
variable {w : World} {p : Program} {loose : List Str} {mean : ExcName → Option Value} {mg mb : Str → Option Value} {A A₀ : Around} {base h₀ : Heap} {outer : List Env} {L x : Addr} {m : Str → Option Value} {E : Value → Shared → Prop}
/-- the steps of an iterator of the text's own, told by prefixes of the ledger -/
structure OwnIt (w : World) (p : Program) (loose : List Str) (mean : ExcName → Option Value) (mg mb : Str → Option Value) (A A₀ : Around) (base h₀ : Heap) (outer : List Env) (L : Addr) (m : Str → Option Value) (x : Addr) (N bd : Nat) (us : List Value) (W : Nat → Led → Prop) (We : Led → Prop) (Ok : Led → Prop) : Prop where
  item : ∀ (i : Nat) (pre R : Led) (s : Shared) (Q : Option Value → Shared → Prop) (E : Value → Shared → Prop) (c : Nat), i < N → c ≤ 4 → W i pre → Ok R → Fr h₀ L s.heap m → News h₀ L s.heap (pre ++ R) → 0 < s.toks →
    (∀ v pre' h' tk', s.toks ≤ tk' → W (i + 1) pre' → us[i]? = some v → Fr h₀ L h' m → News h₀ L h' (pre' ++ R) → Q (some v) { s with heap := h', toks := tk' }) → wpAny (model PR w) { A with units := A.units + c } (pyNext (.ref x)) Q E s
  stop : ∀ (pre R : Led) (s : Shared) (Q : Option Value → Shared → Prop) (E : Value → Shared → Prop) (c : Nat), c ≤ 4 → W N pre → Ok R → Fr h₀ L s.heap m → News h₀ L s.heap (pre ++ R) → 0 < s.toks →
    (∀ g' pre' h' tk', s.toks ≤ tk' → We pre' → Gd w p loose mean mg mb A₀ base outer h₀ g' → Fr g' L h' m → News g' L h' (pre' ++ R) → Q none { s with heap := h', toks := tk' }) → wpAny (model PR w) { A with units := A.units + c } (pyNext (.ref x)) Q E s
  adr : ∀ i pre, W i pre → ∀ q ∈ pre, @LT.lt Nat _ q.1 bd
  adrE : ∀ pre, We pre → ∀ q ∈ pre, @LT.lt Nat _ q.1 bd
theorem ext_own {N bd : Nat} {us : List Value} {W : Nat → Led → Prop} {We Ok : Led → Prop} {S : Addr} {R : Led} {res : Value} {R_ : Result → Shared → Prop} {A' : Around} (hA : A' = { A with units := A.units + 1 }) (I : OwnIt w p loose mean mg mb A A₀ base h₀ outer L m x N bd us W We Ok)
    (hS : bd ≤ S) (hR : ∀ q ∈ R, q.1 ≠ S) (hok : ∀ o, Ok ((S, o) :: R)) (hlen : us.length = N) (hN : N ≤ 1000) :
    ∀ (k i : Nat) (s : Shared) (c : Nat) (pre : Led), N - i = k → i ≤ N → 0 < s.toks → W i pre → Fr h₀ L s.heap m → News h₀ L s.heap (pre ++ (S, lsObj (us.take i) c) :: R) →
      (∀ g' pre' c h' tk', s.toks ≤ tk' → We pre' → Gd w p loose mean mg mb A₀ base outer h₀ g' → Fr g' L h' m → News g' L h' (pre' ++ (S, lsObj us c) :: R) → R_ (.ok (.ret res)) { s with heap := h', toks := tk' }) →
      codeAny (model PR w) A' (.builtin "list.extend.loop" ⟨[.ref S, .ref x, res], []⟩) R_ s := by
  subst hA
  intro k
  induction k with
  | zero =>
    intro i s c pre hk hi ht hW F Nn fin
    have hin : i = N := by omega
    subst hin
    refine codeAny_builtin PySem.F.entry_extend_loop ?_
    rw [Around.under_plainId PySem.F.plain_extend_loop _]
    show wpAny _ { A with units := A.units + 2 } (pyNext (.ref x) >>= _) _ _ s
    refine wpAny_bind (I.stop pre _ s _ _ 2 (by omega) hW (hok _) F Nn ht fun g' pre' h' tk' h1 h2 h3 h4 h5 => ?_)
    rw [List.take_of_length_le (by omega)] at h5
    exact wpAny_pure (fin g' pre' c h' tk' h1 h2 h3 h4 h5)
  | succ k ih =>
    intro i s c pre hk hi ht hW F Nn fin
    have hlt : i < N := by omega
    refine codeAny_builtin PySem.F.entry_extend_loop ?_
    rw [Around.under_plainId PySem.F.plain_extend_loop _]
    show wpAny _ { A with units := A.units + 2 } (pyNext (.ref x) >>= _) _ _ s
    refine wpAny_bind (I.item i pre _ s _ _ 2 hlt (by omega) hW (hok _) F Nn ht fun v pre' h' tk' h1 h2 h3 h4 h5 => ?_)
    have hSn := h5 (S, lsObj (us.take i) c) (by simp)
    show wpAny _ _ (updateSeq S (·.push v) >>= _) _ _ _
    have hl : (us.take i).length ≤ 1000 := by rw [List.length_take]; omega
    refine wpAny_bind (wpAny_updateSeq hSn.1 rfl (wpAny_pure ⟨plainId_quiet PySem.F.plain_extend_loop _, ?_⟩) (by show (List.toArray _).size ≤ _; rw [sizeLine_eq, List.size_toArray]; omega) (by show ((List.toArray _).push _).size ≤ _; rw [sizeLine_eq, Array.size_push, List.size_toArray]; omega))
    have hs := Heap.SameBut.update h' S (Obj.mapSeq (·.push v))
    obtain ⟨c2, hc2⟩ : ∃ c2, (h'.update S (Obj.mapSeq (·.push v))).get? S = some (lsObj (us.take (i + 1)) c2) := by
      have e := get?_update_seq hSn.1 (·.push v)
      rw [List.push_toArray] at e
      have e2 : us.take (i + 1) = us.take i ++ [v] := by
        rw [List.take_add_one, h3]; rfl
      rw [e2]
      exact ⟨_, e⟩
    refine ih (i + 1) _ c2 pre' (by omega) hlt (Nat.lt_of_lt_of_le ht h1) h2 (h4.change hs hSn.2.1 hSn.2.2) (news_put h5 hs (o := lsObj (us.take i) c) (by simp) hc2 fun q hq => ?_) fun g' pre2 c3 h2' tk2 a1 a2 a3 a4 a5 => fin g' pre2 c3 h2' tk2 (Nat.le_trans h1 a1) a2 a3 a4 a5
    rcases List.mem_append.mp hq with hq | hq
    · exact .inr ⟨List.mem_append_left _ hq, by have := I.adr _ _ h2 q hq; refine neN ?_; omega⟩
    · rcases List.mem_cons.mp hq with rfl | hq
      · exact .inl rfl
      · exact .inr ⟨List.mem_append_right _ (.tail _ hq), hR q hq⟩
/-- list(x) over an iterator of the text's own -/
theorem list_own {N bd : Nat} {us : List Value} {W : Nat → Led → Prop} {We Ok : Led → Prop} {R pre : Led} {C fI dx : Addr} {sl : Array (Option Value)} {od : Obj} {s : Shared} {Q : Value → Shared → Prop} (I : OwnIt w p loose mean mg mb A A₀ base h₀ outer L m x N bd us W We Ok)
    (X : (hd.heap_1 w.params).In h₀) (hlen : us.length = N) (hN : N ≤ 1000) (ht : 0 < s.toks) (hbd : bd ≤ s.heap.objs.size) (hW : W 0 pre) (F : Fr h₀ L s.heap m) (Nn : News h₀ L s.heap (pre ++ R))
    (hxd : (dx, od) ∈ pre ++ R) (hxi : (x, (⟨.ref C, some dx, .plain, sl⟩ : Obj)) ∈ pre ++ R) (hok : ∀ (S : Addr) o, (∀ q ∈ pre ++ R, @LT.lt Nat _ q.1 S) → Ok ((S, o) :: R))
    (hs : findIn (hd.heap_1 w.params) (.ref C) "__iter__" = some (some (.ref fI))) (hf : isFn (hd.heap_1 w.params) (.ref fI) = true) (hs2 : ∃ g, findIn (hd.heap_1 w.params) (.ref C) "__next__" = some (some g))
    (hl1 : findIn (hd.heap_1 w.params) (.ref C) "__len__" = some none) (hl2 : findIn (hd.heap_1 w.params) (.ref C) "__length_hint__" = some none)
    (iter : ∀ led, (x, (⟨.ref C, some dx, .plain, sl⟩ : Obj)) ∈ led → (dx, od) ∈ led → Runs w A h₀ L m (.ref fI) [.ref x] led (fun n n' news' r => r = .ref x ∧ news' = led))
    (h : ∀ S g' pre' c h' tk', s.toks ≤ tk' → (∀ q ∈ pre ++ R, @LT.lt Nat _ q.1 S) → We pre' → Gd w p loose mean mg mb A₀ base outer h₀ g' → Fr g' L h' m → News g' L h' (pre' ++ (S, lsObj us c) :: R) → Q (.ref S) { s with heap := h', toks := tk' }) :
    wpAny (model PR w) A (call (.type "list") [.ref x]) Q E s := by
  refine callType_codes PySem.F.called_list (PySem.F.typeCall_list_1 _) PySem.F.entry_list_init (Q₁ := fun v s₁ => v = .ref s.heap.objs.size ∧ s₁ = { s with heap := s.heap.push (lsObj [] 0) }) (code_list_new _ ⟨rfl, rfl⟩) fun obj s₁ hob => ?_
  obtain ⟨rfl, rfl⟩ := hob
  have F1 := F.push (lsObj [] 0)
  have N1 := Nn.push F (lsObj [] 0)
  have hS1 := N1 _ (.head _)
  refine ⟨⟨_, hS1.1, rfl⟩, PySem.F.args_list_init_2 _ _, ?_⟩
  have offS : ∀ q ∈ pre ++ R, q.1 ≠ s.heap.objs.size := fun q hq => Nat.ne_of_lt (Heap.lt_size (Nn q hq).1)
  have hxlt := Heap.lt_size (Nn _ hxi).1
  show wpAny _ A.in1.in1 (do let old ← Builtin.List.listItems (.ref s.heap.objs.size); Builtin.List.listUpdate (.ref s.heap.objs.size) (fun _ => #[]); letGo old.toList.reverse; Builtin.List.listExtendWith (.ref s.heap.objs.size) (.ref x) .none) _ _ _
  refine wpAny_bind (listItems_at hS1.1 rfl ?_)
  refine wpAny_bind (listUpdate_at hS1.1 rfl ?_)
  have e2 := get?_update_seq hS1.1 (fun _ => (#[] : Array Value))
  have sb1 := Heap.SameBut.update (s.heap.push (lsObj [] 0)) s.heap.objs.size (Obj.mapSeq (fun _ => (#[] : Array Value)))
  have F2 := F1.change sb1 hS1.2.1 hS1.2.2
  have N2 := news_at0 N1 sb1 e2 offS
  refine wpAny_bind (wpAny_letGo ?_)
  unfold Builtin.List.listExtendWith
  have Xs : ∀ {hh : Heap}, Fr h₀ L hh m → (Mine.hd.heap_1 w.params).In hh := fun F => X.keeps F.keep
  have inst : ∀ {hh : Heap} {led : Led}, News h₀ L hh led → (∀ q ∈ pre ++ R, q ∈ led) → InstAt hh x (⟨.ref C, some dx, .plain, sl⟩ : Obj) C (some od) := fun N' hsub => InstAt.of_news N' (hsub _ hxi) (hsub _ hxd)
  have I2 := inst N2 (fun q hq => .tail _ hq)
  refine wpAny_bind (I2.type.here ?_)
  have h1 : Builtin.List.listSameRef (.ref s.heap.objs.size) (.ref x) = false := by simp [Builtin.List.listSameRef, Nat.ne_of_gt hxlt]
  have h2 : (Value.ref C == Value.type "list") = false := by simp
  have h3 : (Value.ref C == Value.type "tuple") = false := by simp
  simp only [h1, h2, h3, Bool.or_false, Bool.false_eq_true, if_false]
  obtain ⟨gx, hs2⟩ := hs2
  refine wpAny_bind (owit_iter F2 X I2 hs hf ?_)
  refine iter _ (.tail _ hxi) (.tail _ hxd) 2 _ _ _ (by omega) F2 N2 ht fun r news' h' tk' htk F3 N3 ⟨e1, e3⟩ => ?_
  subst e1 e3
  have I3 := inst N3 (fun q hq => .tail _ hq)
  refine owit_it F3 X I3 hs2 ?_
  refine wpAny_bind (wpAny_holding ?_)
  unfold Builtin.List.listLengthHint
  refine wpAny_bind (wpAny_bind (I3.type.here ((looks_findIn (Xs F3) hl1).here ?_)))
  refine wpAny_bind (wpAny_bind (I3.type.here ((looks_findIn (Xs F3) hl2).here ?_)))
  refine wpAny_pure ?_
  show wpAny _ A.in1.in1 (rule "list.extend.makes-room" >>= fun _ => Builtin.List.listTouch (.ref s.heap.objs.size) >>= fun _ =>
    again (.builtin "list.extend.loop" ⟨[.ref s.heap.objs.size, .ref x, .none], []⟩)) _ _ _
  refine wpAny_bind (wpAny_rule ?_)
  have hS3 := N3 _ (.head _)
  refine wpAny_bind ?_
  show wpAny _ A.in1.in1 (updateSeq s.heap.objs.size (·.push .none) >>= fun _ => updateSeq s.heap.objs.size (·.pop)) _ _ _
  refine wpAny_bind (wpAny_updateSeq hS3.1 rfl ?_)
  have e4 := get?_update_seq hS3.1 (·.push .none)
  refine wpAny_updateSeq (hz := by seq_fits) e4 rfl ?_
  have e5 := get?_update_seq e4 (·.pop)
  have sb2 := Heap.SameBut.update h' s.heap.objs.size (Obj.mapSeq (·.push Value.none))
  have sb3 := Heap.SameBut.update (h'.update s.heap.objs.size (Obj.mapSeq (·.push Value.none))) s.heap.objs.size (Obj.mapSeq (·.pop))
  have F5 := (F3.change sb2 hS3.2.1 hS3.2.2).change sb3 hS3.2.1 hS3.2.2
  have N5 : ∃ c, News h₀ L ((h'.update s.heap.objs.size (Obj.mapSeq (·.push Value.none))).update s.heap.objs.size (Obj.mapSeq (·.pop))) ((s.heap.objs.size, lsObj (us.take 0) c) :: (pre ++ R)) := ⟨_, news_at0 (news_at0 N3 sb2 e4 offS) sb3 e5 offS⟩
  obtain ⟨c, N5⟩ := N5
  refine wpAny_pure ⟨plainId_quiet PySem.F.plain_extend_loop _, ext_own (A := A) (S := s.heap.objs.size) (R := R) (res := .none) rfl I hbd (fun q hq => offS q (List.mem_append_right _ hq)) (fun o => hok _ o fun q hq => Heap.lt_size (Nn q hq).1) hlen hN N 0 _ c pre (by omega) (Nat.zero_le _) (Nat.lt_of_lt_of_le ht htk) hW F5 (news_sub N5 ?_) fun g' pre' c' h2' tk2 a1 a2 a3 a4 a5 => ?_⟩
  · first
      | k_extra "om sub"
      | (intro q hq
         simp only [List.mem_append, List.mem_cons] at hq ⊢
         rcases hq with hq | rfl | hq <;> simp [*])
  · exact ⟨rfl, h _ g' pre' c' h2' tk2 (Nat.le_trans htk a1) (fun q hq => Heap.lt_size (Nn q hq).1) a2 a3 a4 a5⟩
end
end
local macro_rules | `(tactic| k_in) => `(tactic| k_extra "my PreM kin 0")
local macro_rules | `(tactic| k_room) => `(tactic| ktr_room)
local macro_rules | `(tactic| walk_at "execs cons") => `(tactic| k_extra "my PreM execs cons 1")
local macro_rules | `(tactic| k_unfold) => `(tactic| k_extra "my PreM kunfold 3")
local macro_rules | `(tactic| walk_at "After") => `(tactic| k_extra "my PreM After 4")
-- a call by a told contract: the premises, then what is handed on
local macro_rules | `(tactic| walk_at "call builtin:issubclass") => `(tactic| k_extra "my PreM call builtinissubclass 9")
local macro_rules | `(tactic| walk_at "subscriptTail Name Slice str ref") => `(tactic| k_extra "my PreM subscriptTail Name Slice str ref 10")
local macro_rules | `(tactic| walk_at "subscriptTail Name Slice str ref") => `(tactic| k_extra "my PreM subscriptTail Name Slice str ref 11")
local macro_rules | `(tactic| walk_at "subscriptTail Name Slice str ref") => `(tactic| k_extra "my PreM subscriptTail Name Slice str ref 12")
local macro_rules | `(tactic| walk_at "call builtin:str.rstrip") => `(tactic| k_extra "my PreM call builtinstrrstrip 13")
local macro_rules | `(tactic| walk_at "binaryOp Mult str int") => `(tactic| k_extra "my PreM binaryOp Mult str int 14")
local macro_rules | `(tactic| walk_at "eval Name") => `(tactic| k_extra "my PreM eval Name 18")
local macro_rules | `(tactic| walk_at "callWith ref") => `(tactic| k_extra "my PreM callWith ref 19")
local macro_rules | `(tactic| walk_at "callWith ref") => `(tactic| k_extra "my PreM callWith ref 20")
local macro_rules | `(tactic| walk_at "WTurn") => `(tactic| (unfold WTurn))
local macro_rules | `(tactic| walk_at "WFlow") => `(tactic| (unfold WFlow; dsimp only))
local macro_rules | `(tactic| walk_at "exec While Compare cons nil") => `(tactic| k_extra "my while")
local macro_rules | `(tactic| walk_at "loadName") => `(tactic| k_extra "my PreM loadName 21")
local macro_rules | `(tactic| k_all) => `(tactic| k_extra "my PreM kall 23")
theorem lines_PreM : True := by
  k_with "my PreM kin 0" => (first | with_reducible assumption | exact Frag.In.keeps (by k_asm) (Fr.keep (by k_asm)))
  k_with "my PreM execs cons 1" => ((k_here; first
      | ((fail_if_success k_fold); (refine' execs_cons_k ?_); intro zqk zKk)
      | ((refine' execs_cons_q ?_); intro zq0 zN0 zqk zKk)))
  k_with "my kont" => (refine' kont_nextS s (by with_reducible assumption) ?_)
  k_with "my PreM kunfold 3" => ((k_end; first
      | ((first | k_extra "my kont" | refine' kont_next (by with_reducible assumption) ?_ | refine' kont_ret (by with_reducible assumption) ?_ | refine' kont_brk (by with_reducible assumption) ?_ | refine' kont_cont (by with_reducible assumption) ?_); intro zk9 zhk9 zhk7 zhk8; (try dsimp only at zhk9 zhk7 zhk8))
      | refine' named_q (by with_reducible assumption) ?_))
  k_with "my PreM After 4" => (((refine' after_gen ?_); intro zk9 zhk9 zhk7 zhk8; (try dsimp only at zhk9 zhk7 zhk8 ⊢)))
  k_with "my start" => ((
      refine said ?_
      w_on
      k_fill
      unfold Said
      unfold Ct))
  k_with "my enter" => ((
      refine wpAny_call ?_
      k_dflt cell_enter
      refine gen_toks (Nat.le_add_right _ _) ?_
      intro zk7 zhk7))
  k_with "my pos" => (first | with_reducible assumption | omega | assumption | ((try dsimp only); omega) | ((try dsimp only at *); omega))
  k_with "my prem" => ((
      (case k1 => k_asm); (case k2 => k_asm); (case k3 => k_asm); (case k4 => k_asm); (case k5 => k_asm); (case kK => first | exact rfl | assumption); (case kd => ktr_room); (case ku => ktr_units); (case kt => k_extra "my pos")))
  k_with "my PreM call builtinissubclass 9" => ((k_here; k_dflt (refine' issub_str ?k1 ?_; (case k1 => exact News.isTup (by k_asm) (by k_mem)); k_whole)))
  k_with "my PreM subscriptTail Name Slice str ref 10" => (((with_reducible show wpAny _ _ (subscriptTail _ (Expr.Slice none (some _) none _) _ _) _ _ _); (with_reducible rename Fr _ _ _ _ => zF'); (with_reducible rename News _ _ _ _ => zN'); (refine slice_tk_ns (hsz := ?hsz) (s := ⟨_, _, _, _, _⟩) zF' zN' ?_); (case hsz => size_fits); intro _ _ _ _ _ _ _ _))
  k_with "my PreM subscriptTail Name Slice str ref 11" => (((with_reducible show wpAny _ _ (subscriptTail _ (Expr.Slice (some _) none none _) _ _) _ _ _); (with_reducible rename Fr _ _ _ _ => zF'); (with_reducible rename News _ _ _ _ => zN'); (refine slice_tk_sn (hsz := ?hsz) (s := ⟨_, _, _, _, _⟩) zF' zN' ?_); (case hsz => size_fits); intro _ _ _ _ _ _ _ _))
  k_with "my PreM subscriptTail Name Slice str ref 12" => (((with_reducible show wpAny _ _ (subscriptTail _ (Expr.Slice (some _) (some _) none _) _ _) _ _ _); (with_reducible rename Fr _ _ _ _ => zF'); (with_reducible rename News _ _ _ _ => zN'); (refine slice_tk_ss (hsz := ?hsz) (s := ⟨_, _, _, _, _⟩) zF' zN' ?_); (case hsz => size_fits); intro _ _ _ _ _ _ _ _))
  k_with "my PreM call builtinstrrstrip 13" => (((refine rstrip_tk (hsz := ?hsz) (s := ⟨_, _, _, _, _⟩) ?_); (case hsz => size_fits); intro _ _ _ _ _))
  k_with "my PreM binaryOp Mult str int 14" => ((refine mul_tk (s := ⟨_, _, _, _, _⟩) (mulOk_of 16 1048576 (by first | decide | omega) (by omega) (by omega) (by decide) (by decide)) ?_; intro _ _ _))
  k_with "my tk" => (first | exact Tk.trans (by k_asm) (by k_asm) (by k_extra "my pos") (by k_extra "my pos") (by k_extra "my pos") (by k_extra "my pos") | exact Tk.mono (by k_asm) (by k_extra "my pos") (by k_extra "my pos") | exact .inl ⟨rfl, rfl⟩)
  k_with "my young" => ((first | exact of_allLt (by k_asm) | exact of_allLt (And.right (by assumption : _ ∧ AllLt _ _)) | assumption))
  k_with "my look" => (first | assumption | exact rfl | (refine Eq.trans (if_neg (by decide)) ?_; k_extra "my look") | (refine Eq.trans (if_pos rfl) ?_; exact rfl) | (dsimp only; first | assumption | exact rfl | (refine Eq.trans (if_neg (by decide)) ?_; k_extra "my look") | (refine Eq.trans (if_pos rfl) ?_; exact rfl)))
  k_with "my PreM eval Name 18" => ((k_here; (with_reducible show wpAny _ _ (eval (PySem.Expr.Name _ _) (envOf _ _ _ _ _)) _ _ _); name_kind "local"; k_dflt (refine' ld ?k1 ?k2 ?_; (case k1 => k_asm); (case k2 => k_extra "my look"); k_whole)))
  k_with "my PreM callWith ref 19" => (((with_reducible show wpAny _ _ (callWith _ _ _ (backTo _ (starEach (_ :: _) _)) (backToKw _ (keywordEach (_ :: _) _))) _ _ _); k_here; k_dflt (refine' callWith_KW ?k1 ?k2 ?k3 ?_; (case k1 => k_asm); (case k2 => k_is); (case k3 => exact rfl); k_whole)))
  k_with "my PreM callWith ref 20" => (((with_reducible show wpAny _ _ (callWith _ _ _ (backTo _ (starEach (_ :: _) _)) []) _ _ _); k_here; k_dflt (refine' callWith_K ?k1 ?k2 ?_; (case k1 => k_asm); (case k2 => k_is); k_whole)))
  k_with "my PreM loadName 21" => ((k_here; k_dflt (refine' ldn ?k1 ?k2 ?_; (case k1 => k_asm); (case k2 => k_extra "my look"); k_whole)))
  k_with "my enterK" => ((
      refine wpAny_call ?_
      k_dflt (refine' code_def ?k1 ?k2 ?k3 ?k4 ?k5 ?kA ?kF ?kK ?k6 ?k7 ?k8 ?k9 ?kB ?_ ?c2 ?c3 ?c4 ?c5; (case kA => exact rfl); (case kF => exact rfl); (case kK => assumption); (case k1 => k_asm); (case k2 => k_asm); (case k3 => k_asm); (case k4 => k_asm); (case k5 => k_asm); (case k6 => k_is); (case k7 => k_is); (case k8 => ktr_room); (case k9 => (refine' kp_binds ?kx ?ke; (case kx => k_in); (case ke => exact fun _ => rfl))); (case c5 => decide); (case kB => exact locs rfl); (case c2 => exact rfl); (case c3 => exact rfl); (case c4 => exact rfl); k_whole; intro zg' zL' zh' zFG' zF' zN' zB' zX' zT'; (try dsimp only); (try k_lift zB'); (try k_fold))
      refine gen_toks (Nat.le_add_right _ _) ?_
      intro zk7 zhk7))
  k_with "my PreM kall 23" => (first | assumption | exact ne_all1 (by k_asm) (by (try dsimp only); omega) | exact ne_all2 (by k_asm) (by (try dsimp only); omega) | fail "k_all")
  trivial

section
theorem lines_Lf : True := by
  k_with "my Lf call ref 0" => ((k_here; k_dflt (refine' Ct.use (get_sep_ct _ _ _ _) ?k1 ?k2 ?k3 ?k4 ?k5 ?kK ?kd ?ku ?kt ?_; k_extra "my prem"); (intro r9 news9 h9 tk9 T9 F9 N9 P9; obtain ⟨e9, t9, e8⟩ := P9; subst e9; subst e8; (try dsimp only); (try k_fold))))
  k_with "my Lf call ref 1" => ((k_here; k_dflt (refine' Ct.use (fspath_ct _ _ _ _) ?k1 ?k2 ?k3 ?k4 ?k5 ?kK ?kd ?ku ?kt ?_; k_extra "my prem"); (intro r9 news9 h9 tk9 T9 F9 N9 P9; obtain ⟨e9, e8⟩ := P9; subst e9; subst e8; (try dsimp only); (try k_fold))))
  k_with "my Lf call ref 2" => ((k_here; k_dflt (refine' Ct.use (isplitext_ct _ _ _ _ _ _ ?kx) ?k1 ?k2 ?k3 ?k4 ?k5 ?kK ?kd ?ku ?kt ?_; (case kx => assumption); k_extra "my prem"); (intro r9 news9 h9 tk9 T9 F9 N9 P9; obtain ⟨D9, t9, u9, e9, e8, l9, K9, K8⟩ := P9; subst e9; subst e8; (try dsimp only); (try k_fold))))
  k_with "my Lf binaryOp Add str str 3" => ((k_dflt (refine add_tk (hsz := ?hsz) (s := ⟨_, _, _, _, _⟩) ?_); (case hsz => (rw [PySem.sizeLine_eq]; omega)); intro _ _ _ _))
  trivial
set_option maxHeartbeats 4000000 in
theorem fspath_ct (w : World) (x : Str) (t : Tok) (news : Led) : Ct w 2 (.ref 317) [.str x t] [] news (Same news fun _ _ r => r = .str x t) := by
  k_extra "my start"
  intro p loose mean mg mb dp un gd cn cs a ccd cl outer A₀ base h₀ L m s Q E B F X N T hk hd hu ht hret
  k_extra "my enter"
  k_steps
  exact hret _ _ _ _ (by k_extra "my pos") (by k_asm) (cb_drop (by k_asm) (by first | k_extra "om sub" | kcj_all)) ⟨rfl, rfl⟩
set_option maxHeartbeats 4000000 in
theorem get_sep_ct (w : World) (x : Str) (t : Tok) (news : Led) : Ct w 2 (.ref 331) [.str x t] [] news (Same news fun _ _ r => ∃ t', r = .str (Str.ofString "/") t') := by
  k_extra "my start"
  intro p loose mean mg mb dp un gd cn cs a ccd cl outer A₀ base h₀ L m s Q E B F X N T hk hd hu ht hret
  k_extra "my enter"
  k_steps
  exact hret _ _ _ _ (by k_extra "my pos") (by k_asm) (by k_asm) ⟨rfl, _, rfl⟩
local macro_rules | `(tactic| walk_at "call ref") => `(tactic| k_extra "my Lf call ref 0")
local macro_rules | `(tactic| walk_at "call ref") => `(tactic| k_extra "my Lf call ref 1")
set_option maxHeartbeats 4000000 in
theorem basename_ct (w : World) (x : Str) (t : Tok) (news : Led) (hx : x.length ≤ 1048576) : Ct w 4 (.ref 355) [.str x t] [] news (Same news fun n n' r => ∃ t', r = .str (tailOf x) t' ∧ Tk t x n t' (tailOf x) n') := by
  k_extra "my start"
  intro p loose mean mg mb dp un gd cn cs a ccd cl outer A₀ base h₀ L m s Q E B F X N T hk hd hu ht hret
  k_extra "my enter"
  k_steps
  refine hret _ _ _ _ ?_ (by k_asm) (by k_asm) ⟨rfl, _, rfl, Tk.mono (by k_asm) ?_ ?_⟩
  all_goals k_extra "my pos"
set_option maxHeartbeats 4000000 in
theorem dirname_ct (w : World) (x : Str) (t : Tok) (news : Led) (hx : x.length ≤ 1048576) : Ct w 4 (.ref 362) [.str x t] [] news (Same news fun n n' r => ∃ t', r = .str (headOf x) t' ∧ Tk t x n t' (headOf x) n') := by
  k_extra "my start"
  intro p loose mean mg mb dp un gd cn cs a ccd cl outer A₀ base h₀ L m s Q E B F X N T hk hd hu ht hret
  k_extra "my enter"
  k_steps
  · have e : headOf x = Txt.rstripChars (hdS x) sl := if_pos ⟨by unfold hdS sl; omega, by unfold hdS sl; assumption⟩
    refine hret _ _ _ _ ?_ (by k_asm) (by k_asm) ⟨rfl, _, by rw [e]; rfl, by rw [e]; exact Tk.trans (by k_asm) (by k_asm) (by k_extra "my pos") (by k_extra "my pos") (by k_extra "my pos") (by k_extra "my pos")⟩
    k_extra "my pos"
  · have e : headOf x = hdS x := if_neg fun z => by have z2 := z.2; unfold hdS sl at z2; simp_all
    refine hret _ _ _ _ ?_ (by k_asm) (by k_asm) ⟨rfl, _, by rw [e]; rfl, by rw [e]; exact Tk.mono (by k_asm) (by k_extra "my pos") (by k_extra "my pos")⟩
    k_extra "my pos"
  · have e : headOf x = hdS x := if_neg fun z => by have z1 := z.1; unfold hdS sl at z1; omega
    refine hret _ _ _ _ ?_ (by k_asm) (by k_asm) ⟨rfl, _, by rw [e]; rfl, by rw [e]; exact Tk.mono (by k_asm) (by k_extra "my pos") (by k_extra "my pos")⟩
    k_extra "my pos"
set_option maxHeartbeats 4000000 in
theorem split_ct (w : World) (x : Str) (t : Tok) (news : Led) (hx : x.length ≤ 1048576) : Ct w 4 (.ref 338) [.str x t] [] news (PairPost t x (headOf x) (tailOf x) news) := by
  k_extra "my start"
  intro p loose mean mg mb dp un gd cn cs a ccd cl outer A₀ base h₀ L m s Q E B F X N T hk hd hu ht hret
  k_extra "my enter"
  k_steps
  · exact ret_pair hret (by k_asm) (by k_asm) (by k_mem) (by first | k_extra "om sub" | kcj_all) (by k_extra "my young") (if_pos ⟨by unfold hdS sl; omega, by unfold hdS sl; assumption⟩ : headOf x = Txt.rstripChars (hdS x) sl).symm rfl (by k_extra "my tk") (by k_extra "my tk") (by k_extra "my pos")
  · exact ret_pair hret (by k_asm) (by k_asm) (by k_mem) (by first | k_extra "om sub" | kcj_all) (by k_extra "my young") (if_neg fun z => by have z2 := z.2; unfold hdS sl at z2; simp_all : headOf x = hdS x).symm rfl (by k_extra "my tk") (by k_extra "my tk") (by k_extra "my pos")
  · exact ret_pair hret (by k_asm) (by k_asm) (by k_mem) (by first | k_extra "om sub" | kcj_all) (by k_extra "my young") (if_neg fun z => by have z1 := z.1; unfold hdS sl at z1; omega : headOf x = hdS x).symm rfl (by k_extra "my tk") (by k_extra "my tk") (by k_extra "my pos")
/-- the sign of the file's name that is looked at in turn j -/
def sxAt (x : Str) (v : Int) : Str := Txt.slice x (some v) (some (v + 1))
def SxJ (x : Str) (t t3 : Tok) (n : Nat) (m : Str → Option Value) : Prop :=
  ∃ (v : Int) (tk td : Tok), m (Str.ofString "filenameIndex") = some (.int v tk) ∧ m (Str.ofString "p") = some (.str x t) ∧ m (Str.ofString "dotIndex") = some (.int (Txt.rfind x (Str.ofString ".")) td) ∧ m (Str.ofString "extsep") = some (.str (Str.ofString ".") t3) ∧
    n = (Txt.rfind x (Str.ofString ".") - v).toNat ∧ Txt.rfind x (Str.ofString "/") + 1 ≤ v ∧ (∀ i : Int, Txt.rfind x (Str.ofString "/") + 1 ≤ i → i < v → sxAt x i = Str.ofString ".")
def sxIn (x : Str) : Prop := Txt.rfind x (Str.ofString "/") < Txt.rfind x (Str.ofString ".") ∧ ∃ v : Int, Txt.rfind x (Str.ofString "/") + 1 ≤ v ∧ v < Txt.rfind x (Str.ofString ".") ∧ sxAt x v ≠ Str.ofString "."
open Classical in
noncomputable def frontOf (x : Str) : Str := if sxIn x then Txt.slice x none (some (Txt.rfind x (Str.ofString "."))) else x
open Classical in
noncomputable def endOf (x : Str) : Str := if sxIn x then Txt.slice x (some (Txt.rfind x (Str.ofString "."))) none else Txt.slice x none (some 0)
theorem sx_yes {x : Str} (h : sxIn x) : Txt.slice x none (some (Txt.rfind x (Str.ofString "."))) = frontOf x ∧ Txt.slice x (some (Txt.rfind x (Str.ofString "."))) none = endOf x := by
  unfold frontOf endOf; rw [if_pos h, if_pos h]; exact ⟨rfl, rfl⟩
theorem sx_no {x : Str} (h : ¬ sxIn x) : x = frontOf x ∧ Txt.slice x none (some 0) = endOf x := by
  unfold frontOf endOf; rw [if_neg h, if_neg h]; exact ⟨rfl, rfl⟩
theorem ne_of_bne {a b : Str} (h : (a != b) = true) : a ≠ b := by simpa using h
theorem eq_of_bne {a b : Str} (h : (a != b) = false) : a = b := by simpa using h
set_option maxHeartbeats 4000000 in
theorem isplitext_ct (w : World) (x : Str) (t t2 t3 : Tok) (news : Led) (hx : x.length ≤ 1048576) : Ct w 4 (.ref 324) [.str x t, .str (Str.ofString "/") t2, .none, .str (Str.ofString ".") t3] [] news (PairPost t x (frontOf x) (endOf x) news) := by
  k_extra "my start"
  intro p loose mean mg mb dp un gd cn cs a ccd cl outer A₀ base h₀ L m s Q E B F X N T hk hd hu ht hret
  k_extra "my enter"
  k_with "my while" => (
    refine while_fr (by k_asm) (by k_asm) (fun n _ m => SxJ x t t3 n m) ⟨_, _, _, by k_extra "my look", by k_extra "my look", by k_extra "my look", by k_extra "my look", rfl, Int.le_refl _, fun i h1 h2 => absurd h2 (by omega)⟩ ?_
    intro n m h k hk0 hJ F N
    obtain ⟨v, tk, td, j1, j2, j3, j4, j5, j6, j7⟩ := hJ
    dsimp only at hk0 ⊢)
  k_steps
  · have hin : sxIn x := ⟨by omega, v, by omega, by assumption, ne_of_bne (by k_asm)⟩
    exact ret_pair hret (by k_asm) (by k_asm) (by k_mem) (by first | k_extra "om sub" | kcj_all) (by k_extra "my young") (sx_yes hin).1 (sx_yes hin).2 (by k_extra "my tk") (by k_extra "my tk") (by k_extra "my pos")
  · refine TurnFr.intro (by k_asm) (by k_asm) (by k_extra "my pos") ⟨v + 1, _, td, by k_extra "my look", by k_extra "my look", by k_extra "my look", by k_extra "my look", rfl, by omega, fun i h1 h2 => ?_⟩ (by omega)
    by_cases hi : i < v
    · exact j7 i h1 hi
    · obtain rfl : i = v := by omega
      exact eq_of_bne (by k_asm)
  · have hin : ¬ sxIn x := fun ⟨_, i, h1, h2, h3⟩ => h3 (j7 i h1 (by omega))
    exact ret_pair hret (by k_asm) (by k_asm) (by k_mem) (by first | k_extra "om sub" | kcj_all) (by k_extra "my young") (sx_no hin).1 (sx_no hin).2 (by k_extra "my tk") (by k_extra "my tk") (by k_extra "my pos")
  · have hin : ¬ sxIn x := fun ⟨h0, _⟩ => by omega
    exact ret_pair hret (by k_asm) (by k_asm) (by k_mem) (by first | k_extra "om sub" | kcj_all) (by k_extra "my young") (sx_no hin).1 (sx_no hin).2 (by k_extra "my tk") (by k_extra "my tk") (by k_extra "my pos")
local macro_rules | `(tactic| walk_at "call ref") => `(tactic| k_extra "my Lf call ref 2")
set_option maxHeartbeats 4000000 in
theorem splitext_ct (w : World) (x : Str) (t : Tok) (news : Led) (hx : x.length ≤ 1048576) : Ct w 7 (.ref 345) [.str x t] [] news (PairPost t x (frontOf x) (endOf x) news) := by
  k_extra "my start"
  intro p loose mean mg mb dp un gd cn cs a ccd cl outer A₀ base h₀ L m s Q E B F X N T hk hd hu ht hret
  k_extra "my enter"
  k_steps
  exact ret_pair hret (by k_asm) (by k_asm) (by k_mem) (by first | k_extra "om sub" | kcj_all) (by k_extra "my young") rfl rfl (by k_extra "my tk") (by k_extra "my tk") (by k_extra "my pos")
local macro_rules | `(tactic| walk_at "exec For Name Call cons nil") => `(tactic| k_extra "my for")
local macro_rules | `(tactic| walk_at "pyIter ref") => `(tactic| k_extra "my iter")
local macro_rules | `(tactic| walk_at "binaryOp Add str str") => `(tactic| k_extra "my Lf binaryOp Add str str 3")
set_option maxHeartbeats 4000000 in
theorem lawpath_ct (w : World) (x : Int) (t : Tok) (news : Led) (hx : 0 ≤ x) (hx2 : x < 1000000) : Ct w 4 (.ref 369) [.int x t] [] news (Same news fun n n' r => ∃ (y : Str) (t' : Nat), r = .str y t' ∧ n ≤ t' ∧ t' < n' ∧ y.length ≤ 5) := by
  k_extra "my start"
  intro p loose mean mg mb dp un gd cn cs a ccd cl outer A₀ base h₀ L m s Q E B F X N T hk hd hu ht hret
  k_extra "my enter"
  k_with "my for" => (k_dflt (refine for_tk ?_))
  k_with "my iter" => (
    k_dflt (refine for_range (n := (Int.fmod x 6).toNat) rfl (by k_asm) (by have := Int.fmod_nonneg_of_pos x (b := 6) (by decide); omega) (by have := Int.fmod_lt_of_pos x (b := 6) (by decide); omega) (by k_asm) (by k_asm)
                    (fun i k m led' => led' = news ∧ ∃ (y : Str) (tt : Nat) (l : Int) (tl : Nat), m (Str.ofString "text") = some (.str y tt) ∧ m (Str.ofString "left") = some (.int l tl) ∧ s.toks ≤ tt ∧ tt < k ∧ y.length ≤ i) ⟨rfl, _, _, _, _, by k_extra "my look", by k_extra "my look", by k_extra "my pos", by k_extra "my pos", Nat.le_refl _⟩ (fun i k m led' h q hq => by rw [h.1] at hq; exact List.mem_map_of_mem hq) ?_ ?_)
    all_goals first
      | (intro I i m led o h k tk hk0 hk1 hi hJ F N hP; have hb6 := Int.fmod_lt_of_pos x (b := 6) (by decide); obtain ⟨rfl, y, tt, l, tl, j1, j2, j3, j4, j5⟩ := hJ; dsimp only at hk0 ⊢)
      | (intro m led h k hk0 hJ F N; obtain ⟨rfl, y, tt, l, tl, j1, j2, j3, j4, j5⟩ := hJ; dsimp only at hk0 ⊢))
  k_steps
  · refine TurnF.intro hP (by k_asm) (by k_asm) (.head _) (fun q hq => .tail _ hq) (by k_extra "my pos") ⟨rfl, _, _, _, _, by k_extra "my look", by k_extra "my look", by k_extra "my pos", by k_extra "my pos", ?_⟩
    rw [Str.length_append]
    exact Nat.add_le_add j5 (Nat.le_refl 1)
  · refine hret _ _ _ _ (by k_extra "my pos") (by k_asm) (by k_asm) ⟨rfl, y, tt, rfl, by k_extra "my pos", by k_extra "my pos", ?_⟩
    have := Int.fmod_lt_of_pos x (b := 6) (by decide)
    omega
end
section
open PySem PySem.W PySem.Calls PyProof.Rows PySem.Builtin PySem.Builtin.Str
theorem str_ext {a b : Str} (h : a.cps.toList = b.cps.toList) : a = b := Str.ext' (Array.ext' h)
theorem sl_cps : sl.cps = #[47] := by decide
theorem dt_cps : dt.cps = #[46] := by decide
theorem cps_len (x : Str) : x.cps.toList.length = x.length := by simp [Str.length]
theorem slice_to {x : Str} {j : Nat} (h : j ≤ x.length) : (Txt.slice x none (some (j : Int))).cps.toList = x.cps.toList.take j := by
  have e : Txt.slice x none (some (j : Int)) = ⟨((x.cps.toList.drop 0).take ((j : Int) - 0).toNat).toArray⟩ := StrLaws.sliceText_to ⟨by omega, by rw [cps_len]; omega⟩
  rw [e]; simp
theorem slice_from {x : Str} {j : Nat} (h : j ≤ x.length) : (Txt.slice x (some (j : Int)) none).cps.toList = x.cps.toList.drop j := by
  have e : Txt.slice x (some (j : Int)) none = ⟨((x.cps.toList.drop (j : Int).toNat).take ((x.cps.toList.length : Int) - (j : Int)).toNat).toArray⟩ := StrLaws.sliceText_from ⟨by omega, by rw [cps_len]; omega⟩
  rw [e]
  show List.take _ (List.drop _ _) = _
  rw [show ((j : Int)).toNat = j by omega]
  exact List.take_of_length_le (by rw [List.length_drop]; omega)
theorem at_one {x y : Str} {c i : Nat} (hy : y.cps = #[c]) : StrLaws.At x y x.length i ↔ x.cps.toList[i]? = some c := by
  have hl : y.length = 1 := by simp [Str.length, hy]
  unfold StrLaws.At subAt
  rw [hl, hy, beq_iff_eq]
  have hxl := cps_len x
  constructor
  · rintro ⟨h1, h2⟩
    have h3 := congrArg Array.toList h2
    rw [Array.toList_extract] at h3
    simp only [List.extract, show i + 1 - i = 1 by omega] at h3
    have h4 : (x.cps.toList.drop i).take 1 = [c] := h3
    have h5 := congrArg (fun l => l[0]?) h4
    simpa [List.getElem?_take] using h5
  · intro h
    obtain ⟨h1, h2⟩ := List.getElem?_eq_some_iff.mp h
    refine ⟨by omega, ?_⟩
    apply Array.ext'
    rw [Array.toList_extract]
    simp only [List.extract, show i + 1 - i = 1 by omega]
    rw [List.drop_eq_getElem_cons h1, h2]
    rfl
theorem rfind_one {x y : Str} {c : Nat} (hy : y.cps = #[c]) {h t : List Nat} (e : x.cps.toList = h ++ t) (ht : c ∉ t) (hh : h = [] ∨ h.getLast? = some c) : Txt.rfind x y + 1 = h.length := by
  have no : ∀ k, h.length ≤ k → ¬ StrLaws.At x y x.length k := fun k hk hat => by
    have h1 := (at_one hy).mp hat
    rw [e, List.getElem?_append_right hk] at h1
    exact ht (List.mem_of_getElem? h1)
  rcases rfind_whole x y with ⟨h1, h2⟩ | ⟨i, h1, h2, h3⟩
  · rcases hh with rfl | hl
    · rw [h1]; rfl
    · refine absurd ((at_one hy).mpr ?_) (h2 (h.length - 1))
      rw [List.getLast?_eq_getElem?] at hl
      have hlt : h.length - 1 < h.length := by
        rcases Nat.lt_or_ge (h.length - 1) h.length with z | z
        · exact z
        · rw [List.getElem?_eq_none z] at hl; cases hl
      rw [e, List.getElem?_append_left hlt, hl]
  · rw [h1]
    have hi : i < h.length := by
      rcases Nat.lt_or_ge i h.length with z | z
      · exact z
      · exact absurd h2 (no i z)
    rcases hh with rfl | hl
    · simp at hi
    · rw [List.getLast?_eq_getElem?] at hl
      have : ¬ i < h.length - 1 := fun z => h3 _ z ((at_one hy).mpr (by rw [e, List.getElem?_append_left (by omega), hl]))
      omega
theorem hat_split {x head tail : Str} (e : x.cps.toList = head.cps.toList ++ tail.cps.toList) (ht : 47 ∉ tail.cps.toList) (hh : head.cps.toList = [] ∨ head.cps.toList.getLast? = some 47) : head = hdS x ∧ tail = tailOf x := by
  have hr := rfind_one sl_cps e ht hh
  have hle : head.cps.toList.length ≤ x.length := by rw [← cps_len x, e, List.length_append]; omega
  unfold hdS tailOf
  rw [hr]
  constructor
  · apply str_ext; rw [slice_to hle, e, List.take_left]
  · apply str_ext; rw [slice_from hle, e, List.drop_left]
theorem rstrip_rep {h k : Str} {j : Nat} (e : h.cps.toList = k.cps.toList ++ List.replicate j 47) (hk : k.cps.toList.getLast? ≠ some 47) : Txt.rstripChars h sl = k := by
  unfold Txt.rstripChars
  rw [PyProof.Rows.stripBy_eq]
  obtain ⟨_, h0, h1, h2⟩ := hi_facts sl.cps.contains h 0 (Nat.zero_le _)
  have hc : ∀ n, sl.cps.contains n = (n == 47) := fun n => by rw [sl_cps]; simp; exact (Bool.beq_eq_decide_eq n 47).symm
  have hlh : h.length = k.length + j := by rw [← cps_len h, e, List.length_append, List.length_replicate, cps_len]
  have elo : stripLo sl.cps.contains false h = 0 := rfl
  rw [elo]
  have ehi : stripHi sl.cps.contains true h 0 = k.length := by
    have g1 : ¬ stripHi sl.cps.contains true h 0 < k.length := fun z => by
      have := h1 (k.length - 1) (by omega) (by omega)
      rw [hc, ← getD_list, e] at this
      have hkl := cps_len k
      rw [List.getD_eq_getElem?_getD, List.getElem?_append_left (by omega)] at this
      apply hk
      rw [List.getLast?_eq_getElem?, hkl]
      have hlt : k.length - 1 < k.cps.toList.length := by omega
      rw [List.getElem?_eq_getElem hlt] at this ⊢
      simpa using this
    have g2 : ¬ k.length < stripHi sl.cps.contains true h 0 := fun z => by
      rcases h2 with h2 | h2
      · omega
      · rw [hc, ← getD_list, e] at h2
        have hkl := cps_len k
        rw [List.getD_eq_getElem?_getD, List.getElem?_append_right (by omega), List.getElem?_replicate, if_pos (by omega)] at h2
        simp at h2
    omega
  rw [ehi]
  apply str_ext
  unfold strSub
  rw [Array.toList_extract]
  simp only [List.extract, List.drop_zero, Nat.sub_zero]
  rw [e, ← cps_len k, List.take_left]
theorem fold_rep (c : Nat) : ∀ (j : Nat) (acc : Array Nat), ((List.replicate j #[c]).foldl (· ++ ·) acc).toList = acc.toList ++ List.replicate j c
  | 0, acc => by simp
  | j + 1, acc => by
    rw [List.replicate_succ, List.foldl_cons, fold_rep c j, List.replicate_succ, Array.toList_append]
    simp
theorem mul_sl (j : Nat) : (Txt.mul sl (j : Int)).cps.toList = List.replicate j 47 := by
  unfold Txt.mul
  by_cases h0 : (j : Int) < 1
  · rw [if_pos h0]
    obtain rfl : j = 0 := by omega
    rfl
  · rw [if_neg h0]
    by_cases h1 : j = 1
    · subst h1; rfl
    · rw [if_neg (by simp [sl, show ((Str.ofString "/").length == 0) = false by decide]; omega)]
      show (List.foldl (fun (a b : Array Nat) => a ++ b) #[] (List.replicate (j : Int).toNat sl.cps)).toList = _
      rw [sl_cps, fold_rep]
      simp
theorem kept_yes {x head kept : Str} {j : Nat} (e1 : head = hdS x) (e : head.cps.toList = kept.cps.toList ++ List.replicate j 47) (hk : kept.cps.toList.getLast? ≠ some 47) (hn : kept ≠ Str.empty) : kept = headOf x := by
  have hk0 : kept.cps.toList ≠ [] := fun z => hn (str_ext z)
  unfold headOf
  rw [if_pos, ← e1, rstrip_rep e hk]
  rw [← e1]
  refine ⟨fun z => hk0 ?_, ?_⟩
  · rw [← cps_len, e, List.length_append] at z
    exact List.eq_nil_of_length_eq_zero (by omega)
  · rw [bne_iff_ne]
    intro z
    have h1 : head.cps.toList = (Txt.mul sl (head.length : Nat)).cps.toList := congrArg (fun s : Str => s.cps.toList) z
    rw [mul_sl, e] at h1
    apply hk
    have h2 : ∀ n ∈ kept.cps.toList, n = 47 := fun n hn' => by
      have : n ∈ List.replicate head.length 47 := by rw [← h1]; exact List.mem_append_left _ hn'
      exact (List.mem_replicate.mp this).2
    rw [List.getLast?_eq_some_getLast hk0]
    exact congrArg some (h2 _ (List.getLast_mem hk0))
theorem kept_no {x head : Str} {j : Nat} (e1 : head = hdS x) (e : head.cps.toList = (Str.empty).cps.toList ++ List.replicate j 47) : head = headOf x := by
  unfold headOf
  rw [if_neg, e1]
  rw [← e1]
  rintro ⟨_, h2⟩
  rw [bne_iff_ne] at h2
  apply h2
  apply str_ext
  have hl : head.length = j := by rw [← cps_len, e]; simp [Str.empty]
  rw [mul_sl, hl, e]; rfl
theorem slice_last_cases (k : Str) : (k = Str.empty ∧ Txt.slice k (some (-1)) none = Str.empty) ∨ ∃ c, k.cps.toList.getLast? = some c ∧ (Txt.slice k (some (-1)) none).cps.toList = [c] ∧ k.cps.toList = (Txt.slice k none (some (-1))).cps.toList ++ [c] := by
  by_cases h0 : k.length = 0
  · have : k = Str.empty := str_ext (List.eq_nil_of_length_eq_zero (by rw [cps_len]; exact h0))
    subst this
    exact .inl ⟨rfl, by decide⟩
  · right
    have hl := cps_len k
    have e1 : Txt.slice k (some (-1)) none = ⟨((k.cps.toList.drop ((-1 : Int) + k.length).toNat).take ((k.cps.toList.length : Int) - (-1 + k.length)).toNat).toArray⟩ := StrLaws.sliceText_from_neg (by omega) (by omega)
    have e2 : Txt.slice k none (some (-1)) = ⟨((k.cps.toList.drop 0).take ((-1 : Int) + k.length - 0).toNat).toArray⟩ := StrLaws.sliceText_to_neg (by omega) (by omega)
    have hlt : k.length - 1 < k.cps.toList.length := by omega
    refine ⟨k.cps.toList[k.length - 1], ?_, ?_, ?_⟩
    · rw [List.getLast?_eq_getElem?, hl, List.getElem?_eq_getElem hlt]
    · rw [e1]
      show List.take _ (List.drop _ _) = _
      rw [show ((-1 : Int) + k.length).toNat = k.length - 1 by omega, show ((k.cps.toList.length : Int) - (-1 + k.length)).toNat = 1 by omega, List.drop_eq_getElem_cons hlt]
      rfl
    · rw [e2]
      show _ = List.take _ (List.drop 0 _) ++ _
      rw [show ((-1 : Int) + k.length - 0).toNat = k.length - 1 by omega, List.drop_zero]
      have := List.take_append_getElem hlt
      rw [this, List.take_of_length_le (by omega)]
theorem last_yes {k : Str} (h : Txt.slice k (some (-1)) none = sl) : k.cps.toList = (Txt.slice k none (some (-1))).cps.toList ++ [47] := by
  rcases slice_last_cases k with ⟨_, h2⟩ | ⟨c, _, h2, h3⟩
  · rw [h2] at h; exact absurd h (by decide)
  · rw [h, sl_cps] at h2
    have : 47 = c := by simpa using h2
    rw [this]; exact h3
theorem last_no {k : Str} (h : Txt.slice k (some (-1)) none ≠ sl) : k.cps.toList.getLast? ≠ some 47 := by
  rcases slice_last_cases k with ⟨h1, h2⟩ | ⟨c, h1, h2, h3⟩
  · rw [h1]; decide
  · rw [h1]
    intro z
    apply h
    apply str_ext
    rw [h2, sl_cps, Option.some.inj z]
/-- a new pair of strs, without tokens -/
abbrev PairW (a b : Str) (news : Led) : Nat → Nat → Led → Value → Prop := fun _ _ news' r => ∃ D t1 t2, r = .ref D ∧ news' = (D, tpObj [.str a t1, .str b t2]) :: news ∧ (∀ q ∈ news, q.1 < D)
theorem ret_pairW {a b a' b' : Str} {news led : Led} {s : Shared} {Q : Value → Shared → Prop} {h₀ h' : Heap} {L D : Addr} {m : Str → Option Value} {tk' : Nat} {t1 t2 : Tok}
    (hret : ∀ r news' h' tk', s.toks ≤ tk' → Fr h₀ L h' m → News h₀ L h' news' → PairW a b news s.toks tk' news' r → Q r { s with heap := h', toks := tk' })
    (F : Fr h₀ L h' m) (N : News h₀ L h' led) (hD : (D, tpObj [.str a' t1, .str b' t2]) ∈ led) (hs : ∀ q ∈ news, q ∈ led) (hl : ∀ q ∈ news, q.1 < D) (ha : a' = a) (hb : b' = b)
    (h1 : s.toks ≤ tk') : Q (.ref D) { s with heap := h', toks := tk' } := by
  subst ha hb
  refine hret _ ((D, tpObj [.str a' t1, .str b' t2]) :: news) _ _ h1 F (fun p hp => N p ?_) ⟨D, t1, t2, rfl, rfl, hl⟩
  rcases List.mem_cons.mp hp with rfl | hp
  · exact hD
  · exact hs p hp
end
section
theorem lines_Hat : True := by
  k_with "my Hat binaryOp Add str str 0" => ((k_dflt (refine add_tk (hsz := ?hsz) (s := ⟨_, _, _, _, _⟩) ?_); (case hsz => (rw [PySem.sizeLine_eq]; omega)); intro _ _ _ _))
  trivial
local macro_rules | `(tactic| walk_at "exec For Name Name cons nil") => `(tactic| k_extra "my for")
local macro_rules | `(tactic| walk_at "pyIter str") => `(tactic| k_extra "my iter")
local macro_rules | `(tactic| walk_at "binaryOp Add str str") => `(tactic| k_extra "my Hat binaryOp Add str str 0")
/-- the loop over the signs -/
def HatJ (x : Str) (i : Nat) (m : Str → Option Value) : Prop := ∃ (head tail : Str) (th tt : Nat), m (Str.ofString "head") = some (.str head th) ∧ m (Str.ofString "tail") = some (.str tail tt) ∧
  x.cps.toList.take i = head.cps.toList ++ tail.cps.toList ∧ 47 ∉ tail.cps.toList ∧ (head.cps.toList = [] ∨ head.cps.toList.getLast? = some 47)
theorem HatJ.len {x head tail : Str} {i : Nat} (h : x.cps.toList.take i = head.cps.toList ++ tail.cps.toList) (hi : i ≤ x.length) : head.length + tail.length = i := by
  have := congrArg List.length h
  rw [List.length_take, List.length_append, cps_len, cps_len, cps_len] at this
  omega
theorem hat_next {x head tail : Str} {i c : Nat} (h : x.cps.toList.take i = head.cps.toList ++ tail.cps.toList) (hc : x.cps[i]? = some c) : x.cps.toList.take (i + 1) = head.cps.toList ++ (tail ++ (⟨#[c]⟩ : Str)).cps.toList := by
  have hc' : x.cps.toList[i]? = some c := by rw [Array.getElem?_toList]; exact hc
  obtain ⟨h1, h2⟩ := List.getElem?_eq_some_iff.mp hc'
  rw [← List.take_append_getElem h1, h, h2]
  show _ = _ ++ (tail.cps ++ #[c]).toList
  simp
theorem hat_slash {x head tail : Str} {i c : Nat} (h : x.cps.toList.take i = head.cps.toList ++ tail.cps.toList) (hc : x.cps[i]? = some c) (hs : ((⟨#[c]⟩ : Str) == Str.ofString "/") = true) :
    x.cps.toList.take (i + 1) = (head ++ (tail ++ (⟨#[c]⟩ : Str))).cps.toList ++ (Str.ofString "").cps.toList ∧ 47 ∉ (Str.ofString "").cps.toList ∧ ((head ++ (tail ++ (⟨#[c]⟩ : Str))).cps.toList = [] ∨ (head ++ (tail ++ (⟨#[c]⟩ : Str))).cps.toList.getLast? = some 47) := by
  have e : c = 47 := by
    have h1 : (⟨#[c]⟩ : Str) = Str.ofString "/" := by simpa using hs
    have h2 : [c] = [47] := congrArg (fun s : Str => s.cps.toList) h1
    exact (List.cons.inj h2).1
  have e2 : (head ++ (tail ++ (⟨#[c]⟩ : Str))).cps.toList = head.cps.toList ++ (tail ++ (⟨#[c]⟩ : Str)).cps.toList := by
    show (head.cps ++ (tail ++ (⟨#[c]⟩ : Str)).cps).toList = _
    simp
  have e3 : (tail ++ (⟨#[c]⟩ : Str)).cps.toList = tail.cps.toList ++ [c] := by
    show (tail.cps ++ #[c]).toList = _
    simp
  refine ⟨?_, by decide, .inr ?_⟩
  · rw [hat_next h hc, e2, show (Str.ofString "").cps.toList = [] by decide, List.append_nil]
  · rw [e2, e3, ← List.append_assoc, e]; simp
theorem hat_sign {x head tail : Str} {i c : Nat} (h : x.cps.toList.take i = head.cps.toList ++ tail.cps.toList) (hc : x.cps[i]? = some c) (hs : ((⟨#[c]⟩ : Str) == Str.ofString "/") = false) (ht : 47 ∉ tail.cps.toList) :
    x.cps.toList.take (i + 1) = head.cps.toList ++ (tail ++ (⟨#[c]⟩ : Str)).cps.toList ∧ 47 ∉ (tail ++ (⟨#[c]⟩ : Str)).cps.toList := by
  refine ⟨hat_next h hc, ?_⟩
  have e3 : (tail ++ (⟨#[c]⟩ : Str)).cps.toList = tail.cps.toList ++ [c] := by
    show (tail.cps ++ #[c]).toList = _
    simp
  rw [e3]
  intro hm
  rcases List.mem_append.mp hm with h1 | h1
  · exact ht h1
  · rw [← List.mem_singleton.mp h1] at hs
    exact absurd hs (by decide)
/-- the loop that cuts the slashes at the end -/
def KeJ (head tail : Str) (n : Nat) (m : Str → Option Value) : Prop := ∃ (kept : Str) (tk th tt j : Nat), m (Str.ofString "kept") = some (.str kept tk) ∧ m (Str.ofString "head") = some (.str head th) ∧ m (Str.ofString "tail") = some (.str tail tt) ∧ n = kept.length ∧
  head.cps.toList = kept.cps.toList ++ List.replicate j 47
theorem KeJ.len {x head kept tail : Str} {j : Nat} (h : head.cps.toList = kept.cps.toList ++ List.replicate j 47) (h2 : x.cps.toList = head.cps.toList ++ tail.cps.toList) (hx : x.length ≤ 5) : kept.length ≤ 1048576 := by
  have h3 := congrArg List.length h2
  rw [h, List.length_append, List.length_append, cps_len, cps_len] at h3
  omega
theorem kej_next {head kept : Str} {j : Nat} (h : head.cps.toList = kept.cps.toList ++ List.replicate j 47) (hs : (Txt.slice kept (some (-1)) none == Str.ofString "/") = true) :
    (Txt.slice kept none (some (-1))).length < kept.length ∧ head.cps.toList = (Txt.slice kept none (some (-1))).cps.toList ++ List.replicate (j + 1) 47 := by
  have h1 := last_yes (k := kept) (by simpa [sl] using hs)
  constructor
  · have := congrArg List.length h1
    rw [List.length_append, cps_len, cps_len, List.length_singleton] at this
    omega
  · rw [h]
    conv => lhs; rw [h1]
    rw [List.append_assoc, List.replicate_succ]; rfl
theorem kej_end {kept : Str} (hs : (Txt.slice kept (some (-1)) none == Str.ofString "/") = false) : kept.cps.toList.getLast? ≠ some 47 := last_no (by simpa [sl] using hs)
theorem ne_empty {kept : Str} (h : (kept != Str.ofString "") = true) : kept ≠ Str.empty := by
  have : Str.ofString "" = Str.empty := by decide
  rw [this] at h; simpa using h
theorem eq_empty {kept : Str} (h : (kept != Str.ofString "") = false) : kept = Str.empty := by
  have : Str.ofString "" = Str.empty := by decide
  rw [this] at h; simpa using h
set_option maxHeartbeats 4000000 in
theorem hat_ct (w : World) (x : Str) (t : Tok) (news : Led) (hx : x.length ≤ 5) : Ct w 4 (.ref 376) [.str x t] [] news (PairW (headOf x) (tailOf x) news) := by
  k_extra "my start"
  intro p loose mean mg mb dp un gd cn cs a ccd cl outer A₀ base h₀ L m s Q E B F X N T hk hd hu ht hret
  k_extra "my enter"
  k_with "my for" => (k_dflt (refine for_tk ?_))
  k_with "my iter" => (
    k_dflt (refine for_str rfl (by k_asm) (by k_asm) (fun i _ m led' => led' = news ∧ HatJ x i m) ⟨rfl, _, _, _, _, by k_extra "my look", by k_extra "my look", rfl, by decide, .inl rfl⟩ (fun i k m led' h q hq => by rw [h.1] at hq; exact List.mem_map_of_mem hq) ?_ ?_)
    all_goals first
      | (intro I P i m led o h k tk c hk0 hk1 hi hc hJ F N hP; obtain ⟨rfl, head, tail, th, tt, j1, j2, j3, j4, j5⟩ := hJ; have hlen := HatJ.len j3 (Nat.le_of_lt hi); dsimp only at hk0 ⊢)
      | (intro m led h k hk0 hJ F N; obtain ⟨rfl, head, tail, th, tt, j1, j2, j3, j4, j5⟩ := hJ; rw [← cps_len x, List.take_length] at j3; have hhd := hat_split j3 j4 j5; dsimp only at hk0 ⊢))
  k_with "my while" => (
    refine while_fr (by k_asm) (by k_asm) (fun n _ m => KeJ head tail n m) ⟨_, _, _, _, 0, by k_extra "my look", by k_extra "my look", by k_extra "my look", rfl, by simp⟩ ?_
    intro n m h k hk0 hJ F N
    obtain ⟨kept, tk, th, tt, j, j6, j7, j8, j9, j10⟩ := hJ
    have hkl := KeJ.len j10 j3 hx
    dsimp only at hk0 ⊢)
  k_steps
  · obtain ⟨y1, y2, y3⟩ := hat_slash j3 hc (by k_asm)
    exact TurnF.intro hP (by k_asm) (by k_asm) (.head _) (fun q hq => .tail _ hq) (by k_extra "my pos") ⟨rfl, _, _, _, _, by k_extra "my look", by k_extra "my look", y1, y2, y3⟩
  · obtain ⟨y1, y2⟩ := hat_sign j3 hc (by k_asm) j4
    exact TurnF.intro hP (by k_asm) (by k_asm) (.head _) (fun q hq => .tail _ hq) (by k_extra "my pos") ⟨rfl, _, _, _, _, by k_extra "my look", by k_extra "my look", y1, y2, j5⟩
  · obtain ⟨y1, y2⟩ := kej_next j10 (by k_asm)
    refine TurnFr.intro (by k_asm) (by k_asm) (by k_extra "my pos") ⟨_, _, _, _, _, by k_extra "my look", by k_extra "my look", by k_extra "my look", rfl, y2⟩ (by rw [j9]; exact y1)
  · exact ret_pairW hret (by k_asm) (by k_asm) (by k_mem) (by first | k_extra "om sub" | kcj_all) (by k_extra "my young") (kept_yes hhd.1 j10 (kej_end (by k_asm)) (ne_empty (by k_asm))) hhd.2 (by k_extra "my pos")
  · obtain rfl := eq_empty (by assumption : (kept != Str.ofString "") = false)
    exact ret_pairW hret (by k_asm) (by k_asm) (by k_mem) (by first | k_extra "om sub" | kcj_all) (by k_extra "my young") (kept_no hhd.1 j10) hhd.2 (by k_extra "my pos")
end
section
open PySem PySem.W PySem.Calls PyProof.Rows PySem.Builtin PySem.Builtin.Str
abbrev sg (x : Str) (j : Nat) : Option Nat := x.cps.toList[j]?
theorem sg_some {x : Str} {j : Nat} (h : j < x.length) : ∃ c, sg x j = some c := ⟨x.cps.toList[j]'(by rw [cps_len]; exact h), List.getElem?_eq_getElem _⟩
theorem sx_at {x : Str} {v : Nat} (h : v < x.length) : sxAt x (v : Int) = Str.ofString "." ↔ sg x v = some 46 := by
  have e : sxAt x (v : Int) = ⟨((x.cps.toList.drop (v : Int).toNat).take ((v : Int) + 1 - v).toNat).toArray⟩ := StrLaws.sliceText_plain ⟨by omega, by omega, by rw [cps_len]; omega⟩
  have hlt : v < x.cps.toList.length := by rw [cps_len]; exact h
  rw [e, show ((v : Int)).toNat = v by omega, show ((v : Int) + 1 - v).toNat = 1 by omega, List.drop_eq_getElem_cons hlt]
  unfold sg
  rw [List.getElem?_eq_getElem hlt]
  constructor
  · intro z
    have z2 := congrArg (fun s : Str => s.cps.toList) z
    have z3 : [x.cps.toList[v]] = [46] := z2
    rw [List.cons.inj z3 |>.1]
  · intro z
    rw [Option.some.inj z]; rfl
theorem item_at {x : Str} {i : Nat} {c : Nat} (h : sg x i = some c) : Txt.item x (i : Int) = ⟨#[c]⟩ := by
  obtain ⟨h1, h2⟩ := List.getElem?_eq_some_iff.mp h
  have hl : i < x.length := by rw [← cps_len]; exact h1
  have e : Txt.charAt x (i : Int) = some c := by
    unfold Txt.charAt
    refine StrLaws.at_nonneg (by omega) ?_
    rw [show ((i : Int)).toNat = i by omega]
    rw [← Array.getElem?_toList]; exact h
  unfold Txt.item
  rw [e]; rfl
/-- what the loop of _law_front_and_ending knows ahead of place i -/
def FrC (x : Str) (i : Nat) (front : Str) (begun : Bool) : Prop := ∃ s0 : Nat, s0 ≤ i ∧ (s0 = 0 ∨ sg x (s0 - 1) = some 47) ∧ (∀ j, s0 ≤ j → j < i → sg x j ≠ some 47) ∧ (begun = true ↔ ∃ v, s0 ≤ v ∧ v < i ∧ sg x v ≠ some 46) ∧
  ((front = x ∧ ∀ d, s0 ≤ d → d < i → sg x d = some 46 → ∀ v, s0 ≤ v → v < d → sg x v = some 46) ∨
   (∃ d : Nat, s0 ≤ d ∧ d < i ∧ sg x d = some 46 ∧ (∃ v, s0 ≤ v ∧ v < d ∧ sg x v ≠ some 46) ∧ (∀ d', d < d' → d' < i → sg x d' ≠ some 46) ∧ front = Txt.slice x none (some (d : Int))))
theorem fr_start (x : Str) : FrC x 0 x false := ⟨0, Nat.le_refl _, .inl rfl, fun j _ h => absurd h (Nat.not_lt_zero _), ⟨fun h => absurd h (by decide), fun ⟨v, _, h, _⟩ => absurd h (Nat.not_lt_zero _)⟩, .inl ⟨rfl, fun d _ h => absurd h (Nat.not_lt_zero _)⟩⟩
theorem fr_slash {x front : Str} {i : Nat} {b : Bool} (_ : FrC x i front b) (h : sg x i = some 47) : FrC x (i + 1) x false :=
  ⟨i + 1, Nat.le_refl _, .inr (by simpa using h), fun j h1 h2 => absurd h1 (by omega), ⟨fun h => absurd h (by decide), fun ⟨v, h1, h2, _⟩ => absurd h1 (by omega)⟩, .inl ⟨rfl, fun d h1 h2 => absurd h1 (by omega)⟩⟩
theorem fr_sign {x front : Str} {i : Nat} {b : Bool} (F : FrC x i front b) (h7 : sg x i ≠ some 47) (h6 : sg x i ≠ some 46) : FrC x (i + 1) front true := by
  obtain ⟨s0, a1, a2, a3, a4, a5⟩ := F
  refine ⟨s0, by omega, a2, fun j h1 h2 => ?_, ⟨fun _ => ⟨i, a1, by omega, h6⟩, fun _ => rfl⟩, ?_⟩
  · by_cases e : j = i
    · subst e; exact h7
    · exact a3 j h1 (by omega)
  · rcases a5 with ⟨c1, c2⟩ | ⟨d, d1, d2, d3, d4, d5, d6⟩
    · refine .inl ⟨c1, fun d h1 h2 h3 => ?_⟩
      by_cases e : d = i
      · subst e; exact absurd h3 h6
      · exact c2 d h1 (by omega) h3
    · refine .inr ⟨d, d1, by omega, d3, d4, fun d' h1 h2 => ?_, d6⟩
      by_cases e : d' = i
      · subst e; exact h6
      · exact d5 d' h1 (by omega)
theorem fr_dot_yes {x front : Str} {i : Nat} (F : FrC x i front true) (h6 : sg x i = some 46) : FrC x (i + 1) (Txt.slice x none (some (i : Int))) true := by
  obtain ⟨s0, a1, a2, a3, a4, a5⟩ := F
  obtain ⟨v, v1, v2, v3⟩ := a4.mp rfl
  refine ⟨s0, by omega, a2, fun j h1 h2 => ?_, ⟨fun _ => ⟨v, v1, by omega, v3⟩, fun _ => rfl⟩, .inr ⟨i, a1, by omega, h6, ⟨v, v1, v2, v3⟩, fun d' h1 h2 => absurd h1 (by omega), rfl⟩⟩
  by_cases e : j = i
  · subst e; rw [h6]; decide
  · exact a3 j h1 (by omega)
theorem fr_dot_no {x front : Str} {i : Nat} (F : FrC x i front false) (h6 : sg x i = some 46) : FrC x (i + 1) front false := by
  obtain ⟨s0, a1, a2, a3, a4, a5⟩ := F
  have nob : ∀ v, s0 ≤ v → v < i → sg x v = some 46 := fun v h1 h2 => by
    by_cases e : sg x v = some 46
    · exact e
    · exact absurd (a4.mpr ⟨v, h1, h2, e⟩) (by decide)
  refine ⟨s0, by omega, a2, fun j h1 h2 => ?_, ⟨fun h => absurd h (by decide), fun ⟨v, h1, h2, h3⟩ => ?_⟩, ?_⟩
  · by_cases e : j = i
    · subst e; rw [h6]; decide
    · exact a3 j h1 (by omega)
  · by_cases e : v = i
    · subst e; exact absurd h6 h3
    · exact absurd (nob v h1 (by omega)) h3
  · rcases a5 with ⟨c1, c2⟩ | ⟨d, d1, d2, d3, ⟨v, v1, v2, v3⟩, d5, d6⟩
    · exact .inl ⟨c1, fun d h1 h2 h3 v h4 h5 => nob v h4 (by omega)⟩
    · exact absurd (nob v v1 (by omega)) v3
theorem rfind_at {x y : Str} {c k : Nat} (hy : y.cps = #[c]) (hk : k ≤ x.length) (h0 : k = 0 ∨ sg x (k - 1) = some c) (hn : ∀ j, k ≤ j → j < x.length → sg x j ≠ some c) : Txt.rfind x y + 1 = k := by
  have hl := cps_len x
  have := rfind_one (x := x) hy (h := x.cps.toList.take k) (t := x.cps.toList.drop k) (List.take_append_drop _ _).symm (fun z => ?_) ?_
  · rw [this, List.length_take]; omega
  · obtain ⟨j, hj⟩ := List.getElem?_of_mem z
    rw [List.getElem?_drop] at hj
    have : k + j < x.cps.toList.length := (List.getElem?_eq_some_iff.mp hj).1
    exact hn (k + j) (by omega) (by omega) hj
  · rcases h0 with rfl | h0
    · exact .inl (List.take_zero)
    · by_cases hk0 : k = 0
      · subst hk0; exact .inl (List.take_zero)
      · right
        rw [List.getLast?_eq_getElem?, List.length_take, List.getElem?_take, if_pos (by omega)]
        rw [show min k x.cps.toList.length - 1 = k - 1 by omega]; exact h0
theorem fr_end {x front : Str} {b : Bool} (F : FrC x x.length front b) : front = frontOf x ∧ Txt.slice x (some ((front.length : Nat) : Int)) none = endOf x := by
  obtain ⟨s0, a1, a2, a3, a4, a5⟩ := F
  have hl := cps_len x
  have r7 : Txt.rfind x (Str.ofString "/") + 1 = s0 := rfind_at sl_cps a1 a2 a3
  rcases a5 with ⟨c1, c2⟩ | ⟨d, d1, d2, d3, ⟨v, v1, v2, v3⟩, d5, d6⟩
  · have hin : ¬ sxIn x := fun ⟨h1, v, h2, h3, h4⟩ => by
      rcases rfind_whole x (Str.ofString ".") with ⟨e1, _⟩ | ⟨d, e1, e2, _⟩
      · omega
      · have e3 := (at_one dt_cps).mp e2
        have e4 : d < x.cps.toList.length := (List.getElem?_eq_some_iff.mp e3).1
        obtain ⟨v, rfl⟩ := Int.eq_ofNat_of_zero_le (by omega : 0 ≤ v)
        refine h4 ((sx_at (by omega)).mpr (c2 d (by omega) (by omega) e3 v (by omega) (by omega)))
    obtain ⟨f1, f2⟩ := sx_no hin
    subst c1
    refine ⟨f1, ?_⟩
    rw [← f2]
    apply str_ext
    rw [slice_from (Nat.le_refl _), show (0 : Int) = ((0 : Nat) : Int) from rfl, slice_to (Nat.zero_le _), List.take_zero, List.drop_of_length_le (by omega)]
  · have r6 : Txt.rfind x (Str.ofString ".") + 1 = ((d + 1 : Nat) : Int) := rfind_at dt_cps (by omega) (.inr (by simpa using d3)) (fun j h1 h2 => d5 j (by omega) h2)
    have r6' : Txt.rfind x (Str.ofString ".") = (d : Int) := by omega
    have hin : sxIn x := ⟨by omega, v, by omega, by omega, fun z => v3 ((sx_at (by omega)).mp z)⟩
    obtain ⟨f1, f2⟩ := sx_yes hin
    rw [r6'] at f1 f2
    refine ⟨by rw [d6, f1], ?_⟩
    rw [← f2]
    have : front.length = d := by rw [d6, ← cps_len, slice_to (by omega), List.length_take]; omega
    rw [this]
end
section
local macro_rules | `(tactic| walk_at "exec For Name Call cons nil") => `(tactic| k_extra "my for")
local macro_rules | `(tactic| walk_at "pyIter ref") => `(tactic| k_extra "my iter")
/-- the loop -/
def FeJ (x : Str) (t : Nat) (i : Nat) (m : Str → Option Value) : Prop := ∃ (front : Str) (begun : Bool) (tf : Nat), m (Str.ofString "path") = some (.str x t) ∧ m (Str.ofString "front") = some (.str front tf) ∧ m (Str.ofString "begun") = some (.bool begun) ∧ FrC x i front begun
theorem FrC.short {x front : Str} {i : Nat} {b : Bool} (F : FrC x i front b) (hx : x.length ≤ 5) : front.length ≤ 5 := by
  obtain ⟨s0, a1, a2, a3, a4, a5⟩ := F
  rcases a5 with ⟨c1, _⟩ | ⟨d, _, _, _, _, _, d6⟩
  · rw [c1]; exact hx
  · rw [d6]; exact Nat.le_trans (Txt.slice_le x _ _) hx
theorem it_yes {x : Str} {i c : Nat} {y : String} {k : Nat} (hit : Txt.item x (i : Int) = ⟨#[c]⟩) (hc : sg x i = some c) (hy : (Str.ofString y).cps = #[k]) (h : (Txt.item x (i : Int) == Str.ofString y) = true) : sg x i = some k := by
  rw [hit] at h
  have h1 : (⟨#[c]⟩ : Str) = Str.ofString y := by simpa using h
  have h2 : (#[c] : Array Nat) = #[k] := by rw [← hy, ← h1]
  have h3 : [c] = [k] := congrArg Array.toList h2
  rw [hc, (List.cons.inj h3).1]
theorem it_no {x : Str} {i c : Nat} {y : String} {k : Nat} (hit : Txt.item x (i : Int) = ⟨#[c]⟩) (hc : sg x i = some c) (hy : (Str.ofString y).cps = #[k]) (h : (Txt.item x (i : Int) == Str.ofString y) = false) : sg x i ≠ some k := by
  rw [hit] at h
  intro z
  rw [hc] at z
  obtain rfl := Option.some.inj z
  have : (⟨#[c]⟩ : Str) = Str.ofString y := by
    cases hh : Str.ofString y with
    | mk a => rw [hh] at hy; simp at hy; rw [hy]
  rw [this] at h
  simp at h
theorem ne_flip {a b : Str} {r : Bool} (h : (a != b) = r) : (a == b) = !r := by
  rw [← h]; simp [bne]
set_option maxHeartbeats 4000000 in
theorem fe_ct (w : World) (x : Str) (t : Tok) (news : Led) (hx : x.length ≤ 5) : Ct w 4 (.ref 383) [.str x t] [] news (PairW (frontOf x) (endOf x) news) := by
  have hx2 : x.length ≤ 1048576 := by omega
  k_extra "my start"
  intro p loose mean mg mb dp un gd cn cs a ccd cl outer A₀ base h₀ L m s Q E B F X N T hk hd hu ht hret
  k_extra "my enter"
  k_with "my for" => (k_dflt (refine for_tk ?_))
  k_with "my iter" => (
    k_dflt (refine for_range (n := x.length) rfl (by k_asm) rfl (by omega) (by k_asm) (by k_asm)
                    (fun i _ m led' => led' = news ∧ FeJ x t i m) ⟨rfl, _, _, _, by k_extra "my look", by k_extra "my look", by k_extra "my look", fr_start x⟩ (fun i k m led' h q hq => by rw [h.1] at hq; exact List.mem_map_of_mem hq) ?_ ?_)
    all_goals first
      | (intro I i m led o h k tk hk0 hk1 hi hJ F N hP; obtain ⟨rfl, front, begun, tf, j1, j2, j3, j4⟩ := hJ; obtain ⟨c, hc⟩ := sg_some hi; have hit := item_at hc; dsimp only at hk0 ⊢)
      | (intro m led h k hk0 hJ F Nj; obtain ⟨rfl, front, begun, tf, j1, j2, j3, j4⟩ := hJ; have hfe := fr_end j4; have hfl := j4.short hx; have N2 := Nj; clear Nj; dsimp only at hk0 ⊢))
  k_steps
  · have y7 := it_yes hit hc sl_cps (by k_asm)
    exact TurnF.intro hP (by k_asm) (by k_asm) (.head _) (fun q hq => .tail _ hq) (by k_extra "my pos") ⟨rfl, _, _, _, by k_extra "my look", by k_extra "my look", by k_extra "my look", fr_slash j4 y7⟩
  · have y7 := it_no hit hc sl_cps (by k_asm)
    have y6 := it_no hit hc dt_cps (ne_flip (by assumption : (Txt.item x i != Str.ofString ".") = true))
    exact TurnF.intro hP (by k_asm) (by k_asm) (.head _) (fun q hq => .tail _ hq) (by k_extra "my pos") ⟨rfl, _, _, _, by k_extra "my look", by k_extra "my look", by k_extra "my look", fr_sign j4 y7 y6⟩
  · have y6 := it_yes hit hc dt_cps (ne_flip (by assumption : (Txt.item x i != Str.ofString ".") = false))
    obtain rfl := (by assumption : begun = true)
    exact TurnF.intro hP (by k_asm) (by k_asm) (.head _) (fun q hq => .tail _ hq) (by k_extra "my pos") ⟨rfl, _, _, _, by k_extra "my look", by k_extra "my look", by k_extra "my look", fr_dot_yes j4 y6⟩
  · have y6 := it_yes hit hc dt_cps (ne_flip (by assumption : (Txt.item x i != Str.ofString ".") = false))
    obtain rfl := (by assumption : begun = false)
    exact TurnF.intro hP (by k_asm) (by k_asm) (.head _) (fun q hq => .tail _ hq) (by k_extra "my pos") ⟨rfl, _, _, _, by k_extra "my look", by k_extra "my look", by k_extra "my look", fr_dot_no j4 y6⟩
  · exact ret_pairW hret (by k_asm) (by k_asm) (by k_mem) (by first | k_extra "om sub" | kcj_all) (by k_extra "my young") hfe.1 hfe.2 (by k_extra "my pos")
end
local macro_rules | `(tactic| walk_at "exec While") => `(tactic| (k_here; k_dflt (refine whl_start 100 ?_)))
local macro_rules | `(tactic| walk_at "noteFrame ref") => `(tactic| k_extra "my PreSM noteFrame ref 1")
local macro_rules | `(tactic| k_mem) => `(tactic| assumption)
local macro_rules | `(tactic| walk_at "call ref") => `(tactic| (k_here; k_extra "my call"))
-- the premises of a told call, the ledger laid out anew
local macro_rules | `(tactic| walk_at "getMethod ref") => `(tactic| k_extra "my PreSM getMethod ref 6")
local macro_rules | `(tactic| walk_at "compareOp Is") => `(tactic| k_extra "my is")
local macro_rules | `(tactic| walk_at "compareOp Eq") => `(tactic| k_extra "my eq")
local macro_rules | `(tactic| k_handed) => `(tactic| assumption)
theorem lines_PreSM : True := by
  k_with "my enterS" => ((
      refine wpAny_call ?_
      k_dflt (refine' code_defX ?k1 ?k2 ?k3 ?k4 ?k5 ?XB ?TB ?D ?kA ?kK ?k6 ?k7 ?k8 ?k9 ?kB ?_ ?c2 ?c3 ?c4 ?c5; (case kA => exact rfl); (case kK => assumption); (case k1 => assumption); (case k2 => assumption); (case k3 => assumption); (case k4 => assumption); (case k5 => assumption); (case XB => assumption); (case TB => assumption); (case D => assumption); (case k6 => k_is); (case k7 => k_is); (case k8 => ktr_room); (case k9 => first | exact BindsTo.of_eq rfl | (refine' kp_binds ?kx ?ke; (case kx => ((with_reducible rename Fr _ _ _ _ => zkF); exact Frag.In.keeps (by k_asm) zkF.keep)); (case ke => exact fun _ => rfl))); (case c5 => decide); (case kB => exact locs rfl); (case c2 => exact rfl); (case c3 => exact rfl); (case c4 => exact rfl); k_whole; intro zg' zL' zh' zFG' zF' zN' zB' zX' zT' zD'; (try dsimp only); (try k_lift zB'); (try k_fold))
      refine gen_toks (Nat.le_add_right _ _) ?_
      intro zk7 zhk7))
  k_with "my PreSM noteFrame ref 1" => ((k_here; (with_reducible rename Heap.MadeExc _ _ _ _ _ => zmeX); k_dflt (refine' caught_new (T' := "StopIteration") (Heap.MadeExc.newExc zmeX) ?F ?N ?K ?XB ?TB ?D ?ex PyProof.Rows.Boot.«StopIteration» ?hn ?h1 ?h2 ?h3 ?_; (case F => k_asm); (case N => k_asm); (case K => assumption); (case XB => assumption); (case TB => assumption); (case D => assumption); (case ex => k_is); (case hn => decide); (case h1 => (rw [isSubtype_type]; kernel_rfl)); (case h2 => (rw [isSubtype_type]; kernel_rfl)); (case h3 => (rw [isSubtype_type]; kernel_rfl)); k_whole); intro zh' zg' zT' zF' zN' zK' zX' zP' zD'; (try k_lift zK'); (try k_sweep)))
  k_with "my startS" => ((
      refine said ?_
      w_on
      k_fill
      unfold Said
      unfold CtS))
  k_with "my gd" => (first | exact Gd.refl (by k_asm) (by k_asm) (by k_asm) (by k_asm) | exact ⟨by first | assumption | exact KtsTurn.refl, by assumption, by assumption, by assumption, by assumption⟩)
  k_with "my lay" => (first | (refine news_sub (by k_asm) ?_; k_extra "om sub") | (refine news_sub (by k_asm) ?_; intro q hq; simp only [List.mem_cons] at hq ⊢; (first | (rcases hq with rfl | rfl | rfl | rfl | rfl | rfl | rfl | rfl | hq <;> simp [*]; done) | (rcases hq with rfl | rfl | rfl | rfl | rfl | rfl | rfl | hq <;> simp [*]; done) | (rcases hq with rfl | rfl | rfl | rfl | rfl | rfl | hq <;> simp [*]; done) | (rcases hq with rfl | rfl | rfl | rfl | rfl | hq <;> simp [*]; done) | (rcases hq with rfl | rfl | rfl | rfl | hq <;> simp [*]; done) | (rcases hq with rfl | rfl | rfl | hq <;> simp [*]; done))))
  k_with "my premL" => ((
      (case k1 => k_asm); (case k2 => k_asm); (case k3 => k_asm); (case k4 => first | assumption | k_extra "my lay"); (case k5 => k_asm); (case kK => first | exact rfl | assumption); (case kd => ktr_room); (case ku => ktr_units); (case kt => k_extra "my pos")))
  k_with "my PreSM getMethod ref 6" => ((k_here; k_dflt (refine' method_slot ?k1 ?k2 ?k3 ?k4 ?k5 ?k6 ?kT ?k7 ?k8 ?k9 ?k10 ?k11 ?_; (case k1 => k_asm); (case k2 => k_asm); (case k3 => k_inst); (case k4 => k_is); (case k5 => k_is); (case k6 => k_is); (case kT => k_is); (case k7 => k_is); (case k8 => k_is); (case k9 => k_is); (case k10 => k_slotget); (case k11 => k_handed); k_whole)))
  k_with "my premS" => ((
      (case k1 => k_asm); (case k2 => k_asm); (case k3 => k_asm); (case k4 => first | assumption | k_extra "my lay"); (case k5 => k_asm); (case k6 => assumption); (case k7 => assumption); (case k8 => assumption); (case kK => first | exact rfl | assumption); (case kd => ktr_room); (case ku => ktr_units); (case kt => k_extra "my pos")))
  k_with "my young6" => (first
      | exact of_allLt (And.right (And.right (And.right (And.right (And.right (And.right (by assumption : _ ∧ _ ∧ _ ∧ _ ∧ _ ∧ _ ∧ AllLt _ _)))))))
      | exact of_allLt (And.right (And.right (And.right (And.right (And.right (And.right (And.right (by assumption : _ ∧ _ ∧ _ ∧ _ ∧ _ ∧ _ ∧ _ ∧ AllLt _ _))))))))
      | exact of_allLt (And.right (And.right (And.right (And.right (And.right (And.right (And.right (And.right (by assumption : _ ∧ _ ∧ _ ∧ _ ∧ _ ∧ _ ∧ _ ∧ _ ∧ AllLt _ _)))))))))
      | fail "my young6")
  trivial

section
theorem lines_Pu : True := by
  k_with "my Pu call builtinnext 0" => ((k_here; (with_reducible show wpAny _ _ (call (Value.builtin "next") [Value.ref _]) _ _ _); k_extra "my next"))
  trivial
local macro_rules | `(tactic| walk_at "call builtin:next") => `(tactic| k_extra "my Pu call builtinnext 0")
set_option maxHeartbeats 4000000 in
theorem pull_item (w : World) (it l : Addr) (i k : Nat) (vs : List Value) (v : Value) (o : Obj) (news : Led) (ho : IsLi l i o) (hl : (l, lsObj vs k) ∈ news) (hv : vs[i]? = some v) (h2 : ∀ q ∈ news, q.1 ≠ it) :
    Ct w 3 (.ref 42) [.ref it] [] ((it, o) :: news) (fun n n' news' r => ∃ o' D, IsLi l (i + 1) o' ∧ r = .ref D ∧ news' = (D, tpObj [.bool true, v]) :: (it, o') :: news ∧ (∀ q ∈ (it, o') :: news, @LT.lt Nat _ q.1 D)) := by
  k_extra "my start"
  intro p loose mean mg mb dp un gd cn cs a ccd cl outer A₀ base h₀ L m s Q E B F X N T hk hd hu ht hret
  k_extra "my enter"
  k_with "my next" => (
    k_dflt (refine next_item (by k_asm) (by k_asm) (.head (by k_asm)) ho (.tail _ hl) hv fun h' o' ho' F' N' => ?_))
  k_steps
  exact hret _ _ _ _ (by k_extra "my pos") (by k_asm) (by k_asm) ⟨_, _, by assumption, rfl, rfl, by k_extra "my young"⟩
set_option maxHeartbeats 4000000 in
theorem pull_end (w : World) (it l : Addr) (k : Nat) (vs : List Value) (o : Obj) (news : Led) (ho : IsLi l vs.length o) (hl : (l, lsObj vs k) ∈ news) (h2 : ∀ q ∈ news, q.1 ≠ it) :
    CtS w 3 (.ref 42) [.ref it] [] ((it, o) :: news) (fun n n' news' r => ∃ o' D, IsEd o' ∧ r = .ref D ∧ news' = (D, tpObj [.bool false, .none]) :: (it, o') :: news ∧ (∀ q ∈ (it, o') :: news, @LT.lt Nat _ q.1 D)) (fun _ _ _ => False) := by
  k_extra "my startS"
  intro p loose mean mg mb dp un gd cn cs a ccd cl outer A₀ base h₀ L m s Q E B F X N T XB TB D hk hd hu ht hret hexc
  k_extra "my enterS"
  k_with "my next" => (
    k_dflt (refine next_end rfl (by k_asm) (by k_asm) (.head (by k_asm)) ho (.tail _ hl) fun h1 o' h' e' ho' F' N' M' => ?_))
  k_steps
  refine hret ?h1 _ _ _ _ ?tk ?G ?F ?N ⟨_, _, by assumption, rfl, rfl, ?y⟩
  case F => assumption
  case N => assumption
  case G => k_extra "my gd"
  case tk => k_extra "my pos"
  case y => k_extra "my young"
set_option maxHeartbeats 4000000 in
theorem pull_ended (w : World) (it : Addr) (o : Obj) (news : Led) (ho : IsEd o) :
    CtS w 3 (.ref 42) [.ref it] [] ((it, o) :: news) (fun n n' news' r => ∃ D, r = .ref D ∧ news' = (D, tpObj [.bool false, .none]) :: (it, o) :: news ∧ (∀ q ∈ (it, o) :: news, @LT.lt Nat _ q.1 D)) (fun _ _ _ => False) := by
  k_extra "my startS"
  intro p loose mean mg mb dp un gd cn cs a ccd cl outer A₀ base h₀ L m s Q E B F X N T XB TB D hk hd hu ht hret hexc
  k_extra "my enterS"
  k_with "my next" => (
    k_dflt (refine next_ended rfl (by k_asm) (.head _) ho fun h' e' M' => ?_))
  k_steps
  refine hret ?h1 _ _ _ _ ?tk ?G ?F ?N ⟨_, rfl, rfl, ?y⟩
  case F => assumption
  case N => assumption
  case G => k_extra "my gd"
  case tk => k_extra "my pos"
  case y => k_extra "my young"
abbrev gbObj (dx : Addr) (cg : Int) (tg : Nat) (ck cv : Value) (hck hcv htk : Bool) (it kf : Value) (ser : Int) (ts : Nat) (tgt : Value) : Obj :=
  { cls := .ref 90, dict := some dx, data := .plain, slots := #[some (.int cg tg), some ck, some cv, some (.bool hck), some (.bool hcv), some (.bool htk), some it, some kf, some (.int ser ts), some tgt] }
abbrev igObj (dx tu : Addr) : Obj := { cls := .ref 233, dict := some dx, data := .plain, slots := #[some (.ref tu)] }
/-- groupby's part of the ledger -/
abbrev GL (gb gd it ig igd tu : Addr) (go io : Obj) (t0 : Nat) (R : Led) : Led := (gb, go) :: (gd, dictOf [] 0) :: (it, io) :: (ig, igObj igd tu) :: (igd, dictOf [] 0) :: (tu, tpObj [.int 0 t0]) :: R
set_option maxHeartbeats 4000000 in
theorem step_item (w : World) (gb gd it ig igd tu : Addr) (cg : Int) (tg : Nat) (ck cv : Value) (hck hcv htk : Bool) (ser : Int) (ts t0 : Nat) (tgt : Value) (l : Addr) (i k j tj : Nat) (vs : List Value) (D : Addr) (x : Value) (o : Obj) (news : Led)
    (ho : IsLi l i o) (hl : (l, lsObj vs k) ∈ news) (hv : vs[i]? = some (.ref D)) (hD : (D, tpObj [x, .int (j : Int) tj]) ∈ news) (o1 : @LT.lt Nat _ gd gb) (o2 : @LT.lt Nat _ gb it) (o3 : @LT.lt Nat _ tu gd) (o4 : @LT.lt Nat _ igd ig) (o5 : @LT.lt Nat _ ig tu) (h2 : ∀ q ∈ news, q.1 ≠ gb) (h3 : ∀ q ∈ news, q.1 ≠ it) :
    Ct w 6 (.ref 79) [.ref gb] [] (GL gb gd it ig igd tu (gbObj gd cg tg ck cv hck hcv htk (.ref it) (.ref ig) ser ts tgt) o t0 news)
      (fun n n' news' r => ∃ o', IsLi l (i + 1) o' ∧ news' = GL gb gd it ig igd tu (gbObj gd cg tg x (.ref D) true true htk (.ref it) (.ref ig) ser ts tgt) o' t0 news) := by
  k_extra "my start"
  intro p loose mean mg mb dp un gd' cn cs a ccd cl outer A₀ base h₀ L m s Q E B F X N T hk hd hu ht hret
  k_extra "my enter"
  k_with "my call" => (
    k_dflt (refine' Ct.use (pull_item w it l i k vs (.ref D) o ((gb, gbObj gd cg tg ck cv hck hcv htk (.ref it) (.ref ig) ser ts tgt) :: (gd, dictOf [] 0) :: (ig, igObj igd tu) :: (igd, dictOf [] 0) :: (tu, tpObj [.int 0 t0]) :: news) ho ?kl hv ?kn) ?k1 ?k2 ?k3 ?k4 ?k5 ?kK ?kd ?ku ?kt ?_; (case kl => k_mem); (case kn => k_all); k_extra "my premL"); (intro r9 news9 h9 tk9 T9 F9 N9 P9; obtain ⟨o9, D9, e9, e8, e7, l9⟩ := P9; subst e8; subst e7; (k_lt l9); (try dsimp only); (try k_fold)))
  k_steps
  refine hret _ _ _ _ (by k_extra "my pos") (by k_asm) ?N ⟨_, by assumption, rfl⟩
  case N => k_extra "my lay"
end
section
theorem lines_Pv : True := by
  k_with "my premS" => ((
      (case k1 => k_asm); (case k2 => k_asm); (case k3 => k_asm); (case k4 => first | assumption | k_extra "my lay"); (case k5 => k_asm); (case k6 => assumption); (case k7 => assumption); (case k8 => assumption); (case kK => first | exact rfl | assumption); (case kd => ktr_room); (case ku => ktr_units); (case kt => k_extra "my pos")))
  trivial
theorem CtS.use {w : World} {k : Nat} {f : Value} {vs : List Value} {kw : List (Str × Value)} {news : Led} {Post : Nat → Nat → Led → Value → Prop} {PostE : Nat → Nat → Led → Prop} (C : CtS w k f vs kw news Post PostE)
    {p : Program} {loose : List Str} {mean : ExcName → Option Value} {mg mb : Str → Option Value} {dp un : Nat} {gd : Option (List Code)} {cn : Str} {cs : Scope} {a : Addr} {ccd : Value} {cl : List (Str × Addr)} {outer : List Env} {A₀ : Around} {base h₀ : Heap} {L : Addr} {m : Str → Option Value} {s : Shared} {Q E : Value → Shared → Prop}
    (B : Below A₀ base outer h₀) (F : Fr h₀ L s.heap m) (X : (hd.heap_1 w.params).In h₀) (N : News h₀ L s.heap news) (T : Top p loose mean mg mb h₀) (XB : (hd.heap_1 w.params).In base) (TB : Top p loose mean mg mb base) (D : KtsDicts (frs outer) h₀) (hk : cs.kind = .function) (hd : dp + k < recursionLimit) (hu : un + 10 * k < cLine) (ht : 0 < s.toks)
    (ret : ∀ h₁ r news' h' tk', s.toks ≤ tk' → Gd w p loose mean mg mb A₀ base outer h₀ h₁ → Fr h₁ L h' m → News h₁ L h' news' → Post s.toks tk' news' r → Q r { s with heap := h', toks := tk' })
    (exc : ∀ h₁ G e t news' h' tk', s.toks ≤ tk' → Gd w p loose mean mg mb A₀ base outer h₀ h₁ → Fr h₁ L G m → G.UpToSlots h' → RaisedS base G (envX cn cs L a ccd cl :: outer) e (.type "StopIteration") t [] news' h' → PostE s.toks tk' news' → E (.ref e) { s with heap := h', toks := tk' }) :
    wpAny (model PR w) (ktrTop dp un gd cn cs L a ccd cl outer) (call f vs kw) Q E s := C _ _ _ _ _ _ _ _ _ _ _ _ _ _ _ _ _ _ _ _ _ _ B F X N T XB TB D hk hd hu ht ret exc
theorem pull_fin (w : World) (it l : Addr) (k : Nat) (vs : List Value) (o : Obj) (news : Led) (ho : IsLi l vs.length o ∨ IsEd o) (hl : (l, lsObj vs k) ∈ news) (h2 : ∀ q ∈ news, q.1 ≠ it) :
    CtS w 3 (.ref 42) [.ref it] [] ((it, o) :: news) (fun n n' news' r => ∃ o' D, IsEd o' ∧ r = .ref D ∧ news' = (D, tpObj [.bool false, .none]) :: (it, o') :: news ∧ (∀ q ∈ (it, o') :: news, @LT.lt Nat _ q.1 D)) (fun _ _ _ => False) := by
  rcases ho with ho | ho
  · exact pull_end w it l k vs o news ho hl h2
  · have C := pull_ended w it o news ho
    unfold CtS at C ⊢
    intro p loose mean mg mb dp un gd cn cs a ccd cl outer A₀ base h₀ L m s Q E B F X N T XB TB D hk hd hu ht hret hexc
    exact C p loose mean mg mb dp un gd cn cs a ccd cl outer A₀ base h₀ L m s Q E B F X N T XB TB D hk hd hu ht (fun h₁ r news' h' tk' a1 a2 a3 a4 ⟨D', e1, e2, e3⟩ => hret h₁ r news' h' tk' a1 a2 a3 a4 ⟨o, D', ho, e1, e2, e3⟩) hexc
set_option maxHeartbeats 4000000 in
theorem step_stop (w : World) (gb gd it ig igd tu : Addr) (cg : Int) (tg : Nat) (ck cv : Value) (hck hcv htk : Bool) (ser : Int) (ts t0 : Nat) (tgt : Value) (l : Addr) (k : Nat) (vs : List Value) (o : Obj) (news : Led)
    (ho : IsLi l vs.length o ∨ IsEd o) (hl : (l, lsObj vs k) ∈ news) (o1 : @LT.lt Nat _ gd gb) (o2 : @LT.lt Nat _ gb it) (o3 : @LT.lt Nat _ tu gd) (o4 : @LT.lt Nat _ igd ig) (o5 : @LT.lt Nat _ ig tu) (h2 : ∀ q ∈ news, q.1 ≠ gb) (h3 : ∀ q ∈ news, q.1 ≠ it) :
    CtS w 6 (.ref 79) [.ref gb] [] (GL gb gd it ig igd tu (gbObj gd cg tg ck cv hck hcv htk (.ref it) (.ref ig) ser ts tgt) o t0 news) (fun _ _ _ _ => False)
      (fun n n' news' => ∃ o', IsEd o' ∧ ∀ q ∈ GL gb gd it ig igd tu (gbObj gd cg tg ck cv hck hcv htk (.ref it) (.ref ig) ser ts tgt) o' t0 news, q ∈ news') := by
  k_extra "my startS"
  intro p loose mean mg mb dp un gd' cn cs a ccd cl outer A₀ base h₀ L m s Q E B F X N T XB TB D hk hd hu ht hret hexc
  k_extra "my enterS"
  k_with "my call" => (
    k_dflt (refine' CtS.use (pull_fin w it l k vs o ((gb, gbObj gd cg tg ck cv hck hcv htk (.ref it) (.ref ig) ser ts tgt) :: (gd, dictOf [] 0) :: (ig, igObj igd tu) :: (igd, dictOf [] 0) :: (tu, tpObj [.int 0 t0]) :: news) ho ?kl ?kn) ?k1 ?k2 ?k3 ?k4 ?k5 ?k6 ?k7 ?k8 ?kK ?kd ?ku ?kt ?_ (fun _ _ _ _ _ _ _ _ _ _ _ _ hf => hf.elim); (case kl => k_mem); (case kn => k_all); k_extra "my premS"); (intro g9 r9 news9 h9 tk9 T9 G9 F9 N9 P9; obtain ⟨o9, D9, e9, e8, e7, l9⟩ := P9; subst e8; subst e7; obtain ⟨KT9, B9, X9, TT9, DD9⟩ := G9; (k_lt l9); (try dsimp only); (try k_fold)))
  k_steps
  rename RaisedS _ _ _ _ _ _ _ _ _ => rS
  rename Heap.UpToSlots _ _ => uS
  obtain ⟨h₁, G, F₁, z⟩ := turn_up (w := w) (hh := g9) XB TB B (by k_asm) D KT9 (fun _ _ e => e)
  refine hexc h₁ _ _ _ _ _ _ (by k_extra "my pos") G F₁ uS rS ⟨o9, by assumption, ?_⟩
  first
    | k_extra "om sub"
    | (intro q hq
       simp only [List.mem_cons] at hq ⊢
       rcases hq with rfl | rfl | rfl | rfl | rfl | rfl | hq <;> simp [*])
set_option maxHeartbeats 4000000 in
theorem same_ct (w : World) (x x' : Value) (k k' : KV) (ts ts' : List Nat) (news : Led) (hx : KeyTok news x k ts) (hx' : KeyTok news x' k' ts') (hl : k.length = k'.length)
    (h0 : ∀ τ ∈ ts, τ ≠ 0) (h0' : ∀ τ ∈ ts', τ ≠ 0) (hc : ∀ (c τ : Nat), ts[c]? = some τ → ts'[c]? = some τ → k[c]? = k'[c]?) :
    Ct w 3 (.ref 49) [x, x'] [] news (fun n n' news' r => r = .bool (decide (k = k')) ∧ news' = news) := by
  k_extra "my start"
  intro p loose mean mg mb dp un gd' cn cs a ccd cl outer A₀ base h₀ L m s Q E B F X N T hk hd hu ht hret
  k_extra "my enter"
  k_with "my is" => (k_dflt (refine cmp_is (is_key (booked_of (by k_asm) (by k_asm)) (by k_asm) hx hx' hl h0 h0' hc fun r9 hr9 => ?_)))
  k_with "my eq" => (k_dflt (refine key_cmp (by ktr_units) (by k_asm) hx.key hx'.key hl ?_))
  k_steps
  · exact hret _ _ _ _ (by k_extra "my pos") (by k_asm) (by k_asm) ⟨by rw [decide_eq_true (hr9 (by k_asm))], rfl⟩
  · exact hret _ _ _ _ (by k_extra "my pos") (by k_asm) (by k_asm) ⟨by first | (rw [decide_eq_true (by k_asm)]) | (congr 1; symm; assumption), rfl⟩
  · exact hret _ _ _ _ (by k_extra "my pos") (by k_asm) (by k_asm) ⟨by first | (rw [decide_eq_false (by k_asm)]) | (congr 1; symm; assumption) | (congr 1; symm; simp_all; done), rfl⟩
abbrev grObj (dx gb : Addr) (tgt : Value) (num : Int) (tn : Nat) : Obj := { cls := .ref 135, dict := some dx, data := .plain, slots := #[some (.int num tn), some (.ref gb), some tgt] }
set_option maxHeartbeats 4000000 in
theorem gnext_first (w : World) (gb gd it ig igd tu : Addr) (tg ts t0 : Nat) (l : Addr) (k j tj : Nat) (vs : List Value) (D : Addr) (x : Value) (o : Obj) (news : Led)
    (hxh : handedIn x = true) (ho : IsLi l 0 o) (hl : (l, lsObj vs k) ∈ news) (hv : vs[0]? = some (.ref D)) (hD : (D, tpObj [x, .int (j : Int) tj]) ∈ news) (o1 : @LT.lt Nat _ gd gb) (o2 : @LT.lt Nat _ gb it) (o3 : @LT.lt Nat _ tu gd) (o4 : @LT.lt Nat _ igd ig) (o5 : @LT.lt Nat _ ig tu) (h2 : ∀ q ∈ news, q.1 ≠ gb) (h3 : ∀ q ∈ news, q.1 ≠ it) :
    Ct w 12 (.ref 86) [.ref gb] [] (GL gb gd it ig igd tu (gbObj gd 0 tg .none .none false false false (.ref it) (.ref ig) 0 ts .none) o t0 news)
      (fun n n' news' r => ∃ o' tg' ts' tn gr rd P, IsLi l 1 o' ∧ r = .ref P ∧ news' = (P, tpObj [x, .ref gr]) :: (gr, grObj rd gb x 1 tn) :: (rd, dictOf [] 0) :: GL gb gd it ig igd tu (gbObj gd 1 tg' x (.ref D) true true true (.ref it) (.ref ig) 1 ts' x) o' t0 news ∧ (@LT.lt Nat _ it rd ∧ @LT.lt Nat _ rd gr ∧ @LT.lt Nat _ gr P ∧ ∀ q ∈ news, @LT.lt Nat _ q.1 rd)) := by
  k_extra "my start"
  intro p loose mean mg mb dp un gd' cn cs a ccd cl outer A₀ base h₀ L m s Q E B F X N T hk hd hu ht hret
  k_extra "my enter"
  k_with "my call" => (
    k_dflt (refine' Ct.use (step_item w gb gd it ig igd tu 0 _ .none .none false false false 0 ts t0 .none l 0 k j tj vs D x o news ho hl hv hD o1 o2 o3 o4 o5 h2 h3) ?k1 ?k2 ?k3 ?k4 ?k5 ?kK ?kd ?ku ?kt ?_; k_extra "my premL"); (intro r9 news9 h9 tk9 T9 F9 N9 P9; obtain ⟨o9, e9, e8⟩ := P9; subst e8; (try dsimp only); (try k_fold)))
  k_steps
  exact hret _ _ _ _ (by k_extra "my pos") (by k_asm) (by k_asm) ⟨_, _, _, _, _, _, _, by assumption, rfl, rfl, by omega, by omega, by omega, by k_extra "my young6"⟩
set_option maxHeartbeats 4000000 in
theorem gnext_other (w : World) (gb gd it ig igd tu : Addr) (cg ser : Int) (tg ts t0 : Nat) (D : Addr) (x y : Value) (kx ky : KV) (tx ty : List Nat) (o : Obj) (news : Led)
    (hxh : handedIn x = true) (hyh : handedIn y = true) (hx : KeyTok news x kx tx) (hy : KeyTok news y ky ty) (hlen : ky.length = kx.length) (hpx : ∀ τ ∈ tx, τ ≠ 0) (hpy : ∀ τ ∈ ty, τ ≠ 0) (hc : ∀ (c τ : Nat), ty[c]? = some τ → tx[c]? = some τ → ky[c]? = kx[c]?) (hne : ky ≠ kx)
    (o1 : @LT.lt Nat _ gd gb) (o2 : @LT.lt Nat _ gb it) (o3 : @LT.lt Nat _ tu gd) (o4 : @LT.lt Nat _ igd ig) (o5 : @LT.lt Nat _ ig tu) (h2 : ∀ q ∈ news, q.1 ≠ gb) (h3 : ∀ q ∈ news, q.1 ≠ it) :
    Ct w 12 (.ref 86) [.ref gb] [] (GL gb gd it ig igd tu (gbObj gd cg tg x (.ref D) true true true (.ref it) (.ref ig) ser ts y) o t0 news)
      (fun n n' news' r => ∃ tg' ts' tn gr rd P, r = .ref P ∧ news' = (P, tpObj [x, .ref gr]) :: (gr, grObj rd gb x (ser + 1) tn) :: (rd, dictOf [] 0) :: GL gb gd it ig igd tu (gbObj gd (ser + 1) tg' x (.ref D) true true true (.ref it) (.ref ig) (ser + 1) ts' x) o t0 news ∧ (@LT.lt Nat _ it rd ∧ @LT.lt Nat _ rd gr ∧ @LT.lt Nat _ gr P ∧ ∀ q ∈ news, @LT.lt Nat _ q.1 rd)) := by
  k_extra "my start"
  intro p loose mean mg mb dp un gd' cn cs a ccd cl outer A₀ base h₀ L m s Q E B F X N T hk hd hu ht hret
  k_extra "my enter"
  k_with "my call" => (
    k_dflt (refine' Ct.use (same_ct w y x ky kx ty tx (GL gb gd it ig igd tu (gbObj gd 0 _ x (.ref D) true true true (.ref it) (.ref ig) ser ts y) o t0 news) (hy.mono ?m1) (hx.mono ?m2) hlen hpy hpx hc) ?k1 ?k2 ?k3 ?k4 ?k5 ?kK ?kd ?ku ?kt ?_; k_extra "my premL"; (case m1 => (intro q hq; simp [hq])); (case m2 => (intro q hq; simp [hq]))); (intro r9 news9 h9 tk9 T9 F9 N9 P9; obtain ⟨e9, e8⟩ := P9; rw [decide_eq_false hne] at e9; subst e9; subst e8; (try dsimp only); (try k_fold)))
  k_steps
  exact hret _ _ _ _ (by k_extra "my pos") (by k_asm) (by k_asm) ⟨_, _, _, _, _, _, rfl, rfl, by omega, by omega, by omega, by k_extra "my young6"⟩
set_option maxHeartbeats 4000000 in
theorem gnext_stop (w : World) (gb gd it ig igd tu : Addr) (cg ser : Int) (tg ts t0 : Nat) (tgt : Value) (l : Addr) (k : Nat) (vs : List Value) (o : Obj) (news : Led)
    (ho : IsLi l vs.length o ∨ IsEd o) (hl : (l, lsObj vs k) ∈ news) (o1 : @LT.lt Nat _ gd gb) (o2 : @LT.lt Nat _ gb it) (o3 : @LT.lt Nat _ tu gd) (o4 : @LT.lt Nat _ igd ig) (o5 : @LT.lt Nat _ ig tu) (h2 : ∀ q ∈ news, q.1 ≠ gb) (h3 : ∀ q ∈ news, q.1 ≠ it) :
    CtS w 12 (.ref 86) [.ref gb] [] (GL gb gd it ig igd tu (gbObj gd cg tg .none .none false false true (.ref it) (.ref ig) ser ts tgt) o t0 news) (fun _ _ _ _ => False)
      (fun n n' news' => ∀ q ∈ news, q ∈ news') := by
  k_extra "my startS"
  intro p loose mean mg mb dp un gd' cn cs a ccd cl outer A₀ base h₀ L m s Q E B F X N T XB TB D hk hd hu ht hret hexc
  k_extra "my enterS"
  k_with "my call" => (
    k_dflt (refine' CtS.use (step_stop w gb gd it ig igd tu 0 _ .none .none false false true ser ts t0 tgt l k vs o news ho hl o1 o2 o3 o4 o5 h2 h3) ?k1 ?k2 ?k3 ?k4 ?k5 ?k6 ?k7 ?k8 ?kK ?kd ?ku ?kt (fun _ _ _ _ _ _ _ _ _ hf => hf.elim) ?_; k_extra "my premS"); (intro g9 G9 e9 t9 news9 h9 tk9 T9 GG9 F9 u9 r9 P9; obtain ⟨o9, e9', P9⟩ := P9; obtain ⟨KT9, B9, X9, TT9, DD9⟩ := GG9; (try dsimp only); (try k_fold)))
  k_steps
  rename RaisedS _ _ _ _ _ _ _ _ _ => rS
  rename Heap.UpToSlots _ _ => uS
  obtain ⟨h₁, G, F₁, z⟩ := turn_up (w := w) (hh := g9) XB TB B (by k_asm) D KT9 (fun _ _ e => e)
  exact hexc h₁ _ _ _ _ _ _ (by k_extra "my pos") G F₁ uS rS (fun q hq => P9 q (by simp [hq]))
end
section
set_option maxHeartbeats 4000000 in
/-- the grouper's first value: it waits -/
theorem rnext_first (w : World) (gb gd it ig igd tu gr rd : Addr) (ser : Int) (tg ts t0 tn : Nat) (D : Addr) (x : Value) (kx : KV) (tx : List Nat) (o : Obj) (news : Led)
    (hxh : handedIn x = true) (hx : KeyTok news x kx tx) (hpx : ∀ τ ∈ tx, τ ≠ 0) (oo : @LT.lt Nat _ rd gr) (ob : @LT.lt Nat _ it rd)
    (o1 : @LT.lt Nat _ gd gb) (o2 : @LT.lt Nat _ gb it) (o3 : @LT.lt Nat _ tu gd) (o4 : @LT.lt Nat _ igd ig) (o5 : @LT.lt Nat _ ig tu) (h2 : ∀ q ∈ news, q.1 ≠ gb) (h3 : ∀ q ∈ news, q.1 ≠ it) :
    Ct w 12 (.ref 131) [.ref gr] [] ((gr, grObj rd gb x ser tn) :: (rd, dictOf [] 0) :: GL gb gd it ig igd tu (gbObj gd ser tg x (.ref D) true true true (.ref it) (.ref ig) ser ts x) o t0 news)
      (fun n n' news' r => r = .ref D ∧ news' = (gr, grObj rd gb x ser tn) :: (rd, dictOf [] 0) :: GL gb gd it ig igd tu (gbObj gd ser tg .none .none false false true (.ref it) (.ref ig) ser ts x) o t0 news) := by
  k_extra "my start"
  intro p loose mean mg mb dp un gd' cn cs a ccd cl outer A₀ base h₀ L m s Q E B F X N T hk hd hu ht hret
  k_extra "my enter"
  k_with "my call" => (
    k_dflt (refine' Ct.use (same_ct w x x kx kx tx tx ((gr, grObj rd gb x ser tn) :: (rd, dictOf [] 0) :: GL gb gd it ig igd tu (gbObj gd ser tg x (.ref D) true true true (.ref it) (.ref ig) ser ts x) o t0 news) (hx.mono ?m1) (hx.mono ?m2) rfl hpx hpx (fun _ _ _ _ => rfl)) ?k1 ?k2 ?k3 ?k4 ?k5 ?kK ?kd ?ku ?kt ?_; k_extra "my premL"; (case m1 => (intro q hq; simp [hq])); (case m2 => (intro q hq; simp [hq]))); (intro r9 news9 h9 tk9 T9 F9 N9 P9; obtain ⟨e9, e8⟩ := P9; rw [decide_eq_true rfl] at e9; subst e9; subst e8; (try dsimp only); (try k_fold)))
  k_steps
  · exfalso
    first | exact absurd rfl (by k_asm) | (have h := (by assumption : (ser != ser) = true); simp at h) | omega
  · exact hret _ _ _ _ (by k_extra "my pos") (by k_asm) (by k_asm) ⟨rfl, rfl⟩
set_option maxHeartbeats 4000000 in
/-- the grouper's next value: drawn, of the same key -/
theorem rnext_more (w : World) (gb gd it ig igd tu gr rd : Addr) (ser : Int) (tg ts t0 tn : Nat) (l : Addr) (i k j tj : Nat) (vs : List Value) (D : Addr) (x y : Value) (kx : KV) (tx ty : List Nat) (o : Obj) (news : Led)
    (hxh : handedIn x = true) (hx : KeyTok news x kx tx) (hy : KeyTok news y kx ty) (hpx : ∀ τ ∈ tx, τ ≠ 0) (hpy : ∀ τ ∈ ty, τ ≠ 0)
    (ho : IsLi l i o) (hl : (l, lsObj vs k) ∈ news) (hv : vs[i]? = some (.ref D)) (hD : (D, tpObj [x, .int (j : Int) tj]) ∈ news)
    (oo : @LT.lt Nat _ rd gr) (ob : @LT.lt Nat _ it rd)
    (o1 : @LT.lt Nat _ gd gb) (o2 : @LT.lt Nat _ gb it) (o3 : @LT.lt Nat _ tu gd) (o4 : @LT.lt Nat _ igd ig) (o5 : @LT.lt Nat _ ig tu) (h2 : ∀ q ∈ news, q.1 ≠ gb) (h3 : ∀ q ∈ news, q.1 ≠ it) :
    Ct w 12 (.ref 131) [.ref gr] [] ((gr, grObj rd gb y ser tn) :: (rd, dictOf [] 0) :: GL gb gd it ig igd tu (gbObj gd ser tg .none .none false false true (.ref it) (.ref ig) ser ts y) o t0 news)
      (fun n n' news' r => r = .ref D ∧ ∃ o', IsLi l (i + 1) o' ∧ news' = (gr, grObj rd gb y ser tn) :: (rd, dictOf [] 0) :: GL gb gd it ig igd tu (gbObj gd ser tg .none .none false false true (.ref it) (.ref ig) ser ts y) o' t0 news) := by
  k_extra "my start"
  intro p loose mean mg mb dp un gd' cn cs a ccd cl outer A₀ base h₀ L m s Q E B F X N T hk hd hu ht hret
  k_extra "my enter"
  k_with "my call" => (first
    | (k_dflt (refine' Ct.use (step_item w gb gd it ig igd tu ser tg .none .none false false true ser ts t0 y l i k j tj vs D x o ((gr, grObj rd gb y ser tn) :: (rd, dictOf [] 0) :: news) ho (.tail _ (.tail _ hl)) hv (.tail _ (.tail _ hD)) o1 o2 o3 o4 o5 ?m1 ?m2) ?k1 ?k2 ?k3 ?k4 ?k5 ?kK ?kd ?ku ?kt ?_; (case m1 => k_all); (case m2 => k_all); k_extra "my premL"); (intro r9 news9 h9 tk9 T9 F9 N9 P9; obtain ⟨o9, e9, e8⟩ := P9; subst e8; (try dsimp only); (try k_fold)))
    | (k_dflt (refine' Ct.use (same_ct w y x kx kx ty tx (GL gb gd it ig igd tu (gbObj gd ser tg x (.ref D) true true true (.ref it) (.ref ig) ser ts y) _ t0 ((gr, grObj rd gb y ser tn) :: (rd, dictOf [] 0) :: news)) (hy.mono ?m1) (hx.mono ?m2) rfl hpy hpx (fun _ _ _ _ => rfl)) ?k1 ?k2 ?k3 ?k4 ?k5 ?kK ?kd ?ku ?kt ?_; k_extra "my premL"; (case m1 => (intro q hq; simp [hq])); (case m2 => (intro q hq; simp [hq]))); (intro r8 news8 h8 tk8 T8 F8 N8 P8; obtain ⟨e7, e6⟩ := P8; rw [decide_eq_true rfl] at e7; subst e7; subst e6; (try dsimp only); (try k_fold))))
  k_steps
  · exfalso
    first | exact absurd rfl (by k_asm) | (have h := (by assumption : (ser != ser) = true); simp at h) | omega
  · refine hret _ _ _ _ (by k_extra "my pos") (by k_asm) ?N ⟨rfl, _, e9, rfl⟩
    k_extra "my lay"
set_option maxHeartbeats 4000000 in
/-- the grouper's end where the next key is another -/
theorem rnext_other (w : World) (gb gd it ig igd tu gr rd : Addr) (ser : Int) (tg ts t0 tn : Nat) (l : Addr) (i k j tj : Nat) (vs : List Value) (D : Addr) (x y : Value) (kx ky : KV) (tx ty : List Nat) (o : Obj) (news : Led)
    (hxh : handedIn x = true) (hx : KeyTok news x kx tx) (hy : KeyTok news y ky ty) (hlen : ky.length = kx.length) (hpx : ∀ τ ∈ tx, τ ≠ 0) (hpy : ∀ τ ∈ ty, τ ≠ 0) (hc : ∀ (c τ : Nat), ty[c]? = some τ → tx[c]? = some τ → ky[c]? = kx[c]?) (hne : ky ≠ kx)
    (ho : IsLi l i o) (hl : (l, lsObj vs k) ∈ news) (hv : vs[i]? = some (.ref D)) (hD : (D, tpObj [x, .int (j : Int) tj]) ∈ news)
    (oo : @LT.lt Nat _ rd gr) (ob : @LT.lt Nat _ it rd)
    (o1 : @LT.lt Nat _ gd gb) (o2 : @LT.lt Nat _ gb it) (o3 : @LT.lt Nat _ tu gd) (o4 : @LT.lt Nat _ igd ig) (o5 : @LT.lt Nat _ ig tu) (h2 : ∀ q ∈ news, q.1 ≠ gb) (h3 : ∀ q ∈ news, q.1 ≠ it) :
    CtS w 12 (.ref 131) [.ref gr] [] ((gr, grObj rd gb y ser tn) :: (rd, dictOf [] 0) :: GL gb gd it ig igd tu (gbObj gd ser tg .none .none false false true (.ref it) (.ref ig) ser ts y) o t0 news) (fun _ _ _ _ => False)
      (fun n n' news' => ∃ o', IsLi l (i + 1) o' ∧ ∀ q ∈ GL gb gd it ig igd tu (gbObj gd ser tg x (.ref D) true true true (.ref it) (.ref ig) ser ts y) o' t0 news, q ∈ news') := by
  k_extra "my startS"
  intro p loose mean mg mb dp un gd' cn cs a ccd cl outer A₀ base h₀ L m s Q E B F X N T XB TB DD hk hd hu ht hret hexc
  k_extra "my enterS"
  k_with "my call" => (first
    | (k_dflt (refine' Ct.use (step_item w gb gd it ig igd tu ser tg .none .none false false true ser ts t0 y l i k j tj vs D x o ((gr, grObj rd gb y ser tn) :: (rd, dictOf [] 0) :: news) ho (.tail _ (.tail _ hl)) hv (.tail _ (.tail _ hD)) o1 o2 o3 o4 o5 ?m1 ?m2) ?k1 ?k2 ?k3 ?k4 ?k5 ?kK ?kd ?ku ?kt ?_; (case m1 => k_all); (case m2 => k_all); k_extra "my premL"); (intro r9 news9 h9 tk9 T9 F9 N9 P9; obtain ⟨o9, e9, e8⟩ := P9; subst e8; (try dsimp only); (try k_fold)))
    | (k_dflt (refine' Ct.use (same_ct w y x ky kx ty tx (GL gb gd it ig igd tu (gbObj gd ser tg x (.ref D) true true true (.ref it) (.ref ig) ser ts y) _ t0 ((gr, grObj rd gb y ser tn) :: (rd, dictOf [] 0) :: news)) (hy.mono ?m1) (hx.mono ?m2) hlen hpy hpx hc) ?k1 ?k2 ?k3 ?k4 ?k5 ?kK ?kd ?ku ?kt ?_; k_extra "my premL"; (case m1 => (intro q hq; simp [hq])); (case m2 => (intro q hq; simp [hq]))); (intro r8 news8 h8 tk8 T8 F8 N8 P8; obtain ⟨e7, e6⟩ := P8; rw [decide_eq_false hne] at e7; subst e7; subst e6; (try dsimp only); (try k_fold))))
  k_steps
  · exfalso
    first | exact absurd rfl (by k_asm) | (have h := (by assumption : (ser != ser) = true); simp at h) | omega
  · rename RaisedS _ _ _ _ _ _ _ _ _ => rS
    rename Heap.UpToSlots _ _ => uS
    refine hexc h₀ _ _ _ _ _ _ (by k_extra "my pos") (Gd.refl B X T DD) (by k_asm) uS rS ⟨o9, by assumption, ?_⟩
    first
      | k_extra "om sub"
      | (intro q hq
         simp only [List.mem_cons] at hq ⊢
         rcases hq with rfl | rfl | rfl | rfl | rfl | rfl | hq <;> simp [*])
set_option maxHeartbeats 4000000 in
/-- the grouper's end where nothing is left -/
theorem rnext_end (w : World) (gb gd it ig igd tu gr rd : Addr) (ser : Int) (tg ts t0 tn : Nat) (l : Addr) (k : Nat) (vs : List Value) (y : Value) (o : Obj) (news : Led)
    (ho : IsLi l vs.length o ∨ IsEd o) (hl : (l, lsObj vs k) ∈ news) (oo : @LT.lt Nat _ rd gr) (ob : @LT.lt Nat _ it rd)
    (o1 : @LT.lt Nat _ gd gb) (o2 : @LT.lt Nat _ gb it) (o3 : @LT.lt Nat _ tu gd) (o4 : @LT.lt Nat _ igd ig) (o5 : @LT.lt Nat _ ig tu) (h2 : ∀ q ∈ news, q.1 ≠ gb) (h3 : ∀ q ∈ news, q.1 ≠ it) :
    CtS w 12 (.ref 131) [.ref gr] [] ((gr, grObj rd gb y ser tn) :: (rd, dictOf [] 0) :: GL gb gd it ig igd tu (gbObj gd ser tg .none .none false false true (.ref it) (.ref ig) ser ts y) o t0 news) (fun _ _ _ _ => False)
      (fun n n' news' => ∃ o', IsEd o' ∧ ∀ q ∈ GL gb gd it ig igd tu (gbObj gd ser tg .none .none false false true (.ref it) (.ref ig) ser ts y) o' t0 news, q ∈ news') := by
  k_extra "my startS"
  intro p loose mean mg mb dp un gd' cn cs a ccd cl outer A₀ base h₀ L m s Q E B F X N T XB TB DD hk hd hu ht hret hexc
  k_extra "my enterS"
  k_with "my call" => (
    k_dflt (refine' CtS.use (step_stop w gb gd it ig igd tu ser tg .none .none false false true ser ts t0 y l k vs o ((gr, grObj rd gb y ser tn) :: (rd, dictOf [] 0) :: news) ho (.tail _ (.tail _ hl)) o1 o2 o3 o4 o5 ?m1 ?m2) ?k1 ?k2 ?k3 ?k4 ?k5 ?k6 ?k7 ?k8 ?kK ?kd ?ku ?kt (fun _ _ _ _ _ _ _ _ _ hf => hf.elim) ?_; (case m1 => k_all); (case m2 => k_all); k_extra "my premS"); (intro g9 G9 e9 t9 news9 h9 tk9 T9 GG9 F9 u9 r9 P9; obtain ⟨o9, e9', P9⟩ := P9; obtain ⟨KT9, B9, X9, TT9, DD9⟩ := GG9; (try dsimp only); (try k_fold)))
  k_steps
  · exfalso
    first | exact absurd rfl (by k_asm) | (have h := (by assumption : (ser != ser) = true); simp at h) | omega
  · rename RaisedS _ _ _ _ _ _ _ _ _ => rS
    rename Heap.UpToSlots _ _ => uS
    obtain ⟨h₁, G, F₁, z⟩ := turn_up (w := w) (hh := g9) XB TB B (by k_asm) DD KT9 (fun _ _ e => e)
    refine hexc h₁ _ _ _ _ _ _ (by k_extra "my pos") G F₁ uS rS ⟨o9, e9', sub_trans ?_ P9⟩
    first
      | k_extra "om sub"
      | (intro q hq
         simp only [List.mem_cons] at hq ⊢
         rcases hq with rfl | rfl | rfl | rfl | rfl | rfl | hq <;> simp [*])
end
section
local macro_rules | `(tactic| walk_at "call ref") => `(tactic| (k_here; k_extra "my call"))
set_option maxHeartbeats 4000000 in
theorem gr_iter_ct (w : World) (c : Addr) (news : Led) : Ct w 2 (.ref 124) [.ref c] [] news (fun n n' news' r => r = .ref c ∧ news' = news) := by
  k_extra "my start"
  intro p loose mean mg mb dp un gd cn cs a ccd cl outer A₀ base h₀ L m s Q E B F X N T hk hd hu ht hret
  k_extra "my enter"
  k_steps
  exact hret _ _ _ _ (by k_extra "my pos") (by k_asm) (by k_asm) ⟨rfl, rfl⟩
set_option maxHeartbeats 4000000 in
theorem gb_iter_ct (w : World) (c : Addr) (news : Led) : Ct w 2 (.ref 72) [.ref c] [] news (fun n n' news' r => r = .ref c ∧ news' = news) := by
  k_extra "my start"
  intro p loose mean mg mb dp un gd cn cs a ccd cl outer A₀ base h₀ L m s Q E B F X N T hk hd hu ht hret
  k_extra "my enter"
  k_steps
  exact hret _ _ _ _ (by k_extra "my pos") (by k_asm) (by k_asm) ⟨rfl, rfl⟩
/-- facts of the classes, by computation -/
theorem gr_facts (w : World) : (findIn (hd.heap_1 w.params) (.ref 135) "__iter__" = some (some (.ref 124)) ∧ isFn (hd.heap_1 w.params) (.ref 124) = true) ∧ (findIn (hd.heap_1 w.params) (.ref 135) "__next__" = some (some (.ref 131)) ∧ isFn (hd.heap_1 w.params) (.ref 131) = true) ∧
    findIn (hd.heap_1 w.params) (.ref 135) "__len__" = some none ∧ findIn (hd.heap_1 w.params) (.ref 135) "__length_hint__" = some none := by
  refine said ?_
  w_on
  k_fill
  unfold Said
  refine ⟨⟨?_, ?_⟩, ⟨?_, ?_⟩, ?_, ?_⟩ <;> k_is
theorem gb_facts (w : World) : (findIn (hd.heap_1 w.params) (.ref 90) "__iter__" = some (some (.ref 72)) ∧ isFn (hd.heap_1 w.params) (.ref 72) = true) ∧ (findIn (hd.heap_1 w.params) (.ref 90) "__next__" = some (some (.ref 86)) ∧ isFn (hd.heap_1 w.params) (.ref 86) = true) := by
  refine said ?_
  w_on
  k_fill
  unfold Said
  refine ⟨⟨?_, ?_⟩, ⟨?_, ?_⟩⟩ <;> k_is
theorem KeyTok.handed {R : Led} {x : Value} {k : KV} {ts : List Nat} (h : KeyTok R x k ts) : handedIn x = true := by
  cases h <;> rfl
/-- a list of tuples, each a key and a place, told place by place -/
structure SeqD (R : Led) (SL : Addr) (n ℓ : Nat) (vs : List Value) (Ds : Nat → Addr) (xs : Nat → Value) (ks : Nat → KV) (tks : Nat → List Nat) (ix : Nat → Nat) : Prop where
  len : vs.length = n
  list : ∃ c, (SL, lsObj vs c) ∈ R
  item : ∀ j, j < n → vs[j]? = some (.ref (Ds j))
  tup : ∀ j, j < n → ∃ t, (Ds j, tpObj [xs j, .int (ix j : Nat) t]) ∈ R
  key : ∀ j, j < n → KeyTok R (xs j) (ks j) (tks j)
  pos : ∀ j, j < n → ∀ τ ∈ tks j, τ ≠ 0
  same : ∀ i j c τ : Nat, i < n → j < n → (tks i)[c]? = some τ → (tks j)[c]? = some τ → (ks i)[c]? = (ks j)[c]?
  klen : ∀ j, j < n → (ks j).length = ℓ
theorem SeqD.mono {R R' : Led} {SL : Addr} {n ℓ : Nat} {vs : List Value} {Ds : Nat → Addr} {xs : Nat → Value} {ks : Nat → KV} {tks : Nat → List Nat} {ix : Nat → Nat} (h : SeqD R SL n ℓ vs Ds xs ks tks ix) (hs : ∀ q ∈ R, q ∈ R') : SeqD R' SL n ℓ vs Ds xs ks tks ix :=
  ⟨h.len, by obtain ⟨c, hc⟩ := h.list; exact ⟨c, hs _ hc⟩, h.item, fun j hj => by obtain ⟨t, ht⟩ := h.tup j hj; exact ⟨t, hs _ ht⟩, fun j hj => (h.key j hj).mono hs, h.pos, h.same, h.klen⟩
/-- a group: the places from a to b hold one key, place b another -/
structure Grp (n : Nat) (ks : Nat → KV) (a b : Nat) : Prop where
  lt : a < b
  le : b ≤ n
  eq : ∀ j, a ≤ j → j < b → ks j = ks a
  ne : b < n → ks b ≠ ks a
section
variable (gb gd it ig igd tu gr rd SL : Addr) (ser : Int) (tg ts t0 tn : Nat) (Ds : Nat → Addr) (xs : Nat → Value) (n a b : Nat)
/-- the ledger's part of groupby and grouper ahead of the group's value i -/
def GrW (i : Nat) (pre : Led) : Prop := ∃ o,
  (i = 0 ∧ IsLi SL (a + 1) o ∧ pre = (gr, grObj rd gb (xs a) ser tn) :: (rd, dictOf [] 0) :: GL gb gd it ig igd tu (gbObj gd ser tg (xs a) (.ref (Ds a)) true true true (.ref it) (.ref ig) ser ts (xs a)) o t0 []) ∨
  (0 < i ∧ IsLi SL (a + i) o ∧ pre = (gr, grObj rd gb (xs a) ser tn) :: (rd, dictOf [] 0) :: GL gb gd it ig igd tu (gbObj gd ser tg .none .none false false true (.ref it) (.ref ig) ser ts (xs a)) o t0 [])
def GrE (pre : Led) : Prop := ∃ o,
  (b < n ∧ IsLi SL (b + 1) o ∧ pre = GL gb gd it ig igd tu (gbObj gd ser tg (xs b) (.ref (Ds b)) true true true (.ref it) (.ref ig) ser ts (xs a)) o t0 []) ∨
  (b = n ∧ IsEd o ∧ pre = GL gb gd it ig igd tu (gbObj gd ser tg .none .none false false true (.ref it) (.ref ig) ser ts (xs a)) o t0 [])
end
theorem lt_of5 {a b c d e : Nat} (h1 : b < a) (h2 : c < b) (h3 : d < c) (h4 : e < d) : e < a := by omega
set_option maxHeartbeats 1000000 in
theorem grouper_it (w : World) (gb gd it ig igd tu gr rd SL : Addr) (ser : Int) (tg ts t0 tn : Nat) {n ℓ a b : Nat} {vs : List Value} {Ds : Nat → Addr} {xs : Nat → Value} {ks : Nat → KV} {tks : Nat → List Nat} {ix : Nat → Nat} (G : Grp n ks a b)
    (oo : @LT.lt Nat _ rd gr) (ob : @LT.lt Nat _ it rd) (o1 : @LT.lt Nat _ gd gb) (o2 : @LT.lt Nat _ gb it) (o3 : @LT.lt Nat _ tu gd) (o4 : @LT.lt Nat _ igd ig) (o5 : @LT.lt Nat _ ig tu)
    {p : Program} {loose : List Str} {mean : ExcName → Option Value} {mg mb : Str → Option Value} {dp un : Nat} {gdc : Option (List Code)} {cn : Str} {cs : Scope} {ac : Addr} {ccd : Value} {cl : List (Str × Addr)} {outer : List Env} {A₀ : Around} {base h₀ : Heap} {L : Addr} {m : Str → Option Value}
    (B : Below A₀ base outer h₀) (X : (hd.heap_1 w.params).In h₀) (T : Top p loose mean mg mb h₀) (XB : (hd.heap_1 w.params).In base) (TB : Top p loose mean mg mb base) (D : KtsDicts (frs outer) h₀) (hk : cs.kind = .function) (hd' : dp + 12 < recursionLimit) (hu : un + 130 < cLine) :
    OwnIt w p loose mean mg mb (ktrTop dp un gdc cn cs L ac ccd cl outer) A₀ base h₀ outer L m gr (b - a) (gr + 1) ((List.range (b - a)).map fun i => .ref (Ds (a + i)))
      (GrW gb gd it ig igd tu gr rd SL ser tg ts t0 tn Ds xs a) (GrE gb gd it ig igd tu SL ser tg ts t0 Ds xs n a b) (fun R => SeqD R SL n ℓ vs Ds xs ks tks ix ∧ (∀ q ∈ R, q.1 ≠ gb) ∧ ∀ q ∈ R, q.1 ≠ it) := by
  obtain ⟨⟨fi1, fi2⟩, ⟨fn1, fn2⟩, _, _⟩ := gr_facts w
  have hab := G.lt
  have hbn := G.le
  refine ⟨?_, ?_, ?_, ?_⟩
  · rintro i pre R s Q E c hi hc ⟨o, (⟨rfl, ho, rfl⟩ | ⟨hi0, ho, rfl⟩)⟩ ⟨S, hR1, hR2⟩ F N ht k
    · have I := InstAt.of_news N (.head _) (.tail _ (.head _))
      refine owit_next F X I fn1 fn2 ?_
      obtain ⟨t, hD⟩ := S.tup a (by omega)
      refine Ct.use (rnext_first w gb gd it ig igd tu gr rd ser tg ts t0 tn (Ds a) (xs a) (ks a) (tks a) o R (S.key a (by omega)).handed (S.key a (by omega)) (S.pos a (by omega)) oo ob o1 o2 o3 o4 o5 hR1 hR2) (un := un + c) B F X N T hk hd' (by omega) ht ?_
      rintro r news' h' tk' htk F' N' ⟨rfl, rfl⟩
      refine k _ ((gr, grObj rd gb (xs a) ser tn) :: (rd, dictOf [] 0) :: GL gb gd it ig igd tu (gbObj gd ser tg .none .none false false true (.ref it) (.ref ig) ser ts (xs a)) o t0 []) _ _ htk ⟨o, .inr ⟨Nat.one_pos, ho, rfl⟩⟩ ?_ F' N'
      rw [List.getElem?_map, List.getElem?_range (by omega)]; rfl
    · have I := InstAt.of_news N (.head _) (.tail _ (.head _))
      refine owit_next F X I fn1 fn2 ?_
      obtain ⟨t, hD⟩ := S.tup (a + i) (by omega)
      obtain ⟨c', hl⟩ := S.list
      have ek : ks (a + i) = ks a := G.eq (a + i) (by omega) (by omega)
      have K := S.key (a + i) (by omega)
      rw [ek] at K
      refine Ct.use (rnext_more w gb gd it ig igd tu gr rd ser tg ts t0 tn SL (a + i) c' (ix (a + i)) t vs (Ds (a + i)) (xs (a + i)) (xs a) (ks a) (tks (a + i)) (tks a) o R K.handed K (S.key a (by omega)) (S.pos _ (by omega)) (S.pos a (by omega)) ho hl (S.item _ (by omega)) hD oo ob o1 o2 o3 o4 o5 hR1 hR2) (un := un + c) B F X N T hk hd' (by omega) ht ?_
      rintro r news' h' tk' htk F' N' ⟨rfl, o', ho', rfl⟩
      refine k _ ((gr, grObj rd gb (xs a) ser tn) :: (rd, dictOf [] 0) :: GL gb gd it ig igd tu (gbObj gd ser tg .none .none false false true (.ref it) (.ref ig) ser ts (xs a)) o' t0 []) _ _ htk ⟨o', .inr ⟨Nat.succ_pos _, ho', rfl⟩⟩ ?_ F' N'
      rw [List.getElem?_map, List.getElem?_range (by omega)]; rfl
  · rintro pre R s Q E c hc ⟨o, (⟨h0, _, _⟩ | ⟨hi0, ho, rfl⟩)⟩ ⟨S, hR1, hR2⟩ F N ht k
    · omega
    · have I := InstAt.of_news N (.head _) (.tail _ (.head _))
      refine owit_next F X I fn1 fn2 ?_
      obtain ⟨c', hl⟩ := S.list
      rw [show a + (b - a) = b by omega] at ho
      by_cases hb : b < n
      · obtain ⟨t, hD⟩ := S.tup b hb
        refine CtS.use (rnext_other w gb gd it ig igd tu gr rd ser tg ts t0 tn SL b c' (ix b) t vs (Ds b) (xs b) (xs a) (ks b) (ks a) (tks b) (tks a) o R (S.key b hb).handed (S.key b hb) (S.key a (by omega)) (by rw [S.klen b hb, S.klen a (by omega)]) (S.pos b hb) (S.pos a (by omega)) (fun c τ h1 h2 => S.same a b c τ (by omega) hb h1 h2) (fun e => G.ne hb e.symm) ho hl (S.item b hb) hD oo ob o1 o2 o3 o4 o5 hR1 hR2) (un := un + c) B F X N T XB TB D hk hd' (by omega) ht (fun _ _ _ _ _ _ _ _ _ hf => hf.elim) ?_
        rintro h₁ G' e t news' h' tk' htk GG F' hsm RR ⟨o', ho', P'⟩
        refine owit_stopS XB TB RR hsm F' GG.self fun g' GG' F2 N2 => ?_
        refine k g' (GL gb gd it ig igd tu (gbObj gd ser tg (xs b) (.ref (Ds b)) true true true (.ref it) (.ref ig) ser ts (xs a)) o' t0 []) _ _ htk ⟨o', .inl ⟨hb, ho', rfl⟩⟩ (GG.trans GG') F2 (news_sub N2 (sub_trans ?_ P'))
        first
          | k_extra "om sub"
          | (intro q hq
             simp only [List.mem_append, List.mem_cons, List.not_mem_nil, or_false] at hq
             simp only [List.mem_cons]
             rcases hq with (rfl | rfl | rfl | rfl | rfl | rfl) | hq <;> simp [*])
      · have hb : b = n := by omega
        subst hb
        rw [show b = vs.length from S.len.symm] at ho
        refine CtS.use (rnext_end w gb gd it ig igd tu gr rd ser tg ts t0 tn SL c' vs (xs a) o R (.inl ho) hl oo ob o1 o2 o3 o4 o5 hR1 hR2) (un := un + c) B F X N T XB TB D hk hd' (by omega) ht (fun _ _ _ _ _ _ _ _ _ hf => hf.elim) ?_
        rintro h₁ G' e t news' h' tk' htk GG F' hsm RR ⟨o', ho', P'⟩
        refine owit_stopS XB TB RR hsm F' GG.self fun g' GG' F2 N2 => ?_
        refine k g' (GL gb gd it ig igd tu (gbObj gd ser tg .none .none false false true (.ref it) (.ref ig) ser ts (xs a)) o' t0 []) _ _ htk ⟨o', .inr ⟨rfl, ho', rfl⟩⟩ (GG.trans GG') F2 (news_sub N2 (sub_trans ?_ P'))
        first
          | k_extra "om sub"
          | (intro q hq
             simp only [List.mem_append, List.mem_cons, List.not_mem_nil, or_false] at hq
             simp only [List.mem_cons]
             rcases hq with (rfl | rfl | rfl | rfl | rfl | rfl) | hq <;> simp [*])
  · rintro i pre ⟨o, (⟨_, _, rfl⟩ | ⟨_, _, rfl⟩)⟩ q hq <;>
    · simp only [List.mem_cons, List.not_mem_nil, or_false] at hq
      rcases hq with rfl | rfl | rfl | rfl | rfl | rfl | rfl | rfl <;> dsimp only <;> omega
  · rintro pre ⟨o, (⟨_, _, rfl⟩ | ⟨_, _, rfl⟩)⟩ q hq <;>
    · simp only [List.mem_cons, List.not_mem_nil, or_false] at hq
      rcases hq with rfl | rfl | rfl | rfl | rfl | rfl <;> dsimp only <;> omega
end
section
open PySem PySem.W PySem.Calls PyProof.Rows PySem.Spec
/-- a call that needs tokens from `lo` on; the ground may be turned; nothing flies out -/
def CtR (w : World) (lo k : Nat) (f : Value) (vs : List Value) (kw : List (Str × Value)) (news : Led) (Post : Nat → Nat → Led → Value → Prop) : Prop :=
  ∀ (p : Program) (loose : List Str) (mean : ExcName → Option Value) (mg mb : Str → Option Value) (dp un : Nat) (gd : Option (List Code)) (cn : Str) (cs : Scope) (a : Addr) (ccd : Value) (cl : List (Str × Addr)) (outer : List Env) (A₀ : Around) (base h₀ : Heap) (L : Addr) (m : Str → Option Value) (s : Shared) (Q E : Value → Shared → Prop),
    Below A₀ base outer h₀ → Fr h₀ L s.heap m → (hd.heap_1 w.params).In h₀ → News h₀ L s.heap news → Top p loose mean mg mb h₀ → (hd.heap_1 w.params).In base → Top p loose mean mg mb base → KtsDicts (frs outer) h₀ → cs.kind = .function → dp + k < recursionLimit → un + 10 * k < cLine → 0 < s.toks → lo ≤ s.toks →
    (∀ h₁ r news' h' tk', s.toks ≤ tk' → Gd w p loose mean mg mb A₀ base outer h₀ h₁ → Fr h₁ L h' m → News h₁ L h' news' → Post s.toks tk' news' r → Q r { s with heap := h', toks := tk' }) →
    wpAny (model PR w) (ktrTop dp un gd cn cs L a ccd cl outer) (call f vs kw) Q E s
theorem CtR.use {w : World} {lo k : Nat} {f : Value} {vs : List Value} {kw : List (Str × Value)} {news : Led} {Post : Nat → Nat → Led → Value → Prop} (C : CtR w lo k f vs kw news Post)
    {p : Program} {loose : List Str} {mean : ExcName → Option Value} {mg mb : Str → Option Value} {dp un : Nat} {gd : Option (List Code)} {cn : Str} {cs : Scope} {a : Addr} {ccd : Value} {cl : List (Str × Addr)} {outer : List Env} {A₀ : Around} {base h₀ : Heap} {L : Addr} {m : Str → Option Value} {s : Shared} {Q E : Value → Shared → Prop}
    (B : Below A₀ base outer h₀) (F : Fr h₀ L s.heap m) (X : (hd.heap_1 w.params).In h₀) (N : News h₀ L s.heap news) (T : Top p loose mean mg mb h₀) (XB : (hd.heap_1 w.params).In base) (TB : Top p loose mean mg mb base) (D : KtsDicts (frs outer) h₀) (hk : cs.kind = .function) (hd : dp + k < recursionLimit) (hu : un + 10 * k < cLine) (ht : 0 < s.toks) (hlo : lo ≤ s.toks)
    (ret : ∀ h₁ r news' h' tk', s.toks ≤ tk' → Gd w p loose mean mg mb A₀ base outer h₀ h₁ → Fr h₁ L h' m → News h₁ L h' news' → Post s.toks tk' news' r → Q r { s with heap := h', toks := tk' }) :
    wpAny (model PR w) (ktrTop dp un gd cn cs L a ccd cl outer) (call f vs kw) Q E s := C _ _ _ _ _ _ _ _ _ _ _ _ _ _ _ _ _ _ _ _ _ _ B F X N T XB TB D hk hd hu ht hlo ret
section
variable {w : World} {p : Program} {loose : List Str} {mean : ExcName → Option Value} {mg mb : Str → Option Value} {A A₀ : Around} {base h₀ : Heap} {outer : List Env} {L I : Addr} {E : Value → Shared → Prop} {s : Shared} {env : Env}
/-- the end of a turn of a for whose ground may turn -/
def TurnG (w : World) (p : Program) (loose : List Str) (mean : ExcName → Option Value) (mg mb : Str → Option Value) (A₀ : Around) (base h₀ : Heap) (outer : List Env) (L : Addr) (s₀ : Shared) (J : Nat → Nat → (Str → Option Value) → Led → Prop) (a : Nat) (s : Shared) : Prop :=
  ∃ a' g m led, a < a' ∧ J a' s.toks m led ∧ Gd w p loose mean mg mb A₀ base outer h₀ g ∧ Fr g L s.heap m ∧ News g L s.heap led ∧ s₀.toks ≤ s.toks ∧ s = { s₀ with heap := s.heap, toks := s.toks }
theorem TurnG.intro {J : Nat → Nat → (Str → Option Value) → Led → Prop} {a a' k : Nat} {g h : Heap} {m : Str → Option Value} {led : Led} (ha : a < a') (hJ : J a' k m led) (G : Gd w p loose mean mg mb A₀ base outer h₀ g) (F : Fr g L h m) (N : News g L h led) (hk : s.toks ≤ k) :
    TurnG w p loose mean mg mb A₀ base h₀ outer L s J a { s with heap := h, toks := k } := ⟨a', g, m, led, ha, hJ, G, F, N, hk, rfl⟩
/-- what a draw of a for hands on -/
def ForItem (w : World) (A : Around) (target : Expr) (I : Addr) (env : Env) (body : List Stmt) (Q : Flow → Shared → Prop) (rest : Shared → Prop) (E : Value → Shared → Prop) (r : Option Value) (s₁ : Shared) : Prop :=
  ∃ v, r = some v ∧ wpAny (model PR w) A (letOwnedTupleGo target (.ref I) v) (fun _ s₂ => wpAny (model PR w) A (assign target env v) (fun _ s₃ => wpAny (model PR w) A (execs body env) (WFlow Q rest) E s₃) E s₂) E s₁
def ForFin (Q : Flow → Shared → Prop) (r : Option Value) (s₁ : Shared) : Prop := r = none ∧ Q .next s₁
theorem for_gd {target : Expr} {body : List Stmt} {Q : Flow → Shared → Prop} {m : Str → Option Value} {led : Led} {n : Nat} (J : Nat → Nat → (Str → Option Value) → Led → Prop)
    (F : Fr h₀ L s.heap m) (N : News h₀ L s.heap led) (G : Gd w p loose mean mg mb A₀ base outer h₀ h₀) (h0 : J 0 s.toks m led) (hle : ∀ a k m led, J a k m led → a ≤ n)
    (turn : ∀ a g m led h k, s.toks ≤ k → a < n → J a k m led → Gd w p loose mean mg mb A₀ base outer h₀ g → Fr g L h m → News g L h led →
      wpAny (model PR w) A (pyNext (.ref I)) (ForItem w A target I env body Q (TurnG w p loose mean mg mb A₀ base h₀ outer L s J a) E) E { s with heap := h, toks := k })
    (fin : ∀ g m led h k, s.toks ≤ k → J n k m led → Gd w p loose mean mg mb A₀ base outer h₀ g → Fr g L h m → News g L h led → wpAny (model PR w) A (pyNext (.ref I)) (ForFin Q) E { s with heap := h, toks := k })
    (hE : PassesOwn (model PR w) A env E := by passes_own) :
    codeAny (model PR w) A (.forLoop target (.ref I) body [] env) (fun r s' => match r with | .ok f => Q f s' | .error e => cameBackBy (model PR w) A env E e s') s := by
  refine codeAny_forLoop_any (fun c s' => ∃ a g m led, c = n - a ∧ a ≤ n ∧ J a s'.toks m led ∧ Gd w p loose mean mg mb A₀ base outer h₀ g ∧ Fr g L s'.heap m ∧ News g L s'.heap led ∧ s.toks ≤ s'.toks ∧ s' = { s with heap := s'.heap, toks := s'.toks }) (fun c s' hI => ?_) n
    ⟨0, h₀, m, led, rfl, Nat.zero_le _, h0, G, F, N, Nat.le_refl _, rfl⟩
  obtain ⟨a, g, m', led', rfl, ha, hJ, G', F', N', hk, e⟩ := hI
  by_cases han : a < n
  · have t := turn a g m' led' s'.heap s'.toks hk han hJ G' F' N'
    rw [← e] at t
    refine wpAny_passesOwn hE (wpAny_mono t (fun r s₁ h₁ => ?_) fun _ _ z => z)
    obtain ⟨v, rfl, h₁⟩ := h₁
    refine wpAny_passesOwn hE (wpAny_mono h₁ (fun _ s₂ h₂ => ?_) fun _ _ z => z)
    refine wpAny_passesOwn hE (wpAny_mono h₂ (fun _ s₃ h₃ => ?_) fun _ _ z => z)
    refine wpAny_passesOwn hE (wpAny_mono h₃ (fun f s₄ h₄ => ?_) fun _ _ z => z)
    cases f with
    | next => obtain ⟨a', g, m3, led3, a1, a2, a3, a4, a5, a6, a7⟩ := h₄; have := hle _ _ _ _ a2; exact ⟨n - a', by omega, a', g, m3, led3, rfl, this, a2, a3, a4, a5, a6, a7⟩
    | cont => obtain ⟨a', g, m3, led3, a1, a2, a3, a4, a5, a6, a7⟩ := h₄; have := hle _ _ _ _ a2; exact ⟨n - a', by omega, a', g, m3, led3, rfl, this, a2, a3, a4, a5, a6, a7⟩
    | brk => exact h₄
    | ret v => exact h₄
  · obtain rfl : a = n := by omega
    have t := fin g m' led' s'.heap s'.toks hk hJ G' F' N'
    rw [← e] at t
    refine wpAny_passesOwn hE (wpAny_mono t (fun r s₁ h₁ => ?_) fun _ _ z => z)
    obtain ⟨rfl, h₁⟩ := h₁
    exact wpAny_execs_nil h₁
end
section
variable {w : World} {A : Around} {E : Value → Shared → Prop} {h₀ : Heap} {L : Addr} {m : Str → Option Value} {R : Led} {li T mo dx cn TI TO z dl S : Addr}
/-- the ledger as the walk lays it out -/
theorem sorted_zipW {s : Shared} {kf : Value} {cb b : Bool} {u t n0 ℓ : Nat} {o : Obj} {vs : List Value} {need : Led} {kp : Str → KV} {P : Nat → Str} {TT : Nat → Nat} {Q : Value → Shared → Prop}
    (N : News h₀ L s.heap ((z, zipObj .none false TI TO) :: (TO, tpObj [.none, .none]) :: (TI, tpObj [.ref mo, .ref cn]) :: (cn, ({ cls := .ref 188, dict := some dx, data := .plain, slots := #[some (.int ((0 : Nat) : Int) t), some (.bool cb), some (.int 1 u)] } : Obj)) :: (dx, dictOf [] 0) :: (mo, mapObj T kf) :: (T, tpObj [.ref li]) :: (li, o) :: R))
    (O : ZOrd li T mo dx cn TI TO z) (hA : A.handled = none) (hu : A.units + 3 < cLine) (X : (hd.heap_1 w.params).In h₀) (hR : ∀ q ∈ R, @LT.lt Nat _ q.1 li) (hdl : (dl, lsObj vs n0) ∈ R) (hneed : ∀ q ∈ need, q ∈ R) (h1 : 1 ≤ vs.length) (h6 : vs.length ≤ 6) (ht : 0 < s.toks)
    (hv : ∀ i, i < vs.length → vs[i]? = some (.str (P i) (TT i))) (hT : ∀ i, i < vs.length → TT i < s.toks ∧ TT i ≠ 0) (hc : ∀ i j, i < vs.length → j < vs.length → TT i = TT j → P i = P j) (hkl : ∀ i, i < vs.length → (kp (P i)).length = ℓ)
    (key : ∀ v ∈ vs, KeyRuns w A.in1.in1 h₀ L m kf v need (KK kp v)) (cnt : CntRuns w A.in1.in1 h₀ L m cn dx)
    (F : Fr h₀ L s.heap m) (ho : IsLi dl 0 o)
    (h : ∀ (q : List Nat) ds R' SL c tk h' tk', s.toks ≤ tk' → Fr h₀ L h' m → News h₀ L h' ((SL, lsObj ((katRev b q).map fun i => (ds.map fun d => Value.ref d.1).getD i Value.none) c) :: R') → Drawn R' vs.length (fun i => kp (P i)) ds tk →
      (∀ p ∈ R', @LT.lt Nat _ p.1 SL) → (∀ q ∈ R, q ∈ R') → (∀ q ∈ R', q ∈ R ∨ @LT.lt Nat _ z q.1) → @LT.lt Nat _ z SL → q.Perm (List.range vs.length) → q.Pairwise (fun i j => tLt (kp (P i)) (kp (P j)) i j = true) → Q (.ref SL) { s with heap := h', toks := tk' }) :
    wpAny (model PR w) A (call (.builtin "sorted") [.ref z] [(Str.ofString "reverse", .bool b)]) Q E s :=
  sorted_zip (t := t) (u := u) (cb := cb) O hA hu X hR hdl hneed h1 h6 ht hv hT hc hkl key cnt F (news_sub N (by first | k_extra "om sub" | (intro q hq; simp only [List.mem_cons] at hq ⊢; rcases hq with rfl | rfl | rfl | rfl | rfl | rfl | rfl | rfl | hq <;> simp [*]))) ho h
end
theorem katRev_len {α : Type} {b : Bool} {l : List α} : (katRev b l).length = l.length := by
  cases b <;> simp [katRev]
theorem katRev_mem {α : Type} {b : Bool} {l : List α} {x : α} : x ∈ katRev b l ↔ x ∈ l := by
  cases b <;> simp [katRev]
theorem seqd_of {R : Led} {n ℓ c : Nat} {kf : Nat → KV} {ds : List (Addr × Value × Nat)} {tk : Nat → List Nat} {q : List Nat} {b : Bool} {SL : Addr} (D : Drawn R n kf ds tk) (hq : q.Perm (List.range n)) (hl : ∀ i, i < n → (kf i).length = ℓ) :
    ∃ vq Ds xs, ((katRev b q).map fun i => (ds.map fun d => Value.ref d.1).getD i Value.none) = vq ∧ SeqD ((SL, lsObj vq c) :: R) SL n ℓ vq Ds xs (fun j => kf ((katRev b q).getD j 0)) (fun j => tk ((katRev b q).getD j 0)) (fun j => (katRev b q).getD j 0) := by
  have hn : (katRev b q).length = n := by rw [katRev_len, hq.length_eq, List.length_range]
  have hm : ∀ j, j < n → (katRev b q).getD j 0 < n := fun j hj => by
    have : (katRev b q).getD j 0 ∈ katRev b q := by rw [List.getD_eq_getElem?_getD, List.getElem?_eq_getElem (by omega)]; exact List.getElem_mem _
    exact List.mem_range.mp (hq.mem_iff.mp (katRev_mem.mp this))
  refine ⟨_, fun j => (ds.getD ((katRev b q).getD j 0) (0, .none, 0)).1, fun j => (ds.getD ((katRev b q).getD j 0) (0, .none, 0)).2.1, rfl, ⟨by rw [List.length_map, hn], ⟨c, .head _⟩, fun j hj => ?_, fun j hj => ?_, fun j hj => ?_, fun j hj => D.pos _ (hm j hj), fun i j c τ hi hj => D.same _ _ c τ (hm i hi) (hm j hj), fun j hj => hl _ (hm j hj)⟩⟩
  · have e : (katRev b q)[j]? = some ((katRev b q).getD j 0) := by rw [List.getD_eq_getElem?_getD, List.getElem?_eq_getElem (by omega)]; rfl
    have h := hm j hj
    generalize (katRev b q).getD j 0 = i at e h ⊢
    rw [List.getElem?_map, e]
    obtain ⟨D', x, t, a1, a2, a3⟩ := D.at_ i h
    simp [a1]
  · have h := hm j hj
    generalize (katRev b q).getD j 0 = i at h ⊢
    obtain ⟨D', x, t, a1, a2, a3⟩ := D.at_ i h
    exact ⟨t, List.mem_cons_of_mem _ (by simpa [a1] using a2)⟩
  · have h := hm j hj
    generalize (katRev b q).getD j 0 = i at h ⊢
    obtain ⟨D', x, t, a1, a2, a3⟩ := D.at_ i h
    simpa [a1] using a3.mono (fun q hq => List.Mem.tail _ hq)
section
variable {prog : Program} {w : World} {A : Around} {E : Value → Shared → Prop} {s : Shared} {h₀ : Heap} {L l : Addr} {m : Str → Option Value} {news : Led}
theorem len_led {vs : List Value} {c : Nat} {Q : Value → Shared → Prop} (N : News h₀ L s.heap news) (hl : (l, lsObj vs c) ∈ news) (hn : vs.length ≤ 1000) (h : ∀ tk, s.toks ≤ tk → Q (.int (vs.length : Nat) (s.toks + 1)) { s with toks := s.toks + 1 + 1 }) :
    wpAny (model prog w) A (call (.builtin "len") [.ref l]) Q E s :=
  len_list (items := vs.toArray) ⟨_, (N _ hl).1, rfl, c, rfl⟩ (by rw [List.size_toArray]; omega) (by rw [List.size_toArray]; exact h _ (Nat.le_refl _))
theorem foldl_rep {α : Type} (x : α) : ∀ (n : Nat) (a : Array α), List.foldl (fun x1 x2 => x1 ++ x2) a (List.replicate n #[x]) = a ++ (List.replicate n x).toArray
  | 0, a => by simp
  | n + 1, a => by
    rw [List.replicate_succ, List.foldl_cons, foldl_rep x n]
    apply Array.ext'
    simp [List.replicate_succ]
theorem mul_led {x : Value} {k n : Nat} {u : Tok} {Q : Value → Shared → Prop} (F : Fr h₀ L s.heap m) (N : News h₀ L s.heap news) (hl : (l, lsObj [x] k) ∈ news) (hn : n ≤ 1000)
    (h : ∀ D h', Fr h₀ L h' m → News h₀ L h' ((D, lsObj (List.replicate n x) 0) :: news) → (∀ q ∈ news, @LT.lt Nat _ q.1 D) → Q (.ref D) { s with heap := h' }) :
    wpAny (model prog w) A (binaryOp .Mult (.ref l) (.int (n : Nat) u)) Q E s := by
  refine mul_list F N (N _ hl).1 (by omega) (by omega) (by simp; omega) fun h' F' N' => h _ h' F' ?_ fun q hq => Heap.lt_size (N q hq).1
  have e : List.foldl (fun x1 x2 => x1 ++ x2) #[] (List.replicate (if (([x] : List Value).toArray).isEmpty = true then 0 else (n : Int).toNat) [x].toArray) = (List.replicate n x).toArray := by
    rw [if_neg (by simp), Int.toNat_natCast]
    exact (foldl_rep x n #[]).trans (by simp)
  rw [e] at N'
  exact N'
theorem iter_led {vs : List Value} {c : Nat} {Q : Value → Shared → Prop} (F : Fr h₀ L s.heap m) (N : News h₀ L s.heap news) (hl : (l, lsObj vs c) ∈ news)
    (h : ∀ I h', Fr h₀ L h' m → News h₀ L h' ((I, liObj l 0) :: news) → (∀ q ∈ news, q.1 < I) → Q (.ref I) { s with heap := h' }) : wpAny (model prog w) A (call (.builtin "iter") [.ref l]) Q E s := by
  refine call_function_entry (by decide +kernel) (by decide +kernel) kdk_entry_iter (kdk_args_iter _) ?_
  unfold Builtin.«iter»
  refine wpAny_bind (m := someArgs "iter" 1 2 _) (wpAny_of_eq (a := [Value.ref l]) (by first | rfl | kernel_rfl!) ?_)
  show wpAny _ _ (pyIter (.ref l) >>= _) _ _ _
  refine wpAny_bind (wpAny_pyIter_list (l := l) (items := vs.toArray) ⟨_, (N _ hl).1, rfl, c, rfl⟩ ?_)
  exact wpAny_pure ⟨_, rfl, h _ _ (F.push _) (News.push F N _ rfl) (fun q hq => Heap.lt_size (N q hq).1)⟩
end
end
section
/-- the half of n as a float -/
def hf (n : Int) : UInt64 := Float64.ofFrac (decide (n < 0)) n.natAbs 2
theorem tab_add : ((List.range 7).all fun i => (List.range 6).all fun n => Float64.add (Float64.ofInt ((i : Int) - 1)) (hf ((n : Int) + 2)) == hf (2 * ((i : Int) - 1) + ((n : Int) + 2))) = true := by decide +kernel
theorem tab_subI : ((List.range 3).all fun i => (List.range 11).all fun n => Float64.sub (Float64.ofInt ((i : Int) + 5)) (hf ((n : Int) + 2)) == hf (2 * ((i : Int) + 5) - ((n : Int) + 2))) = true := by decide +kernel
theorem tab_isub : ((List.range 11).all fun n => Float64.sub (hf ((n : Int) + 2)) (Float64.ofInt 1) == hf (((n : Int) + 2) - 2)) = true := by decide +kernel
theorem tab_fa : ((List.range 16).all fun a => (List.range 11).all fun b => Float64.add (hf ((a : Int) - 5)) (hf ((b : Int) + 2)) == hf (((a : Int) - 5) + ((b : Int) + 2))) = true := by decide +kernel
theorem tab_fs : ((List.range 11).all fun a => (List.range 6).all fun b => Float64.sub (hf ((a : Int) + 2)) (hf ((b : Int) + 2)) == hf (((a : Int) + 2) - ((b : Int) + 2))) = true := by decide +kernel
theorem add_hf {i n : Int} (h1 : -1 ≤ i) (h2 : i < 6) (h3 : 2 ≤ n) (h4 : n < 8) : Float64.add (Float64.ofInt i) (hf n) = hf (2 * i + n) := by
  have h := List.all_eq_true.mp (List.all_eq_true.mp tab_add (i + 1).toNat (List.mem_range.mpr (by omega))) (n - 2).toNat (List.mem_range.mpr (by omega))
  have e1 : (((i + 1).toNat : Nat) : Int) - 1 = i := by omega
  have e2 : (((n - 2).toNat : Nat) : Int) + 2 = n := by omega
  rw [e1, e2] at h
  exact eq_of_beq h
theorem subI_hf {i n : Int} (h1 : 5 ≤ i) (h2 : i < 8) (h3 : 2 ≤ n) (h4 : n < 13) : Float64.sub (Float64.ofInt i) (hf n) = hf (2 * i - n) := by
  have h := List.all_eq_true.mp (List.all_eq_true.mp tab_subI (i - 5).toNat (List.mem_range.mpr (by omega))) (n - 2).toNat (List.mem_range.mpr (by omega))
  have e1 : (((i - 5).toNat : Nat) : Int) + 5 = i := by omega
  have e2 : (((n - 2).toNat : Nat) : Int) + 2 = n := by omega
  rw [e1, e2] at h
  exact eq_of_beq h
theorem sub1_hf {n : Int} (h3 : 2 ≤ n) (h4 : n < 13) : Float64.sub (hf n) (Float64.ofInt 1) = hf (n - 2) := by
  have h := List.all_eq_true.mp tab_isub (n - 2).toNat (List.mem_range.mpr (by omega))
  have e2 : (((n - 2).toNat : Nat) : Int) + 2 = n := by omega
  rw [e2] at h
  exact eq_of_beq h
theorem fadd_hf {a b : Int} (h1 : -5 ≤ a) (h2 : a < 11) (h3 : 2 ≤ b) (h4 : b < 13) : Float64.add (hf a) (hf b) = hf (a + b) := by
  have h := List.all_eq_true.mp (List.all_eq_true.mp tab_fa (a + 5).toNat (List.mem_range.mpr (by omega))) (b - 2).toNat (List.mem_range.mpr (by omega))
  have e1 : (((a + 5).toNat : Nat) : Int) - 5 = a := by omega
  have e2 : (((b - 2).toNat : Nat) : Int) + 2 = b := by omega
  rw [e1, e2] at h
  exact eq_of_beq h
theorem fsub_hf {a b : Int} (h1 : 2 ≤ a) (h2 : a < 13) (h3 : 2 ≤ b) (h4 : b < 8) : Float64.sub (hf a) (hf b) = hf (a - b) := by
  have h := List.all_eq_true.mp (List.all_eq_true.mp tab_fs (a - 2).toNat (List.mem_range.mpr (by omega))) (b - 2).toNat (List.mem_range.mpr (by omega))
  have e1 : (((a - 2).toNat : Nat) : Int) + 2 = a := by omega
  have e2 : (((b - 2).toNat : Nat) : Int) + 2 = b := by omega
  rw [e1, e2] at h
  exact eq_of_beq h
section
variable {prog : Program} {w : World} {A : Around} {E : Value → Shared → Prop} {s : Shared} {Q : Value → Shared → Prop} {t u : Tok}
theorem small_pow {n : Int} (h : n.natAbs < 1000) : n.natAbs < 2 ^ 1023 := Nat.lt_of_lt_of_le h (Nat.le_trans (by decide : 1000 ≤ 2 ^ 10) (Nat.pow_le_pow_right (by decide) (by decide)))
theorem div_half {n : Int} (h1 : 0 ≤ n) (h2 : n < 1000) (hA : A.handled = none) (h : Q (.float (hf n) s.toks) { s with toks := s.toks + 1 }) : wpAny (model prog w) A (binaryOp .Div (.int n t) (.int 2 u)) Q E s := by
  refine PySem.Flt.div_ii_fits hA (small_pow (by omega)) (fun h => by omega) fun _ _ => ?_
  have e : Float64.ofFrac (decide (n < 0) != decide ((2 : Int) < 0)) n.natAbs (2 : Int).natAbs = hf n := by
    unfold hf
    congr 1
    simp
  rw [e]; exact h
theorem add_half {i n : Int} (h1 : -1 ≤ i) (h2 : i < 6) (h3 : 2 ≤ n) (h4 : n < 8) (h : Q (.float (hf (2 * i + n)) s.toks) { s with toks := s.toks + 1 }) : wpAny (model prog w) A (binaryOp .Add (.int i t) (.float (hf n) u)) Q E s :=
  add_if_fits (small_pow (by omega)) (by rw [add_hf h1 h2 h3 h4]; exact h)
theorem isub_half {i n : Int} (h1 : 5 ≤ i) (h2 : i < 8) (h3 : 2 ≤ n) (h4 : n < 13) (h : Q (.float (hf (2 * i - n)) s.toks) { s with toks := s.toks + 1 }) : wpAny (model prog w) A (binaryOp .Sub (.int i t) (.float (hf n) u)) Q E s :=
  sub_if_fits (small_pow (by omega)) (by rw [subI_hf h1 h2 h3 h4]; exact h)
theorem sub1_half {n : Int} (h3 : 2 ≤ n) (h4 : n < 13) (h : Q (.float (hf (n - 2)) s.toks) { s with toks := s.toks + 1 }) : wpAny (model prog w) A (binaryOp .Sub (.float (hf n) u) (.int 1 t)) Q E s :=
  sub_fi_fits (small_pow (by decide)) (by rw [sub1_hf h3 h4]; exact h)
theorem fadd_half {a b : Int} (h1 : -5 ≤ a) (h2 : a < 11) (h3 : 2 ≤ b) (h4 : b < 13) (h : Q (.float (hf (a + b)) s.toks) { s with toks := s.toks + 1 }) : wpAny (model prog w) A (binaryOp .Add (.float (hf a) t) (.float (hf b) u)) Q E s :=
  add_float (by rw [fadd_hf h1 h2 h3 h4]; exact h)
theorem fsub_half {a b : Int} (h1 : 2 ≤ a) (h2 : a < 13) (h3 : 2 ≤ b) (h4 : b < 8) (h : Q (.float (hf (a - b)) s.toks) { s with toks := s.toks + 1 }) : wpAny (model prog w) A (binaryOp .Sub (.float (hf a) t) (.float (hf b) u)) Q E s :=
  sub_float (by rw [fsub_hf h1 h2 h3 h4]; exact h)
end
end
section
open PySem PySem.W PySem.Calls PyProof.Rows PySem.Spec
/-- the start of a run of like keys -/
def RunAt (ks : Nat → KV) (a : Nat) : Prop := a = 0 ∨ ks (a - 1) ≠ ks a
/-- a float of a list, its token told -/
abbrev FlAt (res : List Value) (i : Nat) (x : UInt64) : Prop := ∃ t : Nat, 0 < t ∧ res[i]? = some (.float x t)
/-- the rank of the place j -/
def RankAt (n : Nat) (ks : Nat → KV) (st : Int) (j : Nat) (v : Value) : Prop := ∃ (a b t : Nat), 0 < t ∧ Grp n ks a b ∧ RunAt ks a ∧ a ≤ j ∧ j < b ∧ v = .float (hf (2 * (st - 1 + (a : Nat)) + (((b - a : Nat) : Int) + 1))) t
theorem grp_ex {n : Nat} {ks : Nat → KV} {a : Nat} (h : a < n) : ∃ b, Grp n ks a b := by
  have key : ∀ k c, n - c = k → a < c → c ≤ n → (∀ j, a ≤ j → j < c → ks j = ks a) → ∃ b, Grp n ks a b := by
    intro k
    induction k with
    | zero => exact fun c h1 h2 h3 h4 => ⟨c, h2, h3, h4, fun h => by omega⟩
    | succ k ih =>
      intro c h1 h2 h3 h4
      by_cases e : ks c = ks a
      · refine ih (c + 1) (by omega) (by omega) (by omega) fun j hj hj2 => ?_
        by_cases hc : j = c
        · rw [hc, e]
        · exact h4 j hj (by omega)
      · exact ⟨c, h2, h3, h4, fun _ => e⟩
  exact key (n - (a + 1)) (a + 1) rfl (by omega) (by omega) fun j h1 h2 => by rw [show j = a by omega]
theorem Grp.next {n : Nat} {ks : Nat → KV} {a b : Nat} (G : Grp n ks a b) : b < n → RunAt ks b := fun h => .inr (by
  rw [G.eq (b - 1) (by have := G.lt; omega) (by have := G.lt; omega)]
  exact (G.ne h).symm)
section
variable (gb gd it ig igd tu SL : Addr) (n : Nat) (Ds : Nat → Addr) (xs : Nat → Value) (ks : Nat → KV)
/-- groupby between two groups, a values taken -/
def GbSt (a : Nat) (go o : Obj) : Prop :=
  (a = 0 ∧ 0 < n ∧ IsLi SL 0 o ∧ ∃ tg ts, go = gbObj gd 0 tg .none .none false false false (.ref it) (.ref ig) 0 ts .none) ∨
  (0 < a ∧ a < n ∧ IsLi SL (a + 1) o ∧ ∃ a' cg tg ser ts, a' < n ∧ ks a ≠ ks a' ∧ go = gbObj gd cg tg (xs a) (.ref (Ds a)) true true true (.ref it) (.ref ig) ser ts (xs a')) ∨
  (a = n ∧ 0 < n ∧ IsEd o ∧ ∃ cg tg ser ts y, go = gbObj gd cg tg .none .none false false true (.ref it) (.ref ig) ser ts y)
end
/-- between the turns of the loop of _rank -/
def RankJ (gb gd it ig igd tu SL RS : Addr) (t0 n : Nat) (Ds : Nat → Addr) (xs : Nat → Value) (ks : Nat → KV) (ix : Nat → Nat) (st : Int) (R : Led) (lo : Nat) (a k : Nat) (m : Str → Option Value) (led : Led) : Prop :=
  a ≤ n ∧ (a < n → RunAt ks a) ∧ lo ≤ k ∧ ∃ (go o : Obj) (res : List Value) (c ti : Nat), GbSt gd it ig SL n Ds xs ks a go o ∧ m (Str.ofString "result") = some (.ref RS) ∧ m (Str.ofString "i") = some (.int (st - 1 + (a : Nat)) ti) ∧
    led = (RS, lsObj res c) :: GL gb gd it ig igd tu go o t0 R ∧ res.length = n ∧ ∀ j, j < a → ∃ v, res[ix j]? = some v ∧ RankAt n ks st j v
section
variable {prog : Program} {w : World} {A : Around} {E : Value → Shared → Prop} {s : Shared}
theorem letGo_gb {target : Expr} {I : Addr} {o : Obj} {v : Value} {Q : Unit → Shared → Prop} {C : Addr} (hc : o.cls = .ref C) (hd : o.data = .plain) (hI : s.heap.get? I = some o) (h : Q () s) :
    wpAny (model prog w) A (letOwnedTupleGo target (.ref I) v) Q E s := by
  unfold letOwnedTupleGo
  split
  · cases v <;> first | exact wpAny_pure h | skip
    refine wpAny_bind (wpAny_load hI ?_)
    rw [hc, hd]
    exact wpAny_pure h
  · cases v <;> first | exact wpAny_pure h | skip
    refine wpAny_bind (wpAny_load hI ?_)
    rw [hc, hd]
    exact wpAny_pure h
  · exact wpAny_pure h
end
section
variable {gb gd it ig igd tu SL : Addr} {t0 n ℓ a : Nat} {vs : List Value} {Ds : Nat → Addr} {xs : Nat → Value} {ks : Nat → KV} {tks : Nat → List Nat} {ix : Nat → Nat} {R : Led} {go o : Obj} {w : World}
    {p : Program} {loose : List Str} {mean : ExcName → Option Value} {mg mb : Str → Option Value} {dp un : Nat} {gdc : Option (List Code)} {cn : Str} {cs : Scope} {ac : Addr} {ccd : Value} {cl : List (Str × Addr)} {outer : List Env} {A₀ : Around} {base h₀ : Heap} {L : Addr} {m : Str → Option Value} {E : Value → Shared → Prop} {s : Shared} {Q : Option Value → Shared → Prop}
theorem gb_next (S : SeqD R SL n ℓ vs Ds xs ks tks ix) (o1 : @LT.lt Nat _ gd gb) (o2 : @LT.lt Nat _ gb it) (o3 : @LT.lt Nat _ tu gd) (o4 : @LT.lt Nat _ igd ig) (o5 : @LT.lt Nat _ ig tu) (h2 : ∀ q ∈ R, q.1 ≠ gb) (h3 : ∀ q ∈ R, q.1 ≠ it) (ha : a < n) (G : GbSt gd it ig SL n Ds xs ks a go o)
    (B : Below A₀ base outer h₀) (F : Fr h₀ L s.heap m) (X : (hd.heap_1 w.params).In h₀) (N : News h₀ L s.heap (GL gb gd it ig igd tu go o t0 R)) (T : Top p loose mean mg mb h₀) (hk : cs.kind = .function) (hd' : dp + 12 < recursionLimit) (hu : un + 130 < cLine) (ht : 0 < s.toks)
    (h : ∀ P gr rd ser tg ts tn o' h' tk', s.toks ≤ tk' → IsLi SL (a + 1) o' → @LT.lt Nat _ it rd → @LT.lt Nat _ rd gr → @LT.lt Nat _ gr P → (∀ q ∈ R, @LT.lt Nat _ q.1 rd) → Fr h₀ L h' m →
      News h₀ L h' ((P, tpObj [xs a, .ref gr]) :: (gr, grObj rd gb (xs a) ser tn) :: (rd, dictOf [] 0) :: GL gb gd it ig igd tu (gbObj gd ser tg (xs a) (.ref (Ds a)) true true true (.ref it) (.ref ig) ser ts (xs a)) o' t0 R) → Q (some (.ref P)) { s with heap := h', toks := tk' }) :
    wpAny (model PR w) (ktrTop dp un gdc cn cs L ac ccd cl outer) (pyNext (.ref gb)) Q E s := by
  obtain ⟨_, ⟨fn1, fn2⟩⟩ := gb_facts w
  obtain ⟨t, hD⟩ := S.tup a ha
  obtain ⟨c, hl⟩ := S.list
  rcases G with ⟨rfl, _, ho, tg, ts, rfl⟩ | ⟨h0, _, ho, a', cg, tg, ser, ts, ha', hne, rfl⟩ | ⟨rfl, _⟩
  · have I := InstAt.of_news N (.head _) (.tail _ (.head _))
    refine owit_next F X I fn1 fn2 ?_
    refine Ct.use (gnext_first w gb gd it ig igd tu tg ts t0 SL c (ix 0) t vs (Ds 0) (xs 0) o R (S.key 0 ha).handed ho hl (S.item 0 ha) hD o1 o2 o3 o4 o5 h2 h3) B F X N T hk hd' (by omega) ht ?_
    rintro r news' h' tk' htk F' N' ⟨o', tg', ts', tn, gr, rd, P, ho', rfl, rfl, l1, l2, l3, l4⟩
    exact h P gr rd 1 tg' ts' tn o' h' tk' htk ho' l1 l2 l3 l4 F' N'
  · have I := InstAt.of_news N (.head _) (.tail _ (.head _))
    refine owit_next F X I fn1 fn2 ?_
    refine Ct.use (gnext_other w gb gd it ig igd tu cg ser tg ts t0 (Ds a) (xs a) (xs a') (ks a) (ks a') (tks a) (tks a') o R (S.key a ha).handed (S.key a' ha').handed (S.key a ha) (S.key a' ha') (by rw [S.klen a' ha', S.klen a ha]) (S.pos a ha) (S.pos a' ha') (fun c τ h1 h2 => S.same a' a c τ ha' ha h1 h2) (fun e => hne e.symm) o1 o2 o3 o4 o5 h2 h3) B F X N T hk hd' (by omega) ht ?_
    rintro r news' h' tk' htk F' N' ⟨tg', ts', tn, gr, rd, P, rfl, rfl, l1, l2, l3, l4⟩
    exact h P gr rd _ tg' ts' tn o h' tk' htk ho l1 l2 l3 l4 F' N'
  · omega
theorem gb_fin (S : SeqD R SL n ℓ vs Ds xs ks tks ix) (o1 : @LT.lt Nat _ gd gb) (o2 : @LT.lt Nat _ gb it) (o3 : @LT.lt Nat _ tu gd) (o4 : @LT.lt Nat _ igd ig) (o5 : @LT.lt Nat _ ig tu) (h2 : ∀ q ∈ R, q.1 ≠ gb) (h3 : ∀ q ∈ R, q.1 ≠ it) (G : GbSt gd it ig SL n Ds xs ks n go o)
    (B : Below A₀ base outer h₀) (F : Fr h₀ L s.heap m) (X : (hd.heap_1 w.params).In h₀) (N : News h₀ L s.heap (GL gb gd it ig igd tu go o t0 R)) (T : Top p loose mean mg mb h₀) (XB : (hd.heap_1 w.params).In base) (TB : Top p loose mean mg mb base) (D : KtsDicts (frs outer) h₀) (hk : cs.kind = .function) (hd' : dp + 12 < recursionLimit) (hu : un + 130 < cLine) (ht : 0 < s.toks)
    (h : ∀ g' h' tk', s.toks ≤ tk' → Gd w p loose mean mg mb A₀ base outer h₀ g' → Fr g' L h' m → News g' L h' R → Q none { s with heap := h', toks := tk' }) :
    wpAny (model PR w) (ktrTop dp un gdc cn cs L ac ccd cl outer) (pyNext (.ref gb)) Q E s := by
  obtain ⟨_, ⟨fn1, fn2⟩⟩ := gb_facts w
  obtain ⟨c, hl⟩ := S.list
  rcases G with ⟨h0, h1, _⟩ | ⟨_, h1, _⟩ | ⟨_, _, ho, cg, tg, ser, ts, y, rfl⟩
  · omega
  · omega
  · have I := InstAt.of_news N (.head _) (.tail _ (.head _))
    refine owit_next F X I fn1 fn2 ?_
    refine CtS.use (gnext_stop w gb gd it ig igd tu cg ser tg ts t0 y SL c vs o R (.inr ho) hl o1 o2 o3 o4 o5 h2 h3) B F X N T XB TB D hk hd' (by omega) ht (fun _ _ _ _ _ _ _ _ _ hf => hf.elim) ?_
    rintro h₁ G' e t news' h' tk' htk GG F' hsm RR P'
    refine owit_stopS XB TB RR hsm F' GG.self fun g' GG' F2 N2 => ?_
    exact h g' _ _ htk (GG.trans GG') F2 (news_sub N2 P')
end
end
section
open PySem PySem.W PySem.Calls PyProof.Rows PySem.Spec
section
variable {gb gd it ig igd tu SL RS eT l9 : Addr} {t0 n ℓ c : Nat} {vs : List Value} {Ds : Nat → Addr} {xs : Nat → Value} {ks : Nat → KV} {tks : Nat → List Nat} {ix : Nat → Nat} {R : Led} {oe o9 : Obj} {w : World}
    {p : Program} {loose : List Str} {mean : ExcName → Option Value} {mg mb : Str → Option Value} {dp un : Nat} {gdc : Option (List Code)} {cn : Str} {cs : Scope} {ac : Addr} {ccd : Value} {cl : List (Str × Addr)} {outer : List Env} {A₀ : Around} {base h₀ : Heap} {L : Addr} {m : Str → Option Value} {E : Value → Shared → Prop} {s : Shared} {Q : Flow → Shared → Prop}
    {target : Expr} {body : List Stmt} {env : Env} {st : Int}
theorem rank_for {z : Value} {tg ts ti : Nat} (S : SeqD R SL n ℓ vs Ds xs ks tks ix) (hn : 1 ≤ n) (o0 : @LT.lt Nat _ RS igd) (o1 : @LT.lt Nat _ gd gb) (o2 : @LT.lt Nat _ gb it) (o3 : @LT.lt Nat _ tu gd) (o4 : @LT.lt Nat _ igd ig) (o5 : @LT.lt Nat _ ig tu) (hR : ∀ q ∈ R, @LT.lt Nat _ q.1 RS)
    (B : Below A₀ base outer h₀) (F : Fr h₀ L s.heap m) (X : (hd.heap_1 w.params).In h₀) (T : Top p loose mean mg mb h₀) (XB : (hd.heap_1 w.params).In base) (TB : Top p loose mean mg mb base) (D : KtsDicts (frs outer) h₀) (hk : cs.kind = .function) (hd' : dp + 12 < recursionLimit) (hu : un + 130 < cLine) (ht : 0 < s.toks)
    (N : News h₀ L s.heap ((it, liObj SL 0) :: (gb, ({ cls := .ref 90, dict := some gd, data := .plain, slots := #[some (.int 0 tg), some .none, some .none, some (.bool false), some (.bool false), some (.bool false), some (.ref it), some (.ref ig), some (.int 0 ts), some .none] } : Obj)) :: (gd, dictOf [] 0) :: (tu, tpObj [.int 0 t0]) :: (eT, oe) :: (ig, igObj igd tu) :: (igd, dictOf [] 0) :: (RS, lsObj (List.replicate n z) c) :: (l9, o9) :: R))
    (hm1 : m (Str.ofString "result") = some (.ref RS)) (hm2 : m (Str.ofString "i") = some (.int (st - 1) ti))
    (turn : ∀ (a b : Nat) g P gr rd ser tg ts tn o' (res : List Value) (c ti : Nat) m h k, @LT.lt Nat _ RS igd → @LT.lt Nat _ gd gb → @LT.lt Nat _ gb it → @LT.lt Nat _ tu gd → @LT.lt Nat _ igd ig → @LT.lt Nat _ ig tu → Grp n ks a b → RunAt ks a → s.toks ≤ k → Gd w p loose mean mg mb A₀ base outer h₀ g → @LT.lt Nat _ it rd → @LT.lt Nat _ rd gr → @LT.lt Nat _ gr P → (∀ q ∈ R, @LT.lt Nat _ q.1 RS) → IsLi SL (a + 1) o' →
      m (Str.ofString "result") = some (.ref RS) → m (Str.ofString "i") = some (.int (st - 1 + (a : Nat)) ti) → res.length = n → (∀ j, j < a → ∃ v, res[ix j]? = some v ∧ RankAt n ks st j v) → Fr g L h m →
      News g L h ((P, tpObj [xs a, .ref gr]) :: (gr, grObj rd gb (xs a) ser tn) :: (rd, dictOf [] 0) :: GL gb gd it ig igd tu (gbObj gd ser tg (xs a) (.ref (Ds a)) true true true (.ref it) (.ref ig) ser ts (xs a)) o' t0 ((RS, lsObj res c) :: R)) →
      wpAny (model PR w) (ktrTop dp un gdc cn cs L ac ccd cl outer) (assign target env (.ref P)) (fun _ s₃ => wpAny (model PR w) (ktrTop dp un gdc cn cs L ac ccd cl outer) (execs body env) (WFlow Q (TurnG w p loose mean mg mb A₀ base h₀ outer L s (RankJ gb gd it ig igd tu SL RS t0 n Ds xs ks ix st R s.toks) a)) E s₃) E { s with heap := h, toks := k })
    (fin : ∀ g (res : List Value) (c : Nat) m h k, s.toks ≤ k → Gd w p loose mean mg mb A₀ base outer h₀ g → m (Str.ofString "result") = some (.ref RS) → res.length = n → (∀ j, j < n → ∃ v, res[ix j]? = some v ∧ RankAt n ks st j v) → Fr g L h m → News g L h ((RS, lsObj res c) :: R) → Q .next { s with heap := h, toks := k })
    (hE : PassesOwn (model PR w) (ktrTop dp un gdc cn cs L ac ccd cl outer) env E := by passes_own) :
    codeAny (model PR w) (ktrTop dp un gdc cn cs L ac ccd cl outer) (.forLoop target (.ref gb) body [] env) (fun r s' => match r with | .ok f => Q f s' | .error e => cameBackBy (model PR w) (ktrTop dp un gdc cn cs L ac ccd cl outer) env E e s') s := by
  have hne : ∀ q ∈ (RS, lsObj (List.replicate n z) c) :: R, q.1 ≠ gb ∧ q.1 ≠ it := fun q hq => by
    rcases List.mem_cons.mp hq with rfl | hq
    · constructor <;> (refine neN ?_; dsimp only; omega)
    · have := hR q hq
      constructor <;> (refine neN ?_; omega)
  have hne' : ∀ (res : List Value) (c : Nat), ∀ q ∈ (RS, lsObj res c) :: R, q.1 ≠ gb ∧ q.1 ≠ it := fun res c q hq => by
    rcases List.mem_cons.mp hq with rfl | hq
    · constructor <;> (refine neN ?_; dsimp only; omega)
    · have := hR q hq
      constructor <;> (refine neN ?_; omega)
  have sw : ∀ {g h : Heap} {go o : Obj} {res : List Value} {c : Nat}, News g L h ((RS, lsObj res c) :: GL gb gd it ig igd tu go o t0 R) → News g L h (GL gb gd it ig igd tu go o t0 ((RS, lsObj res c) :: R)) := fun N => news_sub N (by
    first
      | k_extra "om sub"
      | (intro q hq
         simp only [List.mem_cons] at hq ⊢
         rcases hq with rfl | rfl | rfl | rfl | rfl | rfl | rfl | hq <;> simp [*]))
  refine for_gd (n := n) (led := (RS, lsObj (List.replicate n z) c) :: GL gb gd it ig igd tu (gbObj gd 0 tg .none .none false false false (.ref it) (.ref ig) 0 ts .none) (liObj SL 0) t0 R) (RankJ gb gd it ig igd tu SL RS t0 n Ds xs ks ix st R s.toks) F (news_sub N ?_) (Gd.refl B X T D) ?_ (fun a k m led h => h.1) ?_ ?_ hE
  · first
      | k_extra "om sub"
      | (intro q hq
         simp only [List.mem_cons] at hq ⊢
         rcases hq with rfl | rfl | rfl | rfl | rfl | rfl | rfl | hq <;> simp [*])
  · exact ⟨Nat.zero_le _, fun _ => .inl rfl, Nat.le_refl _, _, _, _, c, ti, .inl ⟨rfl, hn, ⟨rfl, rfl⟩, tg, ts, rfl⟩, hm1, by rw [hm2, show st - 1 + ((0 : Nat) : Int) = st - 1 from Int.add_zero _], rfl, by simp, fun j hj => absurd hj (by omega)⟩
  · rintro a g m' led h k hk0 ha ⟨_, hrun, hk1, go, o, res, c', ti', G, j1, j2, rfl, j3, j4⟩ GG F' N'
    obtain ⟨b, Gb⟩ := grp_ex (ks := ks) ha
    refine gb_next (S.mono fun q hq => List.mem_cons_of_mem _ hq) o1 o2 o3 o4 o5 (fun q hq => (hne' res c' q hq).1) (fun q hq => (hne' res c' q hq).2) ha G GG.below F' GG.inn (sw N') GG.top hk hd' hu (Nat.lt_of_lt_of_le ht hk0) ?_
    intro P gr rd ser tg ts tn o' h' tk' htk ho' l1 l2 l3 l4 F2 N2
    refine ⟨_, rfl, letGo_gb (C := 90) rfl rfl (N2 (gb, _) (.tail _ (.tail _ (.tail _ (.head _))))).1 ?_⟩
    exact turn a b g P gr rd ser tg ts tn o' res c' ti' m' h' tk' o0 o1 o2 o3 o4 o5 Gb (hrun ha) (Nat.le_trans hk0 htk) GG l1 l2 l3 hR ho' j1 j2 j3 j4 F2 N2
  · rintro g m' led h k hk0 ⟨_, hrun, hk1, go, o, res, c', ti', G, j1, j2, rfl, j3, j4⟩ GG F' N'
    refine gb_fin (S.mono fun q hq => List.mem_cons_of_mem _ hq) o1 o2 o3 o4 o5 (fun q hq => (hne' res c' q hq).1) (fun q hq => (hne' res c' q hq).2) G GG.below F' GG.inn (sw N') GG.top XB TB GG.dicts hk hd' hu (Nat.lt_of_lt_of_le ht hk0) ?_
    intro g' h' tk' htk G' F2 N2
    exact ⟨rfl, fin g' res c' m' h' tk' (Nat.le_trans hk0 htk) (GG.trans G') j1 j3 j4 F2 N2⟩
theorem group_list {a b : Nat} {P gr rd : Addr} {ser : Int} {tg ts tn : Nat} {o' : Obj} {R' : Led} {Q : Value → Shared → Prop} (G : Grp n ks a b) (S : SeqD R' SL n ℓ vs Ds xs ks tks ix) (hn6 : n ≤ 6) (o1 : @LT.lt Nat _ gd gb) (o2 : @LT.lt Nat _ gb it) (o3 : @LT.lt Nat _ tu gd) (o4 : @LT.lt Nat _ igd ig) (o5 : @LT.lt Nat _ ig tu) (l1 : @LT.lt Nat _ it rd) (l2 : @LT.lt Nat _ rd gr) (hR1 : ∀ q ∈ R', q.1 ≠ gb) (hR2 : ∀ q ∈ R', q.1 ≠ it) (ho : IsLi SL (a + 1) o')
    (B : Below A₀ base outer h₀) (F : Fr h₀ L s.heap m) (X : (hd.heap_1 w.params).In h₀) (T : Top p loose mean mg mb h₀) (XB : (hd.heap_1 w.params).In base) (TB : Top p loose mean mg mb base) (D : KtsDicts (frs outer) h₀) (hk : cs.kind = .function) (hd' : dp + 12 < recursionLimit) (hu : un + 130 < cLine) (ht : 0 < s.toks)
    (N : News h₀ L s.heap ((P, tpObj [xs a, .ref gr]) :: (gr, grObj rd gb (xs a) ser tn) :: (rd, dictOf [] 0) :: GL gb gd it ig igd tu (gbObj gd ser tg (xs a) (.ref (Ds a)) true true true (.ref it) (.ref ig) ser ts (xs a)) o' t0 R'))
    (h : ∀ S g' go o c h' tk', s.toks ≤ tk' → (∀ q ∈ R', @LT.lt Nat _ q.1 S) → @LT.lt Nat _ gr S → GbSt gd it ig SL n Ds xs ks b go o → Gd w p loose mean mg mb A₀ base outer h₀ g' → Fr g' L h' m →
      News g' L h' ((S, lsObj ((List.range (b - a)).map fun i => .ref (Ds (a + i))) c) :: GL gb gd it ig igd tu go o t0 R') → Q (.ref S) { s with heap := h', toks := tk' }) :
    wpAny (model PR w) (ktrTop dp un gdc cn cs L ac ccd cl outer) (call (.type "list") [.ref gr]) Q E s := by
  obtain ⟨⟨fi1, fi2⟩, ⟨fn1, fn2⟩, f3, f4⟩ := gr_facts w
  have hab := G.lt
  have hbn := G.le
  have I := grouper_it (p := p) (loose := loose) (mean := mean) (mg := mg) (mb := mb) (gdc := gdc) (cn := cn) (ac := ac) (ccd := ccd) (cl := cl) (m := m) (L := L) w gb gd it ig igd tu gr rd SL ser tg ts t0 tn (ℓ := ℓ) (vs := vs) (Ds := Ds) (xs := xs) (tks := tks) (ix := ix) G l2 l1 o1 o2 o3 o4 o5 B X T XB TB D hk hd' hu
  have hgr := Heap.lt_size (N (gr, _) (.tail _ (.head _))).1
  refine list_own (pre := (gr, grObj rd gb (xs a) ser tn) :: (rd, dictOf [] 0) :: GL gb gd it ig igd tu (gbObj gd ser tg (xs a) (.ref (Ds a)) true true true (.ref it) (.ref ig) ser ts (xs a)) o' t0 []) (R := R') I X (by simp) (by omega) ht (by exact hgr) ⟨o', .inl ⟨rfl, ho, rfl⟩⟩ F (fun q hq => N q (.tail _ hq)) (dx := rd) (.tail _ (.head _)) (.head _) ?_ fi1 fi2 ⟨_, fn1⟩ f3 f4 (fun led _ _ => Ct.runs (gr_iter_ct w gr led) B X T hk (by omega) (by omega)) ?_
  · intro S9 o9 hS9
    have hgb := hS9 (gb, _) (.tail _ (.tail _ (.head _)))
    have hit := hS9 (it, _) (.tail _ (.tail _ (.tail _ (.tail _ (.head _)))))
    dsimp only at hgb hit
    refine ⟨S.mono fun q hq => List.mem_cons_of_mem _ hq, fun q hq => ?_, fun q hq => ?_⟩
    · rcases List.mem_cons.mp hq with rfl | hq
      · exact Nat.ne_of_gt hgb
      · exact hR1 q hq
    · rcases List.mem_cons.mp hq with rfl | hq
      · exact Nat.ne_of_gt hit
      · exact hR2 q hq
  · rintro S9 g' pre' c9 h' tk' htk hS9 ⟨o, he⟩ GG F' N'
    have hgr9 := hS9 (gr, _) (.head _)
    have hR9 : ∀ q ∈ R', @LT.lt Nat _ q.1 S9 := fun q hq => hS9 q (List.mem_append_right _ hq)
    rcases he with ⟨hb, ho9, rfl⟩ | ⟨rfl, ho9, rfl⟩
    · refine h S9 g' _ o c9 h' tk' htk hR9 hgr9 (.inr (.inl ⟨by omega, hb, ho9, a, ser, tg, ser, ts, by omega, G.ne hb, rfl⟩)) GG F' (news_sub N' ?_)
      first
        | k_extra "om sub"
        | (intro q hq
           simp only [List.mem_cons, List.mem_append, List.not_mem_nil, or_false] at hq ⊢
           rcases hq with rfl | rfl | rfl | rfl | rfl | rfl | rfl | hq <;> simp [*])
    · refine h S9 g' _ o c9 h' tk' htk hR9 hgr9 (.inr (.inr ⟨rfl, by omega, ho9, ser, tg, ser, ts, xs a, rfl⟩)) GG F' (news_sub N' ?_)
      first
        | k_extra "om sub"
        | (intro q hq
           simp only [List.mem_cons, List.mem_append, List.not_mem_nil, or_false] at hq ⊢
           rcases hq with rfl | rfl | rfl | rfl | rfl | rfl | rfl | hq <;> simp [*])
end
section
variable {prog : Program} {w : World} {A : Around} {E : Value → Shared → Prop} {s : Shared} {h₀ : Heap} {L l : Addr} {m : Str → Option Value} {news : Led}
theorem len_ledN {vs : List Value} {c n : Nat} {Q : Value → Shared → Prop} (N : News h₀ L s.heap news) (hl : (l, lsObj vs c) ∈ news) (hn : vs.length = n) (h1 : n ≤ 1000) (h : Q (.int (n : Nat) (s.toks + 1)) { s with toks := s.toks + 1 + 1 }) :
    wpAny (model prog w) A (call (.builtin "len") [.ref l]) Q E s := len_led N hl (by omega) fun _ _ => by rw [hn]; exact h
end
theorem ne_led {a x : Addr} {o : Obj} {R : Led} (h : @LT.lt Nat _ a x) (hR : ∀ q ∈ R, @LT.lt Nat _ q.1 x) : ∀ q ∈ (a, o) :: R, q.1 ≠ x := fun q hq => by
  rcases List.mem_cons.mp hq with rfl | hq
  · exact Nat.ne_of_lt h
  · exact Nat.ne_of_lt (hR q hq)
section
variable {prog : Program} {w : World} {A : Around} {E : Value → Shared → Prop} {s : Shared} {h₀ : Heap} {L l : Addr} {m : Str → Option Value} {R : Led}
theorem set_led {vs : List Value} {n k : Nat} {t : Tok} {v : Value} {Q : Unit → Shared → Prop} (F : Fr h₀ L s.heap m) (N : News h₀ L s.heap ((l, lsObj vs n) :: R)) (hR : ∀ p ∈ R, p.1 ≠ l) (hk : k < vs.length) (hs : vs.length ≤ 1000)
    (h : ∀ h', Fr h₀ L h' m → News h₀ L h' ((l, lsObj (vs.set k v) n) :: R) → Q () { s with heap := h' }) : wpAny (model prog w) A (setItem (.ref l) (.int (k : Nat) t) v) Q E s := by
  have z := N (l, _) (.head _)
  have e := ki_turn (pre := []) (post := R) (its' := (vs.set k v).toArray) (n' := n) (·.setIfInBounds ((k : Nat) : Int).toNat v) N (fun _ h => nomatch h) hR (by apply Array.toList_inj.mp; simp) (by simp)
  exact ki_setAt (items := vs.toArray) z.1 (by omega) (by omega) (by rw [List.size_toArray]; omega) (h _ (F.change (Heap.SameBut.update ..) z.2.1 z.2.2) e)
end
/-- within the loop over a group -/
def InJ (gb gd it ig igd tu SL RS S : Addr) (t0 n a : Nat) (Ds : Nat → Addr) (xs : Nat → Value) (ks : Nat → KV) (ix : Nat → Nat) (st : Int) (us : List Value) (c7 : Nat) (go o : Obj) (R : Led) (x : UInt64) (v z : Int) (lo : Nat) (i k : Nat) (m : Str → Option Value) (led : Led) : Prop :=
  lo ≤ k ∧ ∃ (res : List Value) (c rt ti ts : Nat), led = (RS, lsObj res c) :: (S, lsObj us c7) :: GL gb gd it ig igd tu go o t0 R ∧ m (Str.ofString "result") = some (.ref RS) ∧ m (Str.ofString "rank") = some (.float x rt) ∧ m (Str.ofString "i") = some (.int v ti) ∧ m (Str.ofString "size") = some (.int z ts) ∧
    res.length = n ∧ 0 < rt ∧ ∀ j, j < a + i → ∃ v, res[ix j]? = some v ∧ RankAt n ks st j v
section
variable {gb gd it ig igd tu SL RS S : Addr} {t0 n ℓ a b : Nat} {vs : List Value} {Ds : Nat → Addr} {xs : Nat → Value} {ks : Nat → KV} {tks : Nat → List Nat} {ix : Nat → Nat} {R : Led} {go o : Obj} {w : World}
    {A : Around} {g : Heap} {L : Addr} {m : Str → Option Value} {E : Value → Shared → Prop} {s : Shared} {Q : Flow → Shared → Prop} {target : Expr} {body : List Stmt} {env : Env} {st : Int}
theorem rank_in {res : List Value} {c c7 rt ti ts : Nat} {x : UInt64} {v z : Int} (hh : A.handled = none) (G : Grp n ks a b) (SQ : SeqD R SL n ℓ vs Ds xs ks tks ix) (F : Fr g L s.heap m)
    (N : News g L s.heap ((S, lsObj ((List.range (b - a)).map fun i => .ref (Ds (a + i))) c7) :: GL gb gd it ig igd tu go o t0 ((RS, lsObj res c) :: R)))
    (h1 : m (Str.ofString "result") = some (.ref RS)) (h2 : m (Str.ofString "rank") = some (.float x rt)) (h3 : m (Str.ofString "i") = some (.int v ti)) (h4 : m (Str.ofString "size") = some (.int z ts)) (h5 : res.length = n) (h0 : 0 < rt) (h6 : ∀ j, j < a → ∃ v, res[ix j]? = some v ∧ RankAt n ks st j v)
    (turn : ∀ I i (res' : List Value) (c' rt ti ts t : Nat) m' o' h k, i < b - a → s.toks ≤ k → m' (Str.ofString "result") = some (.ref RS) → m' (Str.ofString "rank") = some (.float x rt) → m' (Str.ofString "i") = some (.int v ti) → m' (Str.ofString "size") = some (.int z ts) →
      res'.length = n → 0 < rt → (∀ j, j < a + i → ∃ v, res'[ix j]? = some v ∧ RankAt n ks st j v) → Fr g L h m' → News g L h ((I, o') :: (RS, lsObj res' c') :: (S, lsObj ((List.range (b - a)).map fun i => .ref (Ds (a + i))) c7) :: GL gb gd it ig igd tu go o t0 R) → IsLi S (i + 1) o' →
      (Ds (a + i), tpObj [xs (a + i), .int (ix (a + i) : Nat) t]) ∈ (I, o') :: (RS, lsObj res' c') :: (S, lsObj ((List.range (b - a)).map fun i => .ref (Ds (a + i))) c7) :: GL gb gd it ig igd tu go o t0 R →
      wpAny (model PR w) A (assign target env (.ref (Ds (a + i)))) (fun _ s₂ => wpAny (model PR w) A (execs body env) (WFlow Q (TurnF g L I (IsLi S) s (InJ gb gd it ig igd tu SL RS S t0 n a Ds xs ks ix st ((List.range (b - a)).map fun i => .ref (Ds (a + i))) c7 go o R x v z s.toks) (i + 1))) E s₂) E { s with heap := h, toks := k })
    (fin : ∀ (res' : List Value) (c' rt ti ts : Nat) m' h k, s.toks ≤ k → m' (Str.ofString "result") = some (.ref RS) → m' (Str.ofString "i") = some (.int v ti) → m' (Str.ofString "size") = some (.int z ts) → res'.length = n → (∀ j, j < b → ∃ v, res'[ix j]? = some v ∧ RankAt n ks st j v) →
      Fr g L h m' → News g L h ((RS, lsObj res' c') :: (S, lsObj ((List.range (b - a)).map fun i => .ref (Ds (a + i))) c7) :: GL gb gd it ig igd tu go o t0 R) → Q .next { s with heap := h, toks := k })
    (hE : PassesOwn (model PR w) A env E := by passes_own) :
    wpAny (model PR w) A (pyIter (.ref S)) (fun it s₂ => codeAny (model PR w) A (.forLoop target it body [] env) (fun r s' => match r with | .ok f => Q f s' | .error e => cameBackBy (model PR w) A env E e s') s₂) E s := by
  have hab := G.lt
  have hbn := G.le
  have N' : News g L s.heap ((RS, lsObj res c) :: (S, lsObj ((List.range (b - a)).map fun i => .ref (Ds (a + i))) c7) :: GL gb gd it ig igd tu go o t0 R) := news_sub N (by
    first
      | k_extra "om sub"
      | (intro q hq
         simp only [List.mem_cons] at hq ⊢
         rcases hq with rfl | rfl | rfl | rfl | rfl | rfl | rfl | rfl | hq <;> simp [*]))
  refine for_list hh F N' (n0 := c7) (.tail _ (.head _)) (InJ gb gd it ig igd tu SL RS S t0 n a Ds xs ks ix st ((List.range (b - a)).map fun i => .ref (Ds (a + i))) c7 go o R x v z s.toks) ⟨Nat.le_refl _, res, c, rt, ti, ts, rfl, h1, h2, h3, h4, h5, h0, h6⟩ ?_ ?_ ?_ hE
  · rintro i k m led' ⟨_, res', c', rt', ti', ts', rfl, _⟩
    exact ⟨.tail _ (.head _), fun q hq => by simp only [List.map_cons, List.mem_cons] at hq ⊢; rcases hq with rfl | rfl | rfl | rfl | rfl | rfl | rfl | rfl | hq <;> first | simp; done | (have := List.mem_map_of_mem (f := (·.1)) hq; simp [this]; done)⟩
  · rintro I i v' m' led' o' h k hk hi hv ⟨_, res', c', rt', ti', ts', rfl, j1, j2, j3, j4, j5, j0, j6⟩ F' N2 ho
    simp only [List.length_map, List.length_range] at hi
    rw [List.getElem?_map, List.getElem?_range hi] at hv
    obtain rfl : Value.ref (Ds (a + i)) = v' := Option.some.inj hv
    obtain ⟨t, hD⟩ := SQ.tup (a + i) (by omega)
    exact turn I i res' c' rt' ti' ts' t m' o' h k hi hk j1 j2 j3 j4 j5 j0 j6 F' N2 ho (by simp [hD])
  · rintro m' led' h k hk ⟨_, res', c', rt', ti', ts', rfl, j1, j2, j3, j4, j5, j0, j6⟩ F' N2
    simp only [List.length_map, List.length_range] at j6
    rw [show a + (b - a) = b by omega] at j6
    exact fin res' c' rt' ti' ts' m' h k hk j1 j3 j4 j5 j6 F' N2
end
theorem lt_chain {a b c d e f : Nat} (h1 : a < b) (h2 : b < c) (h3 : c < d) (h4 : d < e) (h5 : e < f) : a < f := by omega
end
section
open PySem PySem.W PySem.Calls PyProof.Rows PySem.Spec
/-- the order of the ranks: upwards or downwards -/
def rl (b : Bool) (k k' : KV) : Bool := if b = true then kLt k' k else kLt k k'
def loN (b : Bool) (n : Nat) (kf : Nat → KV) (i : Nat) : Nat := ((List.range n).filter fun j => rl b (kf j) (kf i)).length
def szN (n : Nat) (kf : Nat → KV) (i : Nat) : Nat := ((List.range n).filter fun j => decide (kf j = kf i)).length
/-- twice the rank -/
def rkI (b : Bool) (st : Int) (n : Nat) (kf : Nat → KV) (i : Nat) : Int := 2 * (st - 1 + (loN b n kf i : Nat)) + ((szN n kf i : Nat) + 1)
theorem rl_trans {b : Bool} {x y z : KV} (h1 : rl b x y = true) (h2 : rl b y z = true) : rl b x z = true := by
  unfold rl at *
  cases b
  · exact kl_trans h1 h2
  · exact kl_trans h2 h1
theorem rl_irr {b : Bool} (x : KV) : rl b x x = false := by unfold rl; cases b <;> exact kl_irr x
theorem filter_map_len {α β : Type} (f : α → β) (p : β → Bool) : ∀ l : List α, ((l.map f).filter p).length = (l.filter fun x => p (f x)).length
  | [] => rfl
  | x :: r => by
    simp only [List.map_cons, List.filter_cons]
    split <;> simp [filter_map_len f p r]
theorem range_filter_lt (n a : Nat) (h : a ≤ n) : ((List.range n).filter fun j => decide (j < a)).length = a := by
  induction n generalizing a with
  | zero => simp; omega
  | succ n ih =>
    rw [List.range_succ, List.filter_append, List.length_append]
    by_cases ha : a ≤ n
    · rw [ih a ha]
      simp; omega
    · obtain rfl : a = n + 1 := by omega
      have : ((List.range n).filter fun j => decide (j < n + 1)) = List.range n := List.filter_eq_self.mpr fun x hx => by have := List.mem_range.mp hx; simp; omega
      rw [this]
      simp
theorem range_filter_in (n a b : Nat) (h1 : a ≤ b) (h2 : b ≤ n) : ((List.range n).filter fun j => decide (a ≤ j ∧ j < b)).length = b - a := by
  induction n generalizing b with
  | zero => simp; omega
  | succ n ih =>
    rw [List.range_succ, List.filter_append, List.length_append]
    by_cases hb : b ≤ n
    · rw [ih b h1 hb]
      simp; omega
    · obtain rfl : b = n + 1 := by omega
      have e : ((List.range n).filter fun j => decide (a ≤ j ∧ j < n + 1)) = ((List.range n).filter fun j => decide (a ≤ j ∧ j < n)) := List.filter_congr fun x hx => by
        have := List.mem_range.mp hx
        exact decide_eq_decide.mpr (by omega)
      rw [e]
      by_cases ha : a ≤ n
      · rw [ih n ha (Nat.le_refl _)]
        simp [ha]; omega
      · obtain rfl : a = n + 1 := by omega
        have : ((List.range n).filter fun j => decide (n + 1 ≤ j ∧ j < n)) = [] := List.filter_eq_nil_iff.mpr fun x _ => by simp; omega
        rw [this]; simp
section
variable {n : Nat} {b : Bool} {q : List Nat} {kf : Nat → KV}
theorem os_len (p : q.Perm (List.range n)) : (katRev b q).length = n := by rw [katRev_len, p.length_eq, List.length_range]
theorem os_eq (p : q.Perm (List.range n)) : katRev b q = (List.range n).map fun j => (katRev b q).getD j 0 := by
  apply List.ext_getElem?
  intro i
  have hl := os_len (b := b) p
  rw [List.getElem?_map]
  by_cases h : i < n
  · rw [List.getElem?_range h, List.getElem?_eq_getElem (by omega)]
    simp only [Option.map_some, List.getD_eq_getElem?_getD, List.getElem?_eq_getElem (show i < (katRev b q).length by omega), Option.getD_some]
  · rw [List.getElem?_eq_none (by omega), List.getElem?_eq_none (by simp; omega)]
    rfl
theorem os_perm (p : q.Perm (List.range n)) : (katRev b q).Perm (List.range n) := by
  cases b with
  | false => exact p
  | true => exact (List.reverse_perm q).trans p
theorem os_lt (p : q.Perm (List.range n)) {j : Nat} (hj : j < n) : (katRev b q).getD j 0 < n := by
  have hl := os_len (b := b) p
  have : (katRev b q).getD j 0 ∈ katRev b q := by rw [List.getD_eq_getElem?_getD, List.getElem?_eq_getElem (by omega)]; exact List.getElem_mem _
  exact List.mem_range.mp ((os_perm p).mem_iff.mp this)
theorem os_inj (p : q.Perm (List.range n)) {j j' : Nat} (hj : j < n) (hj' : j' < n) (h : (katRev b q).getD j 0 = (katRev b q).getD j' 0) : j = j' := by
  have hl := os_len (b := b) p
  have nd : (katRev b q).Nodup := (os_perm p).nodup_iff.mpr List.nodup_range
  rw [List.getD_eq_getElem?_getD, List.getD_eq_getElem?_getD, List.getElem?_eq_getElem (by omega), List.getElem?_eq_getElem (by omega)] at h
  exact (List.getElem_inj nd).mp (by simpa using h)
theorem os_sur (p : q.Perm (List.range n)) {i : Nat} (hi : i < n) : ∃ j, j < n ∧ (katRev b q).getD j 0 = i := by
  have hl := os_len (b := b) p
  have hm : i ∈ katRev b q := (os_perm p).mem_iff.mpr (List.mem_range.mpr hi)
  obtain ⟨j, hj, e⟩ := List.getElem_of_mem hm
  exact ⟨j, by omega, by rw [List.getD_eq_getElem?_getD, List.getElem?_eq_getElem hj]; simpa using e⟩
theorem cnt_os (p : q.Perm (List.range n)) (P : Nat → Bool) : ((List.range n).filter P).length = ((List.range n).filter fun j => P ((katRev b q).getD j 0)).length := by
  rw [← ((os_perm (b := b) p).filter P).length_eq]
  conv => lhs; rw [os_eq p]
  exact filter_map_len _ _ _
theorem os_mono (p : q.Perm (List.range n)) (o : q.Pairwise (fun i j => tLt (kf i) (kf j) i j = true)) {j j' : Nat} (h : j < j') (h' : j' < n) :
    kf ((katRev b q).getD j 0) = kf ((katRev b q).getD j' 0) ∨ rl b (kf ((katRev b q).getD j 0)) (kf ((katRev b q).getD j' 0)) = true := by
  have hl := os_len (b := b) p
  have hq : q.length = n := by rw [← hl, katRev_len]
  have key : ∀ i i' : Nat, tLt (kf i) (kf i') i i' = true → kf i = kf i' ∨ kLt (kf i) (kf i') = true := fun i i' t => by
    unfold tLt at t
    by_cases e : kf i = kf i'
    · exact .inl e
    · rw [if_neg e] at t; exact .inr t
  rw [List.getD_eq_getElem?_getD, List.getD_eq_getElem?_getD, List.getElem?_eq_getElem (by omega), List.getElem?_eq_getElem (by omega)]
  simp only [Option.getD_some]
  cases b with
  | false =>
    have := List.pairwise_iff_getElem.mp o j j' (by omega) (by omega) h
    exact key _ _ this
  | true =>
    have o' : q.reverse.Pairwise (fun i j => tLt (kf j) (kf i) j i = true) := List.pairwise_reverse.mpr o
    have := List.pairwise_iff_getElem.mp o' j j' (by rw [List.length_reverse]; omega) (by rw [List.length_reverse]; omega) h
    rcases key _ _ this with e | e
    · exact .inl e.symm
    · exact .inr e
theorem rank_math {st : Int} {j : Nat} {v : Value} (p : q.Perm (List.range n)) (o : q.Pairwise (fun i j => tLt (kf i) (kf j) i j = true)) (_hj : j < n) (h : RankAt n (fun j => kf ((katRev b q).getD j 0)) st j v) :
    ∃ t : Nat, 0 < t ∧ v = .float (hf (rkI b st n kf ((katRev b q).getD j 0))) t := by
  obtain ⟨a, c, t, ht, G, Rb, h1, h2, rfl⟩ := h
  have hab := G.lt
  have hbn := G.le
  have ej : kf ((katRev b q).getD j 0) = kf ((katRev b q).getD a 0) := G.eq j h1 h2
  have below : ∀ i, i < a → rl b (kf ((katRev b q).getD i 0)) (kf ((katRev b q).getD j 0)) = true := fun i hi => by
    rcases Rb with rfl | hne
    · omega
    · dsimp only at hne
      rw [ej]
      have s1 : rl b (kf ((katRev b q).getD (a - 1) 0)) (kf ((katRev b q).getD a 0)) = true := (os_mono p o (show a - 1 < a by omega) (by omega)).resolve_left hne
      by_cases e : i = a - 1
      · rw [e]; exact s1
      · rcases os_mono p o (show i < a - 1 by omega) (by omega) with e' | e'
        · rw [e']; exact s1
        · exact rl_trans e' s1
  have above : ∀ i, c ≤ i → i < n → rl b (kf ((katRev b q).getD j 0)) (kf ((katRev b q).getD i 0)) = true := fun i hi hin => by
    rw [ej]
    have hne : kf ((katRev b q).getD c 0) ≠ kf ((katRev b q).getD a 0) := G.ne (by omega)
    have s1 : rl b (kf ((katRev b q).getD a 0)) (kf ((katRev b q).getD c 0)) = true := (os_mono p o hab (by omega)).resolve_left fun e => hne e.symm
    by_cases e : i = c
    · rw [e]; exact s1
    · rcases os_mono p o (show c < i by omega) hin with e' | e'
      · rw [← e']; exact s1
      · exact rl_trans s1 e'
  have ne_of : ∀ {x y : KV}, rl b x y = true → x ≠ y := fun h e => by rw [e, rl_irr] at h; cases h
  have hlo : loN b n kf ((katRev b q).getD j 0) = a := by
    unfold loN
    rw [cnt_os (b := b) p, ← range_filter_lt n a (by omega)]
    congr 1
    refine List.filter_congr fun i hi => ?_
    have hin := List.mem_range.mp hi
    by_cases h : i < a
    · rw [below i h]; simp [h]
    · rw [decide_eq_false h]
      by_cases hc : i < c
      · rw [G.eq i (by omega) hc, ej, rl_irr]
      · cases e : rl b (kf ((katRev b q).getD i 0)) (kf ((katRev b q).getD j 0)) with
        | false => rfl
        | true => have := rl_trans e (above i (by omega) hin); rw [rl_irr] at this; cases this
  have hsz : szN n kf ((katRev b q).getD j 0) = c - a := by
    unfold szN
    rw [cnt_os (b := b) p, ← range_filter_in n a c (by omega) hbn]
    congr 1
    refine List.filter_congr fun i hi => ?_
    have hin := List.mem_range.mp hi
    refine decide_eq_decide.mpr ⟨fun e => ?_, fun e => ?_⟩
    · refine ⟨?_, ?_⟩
      · by_cases h : i < a
        · exact absurd e (ne_of (below i h))
        · omega
      · by_cases h : c ≤ i
        · exact absurd e.symm (ne_of (above i h hin))
        · omega
    · rw [ej]; exact G.eq i e.1 e.2
  refine ⟨t, ht, ?_⟩
  unfold rkI
  rw [hlo, hsz]
end
theorem rank_set {n a b i : Nat} {st : Int} {ks : Nat → KV} {ix : Nat → Nat} {res : List Value} {t : Nat} (inj : ∀ j j', j < n → j' < n → ix j = ix j' → j = j') (lt : ∀ j, j < n → ix j < n) (G : Grp n ks a b) (Rb : RunAt ks a) (hi : i < b - a) (hl : res.length = n) (ht : 0 < t)
    (h : ∀ j, j < a + i → ∃ v, res[ix j]? = some v ∧ RankAt n ks st j v) : ∀ j, j < a + (i + 1) → ∃ v, (res.set (ix (a + i)) (.float (hf (2 * (st - 1 + (a : Nat)) + (((b - a : Nat) : Int) + 1))) t))[ix j]? = some v ∧ RankAt n ks st j v := fun j hj => by
  have hbn := G.le
  have := lt (a + i) (by omega)
  by_cases e : j = a + i
  · subst e
    exact ⟨_, by rw [List.getElem?_set_self (by omega)], a, b, t, ht, G, Rb, by omega, by omega, rfl⟩
  · obtain ⟨v, h1, h2⟩ := h j (by omega)
    exact ⟨v, by rw [List.getElem?_set_ne (fun q => e (inj _ _ (by omega) (by omega) q.symm))]; exact h1, h2⟩
theorem ne_of_news {g h : Heap} {L a b : Addr} {o o' : Obj} {led : Led} (N : News g L h led) (h1 : (a, o) ∈ led) (h2 : (b, o') ∈ led) (hc : o.cls ≠ o'.cls) : a ≠ b := fun e => by
  subst e
  have := (N _ h1).1.symm.trans (N _ h2).1
  exact hc (congrArg Obj.cls (Option.some.inj this))
/-- what _rank gives back: a new list of floats -/
abbrev RankPost (b : Bool) (st : Int) (n : Nat) (kf : Nat → KV) (news : Led) : Nat → Nat → Led → Value → Prop := fun _ _ news' r =>
  ∃ (RS : Addr) (res : List Value) (c : Nat), r = .ref RS ∧ news' = (RS, lsObj res c) :: news ∧ (∀ q ∈ news, @LT.lt Nat _ q.1 RS) ∧ res.length = n ∧ ∀ i, i < n → FlAt res i (hf (rkI b st n kf i))
theorem rank_res {n : Nat} {b : Bool} {st : Int} {q : List Nat} {kf : Nat → KV} {res : List Value} (p : q.Perm (List.range n)) (o : q.Pairwise (fun i j => tLt (kf i) (kf j) i j = true))
    (h : ∀ j, j < n → ∃ v, res[(katRev b q).getD j 0]? = some v ∧ RankAt n (fun j => kf ((katRev b q).getD j 0)) st j v) : ∀ i, i < n → FlAt res i (hf (rkI b st n kf i)) := fun i hi => by
  obtain ⟨j, hj, rfl⟩ := os_sur (b := b) p hi
  obtain ⟨v, h1, h2⟩ := h j hj
  obtain ⟨t, ht, rfl⟩ := rank_math p o hj h2
  exact ⟨t, ht, h1⟩
theorem set_led1 {prog : Program} {w : World} {A : Around} {E : Value → Shared → Prop} {s : Shared} {h₀ : Heap} {L l I : Addr} {m : Str → Option Value} {R : Led} {o : Obj} {vs : List Value} {n k : Nat} {t : Tok} {v : Value} {Q : Unit → Shared → Prop} (F : Fr h₀ L s.heap m) (N : News h₀ L s.heap ((I, o) :: (l, lsObj vs n) :: R)) (hI : I ≠ l) (hR : ∀ p ∈ R, p.1 ≠ l) (hk : k < vs.length) (hs : vs.length ≤ 1000)
    (h : ∀ h', Fr h₀ L h' m → News h₀ L h' ((I, o) :: (l, lsObj (vs.set k v) n) :: R) → Q () { s with heap := h' }) : wpAny (model prog w) A (setItem (.ref l) (.int (k : Nat) t) v) Q E s :=
  set_led (R := (I, o) :: R) F (news_sub N (fun q hq => by simp only [List.mem_cons] at hq ⊢; exact hq.elim (fun h => .inr (.inl h)) fun h => h.elim .inl fun h => .inr (.inr h))) (fun p hp => by
    rcases List.mem_cons.mp hp with rfl | hp
    · exact hI
    · exact hR p hp) hk hs fun h' F' N' => h h' F' (news_sub N' (fun q hq => by simp only [List.mem_cons] at hq ⊢; exact hq.elim (fun h => .inr (.inl h)) fun h => h.elim .inl fun h => .inr (.inr h)))
theorem gl_ne {gb gd it ig igd tu RS S : Addr} {go o os : Obj} {t0 : Nat} {R : Led} (o0 : @LT.lt Nat _ RS igd) (o1 : @LT.lt Nat _ gd gb) (o2 : @LT.lt Nat _ gb it) (o3 : @LT.lt Nat _ tu gd) (o4 : @LT.lt Nat _ igd ig) (o5 : @LT.lt Nat _ ig tu) (hS : @LT.lt Nat _ RS S) (hR : ∀ q ∈ R, @LT.lt Nat _ q.1 RS) :
    ∀ q ∈ (S, os) :: GL gb gd it ig igd tu go o t0 R, q.1 ≠ RS := fun q hq => by
  simp only [List.mem_cons] at hq
  rcases hq with rfl | rfl | rfl | rfl | rfl | rfl | rfl | hq
  all_goals first | exact Nat.ne_of_lt (hR q hq) | (refine neN ?_; dsimp only; omega)
theorem sub_drop1 {a : Addr × Obj} {b : Addr × Obj} {T : Led} : ∀ q ∈ a :: T, q ∈ a :: b :: T := fun q hq => by
  simp only [List.mem_cons] at hq ⊢
  exact hq.imp id .inr
theorem i_end {st : Int} {a b : Nat} (h : a < b) : st - 1 + (b : Int) = st - 1 + (a : Int) + ((b - a : Nat) : Int) := by omega
end
section
theorem clean_Rn : True := by
  k_with_none
  trivial
theorem lines_Om_Rn : True := by
  k_with "om in" => (first
      | with_reducible assumption
      | with_reducible exact List.mem_cons_self
      | (with_reducible refine List.mem_cons_of_mem _ ?_; k_extra "om in")
      | (with_reducible refine List.mem_append_right _ ?_; k_extra "om in")
      | (with_reducible refine List.mem_append_left _ ?_; k_extra "om in"))
  k_with "om sub" => (first
      | with_reducible assumption
      | with_reducible exact fun _ h => h
      | (with_reducible refine sub_cons ?a ?b; (case a => k_extra "om in"); (case b => k_extra "om sub"))
      | (with_reducible refine sub_app ?a ?b; (case a => k_extra "om sub"); (case b => k_extra "om sub"))
      | (with_reducible refine sub_tl ?_; k_extra "om sub")
      | (with_reducible refine sub_appR ?_; k_extra "om sub")
      | (with_reducible refine sub_appL ?_; k_extra "om sub")
      | with_reducible exact sub_nil)
  k_with "om room" => (first
      | (with_reducible refine lt_room1 _ (by assumption) ?_; decide)
      | (with_reducible refine lt_room2 _ _ (by assumption) ?_; decide)
      | (with_reducible refine lt_room3 _ _ _ (by assumption) ?_; decide)
      | (with_reducible refine lt_room4 _ _ _ _ (by assumption) ?_; decide)
      | (with_reducible refine lt_room5 _ _ _ _ _ (by assumption) ?_; decide)
      | (with_reducible refine lt_roomk _ (by assumption) (by assumption) ?_; decide)
      | (with_reducible refine lt_roomt _ _ _ _ (by assumption) (by assumption) ?_; decide)
      | (with_reducible exact lt_room0 (by assumption)))
  k_with "om lt1" => (first
      | with_reducible assumption
      | with_reducible exact And.left (by assumption)
      | with_reducible exact And.left (And.right (by assumption))
      | with_reducible exact And.left (And.right (And.right (by assumption)))
      | with_reducible exact And.left (And.right (And.right (And.right (by assumption))))
      | with_reducible exact And.left (And.right (And.right (And.right (And.right (by assumption)))))
      | with_reducible exact And.left (And.right (And.right (And.right (And.right (And.right (by assumption))))))
      | with_reducible exact And.left (And.right (And.right (And.right (And.right (And.right (And.right (by assumption)))))))
      | with_reducible exact And.right (by assumption)
      | with_reducible exact And.right (And.right (by assumption))
      | with_reducible exact And.right (And.right (And.right (by assumption)))
      | with_reducible exact And.right (And.right (And.right (And.right (by assumption)))))
  k_with "om lt0" => (solve
      | iterate 12 (first | done | with_reducible assumption | with_reducible refine Nat.lt_trans ?_ (by assumption)))
  k_with "om lt" => (solve
      | iterate 12 (first | done | with_reducible assumption | with_reducible refine Nat.lt_trans ?_ (by assumption))
      | iterate 12 (first | done | k_extra "om lt1" | with_reducible refine Nat.lt_trans ?_ (by assumption)))
  k_with "om le" => (solve
      | iterate 24 (first | done | with_reducible assumption | with_reducible exact Nat.le_refl _ | with_reducible refine le_add1 ?_ | with_reducible refine le_up ?_ (by assumption) | with_reducible refine Nat.le_trans ?_ (by assumption) | with_reducible refine Nat.le_trans (m := 1048576) ?_ (by decide))
      | iterate 24 (first | done | with_reducible assumption | with_reducible exact Nat.le_refl _ | with_reducible refine le_add1 ?_ | with_reducible refine Nat.le_trans ?_ (by assumption))
      | (with_reducible refine Nat.le_trans (by assumption) ?_; decide)
      | decide)
  k_with "om pos" => (solve
      | iterate 24 (first | done | with_reducible assumption | with_reducible exact Nat.succ_pos _ | with_reducible refine pos_add ?_ | with_reducible refine pos_up ?_ (by assumption) | with_reducible refine pos_of_le ?_ (by assumption))
      | iterate 40 (first | done | with_reducible assumption | with_reducible exact Nat.succ_pos _ | with_reducible refine pos_of_le ?_ (by assumption)))
  k_with "om" => ((k_whole; first
      | (with_reducible show _ ≤ _; first | k_extra "om le" | (with_reducible refine Nat.le_of_lt ?_; k_extra "om lt"))
      | (with_reducible show _ ≠ _; first | (with_reducible refine ne_up ?_; k_extra "om lt0") | (with_reducible refine ne_dn ?_; k_extra "om lt0") | (with_reducible refine ne_dn ?_; k_extra "om lt") | (with_reducible refine ne_up ?_; k_extra "om lt"))
      | (with_reducible show 0 < _; k_extra "om pos")
      | (with_reducible show _ < _; first | k_extra "om room" | k_extra "om lt" | (with_reducible refine lt_of_add1 ?_; k_extra "om le") | (with_reducible refine Nat.lt_of_lt_of_le (by assumption) ?_; k_extra "om le"))
      | (with_reducible show ¬ _ ≤ _; with_reducible refine not_le_of ?_; k_extra "om lt")
      | (with_reducible show ¬ _ < _; with_reducible refine not_lt_of ?_; k_extra "om le")))
  k_with "my Om omega 9" => (first | k_extra "om" | ((fail_if_success (fail_if_success omega (splitDisjunctions := true))); (first | lia | omega (splitDisjunctions := true))))
  k_with "om peel" => ((repeat first | (with_reducible refine all_ne_cons ?a ?_; (case a => ((try dsimp only); omega))) | (with_reducible refine all_lt_cons ?a ?_; (case a => ((try dsimp only); omega)))))
  k_with "my Om simp 11" => (first | (k_whole; (with_reducible show _ ∈ _); k_extra "om in") | simp (contextual := false))
  trivial
theorem lines_PreM_Rn : True := by
  k_with "my PreM kin 0" => (first | with_reducible assumption | exact Frag.In.keeps (by k_asm) (Fr.keep (by k_asm)))
  k_with "my PreM execs cons 1" => ((k_here; first
      | ((fail_if_success k_fold); (refine' execs_cons_k ?_); intro zqk zKk)
      | ((refine' execs_cons_q ?_); intro zq0 zN0 zqk zKk)))
  k_with "my kont" => (refine' kont_nextS s (by with_reducible assumption) ?_)
  k_with "my PreM kunfold 3" => ((k_end; first
      | ((first | k_extra "my kont" | refine' kont_next (by with_reducible assumption) ?_ | refine' kont_ret (by with_reducible assumption) ?_ | refine' kont_brk (by with_reducible assumption) ?_ | refine' kont_cont (by with_reducible assumption) ?_); intro zk9 zhk9 zhk7 zhk8; (try dsimp only at zhk9 zhk7 zhk8))
      | refine' named_q (by with_reducible assumption) ?_))
  k_with "my PreM After 4" => (((refine' after_gen ?_); intro zk9 zhk9 zhk7 zhk8; (try dsimp only at zhk9 zhk7 zhk8 ⊢)))
  k_with "my start" => ((
      refine said ?_
      w_on
      k_fill
      unfold Said
      unfold Ct))
  k_with "my enter" => ((
      refine wpAny_call ?_
      k_dflt cell_enter
      refine gen_toks (Nat.le_add_right _ _) ?_
      intro zk7 zhk7))
  k_with "my pos" => (first | with_reducible assumption | omega | assumption | ((try dsimp only); omega) | ((try dsimp only at *); omega))
  k_with "my prem" => ((
      (case k1 => k_asm); (case k2 => k_asm); (case k3 => k_asm); (case k4 => k_asm); (case k5 => k_asm); (case kK => first | exact rfl | assumption); (case kd => ktr_room); (case ku => ktr_units); (case kt => k_extra "my pos")))
  k_with "my PreM call builtinissubclass 9" => ((k_here; k_dflt (refine' issub_str ?k1 ?_; (case k1 => exact News.isTup (by k_asm) (by k_mem)); k_whole)))
  k_with "my PreM subscriptTail Name Slice str ref 10" => (((with_reducible show wpAny _ _ (subscriptTail _ (Expr.Slice none (some _) none _) _ _) _ _ _); (with_reducible rename Fr _ _ _ _ => zF'); (with_reducible rename News _ _ _ _ => zN'); (refine slice_tk_ns (hsz := ?hsz) (s := ⟨_, _, _, _, _⟩) zF' zN' ?_); (case hsz => size_fits); intro _ _ _ _ _ _ _ _))
  k_with "my PreM subscriptTail Name Slice str ref 11" => (((with_reducible show wpAny _ _ (subscriptTail _ (Expr.Slice (some _) none none _) _ _) _ _ _); (with_reducible rename Fr _ _ _ _ => zF'); (with_reducible rename News _ _ _ _ => zN'); (refine slice_tk_sn (hsz := ?hsz) (s := ⟨_, _, _, _, _⟩) zF' zN' ?_); (case hsz => size_fits); intro _ _ _ _ _ _ _ _))
  k_with "my PreM subscriptTail Name Slice str ref 12" => (((with_reducible show wpAny _ _ (subscriptTail _ (Expr.Slice (some _) (some _) none _) _ _) _ _ _); (with_reducible rename Fr _ _ _ _ => zF'); (with_reducible rename News _ _ _ _ => zN'); (refine slice_tk_ss (hsz := ?hsz) (s := ⟨_, _, _, _, _⟩) zF' zN' ?_); (case hsz => size_fits); intro _ _ _ _ _ _ _ _))
  k_with "my PreM call builtinstrrstrip 13" => (((refine rstrip_tk (hsz := ?hsz) (s := ⟨_, _, _, _, _⟩) ?_); (case hsz => size_fits); intro _ _ _ _ _))
  k_with "my PreM binaryOp Mult str int 14" => ((refine mul_tk (s := ⟨_, _, _, _, _⟩) (mulOk_of 16 1048576 (by first | decide | omega) (by omega) (by omega) (by decide) (by decide)) ?_; intro _ _ _))
  k_with "my tk" => (first | exact Tk.trans (by k_asm) (by k_asm) (by k_extra "my pos") (by k_extra "my pos") (by k_extra "my pos") (by k_extra "my pos") | exact Tk.mono (by k_asm) (by k_extra "my pos") (by k_extra "my pos") | exact .inl ⟨rfl, rfl⟩)
  k_with "my young" => ((first | exact of_allLt (by k_asm) | exact of_allLt (And.right (by assumption : _ ∧ AllLt _ _)) | assumption))
  k_with "my look" => (first | assumption | exact rfl | (refine Eq.trans (if_neg (by decide)) ?_; k_extra "my look") | (refine Eq.trans (if_pos rfl) ?_; exact rfl) | (dsimp only; first | assumption | exact rfl | (refine Eq.trans (if_neg (by decide)) ?_; k_extra "my look") | (refine Eq.trans (if_pos rfl) ?_; exact rfl)))
  k_with "my PreM eval Name 18" => ((k_here; (with_reducible show wpAny _ _ (eval (PySem.Expr.Name _ _) (envOf _ _ _ _ _)) _ _ _); name_kind "local"; k_dflt (refine' ld ?k1 ?k2 ?_; (case k1 => k_asm); (case k2 => k_extra "my look"); k_whole)))
  k_with "my PreM callWith ref 19" => (((with_reducible show wpAny _ _ (callWith _ _ _ (backTo _ (starEach (_ :: _) _)) (backToKw _ (keywordEach (_ :: _) _))) _ _ _); k_here; k_dflt (refine' callWith_KW ?k1 ?k2 ?k3 ?_; (case k1 => k_asm); (case k2 => k_is); (case k3 => exact rfl); k_whole)))
  k_with "my PreM callWith ref 20" => (((with_reducible show wpAny _ _ (callWith _ _ _ (backTo _ (starEach (_ :: _) _)) []) _ _ _); k_here; k_dflt (refine' callWith_K ?k1 ?k2 ?_; (case k1 => k_asm); (case k2 => k_is); k_whole)))
  k_with "my PreM loadName 21" => ((k_here; k_dflt (refine' ldn ?k1 ?k2 ?_; (case k1 => k_asm); (case k2 => k_extra "my look"); k_whole)))
  k_with "my enterK" => ((
      refine wpAny_call ?_
      k_dflt (refine' code_def ?k1 ?k2 ?k3 ?k4 ?k5 ?kA ?kF ?kK ?k6 ?k7 ?k8 ?k9 ?kB ?_ ?c2 ?c3 ?c4 ?c5; (case kA => exact rfl); (case kF => exact rfl); (case kK => assumption); (case k1 => k_asm); (case k2 => k_asm); (case k3 => k_asm); (case k4 => k_asm); (case k5 => k_asm); (case k6 => k_is); (case k7 => k_is); (case k8 => ktr_room); (case k9 => (refine' kp_binds ?kx ?ke; (case kx => k_in); (case ke => exact fun _ => rfl))); (case c5 => decide); (case kB => exact locs rfl); (case c2 => exact rfl); (case c3 => exact rfl); (case c4 => exact rfl); k_whole; intro zg' zL' zh' zFG' zF' zN' zB' zX' zT'; (try dsimp only); (try k_lift zB'); (try k_fold))
      refine gen_toks (Nat.le_add_right _ _) ?_
      intro zk7 zhk7))
  k_with "my PreM kall 23" => (first | assumption | exact ne_all1 (by k_asm) (by (try dsimp only); omega) | exact ne_all2 (by k_asm) (by (try dsimp only); omega) | fail "k_all")
  trivial
theorem lines_PreSM_Rn : True := by
  k_with "my enterS" => ((
      refine wpAny_call ?_
      k_dflt (refine' code_defX ?k1 ?k2 ?k3 ?k4 ?k5 ?XB ?TB ?D ?kA ?kK ?k6 ?k7 ?k8 ?k9 ?kB ?_ ?c2 ?c3 ?c4 ?c5; (case kA => exact rfl); (case kK => assumption); (case k1 => assumption); (case k2 => assumption); (case k3 => assumption); (case k4 => assumption); (case k5 => assumption); (case XB => assumption); (case TB => assumption); (case D => assumption); (case k6 => k_is); (case k7 => k_is); (case k8 => ktr_room); (case k9 => first | exact BindsTo.of_eq rfl | (refine' kp_binds ?kx ?ke; (case kx => ((with_reducible rename Fr _ _ _ _ => zkF); exact Frag.In.keeps (by k_asm) zkF.keep)); (case ke => exact fun _ => rfl))); (case c5 => decide); (case kB => exact locs rfl); (case c2 => exact rfl); (case c3 => exact rfl); (case c4 => exact rfl); k_whole; intro zg' zL' zh' zFG' zF' zN' zB' zX' zT' zD'; (try dsimp only); (try k_lift zB'); (try k_fold))
      refine gen_toks (Nat.le_add_right _ _) ?_
      intro zk7 zhk7))
  k_with "my PreSM noteFrame ref 1" => ((k_here; (with_reducible rename Heap.MadeExc _ _ _ _ _ => zmeX); k_dflt (refine' caught_new (T' := "StopIteration") (Heap.MadeExc.newExc zmeX) ?F ?N ?K ?XB ?TB ?D ?ex PyProof.Rows.Boot.«StopIteration» ?hn ?h1 ?h2 ?h3 ?_; (case F => k_asm); (case N => k_asm); (case K => assumption); (case XB => assumption); (case TB => assumption); (case D => assumption); (case ex => k_is); (case hn => decide); (case h1 => (rw [isSubtype_type]; kernel_rfl)); (case h2 => (rw [isSubtype_type]; kernel_rfl)); (case h3 => (rw [isSubtype_type]; kernel_rfl)); k_whole); intro zh' zg' zT' zF' zN' zK' zX' zP' zD'; (try k_lift zK'); (try k_sweep)))
  k_with "my startS" => ((
      refine said ?_
      w_on
      k_fill
      unfold Said
      unfold CtS))
  k_with "my gd" => (first | exact Gd.refl (by k_asm) (by k_asm) (by k_asm) (by k_asm) | exact ⟨by first | assumption | exact KtsTurn.refl, by assumption, by assumption, by assumption, by assumption⟩)
  k_with "my lay" => (first | (refine news_sub (by k_asm) ?_; k_extra "om sub") | (refine news_sub (by k_asm) ?_; intro q hq; simp only [List.mem_cons] at hq ⊢; (first | (rcases hq with rfl | rfl | rfl | rfl | rfl | rfl | rfl | rfl | hq <;> simp [*]; done) | (rcases hq with rfl | rfl | rfl | rfl | rfl | rfl | rfl | hq <;> simp [*]; done) | (rcases hq with rfl | rfl | rfl | rfl | rfl | rfl | hq <;> simp [*]; done) | (rcases hq with rfl | rfl | rfl | rfl | rfl | hq <;> simp [*]; done) | (rcases hq with rfl | rfl | rfl | rfl | hq <;> simp [*]; done) | (rcases hq with rfl | rfl | rfl | hq <;> simp [*]; done))))
  k_with "my premL" => ((
      (case k1 => k_asm); (case k2 => k_asm); (case k3 => k_asm); (case k4 => first | assumption | k_extra "my lay"); (case k5 => k_asm); (case kK => first | exact rfl | assumption); (case kd => ktr_room); (case ku => ktr_units); (case kt => k_extra "my pos")))
  k_with "my PreSM getMethod ref 6" => ((k_here; k_dflt (refine' method_slot ?k1 ?k2 ?k3 ?k4 ?k5 ?k6 ?kT ?k7 ?k8 ?k9 ?k10 ?k11 ?_; (case k1 => k_asm); (case k2 => k_asm); (case k3 => k_inst); (case k4 => k_is); (case k5 => k_is); (case k6 => k_is); (case kT => k_is); (case k7 => k_is); (case k8 => k_is); (case k9 => k_is); (case k10 => k_slotget); (case k11 => k_handed); k_whole)))
  k_with "my premS" => ((
      (case k1 => k_asm); (case k2 => k_asm); (case k3 => k_asm); (case k4 => first | assumption | k_extra "my lay"); (case k5 => k_asm); (case k6 => assumption); (case k7 => assumption); (case k8 => assumption); (case kK => first | exact rfl | assumption); (case kd => ktr_room); (case ku => ktr_units); (case kt => k_extra "my pos")))
  k_with "my young6" => (first
      | exact of_allLt (And.right (And.right (And.right (And.right (And.right (And.right (by assumption : _ ∧ _ ∧ _ ∧ _ ∧ _ ∧ _ ∧ AllLt _ _)))))))
      | exact of_allLt (And.right (And.right (And.right (And.right (And.right (And.right (And.right (by assumption : _ ∧ _ ∧ _ ∧ _ ∧ _ ∧ _ ∧ _ ∧ AllLt _ _))))))))
      | exact of_allLt (And.right (And.right (And.right (And.right (And.right (And.right (And.right (And.right (by assumption : _ ∧ _ ∧ _ ∧ _ ∧ _ ∧ _ ∧ _ ∧ _ ∧ AllLt _ _)))))))))
      | fail "my young6")
  trivial
theorem lines_Rn : True := by
  k_with "my enterR" => ((
      refine wpAny_call ?_
      k_dflt (refine' code_defX ?k1 ?k2 ?k3 ?k4 ?k5 ?XB ?TB ?D ?kA ?kK ?k6 ?k7 ?k8 ?k9 ?kB ?_ ?c2 ?c3 ?c4 ?c5; (case kA => exact rfl); (case kK => assumption); (case k1 => assumption); (case k2 => assumption); (case k3 => assumption); (case k4 => assumption); (case k5 => assumption); (case XB => assumption); (case TB => assumption); (case D => assumption); (case k6 => k_is); (case k7 => k_is); (case k8 => ktr_room); (case k9 => k_extra "my binds"); (case c5 => decide); (case kB => k_extra "my kB"); (case c2 => exact rfl); (case c3 => exact rfl); (case c4 => exact rfl); k_whole; intro zg' zL' zh' zFG' zF' zN' zB' zX' zT' zD'; (try dsimp only); (try k_lift zB'); (try k_fold))
      refine gen_toks (Nat.le_add_right _ _) ?_
      intro zk7 zhk7))
  trivial
local macro_rules | `(tactic| walk_at "call type:map") => `(tactic| k_extra "my map")
local macro_rules | `(tactic| walk_at "call type:zip") => `(tactic| k_extra "my zip")
local macro_rules | `(tactic| walk_at "call builtin:sorted") => `(tactic| k_extra "my sorted")
set_option maxHeartbeats 4000000 in
theorem count_iter_ct (w : World) (c : Addr) (news : Led) : Ct w 2 (.ref 170) [.ref c] [] news (fun n n' news' r => r = .ref c ∧ news' = news) := by
  k_extra "my start"
  intro p loose mean mg mb dp un gd cn cs a ccd cl outer A₀ base h₀ L m s Q E B F X N T hk hd hu ht hret
  k_extra "my enter"
  k_steps
  exact hret _ _ _ _ (by k_extra "my pos") (by k_asm) (by k_asm) ⟨rfl, rfl⟩
set_option maxHeartbeats 4000000 in
theorem count_next_ct (w : World) (c dx : Addr) (i : Int) (t u : Nat) (b : Bool) (news : Led) (h1 : @LT.lt Nat _ dx c) (h2 : ∀ q ∈ news, q.1 ≠ c) :
    Ct w 2 (.ref 177) [.ref c] [] ((c, cntObj dx i t b u) :: (dx, dictOf [] 0) :: news) (fun n n' news' r => ∃ t', r = .int i t ∧ news' = (c, cntObj dx (i + 1) t' b u) :: (dx, dictOf [] 0) :: news) := by
  k_extra "my start"
  intro p loose mean mg mb dp un gd cn cs a ccd cl outer A₀ base h₀ L m s Q E B F X N T hk hd hu ht hret
  k_extra "my enter"
  k_steps
  exact hret _ _ _ _ (by k_extra "my pos") (by k_asm) (by k_asm) ⟨_, rfl, rfl⟩
theorem cnt_iter_is (w : World) : findIn (hd.heap_1 w.params) (.ref 188) "__iter__" = some (some (.ref 170)) := by
  refine said ?_
  w_on
  k_fill
  unfold Said
  k_is
theorem cnt_iter_fn (w : World) : isFn (hd.heap_1 w.params) (.ref 170) = true := by
  refine said ?_
  w_on
  k_fill
  unfold Said
  k_is
/-- data and its keys, told -/
structure Data (w : World) (kk : Nat) (kf : Value) (need : Led) (kp : Str → KV) (vs : List Value) (P : Nat → Str) (TT : Nat → Nat) (ℓ : Nat) (n0 : Nat) : Prop where
  v : ∀ i, i < vs.length → vs[i]? = some (.str (P i) (TT i))
  tok : ∀ i, i < vs.length → TT i < n0 ∧ TT i ≠ 0
  same : ∀ i j, i < vs.length → j < vs.length → TT i = TT j → P i = P j
  len : ∀ i, i < vs.length → (kp (P i)).length = ℓ
  lo : 1 ≤ vs.length
  hi : vs.length ≤ 6
  key : ∀ v ∈ vs, ∀ news : Led, (∀ q ∈ need, q ∈ news) → Ct w kk kf [v] [] news (fun n n' news' r => ∃ ks, news' = ks ++ news ∧ (∀ p ∈ ks, ∀ q ∈ news, @LT.lt Nat _ q.1 p.1) ∧ KK kp v n n' ks r)
/-- the arguments of a call of _rank -/
structure RankArgs (w : World) (dl kf : Addr) (kw : List (Str × Value)) (b : Bool) (st : Int) (binds : List (Str × Value)) : Prop where
  bind : ∀ oc od fd sl, (hd.heap_1 w.params).lookup 244 = some ⟨oc, od, .func fd, sl⟩ → ∀ S, peek (hd.heap_1 w.params) S (bindArgs fd ⟨[.ref dl], kw⟩) = some binds
  names : ∀ y ∈ binds, y.1 = Str.ofString "data" ∨ y.1 = Str.ofString "key" ∨ y.1 = Str.ofString "reverse" ∨ y.1 = Str.ofString "ties" ∨ y.1 = Str.ofString "start"
  data : List.lookup (Str.ofString "data") binds.reverse = some (.ref dl)
  key : List.lookup (Str.ofString "key") binds.reverse = some (.ref kf)
  rev : List.lookup (Str.ofString "reverse") binds.reverse = some (.bool b)
  ties : ∃ t, List.lookup (Str.ofString "ties") binds.reverse = some (.str (Str.ofString "average") t)
  start : ∃ t, List.lookup (Str.ofString "start") binds.reverse = some (.int st t)
local macro_rules | `(tactic| walk_at "setItem ref int") => `(tactic| k_extra "my setitem")
local macro_rules | `(tactic| walk_at "exec For Tuple Call cons nil") => `(tactic| k_extra "my for")
local macro_rules | `(tactic| walk_at "exec For Tuple Name cons nil") => `(tactic| k_extra "my for")
local macro_rules | `(tactic| walk_at "pyIter ref") => `(tactic| first | k_extra "my iter2" | k_extra "my iter")
local macro_rules | `(tactic| walk_at "call type:list") => `(tactic| k_extra "my list")
theorem rk_ba {a b n : Nat} (h : b ≤ n) (hi : n ≤ 6) : b - a ≤ 1000 := by omega
theorem rk_ai {a b n i : Nat} (h : i < b - a) (e : b ≤ n) : a + i < n := by omega
theorem rk_d0 {a b : Nat} : (0 : Int) ≤ ((b - a : Nat) : Int) + 1 := by omega
theorem rk_d1 {a b n : Nat} (h : b ≤ n) (hi : n ≤ 6) : ((b - a : Nat) : Int) + 1 < 1000 := by omega
theorem rk_a1 {st : Int} {a : Nat} (h : st = 0 ∨ st = 1) : -1 ≤ st - 1 + (a : Int) := by omega
theorem rk_a2 {st : Int} {a b n : Nat} (h : st = 0 ∨ st = 1) (ab : a < b) (e : b ≤ n) (hi : n ≤ 6) : st - 1 + (a : Int) < 6 := by omega
theorem rk_a3 {a b : Nat} (ab : a < b) : (2 : Int) ≤ ((b - a : Nat) : Int) + 1 := by omega
theorem rk_a4 {a b n : Nat} (h : b ≤ n) (hi : n ≤ 6) : ((b - a : Nat) : Int) + 1 < 8 := by omega
set_option maxHeartbeats 8000000 in
theorem rank_ct (w : World) (kk : Nat) (vs : List Value) (dl : Addr) (n0 nt : Nat) (kf : Addr) (need news : Led) (kp : Str → KV) (P : Nat → Str) (TT : Nat → Nat) (ℓ : Nat) (kw : List (Str × Value)) (b : Bool) (st : Int) (binds : List (Str × Value)) (RA : RankArgs w dl kf kw b st binds)
    (hst : st = 0 ∨ st = 1) (hkk : kk ≤ 20) (hdl : (dl, lsObj vs n0) ∈ news) (hneed : ∀ q ∈ need, q ∈ news) (DD : Data w kk (.ref kf) need kp vs P TT ℓ nt) :
    CtR w nt 40 (.ref 244) [.ref dl] kw news (RankPost b st vs.length (fun i => kp (P i)) news) := by
  refine said ?_
  w_on
  k_fill
  unfold Said
  unfold CtR
  intro p loose mean mg mb dp un gd cn cs a ccd cl outer A₀ base h₀ L m s Q E B F X N T XB TB D hk hd hu ht hlo hret
  obtain ⟨RAb, RAn, RA1, RA2, RA3, ⟨rt, RA4⟩, ⟨rs, RA5⟩⟩ := RA
  k_with "my binds" => (
    (refine' kp_binds ?kx ?ke)
    (case kx => ((with_reducible rename Fr _ _ _ _ => kF); exact Frag.In.keeps (by k_asm) kF.keep))
    (case ke => (exact RAb _ _ _ _ (by k_is))))
  k_with "my kB" => (
    (intro y hy)
    (rcases RAn y hy with h | h | h | h | h <;> (rw [h]; exact rfl)))
  k_extra "my enterR"
  k_with "my map" => (
    k_dflt (refine' call_map ?k1 ?k2 ?k3 ?_; (case k1 => k_asm); (case k2 => k_asm); (case k3 => assumption)); (intro li Tm mo hm Fm Nm l1 l2 l3))
  k_with "my zip" => (
    (with_reducible rename News _ _ _ _ => Nz)
    (with_reducible rename Fr _ _ _ _ => Fz)
    (have Iz := InstAt.of_news Nz (.head _) (.tail _ (.head _)))
    k_dflt (refine' call_zip (map_pyIter (Nz _ (.tail _ (.tail _ (.head _)))).1 (owit_iter Fz (by k_asm) Iz (cnt_iter_is w) (cnt_iter_fn w) ?_)))
    rotate_left
    k_dflt (refine' Ct.use (count_iter_ct w _ _) ?k1 ?k2 ?k3 ?k4 ?k5 ?kK ?kd ?ku ?kt ?_; k_extra "my prem")
    (intro r9 news9 h9 tk9 T9 F9 N9 P9)
    (obtain ⟨e9, e8⟩ := P9)
    (subst e9)
    (subst e8)
    (refine owit_it F9 (by k_asm) (InstAt.of_news N9 (.head _) (.tail _ (.head _))) (g := .ref 177) (cnt_next_is w) ?_)
    (refine ⟨_, _, _, F9, N9, fun TI TO z hz Fz' Nz' z1 z2 z3 => ?_⟩))
  k_with "my sorted" => (
    (with_reducible rename News _ _ _ _ => Ns)
    (with_reducible rename Fr _ _ _ _ => Fs)
    (with_reducible rename Top _ _ _ _ _ _ => Ts)
    (with_reducible rename Frag.In _ _ => Xs)
    (have hxT := z1 _ (.head _))
    k_dflt (refine' sorted_zipW (w := w) (need := need) (kp := kp) (P := P) (TT := TT) (ℓ := ℓ) (vs := vs) (n0 := n0) Ns ⟨l2, l3, ?a3, ?a4, hxT, z2, z3⟩ ?hA ?hu Xs l1 hdl hneed DD.lo DD.hi ?ht DD.v ?hT DD.same DD.len ?key ?cnt Fs ?ho ?_)
    (case a3 => omega)
    (case a4 => omega)
    (case hu => ktr_units)
    (case ht => k_extra "my pos")
    (case hT => exact fun i hi => ⟨Nat.lt_of_lt_of_le (DD.tok i hi).1 (by k_extra "my pos"), (DD.tok i hi).2⟩)
    (case key => exact fun v hv news' hn => Ct.runs (DD.key v hv news' hn) (by k_asm) Xs Ts rfl (by ktr_room) (by ktr_units))
    (case cnt => exact fun i t u b news' h2 => Ct.runs (count_next_ct w _ _ i t u b news' (by omega) h2) (by k_asm) Xs Ts rfl (by ktr_room) (by ktr_units))
    (case hA => exact rfl)
    (case ho => exact ⟨rfl, rfl⟩)
    (intro q9 ds9 R9 SL9 c9 tk8 h8 tk7 T7 F7 N7 D7 S7 U7 V7 z7 p7 o7)
    (obtain ⟨vq, Ds, xs, eq7, SQ⟩ := seqd_of (SL := SL9) (c := c9) (b := b) D7 p7 DD.len)
    (rw [eq7] at N7)
    (clear eq7)
    (try dsimp only))
  k_with "call builtin:len" => (
    (with_reducible rename News _ _ _ _ => Nl)
    k_dflt (first
      | refine len_ledN (n := vs.length) Nl (by first | exact List.Mem.head _ | exact List.Mem.tail _ (List.Mem.head _)) SQ.len (Nat.le_trans DD.hi (by decide)) ?_
      | refine len_ledN (n := b6 - a6) Nl (by first | exact List.Mem.head _ | exact List.Mem.tail _ (List.Mem.head _)) (by simp) (rk_ba Gb.le DD.hi) ?_)
    (try dsimp only))
  k_with "binaryOp Mult ref int" => (
    (with_reducible rename News _ _ _ _ => Nl)
    (with_reducible rename Fr _ _ _ _ => Fl)
    k_dflt (refine mul_led Fl Nl (by first | exact List.Mem.head _ | exact List.Mem.tail _ (List.Mem.head _)) (by first | exact Nat.le_trans DD.hi (by decide) | (have := DD.hi; omega)) ?_)
    (intro RS h6 F6 N6 l6))
  k_with "my for" => (k_dflt (refine for_tk ?_))
  k_with "call builtin:iter" => (
    (with_reducible rename News _ _ _ _ => Nl)
    (with_reducible rename Fr _ _ _ _ => Fl)
    k_dflt (refine iter_led Fl Nl (by repeat (first | exact List.Mem.head _ | refine List.Mem.tail _ ?_)) ?_)
    (intro it h' F' N' l5)
    (try k_lt l5))
  k_with "my iter" => (
    (with_reducible rename News _ _ _ _ => Ng)
    (with_reducible rename Fr _ _ _ _ => Fg)
    (have Ig := InstAt.of_news Ng (.tail _ (.head _)) (.tail _ (.tail _ (.head _))))
    (refine owit_iter Fg (by k_asm) Ig (gb_facts w).1.1 (gb_facts w).1.2 ?_)
    k_dflt (refine' Ct.use (gb_iter_ct w _ _) ?k1 ?k2 ?k3 ?k4 ?k5 ?kK ?kd ?ku ?kt ?_; k_extra "my prem")
    (intro r9 news9 h9 tk9 T9 F9 N9 P9)
    (obtain ⟨e9, e8⟩ := P9)
    (subst e9)
    (subst e8)
    (refine owit_it F9 (by k_asm) (InstAt.of_news N9 (.tail _ (.head _)) (.tail _ (.tail _ (.head _)))) (g := .ref 86) (gb_facts w).2.1 ?_)
    (have hRS := fun q hq => l6 q (List.mem_cons_of_mem _ hq))
    k_dflt (refine rank_for (st := st) SQ DD.lo (by omega) (by omega) (by omega) (by omega) (by omega) (by omega) hRS (by k_asm) F9 (by k_asm) (by k_asm) XB TB (by k_asm) rfl (by ktr_room) (by ktr_units) (by k_extra "my pos") N9 (by k_extra "my look") (by k_extra "my look") ?_ ?_)
    (intro a6 b6 g6 P6 gr rd ser tg ts tn o6 res c6 ti m6 h5 k6 oo0 oo1 oo2 oo3 oo4 oo5 Gb Rb kk6 GG6 l11 l12 l13 l14 ho6 j1 j2 j3 j4 F5 N5)
    rotate_left
    (intro g6 res c6 m6 h5 k6 kk6 GG6 j1 j3 j4 F5 N5)
    rotate_left
    all_goals (obtain ⟨KT6, B6, X6, T6, D6⟩ := GG6)
    all_goals (try dsimp only))
  k_with "my list" => (
    (with_reducible rename News _ _ _ _ => Ng)
    (with_reducible rename Fr _ _ _ _ => Fg)
    k_dflt (refine group_list Gb (SQ.mono fun q hq => List.mem_cons_of_mem _ hq) DD.hi oo1 oo2 oo3 oo4 oo5 l11 l12 ?hR1 ?hR2 ho6 (by k_asm) Fg (by k_asm) (by k_asm) XB TB (by k_asm) rfl (by ktr_room) (by ktr_units) (by k_extra "my pos") Ng ?_)
    (case hR1 => (have z1 := lt_chain oo0 oo4 oo5 oo3 oo1; exact ne_led z1 fun q hq => Nat.lt_trans (hRS q hq) z1))
    (case hR2 => (have z1 := Nat.lt_trans (lt_chain oo0 oo4 oo5 oo3 oo1) oo2; exact ne_led z1 fun q hq => Nat.lt_trans (hRS q hq) z1))
    (intro S6 g7 go7 o7' c7 h7' tk7' T7' l7 l8 G7 GG7 F7' N7')
    (obtain ⟨KT7, B7, X7, T7, D7⟩ := GG7)
    (try dsimp only))
  k_with "my iter2" => (
    (with_reducible rename News _ _ _ _ => Ng)
    (with_reducible rename Fr _ _ _ _ => Fg)
    k_dflt (refine rank_in rfl Gb SQ Fg Ng (by k_extra "my look") (by k_extra "my look") (by k_extra "my look") (by k_extra "my look") j3 (by k_extra "my pos") j4 ?_ ?_)
    (intro I8 i8 res8 c8 rt8 ti8 ts8 t8 m8 o8 h8 k8 hi8 kk8 f1 f2 f3 f4 f5 f0 f6 F8 N8 ho8 hD8)
    rotate_left
    (intro res8 c8 rt8 ti8 ts8 m8 h8 k8 kk8 f1 f3 f4 f5 f6 F8 N8)
    rotate_left
    all_goals (try dsimp only))
  k_with "my setitem" => (k_dflt (
    (with_reducible rename News _ _ _ _ => Ng)
    (with_reducible rename Fr _ _ _ _ => Fg)
    (have hI8 : @Ne Nat I8 RS := ne_of_news Ng (.head _) (.tail _ (.head _)) (by rw [ho8.1]; simp))
    (have hS6 := l7 (RS, _) (.head _))
    k_dflt (refine set_led1 Fg Ng hI8 ?hs2 ?hs3 ?hs4 ?_)
    (case hs2 => (exact gl_ne oo0 oo1 oo2 oo3 oo4 oo5 hS6 hRS))
    (case hs3 => (rw [f5]; exact os_lt p7 (rk_ai hi8 Gb.le)))
    (case hs4 => (rw [f5]; first | exact Nat.le_trans DD.hi (by decide) | (have := DD.hi; omega)))
    (intro h4 F4 N4)))
  k_with "binaryOp Div int int" => (k_dflt (refine div_half rk_d0 (rk_d1 Gb.le DD.hi) rfl ?_); (try dsimp only))
  k_with "binaryOp Add int float" => (k_dflt (refine add_half (rk_a1 hst) (rk_a2 hst Gb.lt Gb.le DD.hi) (rk_a3 Gb.lt) (rk_a4 Gb.le DD.hi) ?_); (try dsimp only))
  repeat' (first | (k_unfold; (try dsimp only)) | walk1 | (dsimp only; walk1))
  · refine TurnF.intro ho8 F4 N4 (.head _) (fun q hq => .tail _ hq) (by k_extra "my pos") ⟨by k_extra "my pos", _, c8, rt8, ti8, ts8, rfl, by k_extra "my look", by k_extra "my look", by k_extra "my look", by k_extra "my look", by rw [List.length_set]; exact f5, f0, rank_set (t := rt8) (fun j j' h1 h2 h3 => os_inj p7 h1 h2 h3) (fun j hj => os_lt p7 hj) Gb Rb hi8 f5 f0 f6⟩
  · with_reducible rename Fr _ _ _ _ => Fe
    with_reducible rename News _ _ _ _ => Ne
    refine TurnG.intro (F := Fe) Gb.lt ⟨Gb.le, fun h => Gb.next h, by k_extra "my pos", go7, o7', res8, c8, _, G7, by k_extra "my look", by rw [i_end Gb.lt]; k_extra "my look", rfl, f5, f6⟩ ⟨KT6.trans KT7, B7, X7, T7, D7⟩ (news_sub Ne sub_drop1) (by k_extra "my pos")
  · refine hret _ _ _ _ _ (by k_extra "my pos") ⟨by assumption, by assumption, by assumption, by assumption, by assumption⟩ (by k_asm) (news_sub (by k_asm) fun q hq => ?_) ⟨RS, res, c6, rfl, rfl, fun q hq => hRS q (.tail _ (U7 q hq)), j3, rank_res p7 o7 j4⟩
    rcases List.mem_cons.mp hq with rfl | hq
    · exact .head _
    · exact .tail _ (.tail _ (U7 q hq))
end
section
theorem names_of {binds : List (Str × Value)} (h : (binds.all fun y => decide (y.1 = Str.ofString "data" ∨ y.1 = Str.ofString "key" ∨ y.1 = Str.ofString "reverse" ∨ y.1 = Str.ofString "ties" ∨ y.1 = Str.ofString "start")) = true) :
    ∀ y ∈ binds, y.1 = Str.ofString "data" ∨ y.1 = Str.ofString "key" ∨ y.1 = Str.ofString "reverse" ∨ y.1 = Str.ofString "ties" ∨ y.1 = Str.ofString "start" := fun y hy => of_decide_eq_true (List.all_eq_true.mp h y hy)
theorem of_fd {K : Frag} {P : FuncData → Prop} {a : Addr} {oc : Value} {od : Option Addr} {fd : FuncData} {sl : Array (Option Value)} (h0 : List.lookup a K = some ⟨oc, od, .func fd, sl⟩) (h : P fd) : ∀ oc' od' fd' sl', List.lookup a K = some ⟨oc', od', .func fd', sl'⟩ → P fd' := fun _ _ _ _ e => by
  rw [h0] at e
  cases e
  exact h
set_option maxHeartbeats 4000000 in
theorem rargs1 (w : World) (dl kf : Addr) : ∃ binds, RankArgs w dl kf [(Str.ofString "key", .ref kf)] false 1 binds := by
  refine said ?_
  w_on
  k_fill
  unfold Said
  exact ⟨_, ⟨of_fd (P := fun fd => ∀ S, peek (hd.heap_1 w.params) S (bindArgs fd _) = some _) (by k_is) (by exact fun _ => rfl), names_of (by first | rfl | with_unfolding_all rfl | decide), rfl, rfl, rfl, ⟨_, rfl⟩, ⟨_, rfl⟩⟩⟩
set_option maxHeartbeats 4000000 in
theorem rargs2 (w : World) (dl kf : Addr) : ∃ binds, RankArgs w dl kf [(Str.ofString "key", .ref kf), (Str.ofString "reverse", .bool true)] true 1 binds := by
  refine said ?_
  w_on
  k_fill
  unfold Said
  exact ⟨_, ⟨of_fd (P := fun fd => ∀ S, peek (hd.heap_1 w.params) S (bindArgs fd _) = some _) (by k_is) (by exact fun _ => rfl), names_of (by first | rfl | with_unfolding_all rfl | decide), rfl, rfl, rfl, ⟨_, rfl⟩, ⟨_, rfl⟩⟩⟩
set_option maxHeartbeats 4000000 in
theorem rargs3 (w : World) (dl kf : Addr) (t : Nat) : ∃ binds, RankArgs w dl kf [(Str.ofString "key", .ref kf), (Str.ofString "start", .int 0 t)] false 0 binds := by
  refine said ?_
  w_on
  k_fill
  unfold Said
  exact ⟨_, ⟨of_fd (P := fun fd => ∀ S, peek (hd.heap_1 w.params) S (bindArgs fd _) = some _) (by k_is) (by exact fun _ => rfl), names_of (by first | rfl | with_unfolding_all rfl | decide), rfl, rfl, rfl, ⟨_, rfl⟩, ⟨_, rfl⟩⟩⟩
end
section
open PySem PySem.W PySem.Calls PyProof.Rows PySem.Spec
/-- the addresses of one ledger stand apart from those of another -/
def Apart (own led : Led) : Prop := ∀ q ∈ led, ∀ p ∈ own, q.1 ≠ p.1
section
variable {w : World} {A : Around} {E : Value → Shared → Prop} {s : Shared} {h₀ : Heap} {L : Addr} {m : Str → Option Value} {env : Env}
/-- the block's frame: `FA fl v`: the ledger's part fl is the frame's, the loop's name holds v -/
structure BFrame (w : World) (A : Around) (h₀ : Heap) (L : Addr) (m : Str → Option Value) (cenv : Env) (C : Addr) (x : Str) (FA : Led → Option Value → Prop) : Prop where
  store : ∀ (fl : Led) (vo : Option Value) (v : Value) (rest : Led) (s : Shared) (Q : Unit → Shared → Prop) (E : Value → Shared → Prop), FA fl vo → Fr h₀ L s.heap m → News h₀ L s.heap (fl ++ rest) → Apart fl rest →
    (∀ fl' h' tk', s.toks ≤ tk' → FA fl' (some v) → fl'.map (·.1) = fl.map (·.1) → Fr h₀ L h' m → News h₀ L h' (fl' ++ rest) → Q () { s with heap := h', toks := tk' }) → wpAny (model PR w) A (storeName cenv x v) Q E s
  ns : ∀ (fl : Led) (vo : Option Value) (h : Heap), FA fl vo → (∀ q ∈ fl, h.get? q.1 = some q.2) → ∃ m', h.Ns C m'
  mem : ∀ (fl : Led) (vo : Option Value), FA fl vo → C ∈ fl.map (·.1)
theorem Apart.keys {fl fl' led : Led} (h : Apart fl led) (e : fl'.map (·.1) = fl.map (·.1)) : Apart fl' led := fun q hq p hp => by
  have : p.1 ∈ fl.map (·.1) := e ▸ List.mem_map_of_mem hp
  obtain ⟨p', hp', e'⟩ := List.mem_map.mp this
  rw [← e']
  exact h q hq p' hp'
/-- what an element hands on -/
def ElTo (h₀ : Heap) (L : Addr) (m : Str → Option Value) (s₀ : Shared) (own : Led) (J : Nat → Nat → List Value → Led → Prop) (i : Nat) (ys : List Value) (y : Value) (s : Shared) : Prop :=
  ∃ h' tk' led', s = { s₀ with heap := h', toks := tk' } ∧ s₀.toks ≤ tk' ∧ Fr h₀ L h' m ∧ News h₀ L h' (own ++ led') ∧ Apart own led' ∧ J (i + 1) tk' (ys ++ [y]) led'
theorem ElTo.intro {s₀ : Shared} {own : Led} {J : Nat → Nat → List Value → Led → Prop} {i : Nat} {ys : List Value} {y : Value} {h' : Heap} {tk' : Nat} (led' : Led) (ht : s₀.toks ≤ tk') (F : Fr h₀ L h' m) (N : News h₀ L h' (own ++ led')) (A : Apart own led') (hJ : J (i + 1) tk' (ys ++ [y]) led') :
    ElTo h₀ L m s₀ own J i ys y { s₀ with heap := h', toks := tk' } := ⟨h', tk', led', rfl, ht, F, N, A, hJ⟩
/-- what a test that is not met hands on -/
def ElNo (h₀ : Heap) (L : Addr) (m : Str → Option Value) (s₀ : Shared) (own : Led) (J : Nat → Nat → List Value → Led → Prop) (i : Nat) (ys : List Value) (s : Shared) : Prop :=
  ∃ h' tk' led', s = { s₀ with heap := h', toks := tk' } ∧ s₀.toks ≤ tk' ∧ Fr h₀ L h' m ∧ News h₀ L h' (own ++ led') ∧ Apart own led' ∧ J (i + 1) tk' ys led'
theorem ElNo.intro {s₀ : Shared} {own : Led} {J : Nat → Nat → List Value → Led → Prop} {i : Nat} {ys : List Value} {h' : Heap} {tk' : Nat} (led' : Led) (ht : s₀.toks ≤ tk') (F : Fr h₀ L h' m) (N : News h₀ L h' (own ++ led')) (A : Apart own led') (hJ : J (i + 1) tk' ys led') :
    ElNo h₀ L m s₀ own J i ys { s₀ with heap := h', toks := tk' } := ⟨h', tk', led', rfl, ht, F, N, A, hJ⟩
theorem comp_loop {elt iter : Expr} {ifs : List Expr} {x : Str} {px : Pos} {scope : Scope} {pos : Pos} {cenv : Env} {I D C ax : Addr} {FA : Led → Option Value → Prop} {vs : List Value} {c : Nat} {fl : Led} {vo : Option Value} {o : Obj} {led : Led} {R : Result → Shared → Prop}
    (J : Nat → Nat → List Value → Led → Prop) (BF : BFrame w A h₀ L m cenv C x FA) (hh : A.handled = none) (hf : FA fl vo) (ho : IsLi ax 0 o) (F : Fr h₀ L s.heap m) (N : News h₀ L s.heap (fl ++ (I, o) :: (D, lsObj [] 0) :: led))
    (ap : Apart (fl ++ [(I, o), (D, lsObj [] 0)]) led) (apf : Apart fl [(I, o), (D, lsObj [] 0)]) (hID : I ≠ D) (h0 : J 0 s.toks [] led) (hJ : ∀ i k ys led', J i k ys led' → (ax, lsObj vs c) ∈ led') (hJl : ∀ i k ys led', J i k ys led' → ys.length ≤ i) (hv : vs.length ≤ 1000)
    (turn : ∀ i v ys fl o led h k k0 (E : Value → Shared → Prop), i < vs.length → vs[i]? = some v → s.toks ≤ k0 → k0 ≤ k → J i k0 ys led → FA fl (some v) → IsLi ax (i + 1) o → Fr h₀ L h m → News h₀ L h (fl ++ (I, o) :: (D, lsObj ys ys.length) :: led) → Apart (fl ++ [(I, o), (D, lsObj ys ys.length)]) led →
      wpAny (model PR w) A (forIn ifs true fun c r => if r = true then do let ok ← isTrue c cenv (eval c cenv); pure (ForInStep.yield ok) else pure (ForInStep.yield r)) (fun ok s₃ => if ok = true then wpAny (model PR w) A (eval elt cenv) (ElTo h₀ L m { s with heap := h, toks := k } (fl ++ [(I, o), (D, lsObj ys ys.length)]) J i ys) E s₃ else ElNo h₀ L m { s with heap := h, toks := k } (fl ++ [(I, o), (D, lsObj ys ys.length)]) J i ys s₃) E { s with heap := h, toks := k })
    (fin : ∀ ys led h k, s.toks ≤ k → J vs.length k ys led → Fr h₀ L h m → News h₀ L h ((D, lsObj ys ys.length) :: led) → (∀ q ∈ led, q.1 ≠ D ∧ q.1 ≠ C) → (∃ m', h.Ns C m') → R (.ok .next) { s with heap := h, toks := k }) :
    codeAny (model PR w) A (.compLoop (.ListComp elt [⟨.Name x px, iter, ifs, 0⟩] scope pos) 0 (.ref I) (.ref D) cenv) R s := by
  refine codeAny_compLoop_tests (fun n s' => ∃ i ys fl vo o led, n = vs.length + 1 - i ∧ i ≤ vs.length ∧ FA fl vo ∧ IsLi ax i o ∧ J i s'.toks ys led ∧ Fr h₀ L s'.heap m ∧ News h₀ L s'.heap (fl ++ (I, o) :: (D, lsObj ys ys.length) :: led) ∧ Apart (fl ++ [(I, o), (D, lsObj ys ys.length)]) led ∧ Apart fl [(I, o), (D, lsObj ys ys.length)] ∧ s.toks ≤ s'.toks ∧ s' = { s with heap := s'.heap, toks := s'.toks }) ?_ (vs.length + 1)
    ⟨0, [], fl, vo, o, led, rfl, Nat.zero_le _, hf, ho, h0, F, N, ap, apf, Nat.le_refl _, rfl⟩
  rintro n ⟨hp', gn', dn', tk', os'⟩ ⟨i, ys, fl, vo, o, led, rfl, hi, hf, ho, hj, F', N', ap', apf', hk, e⟩
  obtain ⟨rfl, rfl, rfl⟩ : gn' = s.gens ∧ dn' = s.drawn ∧ os' = s.os := by cases e; exact ⟨rfl, rfl, rfl⟩
  clear e
  dsimp only at hj F' N' hk
  have hax := N' (ax, lsObj vs c) (List.mem_append_right _ (.tail _ (.tail _ (hJ _ _ _ _ hj))))
  have hI := N' (I, o) (List.mem_append_right _ (.head _))
  have hDm := N' (D, lsObj ys ys.length) (List.mem_append_right _ (.tail _ (.head _)))
  have S := steps_list (prog := PR) (w := w) (I := I) (l := ax) (vs := vs) (k := c)
  by_cases hlt : i < vs.length
  · refine S.item A _ _ _ i o hlt ho hI.1 (fun q hq => by rcases List.mem_singleton.mp hq with rfl; exact hax.1) fun v h2 k2 o2 hV hk2 ho2 hI2 hs2 => ?_
    obtain ⟨hvi, rfl⟩ := hV
    have F2 : Fr h₀ L h2 m := F'.change hs2 hI.2.1 hI.2.2
    have N2 : News h₀ L h2 (fl ++ (I, o2) :: (D, lsObj ys ys.length) :: led) := news_put N' hs2 (List.mem_append_right _ (.head _)) hI2 fun q hq => by
      rcases List.mem_append.mp hq with hq | hq
      · exact .inr ⟨List.mem_append_left _ hq, fun z => apf' (I, o) (.head _) q hq z.symm⟩
      rcases List.mem_cons.mp hq with rfl | hq
      · exact .inl rfl
      rcases List.mem_cons.mp hq with rfl | hq
      · exact .inr ⟨List.mem_append_right _ (.tail _ (.head _)), hID.symm⟩
      · exact .inr ⟨List.mem_append_right _ (.tail _ (.tail _ hq)), ap' q hq (I, o) (List.mem_append_right _ (.head _))⟩
    have ap2 : Apart (fl ++ [(I, o2), (D, lsObj ys ys.length)]) led := ap'.keys (by simp)
    have apf2 : Apart fl [(I, o2), (D, lsObj ys ys.length)] := fun q hq p hp => by
      rcases List.mem_cons.mp hq with rfl | hq
      · exact apf' (I, o) (.head _) p hp
      · rcases List.mem_singleton.mp hq with rfl; exact apf' _ (.tail _ (.head _)) p hp
    refine wpAny_assign_Name (BF.store fl vo v ((I, o2) :: (D, lsObj ys ys.length) :: led) _ _ _ hf F2 N2 (fun q hq p hp => ?_) fun fl3 h3 k3 hk3 hf3 hfe F3 N3 => ?_)
    · rcases List.mem_cons.mp hq with rfl | hq
      · exact apf2 _ (.head _) p hp
      rcases List.mem_cons.mp hq with rfl | hq
      · exact apf2 _ (.tail _ (.head _)) p hp
      · exact ap2 q hq p (List.mem_append_left _ hp)
    have ap3 : Apart (fl3 ++ [(I, o2), (D, lsObj ys ys.length)]) led := ap2.keys (by simp [hfe])
    have apf3 : Apart fl3 [(I, o2), (D, lsObj ys ys.length)] := fun q hq => by
      have := apf2.keys (fl' := fl3) hfe
      exact this q hq
    have t := turn i v ys fl3 o2 led h3 k3 k2 (notedBy (model PR w) A cenv fun e s' => R (.error e) s') hlt hvi hk hk3 hj hf3 ho2 F3 N3 ap3
    refine wpAny_mono t (fun ok s4 h4 => ?_) fun _ _ z => z
    cases ok with
    | false =>
      simp only [Bool.false_eq_true, if_false] at h4 ⊢
      obtain ⟨h5, k5, led5, rfl, hk5, F5, N5, ap5, j5⟩ := h4
      refine ⟨vs.length + 1 - (i + 1), by omega, i + 1, ys, fl3, some v, o2, led5, rfl, hlt, hf3, ho2, j5, F5, by simpa using N5, ap5, apf3, ?_, rfl⟩
      exact Nat.le_trans hk (Nat.le_trans hk3 hk5)
    | true =>
      simp only [if_true] at h4 ⊢
      refine wpAny_mono h4 (fun y s5 h5 => ?_) fun _ _ z => z
      obtain ⟨h5, k5, led5, rfl, hk5, F5, N5, ap5, j5⟩ := h5
      have N5' : News h₀ L h5 (fl3 ++ (I, o2) :: (D, lsObj ys ys.length) :: led5) := by simpa using N5
      have zD := N5' (D, lsObj ys ys.length) (List.mem_append_right _ (.tail _ (.head _)))
      have hyl := hJl _ _ _ _ hj
      refine append_at (hsz := by rw [List.size_toArray, sizeLine_eq]; omega) zD.1 fun h6 hs6 hD6 => ?_
      have e6 : ({ cls := .type "list", data := .seq (ys.toArray.push y) (ys.length + 1) } : Obj) = lsObj (ys ++ [y]) (ys ++ [y]).length := by
        show ({ cls := .type "list", data := .seq (ys.toArray.push y) (ys.length + 1) } : Obj) = { cls := .type "list", data := .seq (ys ++ [y]).toArray (ys ++ [y]).length }
        rw [List.length_append, List.length_singleton, List.push_toArray]
      rw [e6] at hD6
      have ap6 : Apart (fl3 ++ [(I, o2), (D, lsObj (ys ++ [y]) (ys ++ [y]).length)]) led5 := ap5.keys (by simp)
      refine ⟨vs.length + 1 - (i + 1), by omega, i + 1, ys ++ [y], fl3, some v, o2, led5, rfl, hlt, hf3, ho2, j5, F5.change hs6 zD.2.1 zD.2.2, ?_, ap6, ?_, ?_, rfl⟩
      · refine news_put N5' hs6 (List.mem_append_right _ (.tail _ (.head _))) hD6 fun q hq => ?_
        rcases List.mem_append.mp hq with hq | hq
        · exact .inr ⟨List.mem_append_left _ hq, fun z => apf3 _ (.tail _ (.head _)) q hq z.symm⟩
        rcases List.mem_cons.mp hq with rfl | hq
        · exact .inr ⟨List.mem_append_right _ (.head _), hID⟩
        rcases List.mem_cons.mp hq with rfl | hq
        · exact .inl rfl
        · exact .inr ⟨List.mem_append_right _ (.tail _ (.tail _ hq)), ap5 q hq _ (List.mem_append_right _ (.tail _ (.head _)))⟩
      · intro q hq p hp
        rcases List.mem_cons.mp hq with rfl | hq
        · exact apf3 _ (.head _) p hp
        · rcases List.mem_singleton.mp hq with rfl; exact apf3 (D, lsObj ys ys.length) (.tail _ (.head _)) p hp
      · exact Nat.le_trans hk (Nat.le_trans hk3 hk5)
  · obtain rfl : i = vs.length := by omega
    refine S.fin A _ _ _ o hh ho hI.1 (fun q hq => by rcases List.mem_singleton.mp hq with rfl; exact hax.1) fun h2 hs2 => ?_
    have N3 : News h₀ L hp' ((I, o) :: (fl ++ (D, lsObj ys ys.length) :: led)) := news_sub N' (by
      first
        | k_extra "om sub"
        | (intro q hq
           simp only [List.mem_cons, List.mem_append] at hq ⊢
           rcases hq with rfl | hq | rfl | hq <;> simp [*]))
    obtain ⟨F2, N2⟩ := fr_ext F' N3 (fun q hq => by
      rcases List.mem_append.mp hq with hq | hq
      · exact fun z => apf' (I, o) (.head _) q hq z.symm
      rcases List.mem_cons.mp hq with rfl | hq
      · exact hID.symm
      · exact ap' q hq (I, o) (List.mem_append_right _ (.head _))) hs2
    have z := fin ys led h2 tk' hk hj F2 (fun q hq => N2 q (List.mem_append_right _ hq)) (fun q hq => ⟨ap' q hq _ (List.mem_append_right _ (.tail _ (.head _))), fun e => by
      obtain ⟨p, hp, e'⟩ := List.mem_map.mp (BF.mem fl vo hf)
      exact ap' q hq p (List.mem_append_left _ hp) (e.trans e'.symm)⟩) (BF.ns fl vo h2 hf fun q hq => (N2 q (List.mem_append_left _ hq)).1)
    exact z
open LCg in
/-- a block whose loop's name is a local -/
def FAl (C : Addr) (x : Str) (fl : Led) (vo : Option Value) : Prop := ∃ oC m', fl = [(C, oC)] ∧ LCg.NsObj oC m' ∧ ∀ v, vo = some v → m' x = some v
theorem bframe_l {scope : Scope} {cl : List (Str × Addr)} {C : Addr} {x : Str} (hx : scope.names.lookup x = some .local) (hkind : scope.kind = .function) : BFrame w A h₀ L m (compEnvC scope cl C env) C x (FAl C x) where
  store := by
    rintro fl vo v rest s Q E ⟨oC, m', rfl, hns, _⟩ F N ap k
    have z := N (C, oC) (.head _)
    refine wpAny_storeName_local (lookup_relabel_local hx) (hns.ns z.1) (fun h₃ hn₃ hs₃ => ?_) (by simp [compEnvC, relabel, hkind])
    obtain ⟨oC', he, hns'⟩ := LCg.ns_obj hn₃
    refine k [(C, oC')] h₃ _ (Nat.le_succ _) ⟨oC', _, rfl, hns', fun v' hv' => by cases hv'; simp⟩ rfl (F.change hs₃ z.2.1 z.2.2) (news_at0 N hs₃ he fun q hq => ap q hq (C, oC) (.head _))
  ns := by
    rintro fl vo h ⟨oC, m', rfl, hns, _⟩ hh
    exact ⟨m', hns.ns (hh _ (.head _))⟩
  mem := by
    rintro fl vo ⟨oC, m', rfl, _⟩
    exact .head _
/-- a block whose loop's name is a cell -/
def FAc (C cc : Addr) (fl : Led) (vo : Option Value) : Prop := ∃ oC m' oc, fl = [(C, oC), (cc, oc)] ∧ LCg.NsObj oC m' ∧ oc.data = .cell vo ∧ C ≠ cc
theorem bframe_c {scope : Scope} {cl : List (Str × Addr)} {C cc : Addr} {x : Str} (hx : (compEnvC scope cl C env).kindOf x = some .cell) (hkind : scope.kind = .function) (hc : cl.lookup x = some cc) : BFrame w A h₀ L m (compEnvC scope cl C env) C x (FAc C cc) where
  store := by
    rintro fl vo v rest s Q E ⟨oC, m', oc, rfl, hns, hd, hne⟩ F N ap k
    have z := N (cc, oc) (.tail _ (.head _))
    refine wpAny_storeName_cell (by exact hkind) hx hc ⟨oc, z.1, hd⟩ fun h₃ hn₃ hs₃ => ?_
    obtain ⟨oc', he, hd'⟩ := hn₃
    refine k [(C, oC), (cc, oc')] h₃ _ (Nat.le_refl _) ⟨oC, m', oc', rfl, hns, hd', hne⟩ rfl (F.change hs₃ z.2.1 z.2.2) (news_put N hs₃ (.tail _ (.head _)) he fun q hq => ?_)
    rcases List.mem_cons.mp hq with rfl | hq
    · exact .inr ⟨.head _, hne⟩
    rcases List.mem_cons.mp hq with rfl | hq
    · exact .inl rfl
    · exact .inr ⟨.tail _ (.tail _ hq), ap q hq (cc, oc) (.tail _ (.head _))⟩
  ns := by
    rintro fl vo h ⟨oC, m', oc, rfl, hns, _⟩ hh
    exact ⟨m', hns.ns (hh _ (.head _))⟩
  mem := by
    rintro fl vo ⟨oC, m', oc, rfl, _⟩
    exact .head _
/-- a turn of a block, told for the block's frame -/
def Turns (w : World) (A : Around) (h₀ : Heap) (L : Addr) (m : Str → Option Value) (s : Shared) (elt : Expr) (ifs : List Expr) (vs : List Value) (ax : Addr) (cenv : Env) (FA : Led → Option Value → Prop) (J : Nat → Nat → List Value → Led → Prop) : Prop :=
  ∀ (I D : Addr) i v ys fl o led h k k0 (E : Value → Shared → Prop), i < vs.length → vs[i]? = some v → s.toks ≤ k0 → k0 ≤ k → J i k0 ys led → FA fl (some v) → IsLi ax (i + 1) o → Fr h₀ L h m → News h₀ L h (fl ++ (I, o) :: (D, lsObj ys ys.length) :: led) → Apart (fl ++ [(I, o), (D, lsObj ys ys.length)]) led →
      wpAny (model PR w) A (forIn ifs true fun c r => if r = true then do let ok ← isTrue c cenv (eval c cenv); pure (ForInStep.yield ok) else pure (ForInStep.yield r)) (fun ok s₃ => if ok = true then wpAny (model PR w) A (eval elt cenv) (ElTo h₀ L m { s with heap := h, toks := k } (fl ++ [(I, o), (D, lsObj ys ys.length)]) J i ys) E s₃ else ElNo h₀ L m { s with heap := h, toks := k } (fl ++ [(I, o), (D, lsObj ys ys.length)]) J i ys s₃) E { s with heap := h, toks := k }
/-- what is wanted of a block behind its source -/
def CompLed (w : World) (A : Around) (E : Value → Shared → Prop) (env : Env) (elt iter : Expr) (x : Str) (px : Pos) (ifs : List Expr) (scope : Scope) (cl : List (Str × Addr)) (pos : Pos) (RR : Value → Addr → Result → Shared → Prop) (xv : Value) (s : Shared) : Prop :=
  wpAny (model PR w) A (pyIter xv) (fun it s₂ => wpAny (model PR w) A (newList []) (fun acc s₃ => wpAny (model PR w) A (newFunctionEnv scope env.globals cl [] env.qual none .none (some env)) (fun cenv s₄ =>
      codeAny (model PR w) A (.compStart (.ListComp elt [⟨.Name x px, iter, ifs, 0⟩] scope pos) 0 it acc { cenv with scope := relabel scope env }) (RR acc cenv.locals) s₄) E s₃) E s₂) E s
theorem apart_of {own led : Led} {b : Nat} (h1 : ∀ q ∈ led, @LT.lt Nat _ q.1 b) (h2 : ∀ p ∈ own, @LE.le Nat _ b p.1) : Apart own led := fun q hq p hp e => by
  have := h1 q hq; have := h2 p hp; rw [e] at *; omega
theorem comp_go_l {elt iter : Expr} {ifs : List Expr} {x : Str} {px : Pos} {scope : Scope} {cl : List (Str × Addr)} {pos : Pos} {ax : Addr} {vs : List Value} {c : Nat} {led : Led} {RR : Value → Addr → Result → Shared → Prop}
    (J : Nat → Nat → List Value → Led → Prop) (hx : scope.names.lookup x = some .local) (hcell : ∀ y ∈ scope.names, y.2 ≠ .cell) (hkind : scope.kind = .function) (hh : A.handled = none) (F : Fr h₀ L s.heap m) (N : News h₀ L s.heap led) (h0 : J 0 s.toks [] led)
    (hJ : ∀ i k ys led', J i k ys led' → (ax, lsObj vs c) ∈ led') (hJl : ∀ i k ys led', J i k ys led' → ys.length ≤ i) (hv : vs.length ≤ 1000)
    (turn : ∀ C, Turns w A h₀ L m s elt ifs vs ax (compEnvC scope cl C env) (FAl C x) J)
    (hRR : ∀ D C h k ys led, s.toks ≤ k → J vs.length k ys led → Fr h₀ L h m → News h₀ L h ((D, lsObj ys ys.length) :: led) → (∀ q ∈ led, q.1 ≠ D ∧ q.1 ≠ C) → (∃ m', h.Ns C m') → h₀.get? C = none → C ≠ L → C ≠ D → RR (.ref D) C (.ok .next) { s with heap := h, toks := k }) :
    CompLed w A E env elt iter x px ifs scope cl pos RR (.ref ax) s := by
  have hax := hJ _ _ _ _ h0
  have hl : s.heap.IsList ax vs.toArray := ⟨_, (N _ hax).1, rfl, c, rfl⟩
  unfold CompLed
  refine wpAny_pyIter_list hl ?_
  have F1 := F.push (liObj ax 0)
  have N1 := N.push F (liObj ax 0)
  have F2 := F1.push (lsObj [] 0)
  have N2 := N1.push F1 (lsObj [] 0)
  have z1 : (s.heap.push (liObj ax 0)).objs.size = s.heap.objs.size + 1 := Heap.size_push ..
  have z2 : ((s.heap.push (liObj ax 0)).push (lsObj [] 0)).objs.size = s.heap.objs.size + 2 := by rw [Heap.size_push, z1]
  refine wpAny_newObj_type (wpAny_newFunctionEnv hcell (by intro y hy; simp at hy) (fun h₁ hns₁ hsb₁ => ?_) hkind)
  dsimp only at hns₁ hsb₁ ⊢
  have F3 := F2.push ({ cls := .type "dict", data := .dict #[] } : Obj)
  have N3 := N2.push F2 ({ cls := .type "dict", data := .dict #[] } : Obj)
  have hC := N3 _ (.head _)
  obtain ⟨oC, heC, hoC⟩ := LCg.ns_obj hns₁
  have F4 : Fr h₀ L h₁ m := F3.change hsb₁ hC.2.1 hC.2.2
  have big : ∀ q ∈ led, @LT.lt Nat _ q.1 s.heap.objs.size := fun q hq => Heap.lt_size (N q hq).1
  have l1 : @LT.lt Nat _ s.heap.objs.size ((s.heap.push (liObj ax 0)).push (lsObj [] 0)).objs.size := by rw [z2]; omega
  have l2 : @LT.lt Nat _ (s.heap.push (liObj ax 0)).objs.size ((s.heap.push (liObj ax 0)).push (lsObj [] 0)).objs.size := by rw [z2, z1]; omega
  have l3 : @LT.lt Nat _ s.heap.objs.size (s.heap.push (liObj ax 0)).objs.size := by rw [z1]; omega
  have N4 : News h₀ L h₁ ([(((s.heap.push (liObj ax 0)).push (lsObj [] 0)).objs.size, oC)] ++ (s.heap.objs.size, liObj ax 0) :: ((s.heap.push (liObj ax 0)).objs.size, lsObj [] 0) :: led) := news_put N3 hsb₁ (.head _) heC fun q hq => by
    simp only [List.cons_append, List.nil_append, List.mem_cons] at hq
    rcases hq with rfl | rfl | rfl | hq
    · exact .inl rfl
    · exact .inr ⟨by simp, Nat.ne_of_lt l1⟩
    · exact .inr ⟨by simp, Nat.ne_of_lt l2⟩
    · exact .inr ⟨by simp [hq], Nat.ne_of_lt (Nat.lt_trans (big q hq) l1)⟩
  have nC : (compEnvC scope cl ((s.heap.push (liObj ax 0)).push (lsObj [] 0)).objs.size env).locals = ((s.heap.push (liObj ax 0)).push (lsObj [] 0)).objs.size := rfl
  have loop : ∀ s₃ : Shared, s₃ = { s with heap := h₁, toks := s.toks + ([] : List (Str × Value)).length } →
      codeAny (model PR w) A (.compLoop (.ListComp elt [⟨.Name x px, iter, ifs, 0⟩] scope pos) 0 (.ref s.heap.objs.size) (.ref (s.heap.push (liObj ax 0)).objs.size) (compEnvC scope cl ((s.heap.push (liObj ax 0)).push (lsObj [] 0)).objs.size env))
        (RR (.ref (s.heap.push (liObj ax 0)).objs.size) ((s.heap.push (liObj ax 0)).push (lsObj [] 0)).objs.size) s₃ := by
    rintro s₃ rfl
    refine comp_loop (s := { s with heap := h₁, toks := s.toks + ([] : List (Str × Value)).length }) (C := ((s.heap.push (liObj ax 0)).push (lsObj [] 0)).objs.size) (FA := FAl ((s.heap.push (liObj ax 0)).push (lsObj [] 0)).objs.size x) (vs := vs) (c := c) (vo := none) (led := led) (o := liObj ax 0) J (bframe_l hx hkind) hh ⟨oC, _, rfl, hoC, fun v hv => by cases hv⟩ ⟨rfl, rfl⟩ F4 N4 ?_ ?_ ?_ h0 hJ hJl hv (fun i v ys fl o led h k k0 E a1 a2 a3 a4 a5 a6 a7 a8 a9 a10 => turn _ _ _ i v ys fl o led h k k0 E a1 a2 a3 a4 a5 a6 a7 a8 a9 a10) ?_
    · refine apart_of big fun p hp => ?_
      simp only [List.cons_append, List.nil_append, List.mem_cons, List.not_mem_nil, or_false] at hp
      rcases hp with rfl | rfl | rfl <;> dsimp only <;> omega
    · intro q hq p hp
      simp only [List.mem_cons, List.not_mem_nil, or_false] at hq hp
      subst hp
      rcases hq with rfl | rfl
      · exact Nat.ne_of_lt l1
      · exact Nat.ne_of_lt l2
    · exact Nat.ne_of_lt l3
    · intro ys led' h k hk hj F5 N5 off hns
      exact hRR _ _ h k ys led' hk hj F5 N5 off hns hC.2.2 hC.2.1 (Nat.ne_of_gt l2)
  have hI := N4 (s.heap.objs.size, liObj ax 0) (List.mem_append_right _ (.head _))
  have hlt := Heap.lt_size (N _ hax).1
  exact codeAny_compStart_list (loop _ rfl) ((Walks.list hh s.heap.objs.size ax (Nat.ne_of_lt hlt) vs.toArray).self 0 _ _ _ ⟨⟨_, hI.1, rfl, rfl⟩, ⟨_, (N4 (ax, lsObj vs c) (List.mem_append_right _ (.tail _ (.tail _ hax)))).1, rfl, c, rfl⟩⟩ (loop _ rfl))
theorem newEnv_cell {scope : Scope} {cl : List (Str × Addr)} {cl' : Nat → List (Str × Addr)} {Q : Env → Shared → Prop} (hcs : ∀ n, cellsFrom n scope.names cl = cl' n) (hpc : ∀ h, pushCells h scope.names = h.push { cls := .type "cell", data := .cell none })
    (hQ : Q { scope := scope, locals := s.heap.objs.size, globals := env.globals, cells := cl' (s.heap.objs.size + 1), qual := env.qual, func := none, code := env.code, frame := env.frame, builtins := env.builtins } { s with heap := (s.heap.push { cls := .type "dict", data := .dict #[] }).push { cls := .type "cell", data := .cell none } }) :
    wpAny (model PR w) A (newFunctionEnv scope env.globals cl [] env.qual none .none (some env)) Q E s := by
  simp only [newFunctionEnv, Option.isSome_some, if_true]
  refine wpAny_bind (wpAny_alloc ?_)
  refine wpAny_bind (wpAny_layCells _ (fun name kind cells => by cases hkc : kind == NameKind.cell <;> simp [hkc]) _ _ _ _ ?_)
  rw [List.forIn_nil]
  refine wpAny_bind (wpAny_pure (wpAny_pure ?_))
  rw [hpc, hcs, show ({ s with heap := s.heap.push { cls := .type "dict", data := .dict #[] } } : Shared).heap.objs.size = s.heap.objs.size + 1 from Heap.size_push ..]
  exact hQ
theorem comp_go_c {elt iter : Expr} {ifs : List Expr} {x : Str} {px : Pos} {scope : Scope} {cl : List (Str × Addr)} {cl' : Nat → List (Str × Addr)} {pos : Pos} {ax : Addr} {vs : List Value} {c : Nat} {led : Led} {RR : Value → Addr → Result → Shared → Prop}
    (J : Nat → Nat → List Value → Led → Prop) (hx : ∀ cl C, (compEnvC scope cl C env).kindOf x = some .cell) (hcs : ∀ n, cellsFrom n scope.names cl = cl' n) (hpc : ∀ h, pushCells h scope.names = h.push { cls := .type "cell", data := .cell none }) (hlk : ∀ n, (cl' n).lookup x = some n) (hkind : scope.kind = .function) (hh : A.handled = none) (F : Fr h₀ L s.heap m) (N : News h₀ L s.heap led) (h0 : J 0 s.toks [] led)
    (hJ : ∀ i k ys led', J i k ys led' → (ax, lsObj vs c) ∈ led') (hJl : ∀ i k ys led', J i k ys led' → ys.length ≤ i) (hv : vs.length ≤ 1000)
    (turn : ∀ C, Turns w A h₀ L m s elt ifs vs ax (compEnvC scope (cl' (C + 1)) C env) (FAc C (C + 1)) J)
    (hRR : ∀ D C h k ys led, s.toks ≤ k → J vs.length k ys led → Fr h₀ L h m → News h₀ L h ((D, lsObj ys ys.length) :: led) → (∀ q ∈ led, q.1 ≠ D ∧ q.1 ≠ C) → (∃ m', h.Ns C m') → h₀.get? C = none → C ≠ L → C ≠ D → RR (.ref D) C (.ok .next) { s with heap := h, toks := k }) :
    CompLed w A E env elt iter x px ifs scope cl pos RR (.ref ax) s := by
  have hax := hJ _ _ _ _ h0
  have hl : s.heap.IsList ax vs.toArray := ⟨_, (N _ hax).1, rfl, c, rfl⟩
  unfold CompLed
  refine wpAny_pyIter_list hl ?_
  have F1 := F.push (liObj ax 0)
  have N1 := N.push F (liObj ax 0)
  have F2 := F1.push (lsObj [] 0)
  have N2 := N1.push F1 (lsObj [] 0)
  have z1 : (s.heap.push (liObj ax 0)).objs.size = s.heap.objs.size + 1 := Heap.size_push ..
  have z2 : ((s.heap.push (liObj ax 0)).push (lsObj [] 0)).objs.size = s.heap.objs.size + 2 := by rw [Heap.size_push, z1]
  refine wpAny_newObj_type (newEnv_cell hcs hpc ?_)
  dsimp only
  have F3 := F2.push ({ cls := .type "dict", data := .dict #[] } : Obj)
  have N3 := N2.push F2 ({ cls := .type "dict", data := .dict #[] } : Obj)
  have z3 : (((s.heap.push (liObj ax 0)).push (lsObj [] 0)).push ({ cls := .type "dict", data := .dict #[] } : Obj)).objs.size = ((s.heap.push (liObj ax 0)).push (lsObj [] 0)).objs.size + 1 := Heap.size_push ..
  have F4 := F3.push ({ cls := .type "cell", data := .cell none } : Obj)
  have N4 := N3.push F3 ({ cls := .type "cell", data := .cell none } : Obj)
  rw [z3] at N4
  have hC := N3 _ (.head _)
  have big : ∀ q ∈ led, @LT.lt Nat _ q.1 s.heap.objs.size := fun q hq => Heap.lt_size (N q hq).1
  have l1 : @LT.lt Nat _ s.heap.objs.size ((s.heap.push (liObj ax 0)).push (lsObj [] 0)).objs.size := by rw [z2]; omega
  have l2 : @LT.lt Nat _ (s.heap.push (liObj ax 0)).objs.size ((s.heap.push (liObj ax 0)).push (lsObj [] 0)).objs.size := by rw [z2, z1]; omega
  have l3 : @LT.lt Nat _ s.heap.objs.size (s.heap.push (liObj ax 0)).objs.size := by rw [z1]; omega
  have N5 : News h₀ L ((((s.heap.push (liObj ax 0)).push (lsObj [] 0)).push ({ cls := .type "dict", data := .dict #[] } : Obj)).push ({ cls := .type "cell", data := .cell none } : Obj))
      ([(((s.heap.push (liObj ax 0)).push (lsObj [] 0)).objs.size, ({ cls := .type "dict", data := .dict #[] } : Obj)), (((s.heap.push (liObj ax 0)).push (lsObj [] 0)).objs.size + 1, ({ cls := .type "cell", data := .cell none } : Obj))] ++ (s.heap.objs.size, liObj ax 0) :: ((s.heap.push (liObj ax 0)).objs.size, lsObj [] 0) :: led) := news_sub N4 fun q hq => by
    simp only [List.cons_append, List.nil_append, List.mem_cons] at hq ⊢
    rcases hq with rfl | rfl | rfl | rfl | hq
    · exact .inr (.inl rfl)
    · exact .inl rfl
    · exact .inr (.inr (.inr (.inl rfl)))
    · exact .inr (.inr (.inl rfl))
    · exact .inr (.inr (.inr (.inr hq)))
  have hdict : LCg.NsObj ({ cls := .type "dict", data := .dict #[] } : Obj) (fun _ => none) := by
    obtain ⟨o, es, ep, e1, e2, e3⟩ := Heap.Ns.new s.heap (.type "dict")
    have : o = { cls := .type "dict", data := .dict #[] } := by
      have := (Heap.get?_push_size (h := s.heap) (o := { cls := .type "dict", data := .dict #[] }) rfl).symm.trans e1
      exact (Option.some.inj this).symm
    subst this
    exact ⟨es, ep, e2, e3⟩
  have loop : ∀ s₃ : Shared, s₃ = { s with heap := (((s.heap.push (liObj ax 0)).push (lsObj [] 0)).push ({ cls := .type "dict", data := .dict #[] } : Obj)).push ({ cls := .type "cell", data := .cell none } : Obj) } →
      codeAny (model PR w) A (.compLoop (.ListComp elt [⟨.Name x px, iter, ifs, 0⟩] scope pos) 0 (.ref s.heap.objs.size) (.ref (s.heap.push (liObj ax 0)).objs.size) (compEnvC scope (cl' (((s.heap.push (liObj ax 0)).push (lsObj [] 0)).objs.size + 1)) ((s.heap.push (liObj ax 0)).push (lsObj [] 0)).objs.size env))
        (RR (.ref (s.heap.push (liObj ax 0)).objs.size) ((s.heap.push (liObj ax 0)).push (lsObj [] 0)).objs.size) s₃ := by
    rintro s₃ rfl
    refine comp_loop (s := { s with heap := (((s.heap.push (liObj ax 0)).push (lsObj [] 0)).push ({ cls := .type "dict", data := .dict #[] } : Obj)).push ({ cls := .type "cell", data := .cell none } : Obj) }) (C := ((s.heap.push (liObj ax 0)).push (lsObj [] 0)).objs.size) (FA := FAc ((s.heap.push (liObj ax 0)).push (lsObj [] 0)).objs.size (((s.heap.push (liObj ax 0)).push (lsObj [] 0)).objs.size + 1)) (vs := vs) (c := c) (vo := none) (led := led) (o := liObj ax 0) J (bframe_c (hx _ _) hkind (hlk _)) hh ⟨_, _, _, rfl, hdict, rfl, Nat.ne_of_lt (Nat.lt_succ_self _)⟩ ⟨rfl, rfl⟩ F4 N5 ?_ ?_ ?_ h0 hJ hJl hv (fun i v ys fl o led h k k0 E a1 a2 a3 a4 a5 a6 a7 a8 a9 a10 => turn _ _ _ i v ys fl o led h k k0 E a1 a2 a3 a4 a5 a6 a7 a8 a9 a10) ?_
    · refine apart_of big fun p hp => ?_
      simp only [List.cons_append, List.nil_append, List.mem_cons, List.not_mem_nil, or_false] at hp
      rcases hp with rfl | rfl | rfl | rfl <;> dsimp only <;> omega
    · intro q hq p hp
      simp only [List.mem_cons, List.not_mem_nil, or_false] at hq hp
      rcases hq with rfl | rfl <;> rcases hp with rfl | rfl
      · exact Nat.ne_of_lt l1
      · exact Nat.ne_of_lt (Nat.lt_succ_of_lt l1)
      · exact Nat.ne_of_lt l2
      · exact Nat.ne_of_lt (Nat.lt_succ_of_lt l2)
    · exact Nat.ne_of_lt l3
    · intro ys led' h k hk hj F5 N5 off hns
      exact hRR _ _ h k ys led' hk hj F5 N5 off hns hC.2.2 hC.2.1 (Nat.ne_of_gt l2)
  have hI := N5 (s.heap.objs.size, liObj ax 0) (List.mem_append_right _ (.head _))
  have hlt := Heap.lt_size (N _ hax).1
  exact codeAny_compStart_list (loop _ rfl) ((Walks.list hh s.heap.objs.size ax (Nat.ne_of_lt hlt) vs.toArray).self 0 _ _ _ ⟨⟨_, hI.1, rfl, rfl⟩, ⟨_, (N5 (ax, lsObj vs c) (List.mem_append_right _ (.tail _ (.tail _ hax)))).1, rfl, c, rfl⟩⟩ (loop _ rfl))
/-- what is wanted of a whole block -/
def RRe (w : World) (A : Around) (E : Value → Shared → Prop) (Q : Value → Shared → Prop) (acc : Value) (C : Addr) (r : Result) (s' : Shared) : Prop := compPost (model PR w) A E none Q acc C r s'
theorem comp_eval {elt iter : Expr} {ifs : List Expr} {x : Str} {px : Pos} {scope : Scope} {cl : List (Str × Addr)} {pos : Pos} {Q : Value → Shared → Prop} (hclos : closureFor scope env = pure cl) (hkind : scope.kind = .function) (hnames : ∀ y ∈ scope.names, y.2 = .local → scope.names.lookup y.1 = some .local)
    (h : wpAny (model PR w) A (eval iter env) (CompLed w A E env elt iter x px ifs scope cl pos (RRe w A E Q)) E s)
    (hs : ∀ x, foldedSetIterable iter env x = pure x := by intro _; rfl) :
    wpAny (model PR w) A (eval (.ListComp elt [⟨.Name x px, iter, ifs, 0⟩] scope pos) env) Q E s := by
  rw [eval_ListComp]
  exact wpAny_comprehension_free (use := none) rfl hs hclos hkind hnames h
theorem rre {Q : Value → Shared → Prop} {D C : Addr} {h : Heap} {k : Nat} {ys : List Value} {led : Led} (F : Fr h₀ L h m) (N : News h₀ L h ((D, lsObj ys ys.length) :: led)) (off : ∀ q ∈ led, q.1 ≠ D ∧ q.1 ≠ C) (hns : ∃ m', h.Ns C m') (hC : h₀.get? C = none) (hCL : C ≠ L) (hCD : C ≠ D)
    (fin : ∀ h', Fr h₀ L h' m → News h₀ L h' ((D, lsObj ys ys.length) :: led) → Q (.ref D) { s with heap := h', toks := k }) : RRe w A E Q (.ref D) C (.ok .next) { s with heap := h, toks := k } := by
  obtain ⟨m', hn⟩ := hns
  refine ⟨m', hn, fun h' hs' => fin h' (F.change hs' hCL hC) fun p hp => ?_⟩
  refine ⟨hs'.extBut _ _ ?_ (N p hp).1, (N p hp).2⟩
  rcases List.mem_cons.mp hp with rfl | hp
  · exact hCD.symm
  · exact (off p hp).2
/-- a block whose value is bound -/
def RRa (w : World) (A : Around) (E : Value → Shared → Prop) (env : Env) (y : Str) (py : Pos) (Q : Flow → Shared → Prop) (acc : Value) (C : Addr) (r : Result) (s' : Shared) : Prop := compPost (model PR w) A E (some (assign (.Name y py) env)) (fun _ s' => Q .next s') acc C r s'
theorem comp_assign {elt iter : Expr} {ifs : List Expr} {x y : Str} {px py : Pos} {scope : Scope} {cl : List (Str × Addr)} {pos spos : Pos} {Q : Flow → Shared → Prop}
    (hsw : swapsWith (.ListComp elt [⟨.Name x px, iter, ifs, 0⟩] scope pos) (some (.Name y py)) spos.line env = pure true) (hclos : closureFor scope env = pure cl) (hkind : scope.kind = .function) (hnames : ∀ y ∈ scope.names, y.2 = .local → scope.names.lookup y.1 = some .local)
    (h : wpAny (model PR w) A (eval iter env) (CompLed w A E env elt iter x px ifs scope cl pos (RRa w A E env y py Q)) E s)
    (hs : ∀ x, foldedSetIterable iter env x = pure x := by intro _; rfl) :
    wpAny (model PR w) A (exec (.Assign [.Name y py] (.ListComp elt [⟨.Name x px, iter, ifs, 0⟩] scope pos) spos) env) Q E s := by
  rw [exec_Assign_Name_used _ _ _ _ hsw]
  refine wpAny_bind (wpAny_standAt (wpAny_bind ?_))
  show wpAny _ A (do let _ ← comprehension (.ListComp elt [⟨.Name x px, iter, ifs, 0⟩] scope pos) scope env _ (newList []) false (eval iter env) (some (assign (.Name y py) env))) _ _ s
  exact wpAny_bind (wpAny_mono (wpAny_comprehension_free (use := some (assign (.Name y py) env)) (Q := fun _ s' => Q .next s') rfl hs hclos hkind hnames h) (fun _ s' hq => wpAny_pure (wpAny_pure hq)) fun _ _ e => e)
theorem rra {y : Str} {py : Pos} {Q : Flow → Shared → Prop} {D C : Addr} {h : Heap} {k : Nat} {ys : List Value} {led : Led} (hL : env.locals = L) (hy : env.kindOf y = some .local) (hp : (env.scope.kind == .class || (env.scope.kind == .module && env.locals != env.globals)) = false)
    (F : Fr h₀ L h m) (N : News h₀ L h ((D, lsObj ys ys.length) :: led)) (off : ∀ q ∈ led, q.1 ≠ D ∧ q.1 ≠ C) (hns : ∃ m', h.Ns C m') (hC : h₀.get? C = none) (hCL : C ≠ L) (hCD : C ≠ D)
    (fin : ∀ h' k', k ≤ k' → Fr h₀ L h' (fun z => if z = y then some (.ref D) else m z) → News h₀ L h' ((D, lsObj ys ys.length) :: led) → Q .next { s with heap := h', toks := k' }) : RRa w A E env y py Q (.ref D) C (.ok .next) { s with heap := h, toks := k } := by
  obtain ⟨m', hn⟩ := hns
  subst hL
  show wpAny _ A (assign (.Name y py) env (.ref D)) _ _ _
  refine wpAny_assign_Name (wpAny_storeName_local hy F.ns (fun h₂ hn₂ hs₂ => ?_) hp)
  have F₂ : Fr h₀ env.locals h₂ (fun z => if z = y then some (.ref D) else m z) := F.set hn₂ hs₂
  have N₂ : News h₀ env.locals h₂ ((D, lsObj ys ys.length) :: led) := N.set hs₂
  refine ⟨m', hn.sameBut hs₂ hCL, fun h' hs' => fin h' _ (Nat.le_succ _) (F₂.change hs' hCL hC) fun p hp => ?_⟩
  refine ⟨hs'.extBut _ _ ?_ (N₂ p hp).1, (N₂ p hp).2⟩
  rcases List.mem_cons.mp hp with rfl | hp
  · exact hCD.symm
  · exact (off p hp).2
end
end
section
open PySem PySem.W PySem.Calls PyProof.Rows PySem.Spec
section
variable {prog : Program} {w : World} {A : Around} {E : Value → Shared → Prop} {s : Shared} {h₀ : Heap} {L l : Addr} {m : Str → Option Value} {R : Led}
theorem key_ltc {x x' : Value} {k k' : KV} {Q : Value → Shared → Prop} (hu : A.units < cLine) (N : News h₀ L s.heap R) (hx : IsKey R x k) (hx' : IsKey R x' k') (hl : k.length = k'.length) (h : Q (.bool (kLt k k')) s) : wpAny (model prog w) A (compareOp .Lt x x') Q E s := by
  cases hx with
  | one =>
    cases hx' with
    | two _ => simp at hl
    | one => refine PySem.P.lt_str ?_; rw [kLt_one] at h; exact h
  | two hD =>
    cases hx' with
    | one => simp at hl
    | two hD' => exact lt_pair hu (N _ hD).1 (N _ hD').1 h
/-- a list of keys of one length, told place by place -/
structure Keys (R : Led) (vs : List Value) (n ℓ : Nat) (kf : Nat → KV) : Prop where
  len : vs.length = n
  at_ : ∀ i, i < n → ∃ v, vs[i]? = some v ∧ IsKey R v (kf i)
  klen : ∀ i, i < n → (kf i).length = ℓ
theorem Keys.mono {R R' : Led} {vs : List Value} {n ℓ : Nat} {kf : Nat → KV} (h : Keys R vs n ℓ kf) (hs : ∀ q ∈ R, q ∈ R') : Keys R' vs n ℓ kf :=
  ⟨h.len, fun i hi => by obtain ⟨v, a, b⟩ := h.at_ i hi; exact ⟨v, a, b.mono hs⟩, h.klen⟩
open Classical in
theorem count_led {vs : List Value} {c n ℓ i : Nat} {kf : Nat → KV} {v : Value} {Q : Value → Shared → Prop} (hu : A.units + 1 < cLine) (N : News h₀ L s.heap R) (hl : (l, lsObj vs c) ∈ R) (K : Keys R vs n ℓ kf) (hi : i < n) (hv : vs[i]? = some v)
    (h : Q (.int ((szN n kf i : Nat) : Int) s.toks) { s with toks := s.toks + 1 }) : wpAny (model prog w) A (call (.builtin "list.count") [.ref l, v]) Q E s := by
  obtain ⟨v', hv', hk⟩ := K.at_ i hi
  obtain rfl : v' = v := Option.some.inj (hv'.symm.trans hv)
  -- the test of a value: some place of it holds a like key
  let e : Value → Bool := fun y => decide (∃ k, IsKey R y k ∧ k = kf i)
  have uniq : ∀ {y : Value} {k k' : KV}, IsKey R y k → IsKey R y k' → k = k' := by
    intro y k k' h1 h2
    cases h1 with
    | one => cases h2; rfl
    | two hD =>
      cases h2 with
      | two hD' =>
        have := (N _ hD).1.symm.trans (N _ hD').1
        simp at this
        obtain ⟨⟨rfl, _⟩, rfl, _⟩ := this
        rfl
  have ee : ∀ {y : Value} {k : KV}, IsKey R y k → e y = decide (k = kf i) := fun {y k} hy => decide_eq_decide.mpr ⟨fun ⟨k', h1, h2⟩ => (uniq hy h1).trans h2, fun h => ⟨k, hy, h⟩⟩
  have eq : ∀ y ∈ vs, ∃ j, j < n ∧ IsKey R y (kf j) := fun y hy => by
    obtain ⟨j, hj, rfl⟩ := List.getElem_of_mem hy
    obtain ⟨v, a, b⟩ := K.at_ j (by have := K.len; omega)
    rw [List.getElem?_eq_getElem hj] at a
    cases a
    exact ⟨j, by have := K.len; omega, b⟩
  refine call_meets PySem.F.slot_list_count ⟨_, (N _ hl).1, rfl⟩ PySem.F.entry_list_count (PySem.F.args_list_count_2 _ _) (PySem.SeqAt.list_countAt l vs.toArray c none #[] v' e) ⟨(N _ hl).1, fun y hy => ?_, ?_⟩
  · obtain ⟨j, hj, hyk⟩ := eq y (by simpa using hy)
    rw [ee hyk]
    intro prog w E Q hq
    exact key_eq (by exact hu) N hyk hk (by rw [K.klen j hj, K.klen i hi]) hq
  · have hc : vs.countP e = szN n kf i := by
      unfold szN
      rw [List.countP_eq_length_filter]
      have hvs : vs = (List.range n).map fun j => vs.getD j .none := by
        apply List.ext_getElem?
        intro j
        rw [List.getElem?_map]
        by_cases hj : j < n
        · have := K.len
          rw [List.getElem?_range hj, List.getElem?_eq_getElem (by omega)]
          simp only [Option.map_some, List.getD_eq_getElem?_getD, List.getElem?_eq_getElem (show j < vs.length by omega), Option.getD_some]
        · have := K.len
          rw [List.getElem?_eq_none (by omega), List.getElem?_eq_none (by simp; omega)]
          rfl
      conv => lhs; rw [hvs]
      rw [filter_map_len]
      congr 1
      refine List.filter_congr fun j hj => ?_
      obtain ⟨v, a, b⟩ := K.at_ j (List.mem_range.mp hj)
      rw [List.getD_eq_getElem?_getD, a, Option.getD_some, ee b]
    rw [show vs.toArray.toList = vs from rfl, hc]
    exact h
end
/-- told without tokens -/
def CtW (w : World) (k : Nat) (f : Value) (vs : List Value) (kw : List (Str × Value)) (news : Led) (P : Led → Value → Prop) : Prop :=
  ∀ (p : Program) (loose : List Str) (mean : ExcName → Option Value) (mg mb : Str → Option Value) (dp un : Nat) (gd : Option (List Code)) (cn : Str) (cs : Scope) (a : Addr) (ccd : Value) (cl : List (Str × Addr)) (outer : List Env) (A₀ : Around) (base h₀ : Heap) (L : Addr) (m : Str → Option Value) (s : Shared) (Q E : Value → Shared → Prop),
    Below A₀ base outer h₀ → Fr h₀ L s.heap m → (hd.heap_1 w.params).In h₀ → News h₀ L s.heap news → Top p loose mean mg mb h₀ → cs.kind = .function → dp + k < recursionLimit → un + 10 * k < cLine → 0 < s.toks →
    (∀ r news' h' tk', Fr h₀ L h' m → News h₀ L h' news' → P news' r → Q r { s with heap := h', toks := tk' }) →
    wpAny (model PR w) (ktrTop dp un gd cn cs L a ccd cl outer) (call f vs kw) Q E s
theorem CtW.ct {w : World} {k : Nat} {f : Value} {vs : List Value} {kw : List (Str × Value)} {news : Led} {P : Led → Value → Prop} (C : CtW w k f vs kw news P) : Ct w k f vs kw news (fun _ _ news' r => P news' r) := by
  intro p loose mean mg mb dp un gd cn cs a ccd cl outer A₀ base h₀ L m s Q E B F X N T hk hd hu ht hret
  refine wpAny_with_toks (Nat.le_refl _) (C p loose mean mg mb dp un gd cn cs a ccd cl outer A₀ base h₀ L m s _ _ B F X N T hk hd hu ht ?_)
  exact fun r news' h' tk' F' N' hP htk => hret r news' h' tk' htk F' N' hP
/-- what _law_ranks gives back -/
abbrev LRankPost (n : Nat) (kf : Nat → KV) (news : Led) : Led → Value → Prop := fun news' r =>
  ∃ (D : Addr) (res : List Value) (c : Nat), r = .ref D ∧ news' = (D, lsObj res c) :: news ∧ res.length = n ∧ ∀ i, i < n → FlAt res i (hf (rkI false 1 n kf i))
def LrJ (led0 : Led) (n : Nat) (kf : Nat → KV) (i _k : Nat) (ys : List Value) (led : Led) : Prop := led = led0 ∧ ys.length = i ∧ ∀ j, j < i → FlAt ys j (hf (rkI false 1 n kf j))
def LiJ (led0 : Led) (kf : Nat → KV) (i0 i _k : Nat) (ys : List Value) (led : Led) : Prop := led = led0 ∧ ys.length ≤ i ∧ ys.length = ((List.range i).filter fun j => kLt (kf j) (kf i0)).length
theorem lrj_next {led0 : Led} {n i k k' : Nat} {kf : Nat → KV} {ys : List Value} {led : Led} {t : Nat} (h : LrJ led0 n kf i k ys led) (ht : 0 < t) : LrJ led0 n kf (i + 1) k' (ys ++ [.float (hf (rkI false 1 n kf i)) t]) led := by
  obtain ⟨h1, h2, h3⟩ := h
  refine ⟨h1, by simp [h2], fun j hj => ?_⟩
  by_cases e : j = i
  · subst e
    exact ⟨t, ht, by rw [← h2]; simp⟩
  · obtain ⟨t', a0, a⟩ := h3 j (by omega)
    exact ⟨t', a0, by rw [List.getElem?_append_left (by omega)]; exact a⟩
theorem lij_yes {led0 : Led} {i0 i k k' : Nat} {kf : Nat → KV} {ys : List Value} {led : Led} {y : Value} (h : LiJ led0 kf i0 i k ys led) (hl : kLt (kf i) (kf i0) = true) : LiJ led0 kf i0 (i + 1) k' (ys ++ [y]) led := by
  obtain ⟨h1, h2, h3⟩ := h
  refine ⟨h1, by rw [List.length_append, List.length_singleton]; omega, ?_⟩
  rw [List.range_succ, List.filter_append, List.length_append, List.length_append, ← h3]
  simp [hl]
theorem lij_no {led0 : Led} {i0 i k k' : Nat} {kf : Nat → KV} {ys : List Value} {led : Led} (h : LiJ led0 kf i0 i k ys led) (hl : kLt (kf i) (kf i0) = false) : LiJ led0 kf i0 (i + 1) k' ys led := by
  obtain ⟨h1, h2, h3⟩ := h
  refine ⟨h1, by omega, ?_⟩
  rw [List.range_succ, List.filter_append, List.length_append, ← h3]
  simp [hl]
theorem rk_range {b : Bool} {n i : Nat} {kf : Nat → KV} (hi : i < n) : 1 ≤ szN n kf i ∧ loN b n kf i + szN n kf i ≤ n := by
  constructor
  · unfold szN
    exact List.length_pos_of_mem (List.mem_filter.mpr ⟨List.mem_range.mpr hi, by simp⟩)
  · unfold loN szN
    have : ∀ l : List Nat, (l.filter fun j => rl b (kf j) (kf i)).length + (l.filter fun j => decide (kf j = kf i)).length ≤ l.length := by
      intro l
      induction l with
      | nil => simp
      | cons x r ih =>
        simp only [List.filter_cons, List.length_cons]
        by_cases e : kf x = kf i
        · rw [e, rl_irr]; simp; omega
        · simp only [e, decide_false, Bool.false_eq_true, if_false]
          split <;> (try simp only [List.length_cons]) <;> omega
    have h := this (List.range n)
    rw [List.length_range] at h
    exact h
end
section
theorem lines_Lk : True := by
  k_with "my enterC" => ((
      refine wpAny_call ?_
      k_dflt (refine' code_defC ?k1 ?k2 ?k3 ?k4 ?k5 ?kA ?kF ?kK ?k6 ?k7 ?k8 ?k9 ?kB ?kD ?_ ?c2 ?c3 ?c4; (case kA => exact rfl); (case kF => exact rfl); (case kK => assumption); (case k1 => k_asm); (case k2 => k_asm); (case k3 => k_asm); (case k4 => k_asm); (case k5 => k_asm); (case k6 => k_is); (case k7 => k_is); (case k8 => ktr_room); (case k9 => exact BindsTo.of_eq rfl); (case kB => exact rfl); (case kD => decide +kernel); (case c2 => exact rfl); (case c3 => exact rfl); (case c4 => exact rfl); k_whole; intro zg' zL' zh' tk' cells' zFG' zF' zN' Y' zB' zX' zT' l1; (try k_lt l1); k_cells Y'; (try simp only [List.cons_append, List.nil_append] at zN'); (try dsimp only); (try k_lift zB'); (try k_fold))))
  trivial
local macro_rules | `(tactic| walk_at "eval ListComp") => `(tactic| k_extra "my comp")
local macro_rules | `(tactic| walk_at "CompLed") => `(tactic| k_extra "my led")
set_option maxHeartbeats 8000000 in
theorem lranks_w (w : World) (kl c0 : Addr) (vs : List Value) (n ℓ : Nat) (kf : Nat → KV) (news : Led) (hl : (kl, lsObj vs c0) ∈ news) (K : Keys news vs n ℓ kf) (h1 : 1 ≤ n) (h6 : n ≤ 6) :
    CtW w 4 (.ref 388) [.ref kl] [] news (LRankPost n kf news) := by
  refine said ?_
  w_on
  k_fill
  unfold Said
  unfold CtW
  intro p loose mean mg mb dp un gd cn cs a ccd cl outer A₀ base h₀ L m s Q E B F X N T hk hd hu ht hret
  k_extra "my enterC"
  k_with "my comp" => (k_dflt (refine comp_eval (by with_unfolding_all rfl) rfl (by decide) ?_))
  repeat' ((fail_if_success (with_reducible show CompLed _ _ _ _ _ _ _ _ _ _ _ _ _ _ _)); (first | (k_unfold; (try dsimp only)) | walk1 | (dsimp only; walk1)))
  with_reducible rename News _ _ _ _ => Ng
  with_reducible rename Fr _ _ _ _ => Fg
  k_dflt (refine comp_go_c (vs := vs) (c := c0) (cl' := fun n => (Str.ofString "key", n) :: [(Str.ofString "keys", _)]) (LrJ _ n kf) (fun _ _ => rfl) (fun _ => rfl) (fun _ => rfl) (fun _ => rfl) rfl rfl Fg Ng ⟨rfl, rfl, fun j hj => absurd hj (Nat.not_lt_zero _)⟩ (fun i k ys led' h => by rw [h.1]; exact .tail _ hl) (fun i k ys led' h => Nat.le_of_eq h.2.1) (by rw [K.len]; omega) ?_ ?_)
  · intro C; unfold Turns; intro I D i v ys fl o led h k k0 E hi hv hk0 hk hJ hFA ho F5 N5 ap
    obtain ⟨oC, m', oc, rfl, hns, hcd, hne⟩ := hFA
    have hJ' := hJ.1
    subst hJ'
    simp only [List.cons_append, List.nil_append] at N5
    refine wpAny_tests_nil ?_
    rw [if_pos rfl]
    repeat' ((fail_if_success (with_reducible show CompLed _ _ _ _ _ _ _ _ _ _ _ _ _ _ _)); (first | (k_unfold; (try dsimp only)) | walk1 | (dsimp only; walk1)))
    with_reducible rename News _ _ _ _ => Nk
    with_reducible rename Fr _ _ _ _ => Fk
    obtain ⟨v', hv', hkey⟩ := K.at_ i (by rw [K.len] at hi; exact hi)
    obtain rfl : v' = v := Option.some.inj (hv'.symm.trans hv)
    have hin : i < n := by rw [K.len] at hi; exact hi
    k_dflt (refine comp_go_l (vs := vs) (c := c0) (LiJ _ kf i) rfl (by decide) rfl rfl Fk Nk ⟨rfl, Nat.le_refl _, rfl⟩ (fun i k ys led' h => by rw [h.1]; exact .tail _ (.tail _ (.tail _ (.tail _ (.tail _ hl))))) (fun _ _ _ _ h => h.2.1) (by rw [K.len]; omega) ?_ ?_)
    · intro C2; unfold Turns; intro I2 D2 i2 v2 ys2 fl2 o2 led2 h2 k2 k02 E2 hi2 hv2 hk02 hk2 hJ2 hFA2 ho2 F6 N6 ap2
      obtain ⟨oC2, m2', rfl, hns2, hm2⟩ := hFA2
      have hJ2' := hJ2.1
      subst hJ2'
      simp only [List.cons_append, List.nil_append] at N6
      have hone := hm2 _ rfl
      have hin2 : i2 < n := by rw [K.len] at hi2; exact hi2
      obtain ⟨v2', hv2', hkey2⟩ := K.at_ i2 hin2
      obtain rfl : v2' = v2 := Option.some.inj (hv2'.symm.trans hv2)
      refine wpAny_tests_one ?_
      k_with "compareOp Lt" => (k_dflt (refine key_ltc (by ktr_units) N6 (hkey2.mono ?m1) (hkey.mono ?m2) (by rw [K.klen _ hin2, K.klen _ hin]) ?_; (case m1 => exact fun q hq => .tail _ (.tail _ (.tail _ (.tail _ (.tail _ (.tail _ (.tail _ (.tail _ hq)))))))); (case m2 => exact fun q hq => .tail _ (.tail _ (.tail _ (.tail _ (.tail _ (.tail _ (.tail _ (.tail _ hq))))))))))
      repeat' ((fail_if_success (with_reducible show ElTo _ _ _ _ _ _ _ _ _ _)); (fail_if_success (with_reducible show ElNo _ _ _ _ _ _ _ _ _)); (first | (k_unfold; (try dsimp only)) | walk1 | (dsimp only; walk1)))
      · with_reducible rename News _ _ _ _ => Nz
        with_reducible rename Fr _ _ _ _ => Fz
        exact ElTo.intro _ (by k_extra "my pos") Fz Nz ap2 (lij_yes hJ2 (by k_asm))
      · with_reducible rename News _ _ _ _ => Nz
        with_reducible rename Fr _ _ _ _ => Fz
        exact ElNo.intro _ (by k_extra "my pos") Fz Nz ap2 (lij_no hJ2 (by k_asm))
    · intro D2 C2 h2 k2 ys2 led2 hk2 hJ2 F6 N6 off2 hns2 hC2 hCL2 hCD2
      obtain ⟨hJ2', hJ2a, hJ2b⟩ := hJ2
      subst hJ2'
      refine rre F6 N6 off2 hns2 hC2 hCL2 hCD2 fun h3 F7 N7 => ?_
      k_with "call builtin:len" => ((with_reducible rename News _ _ _ _ => Nl); k_dflt (refine len_ledN (n := loN false n kf i) Nl (List.Mem.head _) (by rw [hJ2b, K.len]; exact rfl) (by have := (rk_range (b := false) (kf := kf) hin).2; omega) ?_); (try dsimp only))
      k_with "getMethod ref" => ((with_reducible rename News _ _ _ _ => Nl); k_dflt (refine kf_method (its := vs.toArray) (n := c0) Nl ?m1 PySem.F.slot_list_count PySem.F.type_list_count ?_; (case m1 => exact .tail _ (.tail _ (.tail _ (.tail _ (.tail _ (.tail _ hl))))))))
      k_with "binaryOp Div int int" => (k_dflt (refine div_half (by omega) (by have := (rk_range (b := false) (kf := kf) hin).2; omega) rfl ?_); (try dsimp only))
      k_with "binaryOp Add int float" => (k_dflt (refine add_half (by omega) (by have := rk_range (b := false) (kf := kf) hin; omega) (by have := rk_range (b := false) (kf := kf) hin; omega) (by have := rk_range (b := false) (kf := kf) hin; omega) ?_); (try dsimp only))
      k_with "call builtin:list.count" => ((with_reducible rename News _ _ _ _ => Nl); k_dflt (refine count_led (c := c0) (by ktr_units) Nl ?m1 (K.mono ?m2) hin hv ?_; (case m1 => exact .tail _ (.tail _ (.tail _ (.tail _ (.tail _ (.tail _ hl)))))); (case m2 => exact fun q hq => .tail _ (.tail _ (.tail _ (.tail _ (.tail _ (.tail _ hq))))))); (try dsimp only))
      repeat' ((fail_if_success (with_reducible show ElTo _ _ _ _ _ _ _ _ _ _)); (first | (k_unfold; (try dsimp only)) | walk1 | (dsimp only; walk1)))
      with_reducible rename News _ _ _ _ => Nz
      with_reducible rename Fr _ _ _ _ => Fz
      have e9 : 2 * ((loN false n kf i : Nat) : Int) + (((szN n kf i : Nat) : Int) + 1) = rkI false 1 n kf i := by unfold rkI; omega
      rw [e9]
      exact ElTo.intro _ (by k_extra "my pos") Fz (fun q hq => Nz q (.tail _ hq)) ap (lrj_next hJ (by k_extra "my pos"))
  · intro D C h k ys led hk hJ F5 N5 off hns hC hCL hCD
    have hJ' := hJ.1
    subst hJ'
    refine rre F5 N5 off hns hC hCL hCD fun h' F' N' => ?_
    repeat' (first | (k_unfold; (try dsimp only)) | walk1 | (dsimp only; walk1))
    exact hret _ _ _ _ (by k_asm) (news_sub (by k_asm) (sub_drop1)) ⟨D, ys, _, rfl, rfl, by rw [hJ.2.1]; exact K.len, fun i hi => hJ.2.2 i (by rw [K.len]; exact hi)⟩
end
section
open PySem PySem.W PySem.Calls PyProof.Rows PySem.Spec
theorem Ct.mono {w : World} {k k' : Nat} {f : Value} {vs : List Value} {kw : List (Str × Value)} {news : Led} {Post : Nat → Nat → Led → Value → Prop} (C : Ct w k f vs kw news Post) (h : k ≤ k') : Ct w k' f vs kw news Post := by
  intro p loose mean mg mb dp un gd cn cs a ccd cl outer A₀ base h₀ L m s Q E B F X N T hk hd hu ht hret
  exact C p loose mean mg mb dp un gd cn cs a ccd cl outer A₀ base h₀ L m s Q E B F X N T hk (by omega) (by omega) ht hret
section
variable {w : World} {A₀ A : Around} {s : Shared} {base h₀ : Heap} {outer : List Env} {L ac : Addr} {m : Str → Option Value} {cn : Str} {cs : Scope} {ccd : Value} {cl : List (Str × Addr)} {news : Led} {p : Program} {loose : List Str} {mean : ExcName → Option Value} {mg mb : Str → Option Value}
    {R : Result → Shared → Prop} {name qual : Str} {params : Arguments} {body : List Stmt} {scope : Scope} {dV kV doc pm cdv ct oc : Value} {an od : Option Addr} {osl : Array (Option Value)} {f : Addr} {args : Args} {binds : List (Str × Value)}
/-- a def with cells, entered from any frame; the ground may turn -/
theorem code_defXC (B : Below A₀ base outer h₀) (F : Fr h₀ L s.heap m) (X₀ : (hd.heap_1 w.params).In h₀) (N : News h₀ L s.heap news) (T : Top p loose mean mg mb h₀) (XB : (hd.heap_1 w.params).In base) (TB : Top p loose mean mg mb base) (D : KtsDicts (frs outer) h₀)
    (hA : A.frames = some (envX cn cs L ac ccd cl :: outer)) (hck : cs.kind = .function)
    (ho : (hd.heap_1 w.params).lookup f = some ⟨oc, od, .func (fnOf name qual params body scope dV kV doc pm an cdv ct), osl⟩) (hcd : codeIn (hd.heap_1 w.params) cdv qual = true) (hroom : A.depth < recursionLimit)
    (hbind : BindsTo s (fnOf name qual params body scope dV kV doc pm an cdv ct) args binds) (hkind : (binds.all fun y => scope.names.lookup y.1 == some .local || scope.names.lookup y.1 == some .cell) = true)
    (hnd : ((cellsFrom 0 scope.names []).map (·.1)).Nodup)
    (h : ∀ g L' h₁ tk cells, s.toks ≤ tk → Fr h₀ L g m → Fr g L' h₁ (bindL (envOfC qual scope L' f cdv).kindOf binds fun _ => none) → News g L' h₁ (cells ++ news) →
      CellsAre (bindC (envOfC qual scope L' f cdv).kindOf binds fun _ => none) (cellsFrom (L' + 1) scope.names []) cells → Below A base (envX cn cs L ac ccd cl :: outer) g → (hd.heap_1 w.params).In g → Top p loose mean mg mb g → KtsDicts (frs (envX cn cs L ac ccd cl :: outer)) g → (∀ p ∈ news, p.1 < L') →
      wpAny (model PR w) (A.deeper (envOfC qual scope L' f cdv)) (execs body (envOfC qual scope L' f cdv))
        (fun fl s' => LeaveS (frs (envX cn cs L ac ccd cl :: outer)) A₀ base outer (hd.heap_1 w.params) p loose mean mg mb h₀ h₀ L m g R (match fl with | .ret v => v | _ => .none) s')
        (fun e s' => wpAny (model PR w) (A.deeper (envOfC qual scope L' f cdv)) (leaving (envOfC qual scope L' f cdv) e) (fun _ s'' => R (.error e) s'') (fun e' s'' => R (.error e') s'') s')
        { s with heap := h₁, toks := tk })
    (hco : scope.isCoroutine = false) (hgen : scope.isGenerator = false) (hk : scope.kind = .function) : codeAny (model PR w) A (.call (.ref f) args) R s := by
  have X := X₀.keeps F.keep
  refine codeAny_call_function hroom (X _ _ ho) rfl hco hgen rfl (codeRec_of X hcd) (hbind _ _ _ _ ?_)
  refine wpAny_mono (wpAny_toks (wpAny_newFunctionEnv_cells (Q := fun env s' => env = newEnv scope s.heap.objs.size mainGlobals (cellsFrom (s.heap.objs.size + 1) scope.names []) (qual ++ ".<locals>.") (some f) cdv none builtinsNs ∧ InCallC s env.locals (bindL env.kindOf binds fun _ => none) env.cells (bindC env.kindOf binds fun _ => none) s') hk (kindsX hkind _) fun env' he s' x => ⟨he, x⟩)) (fun env' s' z => ?_) fun _ _ z => z.2
  obtain ⟨htk, he, x⟩ := z
  subst he
  refine ⟨(T.nolimit.keeps F.keep).keeps x.toInCall.keep, codeAny_func ?_⟩
  obtain ⟨h₁, tk, rfl, _⟩ := x.done
  have hk₁ := x.toInCall.keep
  obtain ⟨cells, NC, Y⟩ := Cl.news (h₀ := s.heap) (Nat.le_refl _) fun n c hm => ⟨x.cell n c (lookup_of_mem_nodup (cellsFrom_names scope.names 0 (s.heap.objs.size + 1) [] [] rfl ▸ hnd) hm), x.above n c hm⟩
  obtain ⟨g, Fg, st, B₂, D₂, og, ng, zg⟩ := prepX (A := A) (a := ac) (cn := cn) (cs := cs) (ccd := ccd) (cl := cl) B F N D hA hck
  refine wpAny_mono (h g s.heap.objs.size h₁ tk cells htk Fg ⟨x.toInCall.ns, fun b o e => hk₁ b o (og b o e), Nat.le_of_eq zg⟩ (fun p hp => ?_) Y B₂ (X₀.keeps st) (T.keeps st) D₂ (fun p hp => Heap.lt_size (N p hp).1)) (fun fl s' hl => ?_) fun _ _ y => y
  · rcases List.mem_append.mp hp with hp | hp
    · refine ⟨(NC p hp).1, (NC p hp).2.1, ?_⟩
      cases q : g.get? p.1 with
      | none => rfl
      | some o => have := og _ _ q; rw [(NC p hp).2.2] at this; cases this
    · exact ⟨hk₁ _ _ (N p hp).1, Nat.ne_of_lt (Heap.lt_size (N p hp).1), ng p hp⟩
  · have nL₀ : h₀.get? L = none := kts_self F
    obtain ⟨oL, es, ep, hL, hLd, hLk, hLf⟩ := Fg.ns
    rcases hl with ⟨L', m', news', F', N', k⟩ | ⟨g', L', m', news', T', F', N', k⟩
    · refine k ⟨⟨oL, es, ep, F'.keep _ _ hL, hLd, hLk, hLf⟩, fun b o e => F'.keep b o (st b o e), F.above⟩ fun p hp => ⟨(N' p hp).1, fun q => ?_, ?_⟩
      · have := (N' p hp).2.2; rw [q, hL] at this; cases this
      · cases q : h₀.get? p.1 with
        | none => rfl
        | some o => have := (N' p hp).2.2; rw [st _ _ q] at this; cases this
    · obtain ⟨h₁', G, F₁, z⟩ := turn_up (w := w) (p := p) (loose := loose) (mean := mean) (mg := mg) (mb := mb) XB TB B Fg D T' F'.keep
      refine k h₁' G.turn F₁ (fun p hp => ⟨(N' p hp).1, fun q => ?_, z _ (N' p hp).2.2⟩) G.below G.inn G.top G.dicts
      obtain ⟨sl, hs⟩ := T'.up hL
      have := (N' p hp).2.2; rw [q, hs] at this; cases this
end
end
section
theorem lines_Lm : True := by
  k_with "my enterL" => ((
      refine wpAny_call ?_
      k_dflt (refine' kla_code ?k1 ?k2 ?k3 ?k4 ?k5 ?kA ?kF ?kK ?k6 ?k7 ?k8 ?k9 ?kB ?_ ?c2 ?c3 ?c4 ?c5; (case kA => exact rfl); (case kF => exact rfl); (case kK => assumption); (case k1 => k_asm); (case k2 => k_asm); (case k3 => k_asm); (case k4 => k_asm); (case k5 => k_asm); (case k6 => assumption); (case k7 => exact codeRec_news (by k_asm) (by k_asm) (by k_asm) (by k_asm)); (case k8 => ktr_room); (case k9 => exact rfl); (case c5 => decide); (case kB => exact locs rfl); (case c2 => exact rfl); (case c3 => exact rfl); (case c4 => exact rfl); k_whole; intro zg' zL' zh' zFG' zF' zN' zB' zX' zT'; (try dsimp only); (try k_lift zB'); (try k_fold))
      refine gen_toks (Nat.le_add_right _ _) ?_
      intro zk7 zhk7))
  trivial
abbrev lamBody (j : Int) (p1 p2 p3 p4 p5 : Pos) : Expr := .Subscript (.Call (.Name (Str.ofString "halves") p1) [.Name (Str.ofString "path") p2] [] p3) (.Constant (.int j) 0 p4) p5
abbrev lamPar (pp : Pos) : Arguments := { posonlyargs := [], args := [{ arg := Str.ofString "path", annotation := none, pos := pp }], vararg := none, kwonlyargs := [], kw_defaults := [], kwarg := none, defaults := [] }
abbrev lamScope : Scope := { kind := .function, names := [(Str.ofString "path", .local), (Str.ofString "halves", .free)], isGenerator := false, isCoroutine := false, more := [] }
/-- a lambda of _law_by_halves in the ledger -/
structure LamIn (led : Led) (f hc hfn : Addr) (j : Int) : Prop where
  ex : ∃ (c' : Addr) (oc co : Obj) (vs9 : Array Value) (t9 : Nat) (qual : Str) (pp p1 p2 p3 p4 p5 : Pos) (pm ctv : Value), (f, kla_obj (Str.ofString "<lambda>") qual (lamPar pp) (lamBody j p1 p2 p3 p4 p5) lamScope [(Str.ofString "halves", hc)] pm c' ctv) ∈ led ∧
    (c', oc) ∈ led ∧ oc.data = .fields vs9 ∧ vs9[1]? = some (.str qual t9) ∧ (hc, co) ∈ led ∧ co.data = .cell (some (.ref hfn))
theorem LamIn.mono {led led' : Led} {f hc hfn : Addr} {j : Int} (h : LamIn led f hc hfn j) (hs : ∀ q ∈ led, q ∈ led') : LamIn led' f hc hfn j := by
  obtain ⟨c', oc, co, vs9, t9, qual, pp, p1, p2, p3, p4, p5, pm, ctv, a, b, c, d, e, f⟩ := h.ex
  exact ⟨⟨c', oc, co, vs9, t9, qual, pp, p1, p2, p3, p4, p5, pm, ctv, hs _ a, hs _ b, c, d, hs _ e, f⟩⟩
set_option maxHeartbeats 4000000 in
theorem lam0_ct (w : World) (f hc hfn : Addr) (news : Led) (ha hb : Str → Str) (x : Str) (t : Tok) (hx : x.length ≤ 1048576) (HL : LamIn news f hc hfn 0) (hkeep : keepIn (hd.heap_1 w.params) (.ref hfn) = true) (HC : ∀ (x : Str) (t : Tok) (news : Led), x.length ≤ 1048576 → Ct w 7 (.ref hfn) [.str x t] [] news (PairPost t x (ha x) (hb x) news)) :
    Ct w 12 (.ref f) [.str x t] [] news (fun n n' news' r => ∃ t', r = .str (ha x) t' ∧ Tk t x n t' (ha x) n' ∧ news' = news) := by
  k_extra "my start"
  intro p loose mean mg mb dp un gd cn cs a ccd cl outer A₀ base h₀ L m s Q E B F X N T hk hd hu ht hret
  obtain ⟨c', oc, co, vs9, t9, qual, pp, p1, p2, p3, p4, p5, pm, ctv, q1, q2, q3, q4, q5, q6⟩ := HL.ex
  k_extra "my enterL"
  k_with "eval Name" => ((with_reducible rename News _ _ _ _ => Nk); k_dflt (refine nameX_F Nk rfl q5 q6 ?_ rfl rfl))
  k_with "callWith ref" => (k_dflt (refine callWith_K (K := Mine.hd.heap_1 w.params) (by k_asm) hkeep ?_))
  k_with "my call" => (
    k_dflt (refine' Ct.use (HC x t _ hx) ?k1 ?k2 ?k3 ?k4 ?k5 ?kK ?kd ?ku ?kt ?_; k_extra "my prem"); (intro r9 news9 h9 tk9 T9 F9 N9 P9; obtain ⟨D9, u1, u2, e9, e8, l9, K1, K2⟩ := P9; subst e9; subst e8; (try dsimp only); (try k_fold)))
  k_steps
  try any_goals (first | exact Str.ofString "" | exact (0 : Addr) | exact Value.none)
  with_reducible rename Fr _ _ _ _ => Fz
  with_reducible rename News _ _ _ _ => Nz
  exact hret _ _ _ _ (by k_extra "my pos") Fz (news_sub Nz fun q hq => .tail _ hq) ⟨_, rfl, Tk.mono K1 (by k_extra "my pos") (by k_extra "my pos"), rfl⟩
set_option maxHeartbeats 4000000 in
theorem lam1_ct (w : World) (f hc hfn : Addr) (news : Led) (ha hb : Str → Str) (x : Str) (t : Tok) (hx : x.length ≤ 1048576) (HL : LamIn news f hc hfn 1) (hkeep : keepIn (hd.heap_1 w.params) (.ref hfn) = true) (HC : ∀ (x : Str) (t : Tok) (news : Led), x.length ≤ 1048576 → Ct w 7 (.ref hfn) [.str x t] [] news (PairPost t x (ha x) (hb x) news)) :
    Ct w 12 (.ref f) [.str x t] [] news (fun n n' news' r => ∃ t', r = .str (hb x) t' ∧ Tk t x n t' (hb x) n' ∧ news' = news) := by
  k_extra "my start"
  intro p loose mean mg mb dp un gd cn cs a ccd cl outer A₀ base h₀ L m s Q E B F X N T hk hd hu ht hret
  obtain ⟨c', oc, co, vs9, t9, qual, pp, p1, p2, p3, p4, p5, pm, ctv, q1, q2, q3, q4, q5, q6⟩ := HL.ex
  k_extra "my enterL"
  k_with "eval Name" => ((with_reducible rename News _ _ _ _ => Nk); k_dflt (refine nameX_F Nk rfl q5 q6 ?_ rfl rfl))
  k_with "callWith ref" => (k_dflt (refine callWith_K (K := Mine.hd.heap_1 w.params) (by k_asm) hkeep ?_))
  k_with "my call" => (
    k_dflt (refine' Ct.use (HC x t _ hx) ?k1 ?k2 ?k3 ?k4 ?k5 ?kK ?kd ?ku ?kt ?_; k_extra "my prem"); (intro r9 news9 h9 tk9 T9 F9 N9 P9; obtain ⟨D9, u1, u2, e9, e8, l9, K1, K2⟩ := P9; subst e9; subst e8; (try dsimp only); (try k_fold)))
  k_steps
  try any_goals (first | exact Str.ofString "" | exact (0 : Addr) | exact Value.none)
  with_reducible rename Fr _ _ _ _ => Fz
  with_reducible rename News _ _ _ _ => Nz
  exact hret _ _ _ _ (by k_extra "my pos") Fz (news_sub Nz fun q hq => .tail _ hq) ⟨_, rfl, Tk.mono K2 (by k_extra "my pos") (by k_extra "my pos"), rfl⟩
end
section
open PySem PySem.W PySem.Calls PyProof.Rows PySem.Spec
theorem triples_snoc {a b c : Value} (ha : ∃ i t, a = .int i t) (hb : ∃ i t, b = .int i t) (l : List Value) (h : TriplesOk l) : TriplesOk (l ++ [a, b, c]) := by
  obtain ⟨i, t, rfl⟩ := ha
  obtain ⟨j, u, rfl⟩ := hb
  fun_induction TriplesOk l with
  | case1 => trivial
  | case2 a t b u x rest ih => exact ih h
  | case3 l h1 h2 => exact absurd h (by simp)
theorem among_other {pos pos' : Pos} {c : Value} (hne : pos'.line ≠ pos.line) (l : List Value) (h : TriplesOk l) : codeAmong pos' (l ++ [rawInt pos.line, rawInt pos.col, c]) = codeAmong pos' l := by
  fun_induction TriplesOk l with
  | case1 =>
    have : ((pos.line : Int) == (pos'.line : Int)) = false := by simp; omega
    simp [codeAmong, rawInt, this]
  | case2 a t b u x rest ih =>
    show (if _ then _ else codeAmong pos' (rest ++ _)) = (if _ then _ else codeAmong pos' rest)
    rw [ih h]
  | case3 l h1 h2 => exact absurd h (by simp)
abbrev lq : Str := Str.ofString "_law_by_halves" ++ Str.ofString ".<locals>." ++ Str.ofString "<lambda>"
def LamCode (led : Led) (ps : Array Value) (pos : Pos) (qual : Str) : Prop := codeAmong pos ps.toList = none ∨ ∃ (c' : Addr) (oc : Obj) (vs : Array Value) (t : Nat), codeAmong pos ps.toList = some (.ref c') ∧ (c', oc) ∈ led ∧ oc.data = .fields vs ∧ vs[1]? = some (.str qual t)
theorem LamCode.mono {led led' : Led} {ps : Array Value} {pos : Pos} {qual : Str} (h : LamCode led ps pos qual) (hs : ∀ q ∈ led, q ∈ led') : LamCode led' ps pos qual :=
  h.imp id fun ⟨c', oc, vs, t, a, b, c, d⟩ => ⟨c', oc, vs, t, a, hs _ b, c, d⟩
/-- the code table's part that the two lambdas ask -/
def TabSt (led : Led) (ps : Array Value) (p1 p2 : Pos) (qual : Str) : Prop := TriplesOk ps.toList ∧ LamCode led ps p1 qual ∧ LamCode led ps p2 qual
theorem TabSt.mono {led led' : Led} {ps : Array Value} {p1 p2 : Pos} {qual : Str} (h : TabSt led ps p1 p2 qual) (hs : ∀ q ∈ led, q ∈ led') : TabSt led' ps p1 p2 qual := ⟨h.1, h.2.1.mono hs, h.2.2.mono hs⟩
theorem TabSt.swap {led : Led} {ps : Array Value} {p1 p2 : Pos} {qual : Str} (h : TabSt led ps p1 p2 qual) : TabSt led ps p2 p1 qual := ⟨h.1, h.2.2, h.2.1⟩
section
variable {M : Model} {A : Around} {E : Value → Shared → Prop} {s : Shared} {h₀ : Heap} {L a : Addr} {m mg mb : Str → Option Value} {cn : Str} {cs : Scope} {cl : List (Str × Addr)} {led : Led} {p : Program} {loose : List Str} {mean : ExcName → Option Value} {qual : Str} {params : Arguments} {body : Expr} {scope : Scope} {ps : Array Value} {pos pos' : Pos} {clos : List (Str × Addr)}
theorem mk_lam {Q : Value → Shared → Prop} (F : Fr h₀ L s.heap m) (N : News h₀ L s.heap ((390, tabObj ps) :: led)) (hne : ∀ q ∈ led, q.1 ≠ 390) (T : Top p loose mean mg mb h₀) (C : CodeHd h₀ 392 390) (S : TabSt led ps pos pos' qual) (hpp : pos'.line ≠ pos.line) (hdef : defaultsOf params (envX cn cs L a (.ref 392) cl) = ([], []))
    (hq : (envX cn cs L a (.ref 392) cl).qual ++ "<lambda>" = qual) (hcl : closureFor scope (envX cn cs L a (.ref 392) cl) = pure clos)
    (h : ∀ f ps' own h' tk, s.toks ≤ tk → TabSt (own ++ led) ps' pos pos' qual →
      (∃ (c' : Addr) (oc : Obj) (vs : Array Value) (t : Nat) (ctv : Value), (f, kla_obj (Str.ofString "<lambda>") qual params body scope clos ((mg "__name__").getD .none) c' ctv) ∈ own ∧ (c', oc) ∈ own ++ led ∧ oc.data = .fields vs ∧ vs[1]? = some (.str qual t)) →
      (own.map (·.1)).Nodup → (∀ p ∈ own, ∀ q ∈ (390, tabObj ps) :: led, @LT.lt Nat _ q.1 p.1) → Fr h₀ L h' m → News h₀ L h' ((390, tabObj ps') :: (own ++ led)) → Q (.ref f) { s with heap := h', toks := tk }) :
    wpAny M A (eval (.Lambda params body scope pos) (envX cn cs L a (.ref 392) cl)) Q E s := by
  refine kla_eval hdef ?_
  rw [hq]
  refine wpAny_with_toks (Nat.le_refl _) ?_
  obtain ⟨ht, h1, h2⟩ := S
  rcases h1 with h1 | ⟨c', oc, vs, t, e1, e2, e3, e4⟩
  · refine kla_nest (g := fun o => (390, o) :: led) F N T C rfl (.head hne) ht h1 hcl fun f c' oc vs t ctv h' tk F' N' hd hv l1 l2 htk => ?_
    have e : (ps ++ #[rawInt pos.line, rawInt pos.col, .ref c']).toList = ps.toList ++ [rawInt pos.line, rawInt pos.col, .ref c'] := by simp
    refine h f _ [(f, kla_obj (Str.ofString "<lambda>") qual params body scope clos ((mg "__name__").getD .none) c' ctv), (c', oc)] h' tk htk ⟨by rw [e]; exact triples_snoc ⟨_, _, rfl⟩ ⟨_, _, rfl⟩ _ ht, .inr ⟨c', oc, vs, t, by rw [e]; exact codeAmong_snoc _ ht h1, by simp, hd, hv⟩, ?_⟩ ⟨c', oc, vs, t, ctv, .head _, by simp, hd, hv⟩ (by simp only [List.map_cons, List.map_nil, List.nodup_cons, List.mem_singleton, List.not_mem_nil, not_false_eq_true, List.nodup_nil, and_true]; exact Nat.ne_of_gt l2) (fun p hp q hq => ?_) F' (news_sub N' fun q hq => ?_)
    · rcases h2 with h2 | ⟨c2, oc2, vs2, t2, b1, b2, b3, b4⟩
      · exact .inl (by rw [e, among_other hpp _ ht]; exact h2)
      · exact .inr ⟨c2, oc2, vs2, t2, by rw [e, among_other hpp _ ht]; exact b1, List.mem_append_right _ b2, b3, b4⟩
    · have := l1 q hq
      simp only [List.mem_cons, List.not_mem_nil, or_false] at hp
      rcases hp with rfl | rfl
      · exact Nat.lt_trans this l2
      · exact this
    · simp only [List.cons_append, List.nil_append, List.mem_cons] at hq ⊢
      rcases hq with rfl | rfl | rfl | hq
      · exact .inr (.inr (.inl rfl))
      · exact .inl rfl
      · exact .inr (.inl rfl)
      · exact .inr (.inr (.inr hq))
  · refine kla_hit F N T C rfl (.head _) ht e1 hcl fun f ctv h' tk F' N' l1 htk => ?_
    refine h f ps [(f, kla_obj (Str.ofString "<lambda>") qual params body scope clos ((mg "__name__").getD .none) c' ctv)] h' tk htk ⟨ht, .inr ⟨c', oc, vs, t, e1, List.mem_append_right _ e2, e3, e4⟩, LamCode.mono h2 fun q hq => List.mem_append_right _ hq⟩ ⟨c', oc, vs, t, ctv, .head _, List.mem_append_right _ e2, e3, e4⟩ (by simp) (fun p hp q hq => ?_) F' (news_sub N' fun q hq => ?_)
    · rcases List.mem_singleton.mp hp with rfl
      exact l1 q hq
    · simp only [List.cons_append, List.nil_append, List.mem_cons] at hq ⊢
      rcases hq with rfl | rfl | hq
      · exact .inr (.inl rfl)
      · exact .inl rfl
      · exact .inr (.inr hq)
end
end
section
open PySem PySem.W PySem.Calls PyProof.Rows PySem.Spec
/-- the paths, told -/
structure Paths (vs : List Value) (P : Nat → Str) (TT : Nat → Nat) (n nt : Nat) : Prop where
  len : vs.length = n
  v : ∀ i, i < n → vs[i]? = some (.str (P i) (TT i))
  tok : ∀ i, i < n → TT i < nt ∧ TT i ≠ 0
  same : ∀ i j, i < n → j < n → TT i = TT j → P i = P j
  short : ∀ i, i < n → (P i).length ≤ 1048576
  lo : 1 ≤ n
  hi : n ≤ 6
abbrev FnCt (w : World) (hfn : Addr) (ha hb : Str → Str) : Prop := ∀ (x : Str) (t : Tok) (news : Led), x.length ≤ 1048576 → Ct w 7 (.ref hfn) [.str x t] [] news (PairPost t x (ha x) (hb x) news)
theorem Ct.post {w : World} {k : Nat} {f : Value} {vs : List Value} {kw : List (Str × Value)} {news : Led} {Post Post' : Nat → Nat → Led → Value → Prop} (C : Ct w k f vs kw news Post) (h : ∀ n n' news' r, Post n n' news' r → Post' n n' news' r) : Ct w k f vs kw news Post' := by
  intro p loose mean mg mb dp un gd cn cs a ccd cl outer A₀ base h₀ L m s Q E B F X N T hk hd hu ht hret
  exact C p loose mean mg mb dp un gd cn cs a ccd cl outer A₀ base h₀ L m s Q E B F X N T hk hd hu ht fun r news' h' tk' a1 a2 a3 a4 => hret r news' h' tk' a1 a2 a3 (h _ _ _ _ a4)
section
variable {w : World} {hfn f hc : Addr} {ha hb : Str → Str} {vs : List Value} {P : Nat → Str} {TT : Nat → Nat} {n nt : Nat} {need : Led}
theorem paths_mem (PP : Paths vs P TT n nt) {v : Value} (hv : v ∈ vs) : ∃ i, i < n ∧ v = .str (P i) (TT i) := by
  obtain ⟨i, hi, rfl⟩ := List.getElem_of_mem hv
  have hin : i < n := by rw [PP.len] at hi; exact hi
  have := PP.v i hin
  rw [List.getElem?_eq_getElem hi] at this
  exact ⟨i, hin, Option.some.inj this⟩
theorem data_of {kk ℓ : Nat} {kf : Value} {kp : Str → KV} (PP : Paths vs P TT n nt) (hl : ∀ x, (kp x).length = ℓ) (h : ∀ (x : Str) (t : Tok) (news : Led), x.length ≤ 1048576 → (∀ q ∈ need, q ∈ news) → Ct w kk kf [.str x t] [] news (fun n n' news' r => ∃ ks, news' = ks ++ news ∧ (∀ p ∈ ks, ∀ q ∈ news, @LT.lt Nat _ q.1 p.1) ∧ KK kp (.str x t) n n' ks r)) :
    Data w kk kf need kp vs P TT ℓ nt where
  v := fun i hi => PP.v i (by rw [PP.len] at hi; exact hi)
  tok := fun i hi => PP.tok i (by rw [PP.len] at hi; exact hi)
  same := fun i j hi hj => PP.same i j (by rw [PP.len] at hi; exact hi) (by rw [PP.len] at hj; exact hj)
  len := fun i _ => hl _
  lo := by rw [PP.len]; exact PP.lo
  hi := by rw [PP.len]; exact PP.hi
  key := fun v hv news hn => by
    obtain ⟨i, hi, rfl⟩ := paths_mem PP hv
    exact h _ _ _ (PP.short i hi) hn
theorem data_one {kk : Nat} {kf : Value} {g : Str → Str} (PP : Paths vs P TT n nt) (h : ∀ (x : Str) (t : Tok) (news : Led), x.length ≤ 1048576 → (∀ q ∈ need, q ∈ news) → Ct w kk kf [.str x t] [] news (fun n n' news' r => ∃ t', r = .str (g x) t' ∧ Tk t x n t' (g x) n' ∧ news' = news)) :
    Data w kk kf need (fun x => [g x]) vs P TT 1 nt :=
  data_of PP (fun _ => rfl) fun x t news hx hn => (h x t news hx hn).post fun n n' news' r ⟨t', e1, e2, e3⟩ => ⟨[], e3, (fun _ hp => nomatch hp), x, t, [t'], rfl, by rw [e1]; exact .one e2⟩
theorem data_two {kk : Nat} {kf : Value} {g g' : Str → Str} (PP : Paths vs P TT n nt) (h : ∀ (x : Str) (t : Tok) (news : Led), x.length ≤ 1048576 → Ct w kk kf [.str x t] [] news (PairPost t x (g x) (g' x) news)) :
    Data w kk kf [] (fun x => [g x, g' x]) vs P TT 2 nt :=
  data_of PP (fun _ => rfl) fun x t news hx _ => (h x t news hx).post fun n n' news' r ⟨D, t1, t2, e1, e2, l, k1, k2⟩ => ⟨[(D, tpObj [.str (g x) t1, .str (g' x) t2])], e2, (fun p hp q hq => by rcases List.mem_singleton.mp hp with rfl; exact l q hq), x, t, [t1, t2], rfl, by rw [e1]; exact .two k1 k2⟩
theorem data_lam0 (PP : Paths vs P TT n nt) (HL : LamIn need f hc hfn 0) (hkeep : keepIn (hd.heap_1 w.params) (.ref hfn) = true) (HC : FnCt w hfn ha hb) : Data w 12 (.ref f) need (fun x => [ha x]) vs P TT 1 nt :=
  data_one PP fun x t news hx hn => lam0_ct w f hc hfn news ha hb x t hx (HL.mono hn) hkeep HC
theorem data_lam1 (PP : Paths vs P TT n nt) (HL : LamIn need f hc hfn 1) (hkeep : keepIn (hd.heap_1 w.params) (.ref hfn) = true) (HC : FnCt w hfn ha hb) : Data w 12 (.ref f) need (fun x => [hb x]) vs P TT 1 nt :=
  data_one PP fun x t news hx hn => lam1_ct w f hc hfn news ha hb x t hx (HL.mono hn) hkeep HC
end
end
section
open PySem PySem.W PySem.Calls PyProof.Rows PySem.Spec
section
variable {w : World} {p : Program} {loose : List Str} {mean : ExcName → Option Value} {mg mb : Str → Option Value} {A A₀ : Around} {base h₀ : Heap} {outer : List Env} {L : Addr} {E : Value → Shared → Prop} {s : Shared} {env : Env}
/-- between the turns of a for over a range whose ground may turn -/
def RgJ (I : Addr) (n : Nat) (J : Nat → Nat → (Str → Option Value) → Led → Prop) (a k : Nat) (m : Str → Option Value) (led : Led) : Prop := a ≤ n ∧ ∃ o led', led = (I, o) :: led' ∧ IsRi 0 n a o ∧ (∀ q ∈ led', q.1 ≠ I) ∧ J a k m led'
theorem for_range_gd {x : Str} {px : Pos} {body : List Stmt} {Q : Flow → Shared → Prop} {r : Addr} {n : Nat} {b : Int} {t u v : Tok} {m : Str → Option Value} {led : Led}
    (hh : A.handled = none) (hr : IsRange s.heap r 0 b 1 t u v) (hb : b = (n : Int)) (hn : n < 2 ^ 62) (F : Fr h₀ L s.heap m) (N : News h₀ L s.heap led) (G : Gd w p loose mean mg mb A₀ base outer h₀ h₀)
    (J : Nat → Nat → (Str → Option Value) → Led → Prop) (h0 : J 0 s.toks m led)
    (turn : ∀ I i g m led o h k tk, s.toks ≤ tk → tk < k → i < n → J i tk m led → (∀ q ∈ led, q.1 ≠ I) → Gd w p loose mean mg mb A₀ base outer h₀ g → Fr g L h m → News g L h ((I, o) :: led) → IsRi 0 n (i + 1) o → ∀ s₀ : Shared, s₀.toks = s.toks → s₀.gens = s.gens → s₀.drawn = s.drawn → s₀.os = s.os →
      wpAny (model PR w) A (storeName env x (.int (i : Int) tk)) (fun _ s₂ => wpAny (model PR w) A (execs body env) (WFlow Q (TurnG w p loose mean mg mb A₀ base h₀ outer L s₀ (RgJ I n J) i)) E s₂) E { s with heap := h, toks := k })
    (fin : ∀ g m led h k, s.toks ≤ k → J n k m led → Gd w p loose mean mg mb A₀ base outer h₀ g → Fr g L h m → News g L h led → Q .next { s with heap := h, toks := k })
    (hE : PassesOwn (model PR w) A env E := by passes_own) :
    wpAny (model PR w) A (pyIter (.ref r)) (fun it s₂ => codeAny (model PR w) A (.forLoop (.Name x px) it body [] env) (fun r s' => match r with | .ok f => Q f s' | .error e => cameBackBy (model PR w) A env E e s') s₂) E s := by
  subst hb
  have hsz : Builtin.Range.rangeSize 0 (n : Int) 1 = n := by
    unfold Builtin.Range.rangeSize
    simp
    omega
  refine wpAny_pyIter_range hr ?_ ?_
  · unfold Builtin.Range.small
    rw [hsz]
    unfold Builtin.Range.rangeFitsLong
    simp
    omega
  · rw [hsz]
    have F1 := F.push ({ cls := .type "range_iterator", dict := none, data := .fields #[rawInt 0, rawInt (n : Int), rawInt 1], slots := #[] } : Obj)
    have N1 := N.push F ({ cls := .type "range_iterator", dict := none, data := .fields #[rawInt 0, rawInt (n : Int), rawInt 1], slots := #[] } : Obj)
    refine for_gd (s := { s with heap := s.heap.push _ }) (n := n) (RgJ s.heap.objs.size n J) F1 N1 G ⟨Nat.zero_le _, _, led, rfl, by show _ = _; simp, fun q hq => Nat.ne_of_lt (Heap.lt_size (N q hq).1), h0⟩ (fun a k m led h => h.1) ?_ ?_ hE
    · rintro a g m' led0 h k hk ha ⟨_, o, led', rfl, ho, hoff, hJ⟩ GG F' N'
      have hI := N' _ (.head _)
      refine (steps_range (a := 0) (n := n)).item A _ _ _ a o ha ho hI.1 (fun _ hq => nomatch hq) fun v h2 k2 o2 hV hk2 ho2 hI2 hs2 => ?_
      obtain ⟨rfl, rfl⟩ := hV
      refine ⟨_, rfl, wpAny_pure ?_⟩
      refine wpAny_assign_Name ?_
      have z := turn s.heap.objs.size a g m' led' o2 h2 (k + 1) k hk (Nat.lt_succ_self _) ha hJ hoff GG (F'.change hs2 hI.2.1 hI.2.2) (news_at0 N' hs2 hI2 hoff) ho2 { s with heap := s.heap.push { cls := .type "range_iterator", dict := none, data := .fields #[rawInt 0, rawInt (n : Int), rawInt 1], slots := #[] } } rfl rfl rfl rfl
      rw [show (0 : Int) + (a : Int) = a by omega]
      exact z
    · rintro g m' led0 h k hk ⟨_, o, led', rfl, ho, hoff, hJ⟩ GG F' N'
      have hI := N' _ (.head _)
      refine (steps_range (a := 0) (n := n)).fin A _ _ _ o hh ho hI.1 (fun _ hq => nomatch hq) fun h2 hs2 => ?_
      obtain ⟨F2, N2⟩ := fr_ext F' N' hoff hs2
      exact ⟨rfl, fin g m' led' h2 k hk hJ GG F2 N2⟩
end
end
section
open PySem PySem.W PySem.Calls PyProof.Rows PySem.Spec
theorem list_as_range {α : Type} (l : List α) (d : α) : l = (List.range l.length).map fun j => l.getD j d := by
  apply List.ext_getElem?
  intro j
  rw [List.getElem?_map]
  by_cases hj : j < l.length
  · rw [List.getElem?_range hj, List.getElem?_eq_getElem hj]
    simp only [Option.map_some, List.getD_eq_getElem?_getD, List.getElem?_eq_getElem hj, Option.getD_some]
  · rw [List.getElem?_eq_none (by omega), List.getElem?_eq_none (by simp; omega)]
    rfl
theorem filter_len_split (p q r : Nat → Bool) (h : ∀ x, r x = (p x || q x)) (hd : ∀ x, ¬ (p x = true ∧ q x = true)) : ∀ l : List Nat, (l.filter r).length = (l.filter p).length + (l.filter q).length
  | [] => rfl
  | x :: l => by
    have ih := filter_len_split p q r h hd l
    simp only [List.filter_cons, h x]
    have := hd x
    cases hp : p x <;> cases hq : q x
    · simpa using ih
    · simp only [Bool.or_true, if_true, Bool.false_eq_true, if_false, List.length_cons]; omega
    · simp only [Bool.or_false, if_true, Bool.false_eq_true, if_false, List.length_cons]; omega
    · exact absurd ⟨hp, hq⟩ this
/-- the ranks by halves are the ranks of the pairs -/
theorem halves_math {n k idx : Nat} {a b : Nat → Str} (sl : List Nat) (hsl : sl = (List.range n).filter fun j => decide (a j = a k)) (hb : b (sl.getD idx 0) = b k) :
    rkI false 1 n (fun i => [a i]) k - ((szN n (fun i => [a i]) k : Nat) + 1) + rkI false 1 sl.length (fun j => [b (sl.getD j 0)]) idx = rkI false 1 n (fun i => [a i, b i]) k := by
  have e1 : szN sl.length (fun j => [b (sl.getD j 0)]) idx = ((List.range n).filter fun j => decide (a j = a k) && decide (b j = b k)).length := by
    unfold szN
    have : ((List.range sl.length).filter fun j => decide (([b (sl.getD j 0)] : KV) = [b (sl.getD idx 0)])).length = (sl.filter fun i => decide (b i = b k)).length := by
      conv => rhs; rw [list_as_range sl 0]
      rw [filter_map_len]
      congr 1
      refine List.filter_congr fun j _ => decide_eq_decide.mpr ?_
      rw [hb]; simp
    rw [this, hsl, List.filter_filter]
    congr 1
    refine List.filter_congr fun j _ => ?_
    rw [Bool.and_comm]
  have e2 : loN false sl.length (fun j => [b (sl.getD j 0)]) idx = ((List.range n).filter fun j => decide (a j = a k) && kLt [b j] [b k]).length := by
    unfold loN
    have : ((List.range sl.length).filter fun j => rl false ([b (sl.getD j 0)] : KV) [b (sl.getD idx 0)]).length = (sl.filter fun i => kLt [b i] [b k]).length := by
      conv => rhs; rw [list_as_range sl 0]
      rw [filter_map_len]
      congr 1
      refine List.filter_congr fun j _ => ?_
      rw [hb]; rfl
    rw [this, hsl, List.filter_filter]
    congr 1
    refine List.filter_congr fun j _ => ?_
    rw [Bool.and_comm]
  have e3 : szN n (fun i => ([a i, b i] : KV)) k = ((List.range n).filter fun j => decide (a j = a k) && decide (b j = b k)).length := by
    unfold szN
    congr 1
    refine List.filter_congr fun j _ => ?_
    by_cases h1 : a j = a k <;> by_cases h2 : b j = b k <;> simp [h1, h2]
  have e4 : loN false n (fun i => ([a i, b i] : KV)) k = loN false n (fun i => [a i]) k + ((List.range n).filter fun j => decide (a j = a k) && kLt [b j] [b k]).length := by
    unfold loN
    refine filter_len_split _ _ _ (fun j => ?_) (fun j => ?_) _
    · show kLt [a j, b j] [a k, b k] = (kLt [a j] [a k] || (decide (a j = a k) && kLt [b j] [b k]))
      rw [kLt_two, kLt_one, kLt_one]
      by_cases h : a j = a k
      · rw [if_pos h, h, decide_eq_false (List.lt_irrefl _)]; simp
      · rw [if_neg h]; simp [h]
    · rintro ⟨h1, h2⟩
      have h1' : kLt [a j] [a k] = true := h1
      have h3 : a j = a k := by simpa using (Bool.and_eq_true_iff.mp h2).1
      rw [h3, kl_irr] at h1'; cases h1'
  unfold rkI
  rw [e1, e2, e3, e4]
  push_cast
  omega
section
variable {M : Model} {A : Around} {E : Value → Shared → Prop} {s : Shared} {h₀ : Heap} {L a : Addr} {m mg mb : Str → Option Value} {cn : Str} {cs : Scope} {cl : List (Str × Addr)} {p : Program} {loose : List Str} {mean : ExcName → Option Value} {ps : Array Value} {pos pos' : Pos} {hc hfn : Addr} {co : Obj}
/-- a lambda of _law_by_halves, made -/
theorem mk_lamP {j : Int} {pp q1 q2 q3 q4 q5 : Pos} {Q : Value → Shared → Prop} (pre : Led) {rest : Led} (F : Fr h₀ L s.heap m) (N : News h₀ L s.heap (pre ++ (390, tabObj ps) :: rest)) (hne : ∀ q ∈ pre ++ rest, q.1 ≠ 390) (T : Top p loose mean mg mb h₀) (C : CodeHd h₀ 392 390) (S : TabSt rest ps pos pos' lq) (hpp : pos'.line ≠ pos.line)
    (hq : (envX cn cs L a (.ref 392) cl).qual ++ "<lambda>" = lq) (hcl : closureFor lamScope (envX cn cs L a (.ref 392) cl) = pure [(Str.ofString "halves", hc)]) (hco : (hc, co) ∈ pre ++ rest) (hcd : co.data = .cell (some (.ref hfn)))
    (h : ∀ f ps' own h' tk, s.toks ≤ tk → TabSt (own ++ (pre ++ rest)) ps' pos pos' lq → LamIn (own ++ (pre ++ rest)) f hc hfn j → f ∈ own.map (·.1) → (own.map (·.1)).Nodup → (∀ p ∈ own, ∀ q ∈ (390, tabObj ps) :: (pre ++ rest), @LT.lt Nat _ q.1 p.1) → Fr h₀ L h' m → News h₀ L h' ((390, tabObj ps') :: (own ++ (pre ++ rest))) → Q (.ref f) { s with heap := h', toks := tk }) :
    wpAny M A (eval (.Lambda (lamPar pp) (lamBody j q1 q2 q3 q4 q5) lamScope pos) (envX cn cs L a (.ref 392) cl)) Q E s := by
  refine mk_lam (led := pre ++ rest) (pos' := pos') (qual := lq) F (news_sub N fun q hq => ?_) hne T C (S.mono fun q hq => List.mem_append_right _ hq) hpp rfl hq hcl fun f ps' own h' tk htk S' ⟨c', oc, vs, t, ctv, e1, e2, e3, e4⟩ hnd hlt F' N' => ?_
  · rcases List.mem_cons.mp hq with rfl | hq
    · simp
    · rcases List.mem_append.mp hq with hq | hq <;> simp [hq]
  · exact h f ps' own h' tk htk S' ⟨⟨c', oc, co, vs, t, lq, pp, q1, q2, q3, q4, q5, _, ctv, List.mem_append_left _ e1, e2, e3, e4, List.mem_append_right _ hco, hcd⟩⟩ (List.mem_map_of_mem (f := (·.1)) e1) hnd hlt F' N'
end
end
section
open PySem PySem.W PySem.Calls PyProof.Rows PySem.Spec
abbrev lp1 : Pos := ⟨358, 30, 358, 58⟩
abbrev lp2 : Pos := ⟨363, 33, 363, 61⟩
section
variable {prog : Program} {w : World} {A : Around} {E : Value → Shared → Prop} {s : Shared} {h₀ : Heap} {L l : Addr} {m : Str → Option Value} {R : Led}
theorem item_led {value slice : Expr} {vs : List Value} {c k : Nat} {u : Tok} {x : Value} {Q : Value → Shared → Prop} (N : News h₀ L s.heap R) (hm : (l, lsObj vs c) ∈ R) (hk : vs[k]? = some x) (hl : vs.length ≤ 1000) (h : Q x s)
    (hs : subscripted slice false (.ref l) (.int (k : Nat) u) = operate [.ref l, .int (k : Nat) u] (getItem (.ref l) (.int (k : Nat) u)) := by with_unfolding_all rfl) (hg : ∀ r, letTemporaryGo value (.ref l) r = pure () := by intro _; with_unfolding_all rfl) :
    wpAny (model prog w) A (subscriptTail value slice (.ref l) (.int (k : Nat) u)) Q E s := by
  have hlt : k < vs.length := by
    rcases Nat.lt_or_ge k vs.length with h | h
    · exact h
    · rw [List.getElem?_eq_none h] at hk; cases hk
  exact item_list (items := vs.toArray) ⟨_, (N _ hm).1, rfl, c, rfl⟩ (by omega) (by omega) (by simpa using hk) h hs hg
/-- a name of the frame that is a cell is bound -/
theorem store_cell {a cc : Addr} {cn : Str} {cs : Scope} {ccd : Value} {cl : List (Str × Addr)} {x : Str} {v : Value} {v₀ : Option Value} {o : Obj} {Q : Unit → Shared → Prop} (F : Fr h₀ L s.heap m) (N : News h₀ L s.heap R) (hc : cl.lookup x = some cc) (hm : (cc, o) ∈ R) (hd : o.data = .cell v₀)
    (h : ∀ h' o', Fr h₀ L h' m → (∀ R' : Led, (∀ q ∈ R', q = (cc, o') ∨ (q ∈ R ∧ q.1 ≠ cc)) → News h₀ L h' R') → o'.data = .cell (some v) → Q () { s with heap := h' })
    (hk : cs.kind = .function := by rfl) (hx : (envX cn cs L a ccd cl).kindOf x = some .cell := by rfl) : wpAny (model prog w) A (storeName (envX cn cs L a ccd cl) x v) Q E s := by
  have z := N (cc, o) hm
  refine wpAny_storeName_cell hk hx hc ⟨o, z.1, hd⟩ fun h' hv hs => ?_
  obtain ⟨o', ho', hd'⟩ := hv
  exact h h' o' (F.change hs z.2.1 z.2.2) (fun R' hR' => news_put N hs hm ho' hR') hd'
theorem append_led {vs : List Value} {c : Nat} {x : Value} {Q : Value → Shared → Prop} (F : Fr h₀ L s.heap m) (N : News h₀ L s.heap R) (hm : (l, lsObj vs c) ∈ R) (hl : vs.length ≤ 1000)
    (h : ∀ h', Fr h₀ L h' m → (∀ R' : Led, (∀ q ∈ R', q = (l, lsObj (vs ++ [x]) (c + 1)) ∨ (q ∈ R ∧ q.1 ≠ l)) → News h₀ L h' R') → Q .none { s with heap := h' }) :
    wpAny (model prog w) A (call (.builtin "list.append") [.ref l, x]) Q E s := by
  have z := N _ hm
  refine append_at (its := vs.toArray) (n := c) (hsz := by rw [List.size_toArray, sizeLine_eq]; omega) z.1 fun h' hs ho' => ?_
  rw [List.push_toArray] at ho'
  exact h h' (F.change hs z.2.1 z.2.2) fun R' hR' => news_put N hs hm ho' hR'
/-- list.index of a str that is there -/
theorem index_led {vs : List Value} {c n j : Nat} {P : Nat → Str} {TT : Nat → Nat} {x : Str} {t : Nat} {Q : Value → Shared → Prop} (N : News h₀ L s.heap R) (hm : (l, lsObj vs c) ∈ R) (hn : vs.length = n) (hl : n ≤ 1000) (hv : ∀ i, i < n → vs[i]? = some (.str (P i) (TT i))) (hj : j < n) (hjx : P j = x)
    (h : ∀ i, i < n → P i = x → Q (.int (i : Nat) s.toks) { s with toks := s.toks + 1 }) : wpAny (model prog w) A (call (.builtin "list.index") [.ref l, .str x t]) Q E s := by
  -- the first place
  have first : ∃ i, i < n ∧ P i = x ∧ ∀ k, k < i → P k ≠ x := by
    have key : ∀ d i, i + d = j → ∃ i', i' < n ∧ P i' = x ∧ ∀ k, i ≤ k → k < i' → P k ≠ x := by
      intro d
      induction d with
      | zero => intro i hi; exact ⟨j, hj, hjx, fun k h1 h2 => by omega⟩
      | succ d ih =>
        intro i hi
        by_cases e : P i = x
        · exact ⟨i, by omega, e, fun k h1 h2 => by omega⟩
        · obtain ⟨i', a, b, c⟩ := ih (i + 1) (by omega)
          refine ⟨i', a, b, fun k h1 h2 => ?_⟩
          by_cases hk : k = i
          · rw [hk]; exact e
          · exact c k (by omega) h2
    obtain ⟨i', a, b, c⟩ := key j 0 (by omega)
    exact ⟨i', a, b, fun k hk => c k (Nat.zero_le _) hk⟩
  obtain ⟨i, hi, hix, hno⟩ := first
  let e : Value → Bool := fun y => match y with | .str z _ => z == x | _ => false
  have hget : ∀ k (hk : k < vs.toArray.size), vs.toArray[k] = .str (P k) (TT k) := fun k hk => by
    have := hv k (by rw [List.size_toArray] at hk; omega)
    rw [List.getElem?_eq_getElem (by rw [List.size_toArray] at hk; exact hk)] at this
    simpa using Option.some.inj this
  refine call_meets PySem.F.slot_list_index ⟨_, (N _ hm).1, rfl⟩ PySem.F.entry_list_index (PySem.F.args_list_index_2 _ _) (PySem.SeqAt.list_indexAt l vs.toArray c none #[] (.str x t) e i (by rw [List.size_toArray]; omega) (by omega) ?_ ?_) ⟨(N _ hm).1, fun y hy => ?_, h i hi hix⟩
  · rw [hget]; show (P i == x) = true; simp [hix]
  · intro k hk hki
    rw [hget]; show (P k == x) = false
    simpa using hno k hki
  · obtain ⟨k, hk, rfl⟩ := List.getElem_of_mem (show y ∈ vs by simpa using hy)
    have := hv k (by omega)
    rw [List.getElem?_eq_getElem hk] at this
    rw [Option.some.inj this]
    intro prog w E Q hq
    refine wpAny_eqBool_str ?_
    have : (P k == x) = decide (P k = x) := by by_cases h : P k = x <;> simp [h]
    show Q (decide (P k = x)) s
    rw [← this]; exact hq
end
/-- no address twice -/
def NoD (led : Led) : Prop := (led.map (·.1)).Nodup
theorem NoD.ne {a : Addr} {o : Obj} {led : Led} (h : NoD ((a, o) :: led)) : ∀ q ∈ led, q.1 ≠ a := fun q hq e => by
  have := (List.nodup_cons.mp h).1
  exact this (e ▸ List.mem_map_of_mem (f := (·.1)) hq)
theorem NoD.cons {a : Addr} {o : Obj} {led : Led} (h : NoD led) (hn : ∀ q ∈ led, q.1 ≠ a) : NoD ((a, o) :: led) :=
  List.nodup_cons.mpr ⟨fun hm => by obtain ⟨q, hq, e⟩ := List.mem_map.mp hm; exact hn q hq e, h⟩
theorem NoD.tail {q : Addr × Obj} {led : Led} (h : NoD (q :: led)) : NoD led := (List.nodup_cons.mp h).2
theorem NoD.set {a : Addr} {o o' : Obj} {led : Led} (h : NoD ((a, o) :: led)) : NoD ((a, o') :: led) := h
theorem NoD.app {own led : Led} (h : NoD led) (ho : NoD own) (hl : ∀ p ∈ own, ∀ q ∈ led, @LT.lt Nat _ q.1 p.1) : NoD (own ++ led) := by
  unfold NoD at *
  rw [List.map_append]
  refine List.nodup_append.mpr ⟨ho, h, fun a ha b hb e => ?_⟩
  obtain ⟨p, hp, rfl⟩ := List.mem_map.mp ha
  obtain ⟨q, hq, rfl⟩ := List.mem_map.mp hb
  exact Nat.ne_of_lt (hl p hp q hq) e.symm
/-- between the turns of _law_by_halves -/
def BhJ (pl FS TD hc fc hfn : Addr) (res1 : List Value) (c1 : Nat) (news : Led) (n : Nat) (P : Nat → Str) (ha hb : Str → Str) (lo a k : Nat) (m : Str → Option Value) (led : Led) : Prop :=
  lo ≤ k ∧ ∃ (ps : Array Value) (own : Led) (tolds : List Value) (ct : Nat) (cfo co : Obj) (v0 : Option Value),
    led = (TD, lsObj tolds ct) :: (fc, cfo) :: (hc, co) :: (FS, lsObj res1 c1) :: (390, tabObj ps) :: (own ++ news) ∧ NoD led ∧ TabSt (own ++ news) ps lp2 lp1 lq ∧ cfo.data = .cell v0 ∧ co.data = .cell (some (.ref hfn)) ∧
    m (Str.ofString "paths") = some (.ref pl) ∧ m (Str.ofString "firsts") = some (.ref FS) ∧ m (Str.ofString "told") = some (.ref TD) ∧ tolds.length = a ∧ ∀ j, j < a → FlAt tolds j (hf (rkI false 1 n (fun i => [ha (P i), hb (P i)]) j))
theorem LamCode.drop {x : Addr} {ox : Obj} {led led' : Led} {ps : Array Value} {pos : Pos} {qual : Str} (h : LamCode led ps pos qual) (hs : ∀ q ∈ led, q = (x, ox) ∨ q ∈ led') (hx : ∀ vs, ox.data ≠ .fields vs) : LamCode led' ps pos qual :=
  h.imp id fun ⟨c', oc, vs, t, a, b, c, d⟩ => ⟨c', oc, vs, t, a, (hs _ b).resolve_left (fun e => by
    have e2 : oc = ox := congrArg Prod.snd e
    exact hx vs (e2 ▸ c)), c, d⟩
theorem TabSt.drop {x : Addr} {ox : Obj} {led led' : Led} {ps : Array Value} {p1 p2 : Pos} {qual : Str} (h : TabSt led ps p1 p2 qual) (hs : ∀ q ∈ led, q = (x, ox) ∨ q ∈ led') (hx : ∀ vs, ox.data ≠ .fields vs) : TabSt led' ps p1 p2 qual :=
  ⟨h.1, h.2.1.drop hs hx, h.2.2.drop hs hx⟩
section
variable {w : World} {p : Program} {loose : List Str} {mean : ExcName → Option Value} {mg mb : Str → Option Value} {A A₀ : Around} {base h₀ : Heap} {outer : List Env} {L : Addr} {m : Str → Option Value} {E : Value → Shared → Prop} {s : Shared} {env : Env}
    {pl FS TD hc fc hfn : Addr} {res1 : List Value} {c1 n : Nat} {news own1 : Led} {P : Nat → Str} {ha hb : Str → Str} {ps ps1 : Array Value} {cfo co : Obj} {v0 : Option Value}
theorem bh_for {x : Str} {px : Pos} {body : List Stmt} {Q : Flow → Shared → Prop} {r : Addr} {b : Int} {t u v : Tok} (hh : A.handled = none) (hr : IsRange s.heap r 0 b 1 t u v) (hb0 : b = (n : Int)) (hn : n < 2 ^ 62) (F : Fr h₀ L s.heap m) (G : Gd w p loose mean mg mb A₀ base outer h₀ h₀)
    (N : News h₀ L s.heap ((TD, lsObj [] 0) :: (FS, lsObj res1 c1) :: (390, tabObj ps1) :: (own1 ++ ([(fc, cfo), (hc, co)] ++ news)))) (hnd0 : NoD ((390, tabObj ps) :: news)) (k1 : @LT.lt Nat _ 390 hc) (k2 : @LT.lt Nat _ hc fc) (k3 : ∀ q ∈ news, @LT.lt Nat _ q.1 hc)
    (V1 : (own1.map (·.1)).Nodup) (U1 : ∀ p ∈ own1, ∀ q ∈ (390, tabObj ps) :: ([(fc, cfo), (hc, co)] ++ news), @LT.lt Nat _ q.1 p.1) (l2 : ∀ q ∈ (390, tabObj ps1) :: (own1 ++ ([(fc, cfo), (hc, co)] ++ news)), @LT.lt Nat _ q.1 FS)
    (l3 : ∀ q ∈ (FS, lsObj res1 c1) :: (390, tabObj ps1) :: (own1 ++ ([(fc, cfo), (hc, co)] ++ news)), @LT.lt Nat _ q.1 TD) (S1 : TabSt (own1 ++ ([(fc, cfo), (hc, co)] ++ news)) ps1 lp1 lp2 lq) (hcf : cfo.data = .cell v0) (hco : co.data = .cell (some (.ref hfn)))
    (m1 : m (Str.ofString "paths") = some (.ref pl)) (m2 : m (Str.ofString "firsts") = some (.ref FS)) (m3 : m (Str.ofString "told") = some (.ref TD))
    (turn : ∀ I i g m led o h k tk, s.toks ≤ tk → tk < k → i < n → BhJ pl FS TD hc fc hfn res1 c1 news n P ha hb s.toks i tk m led → (∀ q ∈ led, q.1 ≠ I) → Gd w p loose mean mg mb A₀ base outer h₀ g → Fr g L h m → News g L h ((I, o) :: led) → IsRi 0 n (i + 1) o → ∀ s₀ : Shared, s₀.toks = s.toks → s₀.gens = s.gens → s₀.drawn = s.drawn → s₀.os = s.os →
      wpAny (model PR w) A (storeName env x (.int (i : Int) tk)) (fun _ s₂ => wpAny (model PR w) A (execs body env) (WFlow Q (TurnG w p loose mean mg mb A₀ base h₀ outer L s₀ (RgJ I n (BhJ pl FS TD hc fc hfn res1 c1 news n P ha hb s.toks)) i)) E s₂) E { s with heap := h, toks := k })
    (fin : ∀ g m led h k, s.toks ≤ k → BhJ pl FS TD hc fc hfn res1 c1 news n P ha hb s.toks n k m led → Gd w p loose mean mg mb A₀ base outer h₀ g → Fr g L h m → News g L h led → Q .next { s with heap := h, toks := k })
    (hE : PassesOwn (model PR w) A env E := by passes_own) :
    wpAny (model PR w) A (pyIter (.ref r)) (fun it s₂ => codeAny (model PR w) A (.forLoop (.Name x px) it body [] env) (fun r s' => match r with | .ok f => Q f s' | .error e => cameBackBy (model PR w) A env E e s') s₂) E s := by
  have sub : ∀ q ∈ (TD, lsObj [] 0) :: (fc, cfo) :: (hc, co) :: (FS, lsObj res1 c1) :: (390, tabObj ps1) :: (own1 ++ news), q ∈ (TD, lsObj [] 0) :: (FS, lsObj res1 c1) :: (390, tabObj ps1) :: (own1 ++ ([(fc, cfo), (hc, co)] ++ news)) := fun q hq => by
    simp only [List.mem_cons, List.mem_append, List.not_mem_nil, or_false] at hq ⊢
    rcases hq with h | h | h | h | h | h | h <;> simp [h]
  have s1 : TabSt (own1 ++ news) ps1 lp1 lp2 lq := by
    refine TabSt.drop (x := hc) (ox := co) (TabSt.drop (x := fc) (ox := cfo) (led' := own1 ++ ((hc, co) :: news)) S1 (fun q hq => ?_) (fun vs e => by rw [hcf] at e; cases e)) (fun q hq => ?_) (fun vs e => by rw [hco] at e; cases e)
    · simp only [List.mem_append, List.mem_cons, List.not_mem_nil, or_false] at hq ⊢
      rcases hq with h | (h | h) | h
      · exact .inr (.inl h)
      · exact .inl h
      · exact .inr (.inr (.inl h))
      · exact .inr (.inr (.inr h))
    · simp only [List.mem_append, List.mem_cons] at hq ⊢
      rcases hq with h | h | h
      · exact .inr (.inl h)
      · exact .inl h
      · exact .inr (.inr h)
  have nd : NoD ((TD, lsObj [] 0) :: (fc, cfo) :: (hc, co) :: (FS, lsObj res1 c1) :: (390, tabObj ps1) :: (own1 ++ news)) := by
    have a0 : NoD (own1 ++ news) := NoD.app hnd0.tail V1 fun p hp q hq => U1 p hp q (.tail _ (List.mem_append_right _ hq))
    have a1 : NoD ((390, tabObj ps1) :: (own1 ++ news)) := a0.cons fun q hq => by
      rcases List.mem_append.mp hq with h | h
      · exact Nat.ne_of_gt (U1 q h _ (.head _))
      · exact hnd0.ne q h
    have a2 : NoD ((FS, lsObj res1 c1) :: (390, tabObj ps1) :: (own1 ++ news)) := a1.cons fun q hq => Nat.ne_of_lt (l2 q (by
      simp only [List.mem_cons, List.mem_append] at hq ⊢
      rcases hq with h | h | h <;> simp [h]))
    have fFS : @LT.lt Nat _ hc FS := l2 (hc, co) (by simp)
    have a3 : NoD ((hc, co) :: (FS, lsObj res1 c1) :: (390, tabObj ps1) :: (own1 ++ news)) := a2.cons fun q hq => by
      simp only [List.mem_cons, List.mem_append] at hq
      rcases hq with rfl | rfl | h | h
      · exact Nat.ne_of_gt fFS
      · exact Nat.ne_of_lt k1
      · exact Nat.ne_of_gt (U1 q h (hc, co) (by simp))
      · exact Nat.ne_of_lt (k3 q h)
    have a4 : NoD ((fc, cfo) :: (hc, co) :: (FS, lsObj res1 c1) :: (390, tabObj ps1) :: (own1 ++ news)) := a3.cons fun q hq => by
      simp only [List.mem_cons, List.mem_append] at hq
      rcases hq with rfl | rfl | rfl | h | h
      · exact Nat.ne_of_lt k2
      · exact Nat.ne_of_gt (l2 (fc, cfo) (by simp))
      · exact Nat.ne_of_lt (Nat.lt_trans k1 k2)
      · exact Nat.ne_of_gt (U1 q h (fc, cfo) (by simp))
      · exact Nat.ne_of_lt (Nat.lt_trans (k3 q h) k2)
    exact a4.cons fun q hq => Nat.ne_of_lt (l3 q (by
      simp only [List.mem_cons, List.mem_append, List.not_mem_nil, or_false] at hq ⊢
      rcases hq with h | h | h | h | h | h <;> simp [h]))
  exact for_range_gd hh hr hb0 hn F (news_sub N sub) G (BhJ pl FS TD hc fc hfn res1 c1 news n P ha hb s.toks) ⟨Nat.le_refl _, ps1, own1, [], 0, cfo, co, v0, rfl, nd, s1.swap, hcf, hco, m1, m2, m3, rfl, fun j hj => absurd hj (Nat.not_lt_zero _)⟩ turn fin hE
end
theorem store_first {prog : Program} {w : World} {A : Around} {E : Value → Shared → Prop} {s : Shared} {h₀ : Heap} {L : Addr} {m : Str → Option Value} {D I TD fc a : Addr} {od o ot cfo : Obj} {rest : Led} {cn : Str} {cs : Scope} {ccd : Value} {cl : List (Str × Addr)} {x : Str} {v : Value} {v₀ : Option Value} {Q : Unit → Shared → Prop}
    (F : Fr h₀ L s.heap m) (N : News h₀ L s.heap ((D, od) :: (I, o) :: (TD, ot) :: (fc, cfo) :: rest)) (nd : NoD ((TD, ot) :: (fc, cfo) :: rest)) (hI : ∀ q ∈ (TD, ot) :: (fc, cfo) :: rest, q.1 ≠ I) (hd : cfo.data = .cell v₀) (hc : cl.lookup x = some fc)
    (h : ∀ h' o', Fr h₀ L h' m → News h₀ L h' ((I, o) :: (TD, ot) :: (fc, o') :: rest) → o'.data = .cell (some v) → Q () { s with heap := h' })
    (hk : cs.kind = .function := by rfl) (hx : (envX cn cs L a ccd cl).kindOf x = some .cell := by rfl) : wpAny (model prog w) A (storeName (envX cn cs L a ccd cl) x v) Q E s := by
  refine store_cell F N hc (.tail _ (.tail _ (.tail _ (.head _)))) hd (fun h' o' F' N' d' => h h' o' F' (N' _ fun q hq => ?_) d') hk hx
  simp only [List.mem_cons] at hq
  rcases hq with rfl | rfl | rfl | hq
  · exact .inr ⟨.tail _ (.head _), fun e => hI (fc, cfo) (.tail _ (.head _)) e.symm⟩
  · exact .inr ⟨.tail _ (.tail _ (.head _)), fun e => nd.ne (fc, cfo) (.head _) e.symm⟩
  · exact .inl rfl
  · exact .inr ⟨.tail _ (.tail _ (.tail _ (.tail _ hq))), nd.tail.ne q hq⟩
/-- what _law_by_halves gives back -/
abbrev BhPost (n : Nat) (P : Nat → Str) (ha hb : Str → Str) (news : Led) : Nat → Nat → Led → Value → Prop := fun _ _ news' r =>
  ∃ (D : Addr) (res : List Value) (c : Nat) (ps' : Array Value) (own : Led), r = .ref D ∧ news' = (D, lsObj res c) :: (390, tabObj ps') :: (own ++ news) ∧ NoD news' ∧ TabSt (own ++ news) ps' lp1 lp2 lq ∧ res.length = n ∧
    ∀ i, i < n → FlAt res i (hf (rkI false 1 n (fun i => [ha (P i), hb (P i)]) i))
theorem bh_end {pl FS TD hc fc hfn : Addr} {res1 : List Value} {c1 n lo k : Nat} {news led : Led} {P : Nat → Str} {ha hb : Str → Str} {m : Str → Option Value} (h : BhJ pl FS TD hc fc hfn res1 c1 news n P ha hb lo n k m led) :
    ∃ led', (∀ q ∈ led', q ∈ led) ∧ ∀ a b, BhPost n P ha hb news a b led' (.ref TD) := by
  obtain ⟨_, ps, own, tolds, ct, cfo, co, v0, rfl, nd, S, _, _, _, _, _, h1, h2⟩ := h
  refine ⟨(TD, lsObj tolds ct) :: (390, tabObj ps) :: (own ++ news), fun q hq => ?_, fun a b => ⟨TD, tolds, ct, ps, own, rfl, rfl, ?_, S.swap, h1, h2⟩⟩
  · simp only [List.mem_cons] at hq ⊢
    rcases hq with h | h | h <;> simp [h]
  · exact nd.tail.tail.tail.tail.cons fun q hq => nd.ne q (.tail _ (.tail _ (.tail _ hq)))
theorem bh_told {pl FS TD hc fc hfn : Addr} {res1 : List Value} {c1 n lo k a : Nat} {news led : Led} {P : Nat → Str} {ha hb : Str → Str} {m : Str → Option Value} (h : BhJ pl FS TD hc fc hfn res1 c1 news n P ha hb lo a k m led) : m (Str.ofString "told") = some (.ref TD) := by
  obtain ⟨_, ps, own, tolds, ct, cfo, co, v0, rfl, nd, S, _, _, _, _, h1, _⟩ := h
  exact h1
/-- the list of those that share the head -/
def smL (P : Nat → Str) (ha : Str → Str) (k i : Nat) : List Nat := (List.range i).filter fun j => decide (ha (P j) = ha (P k))
def SmJ (led0 : Led) (P : Nat → Str) (TT : Nat → Nat) (ha : Str → Str) (k0 : Nat) (i _k : Nat) (ys : List Value) (led : Led) : Prop := led = led0 ∧ ys = (smL P ha k0 i).map fun j => Value.str (P j) (TT j)
theorem SmJ.len {led0 led : Led} {P : Nat → Str} {TT : Nat → Nat} {ha : Str → Str} {k0 i k : Nat} {ys : List Value} (h : SmJ led0 P TT ha k0 i k ys led) : ys.length ≤ i := by
  rw [h.2, List.length_map]
  exact Nat.le_trans (List.length_filter_le _ _) (by rw [List.length_range]; exact Nat.le_refl _)
theorem smj_yes {led0 led : Led} {P : Nat → Str} {TT : Nat → Nat} {ha : Str → Str} {k0 i k k' : Nat} {ys : List Value} (h : SmJ led0 P TT ha k0 i k ys led) (e : ha (P i) = ha (P k0)) : SmJ led0 P TT ha k0 (i + 1) k' (ys ++ [.str (P i) (TT i)]) led := by
  refine ⟨h.1, ?_⟩
  rw [h.2]; unfold smL
  rw [List.range_succ, List.filter_append, List.map_append]
  simp [e]
theorem smj_no {led0 led : Led} {P : Nat → Str} {TT : Nat → Nat} {ha : Str → Str} {k0 i k k' : Nat} {ys : List Value} (h : SmJ led0 P TT ha k0 i k ys led) (e : ha (P i) ≠ ha (P k0)) : SmJ led0 P TT ha k0 (i + 1) k' ys led := by
  refine ⟨h.1, ?_⟩
  rw [h.2]; unfold smL
  rw [List.range_succ, List.filter_append, List.map_append]
  simp [e]
/-- those that share the head, as paths -/
theorem sm_paths {vs : List Value} {P : Nat → Str} {TT : Nat → Nat} {n nt k : Nat} {ha : Str → Str} (PP : Paths vs P TT n nt) (hk : k < n) :
    Paths ((smL P ha k n).map fun j => Value.str (P j) (TT j)) (fun j => P ((smL P ha k n).getD j 0)) (fun j => TT ((smL P ha k n).getD j 0)) (smL P ha k n).length nt := by
  have hin : ∀ j, j < (smL P ha k n).length → (smL P ha k n).getD j 0 < n := fun j hj => by
    have : (smL P ha k n).getD j 0 ∈ smL P ha k n := by rw [List.getD_eq_getElem?_getD, List.getElem?_eq_getElem hj]; exact List.getElem_mem _
    exact List.mem_range.mp (List.mem_filter.mp this).1
  refine ⟨by simp, fun i hi => ?_, fun i hi => PP.tok _ (hin i hi), fun i j hi hj => PP.same _ _ (hin i hi) (hin j hj), fun i hi => PP.short _ (hin i hi), ?_, ?_⟩
  · rw [List.getElem?_map, List.getElem?_eq_getElem hi, List.getD_eq_getElem?_getD, List.getElem?_eq_getElem hi]; rfl
  · exact List.length_pos_of_mem (List.mem_filter.mpr ⟨List.mem_range.mpr hk, by simp⟩)
  · exact Nat.le_trans (Nat.le_trans (List.length_filter_le _ _) (by rw [List.length_range]; exact Nat.le_refl _)) PP.hi
theorem ne390 {D I TD fc hc FS x : Addr} {d o a b b' c e f : Obj} {rest : Led} (nd : NoD ((TD, a) :: (fc, b) :: (hc, c) :: (FS, e) :: (x, f) :: rest)) (hI : x ≠ I) (hD : x ≠ D) : ∀ q ∈ [(D, d), (I, o), (TD, a), (fc, b'), (hc, c), (FS, e)] ++ rest, q.1 ≠ x := fun q hq => by
  simp only [List.cons_append, List.nil_append, List.mem_cons] at hq
  rcases hq with rfl | rfl | rfl | rfl | rfl | rfl | hq
  · exact hD.symm
  · exact hI.symm
  · exact (nd.ne (x, f) (by simp)).symm
  · exact (nd.tail.ne (x, f) (by simp)).symm
  · exact (nd.tail.tail.ne (x, f) (by simp)).symm
  · exact (nd.tail.tail.tail.ne (x, f) (by simp)).symm
  · exact nd.tail.tail.tail.tail.ne q hq
end
section
open PySem PySem.W PySem.Calls PyProof.Rows PySem.Spec
theorem sz_sm {n k : Nat} {P : Nat → Str} {ha : Str → Str} : szN n (fun i => ([ha (P i)] : KV)) k = (smL P ha k n).length := by
  unfold szN smL
  congr 1
  refine List.filter_congr fun j _ => decide_eq_decide.mpr ?_
  simp
theorem bh_val {n k idx : Nat} {P : Nat → Str} {ha hb : Str → Str} (hP : P ((smL P ha k n).getD idx 0) = P k) :
    rkI false 1 n (fun i => [ha (P i)]) k - (((smL P ha k n).length : Nat) + 1) + rkI false 1 (smL P ha k n).length (fun j => [hb (P ((smL P ha k n).getD j 0))]) idx = rkI false 1 n (fun i => [ha (P i), hb (P i)]) k := by
  have h := halves_math (n := n) (k := k) (idx := idx) (a := fun j => ha (P j)) (b := fun j => hb (P j)) (smL P ha k n) rfl (by show hb _ = hb _; rw [hP])
  rw [sz_sm] at h
  exact h
theorem rkI_bound {b : Bool} {n i : Nat} {kf : Nat → KV} (hi : i < n) (hn : n ≤ 6) : 2 ≤ rkI b 1 n kf i ∧ rkI b 1 n kf i < 13 := by
  have := rk_range (b := b) (kf := kf) hi
  unfold rkI
  omega
theorem sm_pos {n k : Nat} {P : Nat → Str} {ha : Str → Str} (hk : k < n) : ∃ j, j < (smL P ha k n).length ∧ (smL P ha k n).getD j 0 = k := by
  have : k ∈ smL P ha k n := List.mem_filter.mpr ⟨List.mem_range.mpr hk, by simp⟩
  obtain ⟨j, hj, e⟩ := List.getElem_of_mem this
  exact ⟨j, hj, by rw [List.getD_eq_getElem?_getD, List.getElem?_eq_getElem hj]; exact e⟩
theorem sm_len {n k : Nat} {P : Nat → Str} {ha : Str → Str} (hk : k < n) (hn : n ≤ 6) : 1 ≤ (smL P ha k n).length ∧ (smL P ha k n).length ≤ 6 := by
  constructor
  · exact List.length_pos_of_mem (List.mem_filter.mpr ⟨List.mem_range.mpr hk, by simp⟩)
  · exact Nat.le_trans (Nat.le_trans (List.length_filter_le _ _) (by rw [List.length_range]; exact Nat.le_refl _)) hn
theorem LamCode.dropI {x : Addr} {ox : Obj} {led led' : Led} {ps : Array Value} {pos : Pos} {qual : Str} (h : LamCode led ps pos qual) (hs : ∀ q ∈ led, q = (x, ox) ∨ q ∈ led') (hx : ∀ vs t, ox.data = .fields vs → vs[1]? ≠ some (.str qual t)) : LamCode led' ps pos qual :=
  h.imp id fun ⟨c', oc, vs, t, a, b, c, d⟩ => ⟨c', oc, vs, t, a, (hs _ b).resolve_left (fun e => by
    have e2 : oc = ox := congrArg Prod.snd e
    exact hx vs t (e2 ▸ c) d), c, d⟩
theorem TabSt.dropI {x : Addr} {ox : Obj} {led led' : Led} {ps : Array Value} {p1 p2 : Pos} {qual : Str} (h : TabSt led ps p1 p2 qual) (hs : ∀ q ∈ led, q = (x, ox) ∨ q ∈ led') (hx : ∀ vs t, ox.data = .fields vs → vs[1]? ≠ some (.str qual t)) : TabSt led' ps p1 p2 qual :=
  ⟨h.1, h.2.1.dropI hs hx, h.2.2.dropI hs hx⟩
theorem nf_list {vs us : List Value} {c : Nat} {q : Array Value → Prop} : ∀ vs', (lsObj vs c).data = .fields vs' → q vs' := fun vs' h => by cases h
/-- all that is not a record of the lambdas' code is dropped -/
theorem tab_drop {own7 rest : Led} {D2 I TD fc hc FS : Addr} {d o3 a b c e : Obj} {ps : Array Value} {p1 p2 : Pos} {qual : Str} (h : TabSt (own7 ++ ([(D2, d), (I, o3), (TD, a), (fc, b), (hc, c), (FS, e)] ++ rest)) ps p1 p2 qual)
    (h1 : ∀ vs t, d.data = .fields vs → vs[1]? ≠ some (.str qual t)) (h2 : ∀ vs t, o3.data = .fields vs → vs[1]? ≠ some (.str qual t)) (h3 : ∀ vs t, a.data = .fields vs → vs[1]? ≠ some (.str qual t)) (h4 : ∀ vs t, b.data = .fields vs → vs[1]? ≠ some (.str qual t)) (h5 : ∀ vs t, c.data = .fields vs → vs[1]? ≠ some (.str qual t)) (h6 : ∀ vs t, e.data = .fields vs → vs[1]? ≠ some (.str qual t)) :
    TabSt (own7 ++ rest) ps p1 p2 qual := by
  have step : ∀ (x : Addr) (ox : Obj) (r : Led), TabSt (own7 ++ ((x, ox) :: r)) ps p1 p2 qual → (∀ vs t, ox.data = .fields vs → vs[1]? ≠ some (.str qual t)) → TabSt (own7 ++ r) ps p1 p2 qual := fun x ox r h hx => h.dropI (fun q hq => by
    rcases List.mem_append.mp hq with hq | hq
    · exact .inr (List.mem_append_left _ hq)
    · rcases List.mem_cons.mp hq with rfl | hq
      · exact .inl rfl
      · exact .inr (List.mem_append_right _ hq)) hx
  exact step _ _ _ (step _ _ _ (step _ _ _ (step _ _ _ (step _ _ _ (step _ _ _ h h1) h2) h3) h4) h5) h6
theorem ri_nf {n i : Nat} {o : Obj} {qual : Str} (h : IsRi 0 n i o) : ∀ vs t, o.data = .fields vs → vs[1]? ≠ some (.str qual t) := fun vs t hd => by
  rw [h] at hd
  injection hd with hd
  subst hd
  intro z
  simp [rawInt] at z
section
variable {pl FS TD hc fc hfn : Addr} {res1 tolds : List Value} {c1 n lo k ct : Nat} {news own : Led} {P : Nat → Str} {ha hb : Str → Str} {ps : Array Value} {cfo co : Obj} {v0 : Option Value} {m : Str → Option Value}
/-- the end of a turn of _law_by_halves -/
theorem bh_next {a t : Nat} (hlo : lo ≤ k) (nd : NoD ((TD, lsObj (tolds ++ [.float (hf (rkI false 1 n (fun i => [ha (P i), hb (P i)]) a)) t]) (ct + 1)) :: (fc, cfo) :: (hc, co) :: (FS, lsObj res1 c1) :: (390, tabObj ps) :: (own ++ news))) (S : TabSt (own ++ news) ps lp2 lp1 lq) (d : cfo.data = .cell v0) (e : co.data = .cell (some (.ref hfn)))
    (j1 : m (Str.ofString "paths") = some (.ref pl)) (j2 : m (Str.ofString "firsts") = some (.ref FS)) (j3 : m (Str.ofString "told") = some (.ref TD)) (j4 : tolds.length = a) (j5 : ∀ j, j < a → FlAt tolds j (hf (rkI false 1 n (fun i => [ha (P i), hb (P i)]) j))) (ht : 0 < t) :
    BhJ pl FS TD hc fc hfn res1 c1 news n P ha hb lo (a + 1) k m ((TD, lsObj (tolds ++ [.float (hf (rkI false 1 n (fun i => [ha (P i), hb (P i)]) a)) t]) (ct + 1)) :: (fc, cfo) :: (hc, co) :: (FS, lsObj res1 c1) :: (390, tabObj ps) :: (own ++ news)) := by
  refine ⟨hlo, ps, own, _, ct + 1, cfo, co, v0, rfl, nd, S, d, e, j1, j2, j3, by simp [j4], fun j hj => ?_⟩
  by_cases h : j = a
  · subst h
    exact ⟨t, ht, by rw [← j4]; simp⟩
  · obtain ⟨t', h0, h1⟩ := j5 j (by omega)
    exact ⟨t', h0, by rw [List.getElem?_append_left (by omega)]; exact h1⟩
end
/-- no address twice, the lambda's new parts in front of the rest -/
theorem nod_next {own7 own3 news : Led} {D2 I TD fc hc FS : Addr} {d o3 a a' b b' c e f f' : Obj} (nd : NoD ((TD, a) :: (fc, b) :: (hc, c) :: (FS, e) :: (390, f) :: (own3 ++ news))) (V7 : (own7.map (·.1)).Nodup)
    (U7 : ∀ p ∈ own7, ∀ q ∈ (390, f) :: ([(D2, d), (I, o3), (TD, a), (fc, b'), (hc, c), (FS, e)] ++ (own3 ++ news)), @LT.lt Nat _ q.1 p.1) :
    NoD ((TD, a') :: (fc, b') :: (hc, c) :: (FS, e) :: (390, f') :: ((own7 ++ own3) ++ news)) := by
  have u : ∀ p ∈ own7, ∀ q ∈ (390, f) :: (own3 ++ news), @LT.lt Nat _ q.1 p.1 := fun p hp q hq => U7 p hp q (by
    simp only [List.cons_append, List.nil_append, List.mem_cons] at hq ⊢
    rcases hq with h | h <;> simp [h])
  have z0 : NoD ((own7 ++ own3) ++ news) := by
    rw [List.append_assoc]
    exact NoD.app nd.tail.tail.tail.tail.tail V7 fun p hp q hq => u p hp q (.tail _ hq)
  have off : ∀ (x : Addr) (ox : Obj), (∀ q ∈ own3 ++ news, q.1 ≠ x) → (∀ p ∈ own7, @LT.lt Nat _ x p.1) → ∀ q ∈ (own7 ++ own3) ++ news, q.1 ≠ x := fun x ox h1 h2 q hq => by
    rw [List.append_assoc] at hq
    rcases List.mem_append.mp hq with hq | hq
    · exact Nat.ne_of_gt (h2 q hq)
    · exact h1 q hq
  have n0 := nd.ne
  have n1 := nd.tail.ne
  have n2 := nd.tail.tail.ne
  have n3 := nd.tail.tail.tail.ne
  have n4 := nd.tail.tail.tail.tail.ne
  have z1 : NoD ((390, f') :: ((own7 ++ own3) ++ news)) := z0.cons (off 390 f n4 fun p hp => u p hp _ (.head _))
  have z2 : NoD ((FS, e) :: (390, f') :: ((own7 ++ own3) ++ news)) := z1.cons fun q hq => by
    rcases List.mem_cons.mp hq with rfl | hq
    · exact n3 (390, f) (.head _)
    · exact off FS e (fun q hq => n3 q (.tail _ hq)) (fun p hp => U7 p hp (FS, e) (by simp)) q hq
  have z3 : NoD ((hc, c) :: (FS, e) :: (390, f') :: ((own7 ++ own3) ++ news)) := z2.cons fun q hq => by
    rcases List.mem_cons.mp hq with rfl | hq
    · exact n2 (FS, e) (.head _)
    · rcases List.mem_cons.mp hq with rfl | hq
      · exact n2 (390, f) (.tail _ (.head _))
      · exact off hc c (fun q hq => n2 q (.tail _ (.tail _ hq))) (fun p hp => U7 p hp (hc, c) (by simp)) q hq
  have z4 : NoD ((fc, b') :: (hc, c) :: (FS, e) :: (390, f') :: ((own7 ++ own3) ++ news)) := z3.cons fun q hq => by
    rcases List.mem_cons.mp hq with rfl | hq
    · exact n1 (hc, c) (.head _)
    · rcases List.mem_cons.mp hq with rfl | hq
      · exact n1 (FS, e) (.tail _ (.head _))
      · rcases List.mem_cons.mp hq with rfl | hq
        · exact n1 (390, f) (.tail _ (.tail _ (.head _)))
        · exact off fc b' (fun q hq => n1 q (.tail _ (.tail _ (.tail _ hq)))) (fun p hp => U7 p hp (fc, b') (by simp)) q hq
  exact z4.cons fun q hq => by
    rcases List.mem_cons.mp hq with rfl | hq
    · exact n0 (fc, b) (.head _)
    · rcases List.mem_cons.mp hq with rfl | hq
      · exact n0 (hc, c) (.tail _ (.head _))
      · rcases List.mem_cons.mp hq with rfl | hq
        · exact n0 (FS, e) (.tail _ (.tail _ (.head _)))
        · rcases List.mem_cons.mp hq with rfl | hq
          · exact n0 (390, f) (.tail _ (.tail _ (.tail _ (.head _))))
          · exact off TD a' (fun q hq => n0 q (.tail _ (.tail _ (.tail _ (.tail _ hq))))) (fun p hp => U7 p hp (TD, a) (by simp)) q hq
theorem abs_led {g h : Heap} {L : Addr} {led : Led} {G : Prop} (N : News g L h led) (k : ∀ led', led' = led → News g L h led' → G) : G := k led rfl N
theorem led9_mem {led9 own7 own3 news : Led} {WI D2 I TD fc hc FS : Addr} {x y d o a b c e : Obj} (h : led9 = (WI, x) :: (390, y) :: (own7 ++ ([(D2, d), (I, o), (TD, a), (fc, b), (hc, c), (FS, e)] ++ (own3 ++ news)))) :
    (WI, x) ∈ led9 ∧ (D2, d) ∈ led9 ∧ (TD, a) ∈ led9 ∧ (FS, e) ∈ led9 ∧ (∀ q ∈ news, q ∈ led9) := by
  subst h
  refine ⟨by simp, by simp, by simp, by simp, fun q hq => by simp [hq]⟩
/-- the ledger of the next turn out of that behind the append -/
theorem led9_next {g h : Heap} {L : Addr} {led9 own7 own3 news : Led} {WI D2 I TD fc hc FS : Addr} {x y d o a a' b c e : Obj} (hL : led9 = (WI, x) :: (390, y) :: (own7 ++ ([(D2, d), (I, o), (TD, a), (fc, b), (hc, c), (FS, e)] ++ (own3 ++ news))))
    (N : ∀ R' : Led, (∀ q ∈ R', q = (TD, a') ∨ (q ∈ led9 ∧ q.1 ≠ TD)) → News g L h R') (nd : NoD ((TD, a') :: (fc, b) :: (hc, c) :: (FS, e) :: (390, y) :: ((own7 ++ own3) ++ news))) (hI : TD ≠ I) :
    News g L h ((I, o) :: (TD, a') :: (fc, b) :: (hc, c) :: (FS, e) :: (390, y) :: ((own7 ++ own3) ++ news)) := by
  refine N _ fun q hq => ?_
  have n0 := nd.ne
  rcases List.mem_cons.mp hq with rfl | hq
  · exact .inr ⟨by subst hL; simp, hI.symm⟩
  · rcases List.mem_cons.mp hq with rfl | hq
    · exact .inl rfl
    · refine .inr ⟨?_, n0 q hq⟩
      subst hL
      simp only [List.mem_cons, List.mem_append] at hq ⊢
      rcases hq with h | h | h | h | (h | h) | h <;> simp [h]
theorem off_I {own7 own3 news : Led} {D2 I TD fc hc FS : Addr} {d o3 a a' b b' c e f f' : Obj} (hI : ∀ q ∈ (TD, a) :: (fc, b) :: (hc, c) :: (FS, e) :: (390, f) :: (own3 ++ news), q.1 ≠ I)
    (U7 : ∀ p ∈ own7, ∀ q ∈ (390, f) :: ([(D2, d), (I, o3), (TD, a), (fc, b'), (hc, c), (FS, e)] ++ (own3 ++ news)), @LT.lt Nat _ q.1 p.1) : ∀ q ∈ (TD, a') :: (fc, b') :: (hc, c) :: (FS, e) :: (390, f') :: ((own7 ++ own3) ++ news), q.1 ≠ I := fun q hq => by
  simp only [List.mem_cons, List.mem_append] at hq
  rcases hq with rfl | rfl | rfl | rfl | rfl | (hq | hq) | hq
  · exact hI (TD, a) (.head _)
  · exact hI (fc, b) (.tail _ (.head _))
  · exact hI (hc, c) (.tail _ (.tail _ (.head _)))
  · exact hI (FS, e) (.tail _ (.tail _ (.tail _ (.head _))))
  · exact hI (390, f) (.tail _ (.tail _ (.tail _ (.tail _ (.head _)))))
  · exact Nat.ne_of_gt (U7 q hq (I, o3) (by simp))
  · exact hI q (by simp [hq])
  · exact hI q (by simp [hq])
end
section
theorem clean_Bh : True := by
  k_with_none
  trivial
theorem lines_Om_Bh : True := by
  k_with "om in" => (first
      | with_reducible assumption
      | with_reducible exact List.mem_cons_self
      | (with_reducible refine List.mem_cons_of_mem _ ?_; k_extra "om in")
      | (with_reducible refine List.mem_append_right _ ?_; k_extra "om in")
      | (with_reducible refine List.mem_append_left _ ?_; k_extra "om in"))
  k_with "om sub" => (first
      | with_reducible assumption
      | with_reducible exact fun _ h => h
      | (with_reducible refine sub_cons ?a ?b; (case a => k_extra "om in"); (case b => k_extra "om sub"))
      | (with_reducible refine sub_app ?a ?b; (case a => k_extra "om sub"); (case b => k_extra "om sub"))
      | (with_reducible refine sub_tl ?_; k_extra "om sub")
      | (with_reducible refine sub_appR ?_; k_extra "om sub")
      | (with_reducible refine sub_appL ?_; k_extra "om sub")
      | with_reducible exact sub_nil)
  k_with "om room" => (first
      | (with_reducible refine lt_room1 _ (by assumption) ?_; decide)
      | (with_reducible refine lt_room2 _ _ (by assumption) ?_; decide)
      | (with_reducible refine lt_room3 _ _ _ (by assumption) ?_; decide)
      | (with_reducible refine lt_room4 _ _ _ _ (by assumption) ?_; decide)
      | (with_reducible refine lt_room5 _ _ _ _ _ (by assumption) ?_; decide)
      | (with_reducible refine lt_roomk _ (by assumption) (by assumption) ?_; decide)
      | (with_reducible refine lt_roomt _ _ _ _ (by assumption) (by assumption) ?_; decide)
      | (with_reducible exact lt_room0 (by assumption)))
  k_with "om lt1" => (first
      | with_reducible assumption
      | with_reducible exact And.left (by assumption)
      | with_reducible exact And.left (And.right (by assumption))
      | with_reducible exact And.left (And.right (And.right (by assumption)))
      | with_reducible exact And.left (And.right (And.right (And.right (by assumption))))
      | with_reducible exact And.left (And.right (And.right (And.right (And.right (by assumption)))))
      | with_reducible exact And.left (And.right (And.right (And.right (And.right (And.right (by assumption))))))
      | with_reducible exact And.left (And.right (And.right (And.right (And.right (And.right (And.right (by assumption)))))))
      | with_reducible exact And.right (by assumption)
      | with_reducible exact And.right (And.right (by assumption))
      | with_reducible exact And.right (And.right (And.right (by assumption)))
      | with_reducible exact And.right (And.right (And.right (And.right (by assumption)))))
  k_with "om lt0" => (solve
      | iterate 12 (first | done | with_reducible assumption | with_reducible refine Nat.lt_trans ?_ (by assumption)))
  k_with "om lt" => (solve
      | iterate 12 (first | done | with_reducible assumption | with_reducible refine Nat.lt_trans ?_ (by assumption))
      | iterate 12 (first | done | k_extra "om lt1" | with_reducible refine Nat.lt_trans ?_ (by assumption)))
  k_with "om le" => (solve
      | iterate 24 (first | done | with_reducible assumption | with_reducible exact Nat.le_refl _ | with_reducible refine le_add1 ?_ | with_reducible refine le_up ?_ (by assumption) | with_reducible refine Nat.le_trans ?_ (by assumption) | with_reducible refine Nat.le_trans (m := 1048576) ?_ (by decide))
      | iterate 24 (first | done | with_reducible assumption | with_reducible exact Nat.le_refl _ | with_reducible refine le_add1 ?_ | with_reducible refine Nat.le_trans ?_ (by assumption))
      | (with_reducible refine Nat.le_trans (by assumption) ?_; decide)
      | decide)
  k_with "om pos" => (solve
      | iterate 24 (first | done | with_reducible assumption | with_reducible exact Nat.succ_pos _ | with_reducible refine pos_add ?_ | with_reducible refine pos_up ?_ (by assumption) | with_reducible refine pos_of_le ?_ (by assumption))
      | iterate 40 (first | done | with_reducible assumption | with_reducible exact Nat.succ_pos _ | with_reducible refine pos_of_le ?_ (by assumption)))
  k_with "om" => ((k_whole; first
      | (with_reducible show _ ≤ _; first | k_extra "om le" | (with_reducible refine Nat.le_of_lt ?_; k_extra "om lt"))
      | (with_reducible show _ ≠ _; first | (with_reducible refine ne_up ?_; k_extra "om lt0") | (with_reducible refine ne_dn ?_; k_extra "om lt0") | (with_reducible refine ne_dn ?_; k_extra "om lt") | (with_reducible refine ne_up ?_; k_extra "om lt"))
      | (with_reducible show 0 < _; k_extra "om pos")
      | (with_reducible show _ < _; first | k_extra "om room" | k_extra "om lt" | (with_reducible refine lt_of_add1 ?_; k_extra "om le") | (with_reducible refine Nat.lt_of_lt_of_le (by assumption) ?_; k_extra "om le"))
      | (with_reducible show ¬ _ ≤ _; with_reducible refine not_le_of ?_; k_extra "om lt")
      | (with_reducible show ¬ _ < _; with_reducible refine not_lt_of ?_; k_extra "om le")))
  k_with "my Om omega 9" => (first | k_extra "om" | ((fail_if_success (fail_if_success omega (splitDisjunctions := true))); (first | lia | omega (splitDisjunctions := true))))
  k_with "om peel" => ((repeat first | (with_reducible refine all_ne_cons ?a ?_; (case a => ((try dsimp only); omega))) | (with_reducible refine all_lt_cons ?a ?_; (case a => ((try dsimp only); omega)))))
  k_with "my Om simp 11" => (first | (k_whole; (with_reducible show _ ∈ _); k_extra "om in") | simp (contextual := false))
  trivial
theorem lines_PreM_Bh : True := by
  k_with "my PreM kin 0" => (first | with_reducible assumption | exact Frag.In.keeps (by k_asm) (Fr.keep (by k_asm)))
  k_with "my PreM execs cons 1" => ((k_here; first
      | ((fail_if_success k_fold); (refine' execs_cons_k ?_); intro zqk zKk)
      | ((refine' execs_cons_q ?_); intro zq0 zN0 zqk zKk)))
  k_with "my kont" => (refine' kont_nextS s (by with_reducible assumption) ?_)
  k_with "my PreM kunfold 3" => ((k_end; first
      | ((first | k_extra "my kont" | refine' kont_next (by with_reducible assumption) ?_ | refine' kont_ret (by with_reducible assumption) ?_ | refine' kont_brk (by with_reducible assumption) ?_ | refine' kont_cont (by with_reducible assumption) ?_); intro zk9 zhk9 zhk7 zhk8; (try dsimp only at zhk9 zhk7 zhk8))
      | refine' named_q (by with_reducible assumption) ?_))
  k_with "my PreM After 4" => (((refine' after_gen ?_); intro zk9 zhk9 zhk7 zhk8; (try dsimp only at zhk9 zhk7 zhk8 ⊢)))
  k_with "my start" => ((
      refine said ?_
      w_on
      k_fill
      unfold Said
      unfold Ct))
  k_with "my enter" => ((
      refine wpAny_call ?_
      k_dflt cell_enter
      refine gen_toks (Nat.le_add_right _ _) ?_
      intro zk7 zhk7))
  k_with "my pos" => (first | with_reducible assumption | omega | assumption | ((try dsimp only); omega) | ((try dsimp only at *); omega))
  k_with "my prem" => ((
      (case k1 => k_asm); (case k2 => k_asm); (case k3 => k_asm); (case k4 => k_asm); (case k5 => k_asm); (case kK => first | exact rfl | assumption); (case kd => ktr_room); (case ku => ktr_units); (case kt => k_extra "my pos")))
  k_with "my PreM call builtinissubclass 9" => ((k_here; k_dflt (refine' issub_str ?k1 ?_; (case k1 => exact News.isTup (by k_asm) (by k_mem)); k_whole)))
  k_with "my PreM subscriptTail Name Slice str ref 10" => (((with_reducible show wpAny _ _ (subscriptTail _ (Expr.Slice none (some _) none _) _ _) _ _ _); (with_reducible rename Fr _ _ _ _ => zF'); (with_reducible rename News _ _ _ _ => zN'); (refine slice_tk_ns (hsz := ?hsz) (s := ⟨_, _, _, _, _⟩) zF' zN' ?_); (case hsz => size_fits); intro _ _ _ _ _ _ _ _))
  k_with "my PreM subscriptTail Name Slice str ref 11" => (((with_reducible show wpAny _ _ (subscriptTail _ (Expr.Slice (some _) none none _) _ _) _ _ _); (with_reducible rename Fr _ _ _ _ => zF'); (with_reducible rename News _ _ _ _ => zN'); (refine slice_tk_sn (hsz := ?hsz) (s := ⟨_, _, _, _, _⟩) zF' zN' ?_); (case hsz => size_fits); intro _ _ _ _ _ _ _ _))
  k_with "my PreM subscriptTail Name Slice str ref 12" => (((with_reducible show wpAny _ _ (subscriptTail _ (Expr.Slice (some _) (some _) none _) _ _) _ _ _); (with_reducible rename Fr _ _ _ _ => zF'); (with_reducible rename News _ _ _ _ => zN'); (refine slice_tk_ss (hsz := ?hsz) (s := ⟨_, _, _, _, _⟩) zF' zN' ?_); (case hsz => size_fits); intro _ _ _ _ _ _ _ _))
  k_with "my PreM call builtinstrrstrip 13" => (((refine rstrip_tk (hsz := ?hsz) (s := ⟨_, _, _, _, _⟩) ?_); (case hsz => size_fits); intro _ _ _ _ _))
  k_with "my PreM binaryOp Mult str int 14" => ((refine mul_tk (s := ⟨_, _, _, _, _⟩) (mulOk_of 16 1048576 (by first | decide | omega) (by omega) (by omega) (by decide) (by decide)) ?_; intro _ _ _))
  k_with "my tk" => (first | exact Tk.trans (by k_asm) (by k_asm) (by k_extra "my pos") (by k_extra "my pos") (by k_extra "my pos") (by k_extra "my pos") | exact Tk.mono (by k_asm) (by k_extra "my pos") (by k_extra "my pos") | exact .inl ⟨rfl, rfl⟩)
  k_with "my young" => ((first | exact of_allLt (by k_asm) | exact of_allLt (And.right (by assumption : _ ∧ AllLt _ _)) | assumption))
  k_with "my look" => (first | assumption | exact rfl | (refine Eq.trans (if_neg (by decide)) ?_; k_extra "my look") | (refine Eq.trans (if_pos rfl) ?_; exact rfl) | (dsimp only; first | assumption | exact rfl | (refine Eq.trans (if_neg (by decide)) ?_; k_extra "my look") | (refine Eq.trans (if_pos rfl) ?_; exact rfl)))
  k_with "my PreM eval Name 18" => ((k_here; (with_reducible show wpAny _ _ (eval (PySem.Expr.Name _ _) (envOf _ _ _ _ _)) _ _ _); name_kind "local"; k_dflt (refine' ld ?k1 ?k2 ?_; (case k1 => k_asm); (case k2 => k_extra "my look"); k_whole)))
  k_with "my PreM callWith ref 19" => (((with_reducible show wpAny _ _ (callWith _ _ _ (backTo _ (starEach (_ :: _) _)) (backToKw _ (keywordEach (_ :: _) _))) _ _ _); k_here; k_dflt (refine' callWith_KW ?k1 ?k2 ?k3 ?_; (case k1 => k_asm); (case k2 => k_is); (case k3 => exact rfl); k_whole)))
  k_with "my PreM callWith ref 20" => (((with_reducible show wpAny _ _ (callWith _ _ _ (backTo _ (starEach (_ :: _) _)) []) _ _ _); k_here; k_dflt (refine' callWith_K ?k1 ?k2 ?_; (case k1 => k_asm); (case k2 => k_is); k_whole)))
  k_with "my PreM loadName 21" => ((k_here; k_dflt (refine' ldn ?k1 ?k2 ?_; (case k1 => k_asm); (case k2 => k_extra "my look"); k_whole)))
  k_with "my enterK" => ((
      refine wpAny_call ?_
      k_dflt (refine' code_def ?k1 ?k2 ?k3 ?k4 ?k5 ?kA ?kF ?kK ?k6 ?k7 ?k8 ?k9 ?kB ?_ ?c2 ?c3 ?c4 ?c5; (case kA => exact rfl); (case kF => exact rfl); (case kK => assumption); (case k1 => k_asm); (case k2 => k_asm); (case k3 => k_asm); (case k4 => k_asm); (case k5 => k_asm); (case k6 => k_is); (case k7 => k_is); (case k8 => ktr_room); (case k9 => (refine' kp_binds ?kx ?ke; (case kx => k_in); (case ke => exact fun _ => rfl))); (case c5 => decide); (case kB => exact locs rfl); (case c2 => exact rfl); (case c3 => exact rfl); (case c4 => exact rfl); k_whole; intro zg' zL' zh' zFG' zF' zN' zB' zX' zT'; (try dsimp only); (try k_lift zB'); (try k_fold))
      refine gen_toks (Nat.le_add_right _ _) ?_
      intro zk7 zhk7))
  k_with "my PreM kall 23" => (first | assumption | exact ne_all1 (by k_asm) (by (try dsimp only); omega) | exact ne_all2 (by k_asm) (by (try dsimp only); omega) | fail "k_all")
  trivial
theorem lines_PreSM_Bh : True := by
  k_with "my enterS" => ((
      refine wpAny_call ?_
      k_dflt (refine' code_defX ?k1 ?k2 ?k3 ?k4 ?k5 ?XB ?TB ?D ?kA ?kK ?k6 ?k7 ?k8 ?k9 ?kB ?_ ?c2 ?c3 ?c4 ?c5; (case kA => exact rfl); (case kK => assumption); (case k1 => assumption); (case k2 => assumption); (case k3 => assumption); (case k4 => assumption); (case k5 => assumption); (case XB => assumption); (case TB => assumption); (case D => assumption); (case k6 => k_is); (case k7 => k_is); (case k8 => ktr_room); (case k9 => first | exact BindsTo.of_eq rfl | (refine' kp_binds ?kx ?ke; (case kx => ((with_reducible rename Fr _ _ _ _ => zkF); exact Frag.In.keeps (by k_asm) zkF.keep)); (case ke => exact fun _ => rfl))); (case c5 => decide); (case kB => exact locs rfl); (case c2 => exact rfl); (case c3 => exact rfl); (case c4 => exact rfl); k_whole; intro zg' zL' zh' zFG' zF' zN' zB' zX' zT' zD'; (try dsimp only); (try k_lift zB'); (try k_fold))
      refine gen_toks (Nat.le_add_right _ _) ?_
      intro zk7 zhk7))
  k_with "my PreSM noteFrame ref 1" => ((k_here; (with_reducible rename Heap.MadeExc _ _ _ _ _ => zmeX); k_dflt (refine' caught_new (T' := "StopIteration") (Heap.MadeExc.newExc zmeX) ?F ?N ?K ?XB ?TB ?D ?ex PyProof.Rows.Boot.«StopIteration» ?hn ?h1 ?h2 ?h3 ?_; (case F => k_asm); (case N => k_asm); (case K => assumption); (case XB => assumption); (case TB => assumption); (case D => assumption); (case ex => k_is); (case hn => decide); (case h1 => (rw [isSubtype_type]; kernel_rfl)); (case h2 => (rw [isSubtype_type]; kernel_rfl)); (case h3 => (rw [isSubtype_type]; kernel_rfl)); k_whole); intro zh' zg' zT' zF' zN' zK' zX' zP' zD'; (try k_lift zK'); (try k_sweep)))
  k_with "my startS" => ((
      refine said ?_
      w_on
      k_fill
      unfold Said
      unfold CtS))
  k_with "my gd" => (first | exact Gd.refl (by k_asm) (by k_asm) (by k_asm) (by k_asm) | exact ⟨by first | assumption | exact KtsTurn.refl, by assumption, by assumption, by assumption, by assumption⟩)
  k_with "my lay" => (first | (refine news_sub (by k_asm) ?_; k_extra "om sub") | (refine news_sub (by k_asm) ?_; intro q hq; simp only [List.mem_cons] at hq ⊢; (first | (rcases hq with rfl | rfl | rfl | rfl | rfl | rfl | rfl | rfl | hq <;> simp [*]; done) | (rcases hq with rfl | rfl | rfl | rfl | rfl | rfl | rfl | hq <;> simp [*]; done) | (rcases hq with rfl | rfl | rfl | rfl | rfl | rfl | hq <;> simp [*]; done) | (rcases hq with rfl | rfl | rfl | rfl | rfl | hq <;> simp [*]; done) | (rcases hq with rfl | rfl | rfl | rfl | hq <;> simp [*]; done) | (rcases hq with rfl | rfl | rfl | hq <;> simp [*]; done))))
  k_with "my premL" => ((
      (case k1 => k_asm); (case k2 => k_asm); (case k3 => k_asm); (case k4 => first | assumption | k_extra "my lay"); (case k5 => k_asm); (case kK => first | exact rfl | assumption); (case kd => ktr_room); (case ku => ktr_units); (case kt => k_extra "my pos")))
  k_with "my PreSM getMethod ref 6" => ((k_here; k_dflt (refine' method_slot ?k1 ?k2 ?k3 ?k4 ?k5 ?k6 ?kT ?k7 ?k8 ?k9 ?k10 ?k11 ?_; (case k1 => k_asm); (case k2 => k_asm); (case k3 => k_inst); (case k4 => k_is); (case k5 => k_is); (case k6 => k_is); (case kT => k_is); (case k7 => k_is); (case k8 => k_is); (case k9 => k_is); (case k10 => k_slotget); (case k11 => k_handed); k_whole)))
  k_with "my premS" => ((
      (case k1 => k_asm); (case k2 => k_asm); (case k3 => k_asm); (case k4 => first | assumption | k_extra "my lay"); (case k5 => k_asm); (case k6 => assumption); (case k7 => assumption); (case k8 => assumption); (case kK => first | exact rfl | assumption); (case kd => ktr_room); (case ku => ktr_units); (case kt => k_extra "my pos")))
  k_with "my young6" => (first
      | exact of_allLt (And.right (And.right (And.right (And.right (And.right (And.right (by assumption : _ ∧ _ ∧ _ ∧ _ ∧ _ ∧ _ ∧ AllLt _ _)))))))
      | exact of_allLt (And.right (And.right (And.right (And.right (And.right (And.right (And.right (by assumption : _ ∧ _ ∧ _ ∧ _ ∧ _ ∧ _ ∧ _ ∧ AllLt _ _))))))))
      | exact of_allLt (And.right (And.right (And.right (And.right (And.right (And.right (And.right (And.right (by assumption : _ ∧ _ ∧ _ ∧ _ ∧ _ ∧ _ ∧ _ ∧ _ ∧ AllLt _ _)))))))))
      | fail "my young6")
  trivial
theorem lines_Bh : True := by
  k_with "my Bh eval Name 0" => ((k_here; name_kind "local"; k_dflt (refine' ld ?k1 ?k2 ?_; (case k1 => k_asm); (case k2 => k_extra "my look"); k_whole)))
  k_with "my enterXC" => ((
      refine wpAny_call ?_
      k_dflt (refine' code_defXC ?k1 ?k2 ?k3 ?k4 ?k5 ?XB ?TB ?D ?kA ?kK ?k6 ?k7 ?k8 ?k9 ?kB ?kD ?_ ?c2 ?c3 ?c4; (case kA => exact rfl); (case kK => assumption); (case k1 => assumption); (case k2 => assumption); (case k3 => assumption); (case k4 => assumption); (case k5 => assumption); (case XB => assumption); (case TB => assumption); (case D => assumption); (case k6 => k_is); (case k7 => k_is); (case k8 => ktr_room); (case k9 => exact BindsTo.of_eq rfl); (case kB => exact rfl); (case kD => decide +kernel); (case c2 => exact rfl); (case c3 => exact rfl); (case c4 => exact rfl); k_whole; intro zg' zL' zh' tk' cells' htk' zFG' zF' zN' Y' zB' zX' zT' zD' l1; (try k_lt l1); k_cells Y'; (try simp only [List.cons_append, List.nil_append] at zN'); (try dsimp only); (try k_lift zB'); (try k_fold))))
  k_with "my in" => (repeat (first | exact List.Mem.head _ | exact List.mem_append_right _ (by k_asm) | refine List.Mem.tail _ ?_))
  trivial
local macro_rules | `(tactic| walk_at "eval Name") => `(tactic| k_extra "my Bh eval Name 0")
theorem code392 (w : World) (h : Heap) (X : (hd.heap_1 w.params).In h) : CodeHd h 392 390 := by
  revert h
  refine said ?_
  w_on
  k_fill
  unfold Said
  intro h X
  exact ⟨_, _, _, _, _, _, _, _, _, X 392 _ (by k_is), rfl, rfl, rfl, rfl, rfl, rfl, rfl, rfl, by decide⟩
local macro_rules | `(tactic| walk_at "eval Lambda") => `(tactic| k_extra "my lam")
local macro_rules | `(tactic| walk_at "callWith ref") => `(tactic| k_extra "my keep")
local macro_rules | `(tactic| walk_at "exec Assign cons ListComp") => `(tactic| k_extra "my compa")
local macro_rules | `(tactic| walk_at "subscriptTail") => `(tactic| k_extra "my item")
local macro_rules | `(tactic| walk_at "exec For Name Call cons nil") => `(tactic| k_extra "my for")
local macro_rules | `(tactic| walk_at "pyIter ref") => `(tactic| k_extra "my iter")
set_option maxHeartbeats 8000000 in
theorem bh_ct (w : World) (hfn : Addr) (hkeep : keepIn (hd.heap_1 w.params) (.ref hfn) = true) (ha hb : Str → Str) (HC : ∀ (x : Str) (t : Tok) (news : Led), x.length ≤ 1048576 → Ct w 7 (.ref hfn) [.str x t] [] news (PairPost t x (ha x) (hb x) news))
    (pl c0 n nt : Nat) (vs : List Value) (P : Nat → Str) (TT : Nat → Nat) (ps : Array Value) (news : Led) (hpl : (pl, lsObj vs c0) ∈ news) (PP : Paths vs P TT n nt) (S : TabSt news ps lp1 lp2 lq) (hnd : NoD ((390, tabObj ps) :: news)) :
    CtR w nt 80 (.ref 393) [.ref pl, .ref hfn] [] ((390, tabObj ps) :: news) (BhPost n P ha hb news) := by
  refine said ?_
  w_on
  k_fill
  unfold Said
  unfold CtR
  intro p loose mean mg mb dp un gd cn cs a ccd cl outer A₀ base h₀ L m s Q E B F X N T XB TB D hk hd hu ht hlo hret
  have hne := hnd.ne
  k_extra "my enterXC"
  repeat' ((fail_if_success (with_reducible show wpAny _ _ (eval (Expr.Lambda _ _ _ _) _) _ _ _)); (first | (k_unfold; (try dsimp only)) | walk1 | (dsimp only; walk1)))
  try any_goals (first | exact Str.ofString "" | exact (0 : Addr) | exact Value.none)
  with_reducible rename News _ _ _ _ => Nm
  with_reducible rename Fr _ _ _ _ => Fm
  k_dflt (refine mk_lamP (pos' := lp2) (hfn := hfn) [_, _] Fm Nm ?hne (by k_asm) (code392 w _ (by k_asm)) S (by decide) rfl (by with_unfolding_all rfl) (.tail _ (.head _)) (by k_asm) ?_)
  case hne => (intro q hq; simp only [List.cons_append, List.nil_append, List.mem_cons] at hq; rcases hq with rfl | rfl | hq <;> first | (refine neN ?_; dsimp only; omega) | exact hne q hq)
  intro f1 ps1 own1 h1 k1 hk1 S1 L1 M1 V1 U1 F1 N1
  try dsimp only
  repeat' ((fail_if_success (with_reducible show wpAny _ _ (call (Value.ref 244) _ _) _ _ _)); (first | (k_unfold; (try dsimp only)) | walk1 | (dsimp only; walk1)))
  obtain ⟨binds1, RA1⟩ := rargs1 w pl f1
  k_dflt (refine CtR.use (rank_ct w 12 vs pl c0 nt f1 _ _ (fun x => [ha x]) P TT 1 _ false 1 _ RA1 (.inr rfl) (by decide) ?hdl (fun q hq => .tail _ hq) (data_lam0 PP L1 hkeep HC)) (by k_asm) F1 (by k_asm) N1 (by k_asm) XB TB (by k_asm) rfl (by ktr_room) (by ktr_units) (by k_extra "my pos") (by k_extra "my pos") ?_)
  case hdl => exact .tail _ (List.mem_append_right _ (List.mem_append_right _ hpl))
  intro g2 r2 news2 h2 k2 hk2 G2 F2 N2 P2
  obtain ⟨FS, res1, c1, e1, e2, l2, len2, R2⟩ := P2
  subst e1
  subst e2
  obtain ⟨KT2, B2, X2, T2, D2⟩ := G2
  try dsimp only
  k_with "call builtin:len" => ((with_reducible rename News _ _ _ _ => Nl); k_dflt (refine len_ledN (n := n) Nl (by first | exact .tail _ (.tail _ (List.mem_append_right _ (List.mem_append_right _ hpl))) | exact .tail _ (.tail _ (.tail _ (List.mem_append_right _ (List.mem_append_right _ hpl))))) PP.len (by have := PP.hi; omega) ?_); (try dsimp only))
  k_with "my for" => (k_dflt (refine for_tk ?_))
  repeat' ((fail_if_success (with_reducible show wpAny _ _ (pyIter _) _ _ _)); (first | (k_unfold; (try dsimp only)) | walk1 | (dsimp only; walk1)))
  try any_goals (first | exact Str.ofString "" | exact (0 : Addr) | exact Value.none)
  with_reducible rename News _ _ _ _ => N3
  with_reducible rename Fr _ _ _ _ => F3
  k_dflt (refine bh_for (n := n) (ha := ha) (hb := hb) (P := P) (pl := pl) (hfn := hfn) rfl (by k_asm) (by simp) (by have := PP.hi; omega) F3 ⟨KtsTurn.refl, by assumption, by assumption, by assumption, by assumption⟩ N3 hnd (by omega) (Nat.lt_succ_self _) ?k3 V1 U1 l2 ?l3 S1 (by k_asm) (by k_asm) (by k_extra "my look") (by k_extra "my look") (by k_extra "my look") ?turn ?fin)
  case k3 => exact fun q hq => Nat.lt_succ_of_lt (of_allLt (And.right (by assumption : _ ∧ AllLt _ news)) q hq)
  case l3 => exact of_allLt (by assumption : _ ∧ _ ∧ AllLt _ _)
  case fin =>
    intro g3 m3 led3 h3 k3 hk3 hJ3 G3 F4 N4
    have hm3 := bh_told hJ3
    obtain ⟨led4, hs4, P4⟩ := bh_end hJ3
    obtain ⟨KT3, B3, X3, T3, D3⟩ := G3
    have KT4 := KT2.trans KT3
    clear KT2 KT3
    try dsimp only
    repeat' (first | (k_unfold; (try dsimp only)) | walk1 | (dsimp only; walk1))
    try any_goals (first | exact Str.ofString "" | exact (0 : Addr) | exact Value.none)
    with_reducible rename Fr _ _ _ _ => Fz
    with_reducible rename News _ _ _ _ => Nz
    exact hret _ _ _ _ _ (by k_extra "my pos") ⟨by assumption, by assumption, by assumption, by assumption, by assumption⟩ Fz (news_sub Nz hs4) (P4 _ _)
  case turn =>
    intro I i3 g3 m3 led3 o3 h3 k3 tk3 hk3 hk4 hi3 hJ3 hoff3 G3 F4 N4 ho3 s₀ y1 y2 y3 y4
    obtain ⟨hlo3, ps3, own3, tolds, ct, cfo3, co3, v3, rfl, nd3, S3, d3, e3, j1, j2, j3, j4, j5⟩ := hJ3
    obtain ⟨KT3, B3, X3, T3, D3⟩ := G3
    have hv3 := PP.v i3 hi3
    try dsimp only
    k_with "eval Name" => ((with_reducible rename News _ _ _ _ => Nk); k_dflt (refine nameX_C Nk rfl ?m e3 ?_ rfl rfl; (case m => exact .tail _ (.tail _ (.tail _ (.head _))))))
    k_with "my keep" => (k_dflt (refine callWith_K (K := Mine.hd.heap_1 w.params) (by k_asm) hkeep ?_))
    k_with "my item" => ((with_reducible rename News _ _ _ _ => Nk); k_dflt (refine item_led (c := c0) Nk ?m hv3 (by rw [PP.len]; have := PP.hi; omega) ?_ (by with_unfolding_all rfl) (by intro _; with_unfolding_all rfl); (case m => k_extra "my in")))
    k_with "my call" => (
      k_dflt (refine' Ct.use (HC (P i3) (TT i3) _ (PP.short i3 hi3)) ?k1 ?k2 ?k3 ?k4 ?k5 ?kK ?kd ?ku ?kt ?_; k_extra "my prem"); (intro r9 news9 h9 tk9 T9 F9 N9 P9; obtain ⟨D9, u1, u2, e9, e8, l9, K1, K2⟩ := P9; subst e9; subst e8; (try dsimp only); (try k_fold)))
    k_with "storeName" => ((with_reducible rename News _ _ _ _ => Nk); (with_reducible rename Fr _ _ _ _ => Fk); k_dflt (refine store_first Fk Nk nd3 hoff3 d3 rfl ?_ rfl rfl); (intro h5 cf5 F5 N5 d5))
    k_with "my compa" => (k_dflt (refine comp_assign (by with_unfolding_all rfl) (by with_unfolding_all rfl) rfl (by decide) ?_))
    repeat' ((fail_if_success (with_reducible show CompLed _ _ _ _ _ _ _ _ _ _ _ _ _ _ _)); (first | (k_unfold; (try dsimp only)) | walk1 | (dsimp only; walk1)))
    try any_goals (first | exact Str.ofString "" | exact (0 : Addr) | exact Value.none)
    with_reducible rename News _ _ _ _ => Ng
    with_reducible rename Fr _ _ _ _ => Fg
    k_dflt (refine comp_go_l (vs := vs) (c := c0) (SmJ _ P TT ha i3) rfl (by decide) rfl rfl Fg Ng ⟨rfl, rfl⟩ (fun i k ys led' h => by rw [h.1]; k_extra "my in") (fun _ _ _ _ h => h.len) (by rw [PP.len]; have := PP.hi; omega) ?_ ?_)
    · intro C2; unfold Turns; intro I2 D2 i2 v2 ys2 fl2 o2 led2 h2 k2 k02 E2 hi2 hv2 hk02 hk2 hJ2 hFA2 ho2 F6 N6 ap2
      obtain ⟨oC2, m2', rfl, hns2, hm2⟩ := hFA2
      have hJ2' := hJ2.1
      subst hJ2'
      simp only [List.cons_append, List.nil_append] at N6
      have hone := hm2 _ rfl
      have hin2 : i2 < n := by rw [PP.len] at hi2; exact hi2
      obtain rfl : v2 = .str (P i2) (TT i2) := Option.some.inj (hv2.symm.trans (PP.v i2 hin2))
      refine wpAny_tests_one ?_
      k_with "eval Name" => ((with_reducible rename News _ _ _ _ => Nk); k_dflt (first | (refine lcf_cell Nk rfl ?m e3 ?_ rfl rfl; (case m => k_extra "my in")) | (refine lcf_cell Nk rfl ?m d5 ?_ rfl rfl; (case m => k_extra "my in"))))
      k_with "my call" => (
        k_dflt (refine' Ct.use (HC (P i2) (TT i2) _ (PP.short i2 hin2)) ?k1 ?k2 ?k3 ?k4 ?k5 ?kK ?kd ?ku ?kt ?_; k_extra "my prem"); (intro r9 news9 h9 tk9 T9 F9 N9 P9; obtain ⟨D9, u1, u2, e9, e8, l9, K1, K2⟩ := P9; subst e9; subst e8; (try dsimp only); (try k_fold)))
      repeat' ((fail_if_success (with_reducible show ElTo _ _ _ _ _ _ _ _ _ _)); (fail_if_success (with_reducible show ElNo _ _ _ _ _ _ _ _ _)); (first | (k_unfold; (try dsimp only)) | walk1 | (dsimp only; walk1)))
      try any_goals (first | exact Str.ofString "" | exact (0 : Addr) | exact Value.none)
      · with_reducible rename News _ _ _ _ => Nz
        with_reducible rename Fr _ _ _ _ => Fz
        have hq9 := (by assumption : (ha (P i2) == ha (P i3)) = true)
        exact ElTo.intro _ (by k_extra "my pos") Fz (fun q hq => Nz q (.tail _ hq)) ap2 (smj_yes hJ2 (eq_of_beq hq9))
      · with_reducible rename News _ _ _ _ => Nz
        with_reducible rename Fr _ _ _ _ => Fz
        have hq9 := (by assumption : (ha (P i2) == ha (P i3)) = false)
        exact ElNo.intro _ (by k_extra "my pos") Fz (fun q hq => Nz q (.tail _ hq)) ap2 (smj_no hJ2 (fun e => by rw [e] at hq9; simp at hq9))
    · intro D2 C2 h2 k2 ys2 led2 hk2 hJ2 F6 N6 off2 hns2 hC2 hCL2 hCD2
      obtain ⟨hJ2', hJ2b⟩ := hJ2
      subst hJ2'
      subst hJ2b
      k_dflt (refine rra rfl rfl rfl F6 N6 off2 hns2 hC2 hCL2 hCD2 fun h7 k7 hk7 F7 N7 => ?_)
      rw [PP.len] at N7
      repeat' ((fail_if_success (with_reducible show wpAny _ _ (eval (Expr.Lambda _ _ _ _) _) _ _ _)); (first | (k_unfold; (try dsimp only)) | walk1 | (dsimp only; walk1)))
      try any_goals (first | exact Str.ofString "" | exact (0 : Addr) | exact Value.none)
      with_reducible rename News _ _ _ _ => Nm
      with_reducible rename Fr _ _ _ _ => Fm
      k_dflt (refine mk_lamP (pos' := lp1) (hfn := hfn) (rest := own3 ++ news) [_, _, _, _, _, _] Fm Nm ?hne3 (by k_asm) (code392 w _ (by k_asm)) S3 (by decide) rfl (by with_unfolding_all rfl) (.tail _ (.tail _ (.tail _ (.tail _ (.head _))))) e3 ?_)
      case hne3 => exact ne390 nd3 (hoff3 (390, tabObj ps3) (by simp)) (off2 (390, tabObj ps3) (by simp)).1
      intro f7 ps7 own7 h8 k8 hk8 S7 L7 M7 V7 U7 F8 N8
      obtain ⟨binds7, RA7⟩ := rargs1 w D2 f7
      try dsimp only
      repeat' ((fail_if_success (with_reducible show wpAny _ _ (call (Value.ref 244) _ _) _ _ _)); (first | (k_unfold; (try dsimp only)) | walk1 | (dsimp only; walk1)))
      try any_goals (first | exact Str.ofString "" | exact (0 : Addr) | exact Value.none)
      k_dflt (refine CtR.use (rank_ct w 12 _ D2 ((smL P ha i3 n).map fun j => Value.str (P j) (TT j)).length nt f7 _ _ (fun x => [hb x]) _ _ 1 _ false 1 _ RA7 (.inr rfl) (by decide) ?hdl7 (fun q hq => .tail _ hq) (data_lam1 (sm_paths (ha := ha) PP hi3) L7 hkeep HC)) (by k_asm) F8 (by k_asm) N8 (by k_asm) XB TB (by k_asm) rfl (by ktr_room) (by ktr_units) (by k_extra "my pos") (by k_extra "my pos") ?_)
      case hdl7 => exact .tail _ (List.mem_append_right _ (List.mem_append_left _ (.head _)))
      intro g9 r9 news9 h9 k9 hk9 G9 F9 N9 P9
      obtain ⟨WI, res9, c9, e9, e8, l9, len9, R9⟩ := P9
      subst e9
      subst e8
      obtain ⟨KT9, B9, X9, T9, D9⟩ := G9
      have KT8 := KT3.trans KT9
      clear KT9 KT3
      have R2' := R2
      rw [PP.len] at R2'
      obtain ⟨t1, ht1, hv1⟩ := R2' i3 hi3
      simp only [List.length_map] at R9 len9
      have hb1 := rkI_bound (b := false) (kf := fun i => [ha (P i)]) hi3 PP.hi
      have hs1 := sm_len (P := P) (ha := ha) hi3 PP.hi
      have SP := sm_paths (ha := ha) PP hi3
      obtain ⟨j0, hj0, hj1⟩ := sm_pos (P := P) (ha := ha) hi3
      have hjx : P ((smL P ha i3 n).getD j0 0) = P i3 := by rw [hj1]
      refine abs_led N9 fun led9 hL9 N0 => ?_
      clear N9
      obtain ⟨mWI, mD2, mTD, mFS, mN⟩ := led9_mem hL9
      try dsimp only
      k_with "my item" => ((with_reducible rename News _ _ _ _ => Nk); first
        | (k_dflt (refine item_led (l := FS) (c := c1) Nk mFS hv1 (by rw [len2, PP.len]; have := PP.hi; omega) ?_ (by with_unfolding_all rfl) (by intro _; with_unfolding_all rfl)))
        | (k_dflt (refine item_led (l := pl) (c := c0) Nk (mN _ hpl) hv3 (by rw [PP.len]; have := PP.hi; omega) ?_ (by with_unfolding_all rfl) (by intro _; with_unfolding_all rfl)))
        | (k_dflt (refine item_led (l := WI) (c := c9) Nk mWI hv5 (by rw [len9]; omega) ?_ (by with_unfolding_all rfl) (by intro _; with_unfolding_all rfl))))
      k_with "getMethod ref" => ((with_reducible rename News _ _ _ _ => Nk); first
        | (k_dflt (refine kf_method Nk mTD PySem.F.slot_list_append PySem.F.type_list_append ?_))
        | (k_dflt (refine kf_method Nk mD2 PySem.F.slot_list_index PySem.F.type_list_index ?_)))
      k_with "call builtin:len" => ((with_reducible rename News _ _ _ _ => Nk); k_dflt (refine len_ledN (n := (smL P ha i3 n).length) Nk mD2 (by rw [List.length_map]) (by omega) ?_); (try dsimp only))
      k_with "binaryOp Div int int" => (k_dflt (refine div_half (by omega) (by omega) rfl ?_); (try dsimp only))
      k_with "binaryOp Sub float float" => (k_dflt (refine fsub_half hb1.1 hb1.2 (by omega) (by omega) ?_); (try dsimp only))
      k_with "call builtin:list.index" => ((with_reducible rename News _ _ _ _ => Nk); k_dflt (refine index_led (n := (smL P ha i3 n).length) (j := j0) Nk mD2 SP.len (by omega) SP.v hj0 hjx ?_); (intro i5 hi5 hP5; obtain ⟨t5, ht5, hv5⟩ := R9 i5 hi5; have hb5 := rkI_bound (b := false) (kf := fun j => [hb (P ((smL P ha i3 n).getD j 0))]) hi5 hs1.2; (try dsimp only)))
      k_with "binaryOp Add float float" => (k_dflt (refine fadd_half (by omega) (by omega) hb5.1 hb5.2 ?_); (try dsimp only))
      k_with "call builtin:list.append" => ((with_reducible rename News _ _ _ _ => Nk); (with_reducible rename Fr _ _ _ _ => Fk); k_dflt (refine append_led Fk Nk mTD (by rw [j4]; have := PP.hi; omega) ?_); (intro hA FA NA; (try dsimp only)))
      repeat' (first | (k_unfold; (try dsimp only)) | walk1 | (dsimp only; walk1))
      try any_goals (first | exact Str.ofString "" | exact (0 : Addr) | exact Value.none)
      have eV := bh_val (n := n) (k := i3) (idx := i5) (P := P) (ha := ha) (hb := hb) hP5
      rw [eV] at NA
      have hTI := hoff3 _ (.head _)
      exact ⟨i3 + 1, g9, _, _, Nat.lt_succ_self _, ⟨hi3, o3, _, rfl, ho3, off_I hoff3 U7, bh_next (by k_extra "my pos") (nod_next nd3 V7 U7) (by rw [List.append_assoc]; exact tab_drop S7 (fun _ _ h => by cases h) (ri_nf ho3) (fun _ _ h => by cases h) (fun _ _ h => by rw [d5] at h; cases h) (fun _ _ h => by rw [e3] at h; cases h) (fun _ _ h => by cases h)) d5 e3 (by k_extra "my look") (by k_extra "my look") (by k_extra "my look") j4 j5 (by k_extra "my pos")⟩, ⟨KT8, B9, X9, T9, D9⟩, FA, led9_next hL9 NA (nod_next nd3 V7 U7) hTI, by rw [y1]; k_extra "my pos", by rw [y2, y3, y4]⟩
end
section
open PySem PySem.W PySem.Calls PyProof.Rows PySem.SeqAt
theorem tab_eq : ((List.range 14).all fun n => (Float64.cmp (hf (n : Nat)) (hf (n : Nat)) == some Ordering.eq) && !Float64.isNaN (hf (n : Nat))) = true := by decide +kernel
theorem hf_eq {n : Int} (h0 : 0 ≤ n) (h1 : n < 14) : (Float64.cmp (hf n) (hf n) == some Ordering.eq) = true ∧ Float64.isNaN (hf n) = false := by
  have h := List.all_eq_true.mp tab_eq n.toNat (List.mem_range.mpr (by omega))
  have e : ((n.toNat : Nat) : Int) = n := by omega
  simp only [e] at h
  obtain ⟨a, b⟩ := Bool.and_eq_true_iff.mp h
  exact ⟨a, by simpa using b⟩
section
variable {prog : Program} {w : World} {A : Around} {E : Value → Shared → Prop} {s : Shared}
theorem is_float {x : UInt64} {t u : Nat} {Q : Bool → Shared → Prop} (hb : NoneBooked s.heap) (ht : t ≠ 0) (hu : u ≠ 0) (hn : Float64.isNaN x = false) (hq : ∀ b, Q b s) :
    wpAny (model prog w) A (isSame (.float x t) (.float x u)) Q E s := by
  show wpAny (model prog w) A (isSame.created (x == x && !Float64.isNaN x) t u) Q E s
  unfold isSame.created
  have h0 : (((t : Tok) == 0) || ((u : Tok) == 0)) = false := by simp [ht, hu]
  rw [if_neg (by rw [h0]; decide)]
  by_cases htu : t = u
  · rw [if_pos (by simp [htu])]
    exact wpAny_pure (hq _)
  · rw [if_neg (by simpa using htu)]
    rw [if_neg (by simp [hn])]
    refine wpAny_bind (wpAny_sharingNotTold_none hb ?_)
    rw [if_neg (by decide)]
    refine wpAny_bind (wpAny_sharingNotTold_none hb ?_)
    rw [if_neg (by decide)]
    exact wpAny_bind (wpAny_rule (wpAny_bind (wpAny_askSetting (wpAny_pure (hq _)))))
end
theorem fl_eqAt {A : Around} {s : Shared} {n : Int} {t u : Nat} (hb : NoneBooked s.heap) (ht : 0 < t) (hu : 0 < u) (h0 : 0 ≤ n) (h1 : n < 14) : EqAt A s (.float (hf n) t) (.float (hf n) u) true := fun prog w E Q hq => by
  obtain ⟨hc, hn⟩ := hf_eq h0 h1
  unfold eqBool
  refine wpAny_holding ?_
  refine wpAny_ite_split (fun _ => wpAny_bind (wpAny_rule (wpAny_pure hq))) (fun _ => ?_)
  refine wpAny_bind (is_float hb (by omega) (by omega) hn fun b => ?_)
  cases b with
  | true => exact wpAny_pure hq
  | false =>
    refine wpAny_bind ?_
    refine AutoFloatOps.eq_0 ?_
    rw [hc]
    exact wpAny_truthy_bool hq
section
variable {prog : Program} {w : World} {A : Around} {E : Value → Shared → Prop} {s : Shared} {h₀ : Heap} {L l b : Addr} {m : Str → Option Value} {R : Led} {vs us : List Value} {c d n : Nat} {f : Nat → Int} {Q : Value → Shared → Prop}
theorem fl_all (hb : NoneBooked s.heap) (n1 : vs.length = n) (n2 : us.length = n) (f1 : ∀ i, i < n → FlAt vs i (hf (f i))) (f2 : ∀ i, i < n → FlAt us i (hf (f i))) (hf0 : ∀ i, i < n → 0 ≤ f i ∧ f i < 14) (j : Nat) (h1 : j < vs.toArray.size) (h2 : j < us.toArray.size) : EqAt A s vs.toArray[j] us.toArray[j] true := by
  have hj : j < n := by rw [List.size_toArray] at h1; omega
  obtain ⟨t, ht, e1⟩ := f1 j hj
  obtain ⟨u, hu, e2⟩ := f2 j hj
  have g1 : vs.toArray[j] = .float (hf (f j)) t := by
    rw [List.getElem?_eq_getElem (by omega)] at e1
    simpa using Option.some.inj e1
  have g2 : us.toArray[j] = .float (hf (f j)) u := by
    rw [List.getElem?_eq_getElem (by omega)] at e2
    simpa using Option.some.inj e2
  rw [g1, g2]
  exact fl_eqAt hb ht hu (hf0 j hj).1 (hf0 j hj).2
theorem ne_lists (hu : A.units < cLine) (X : (hd.heap_1 w.params).In h₀) (F : Fr h₀ L s.heap m) (N : News h₀ L s.heap R) (h1 : (l, lsObj vs c) ∈ R) (h2 : (b, lsObj us d) ∈ R) (n1 : vs.length = n) (n2 : us.length = n) (f1 : ∀ i, i < n → FlAt vs i (hf (f i))) (f2 : ∀ i, i < n → FlAt us i (hf (f i)))
    (hf0 : ∀ i, i < n → 0 ≤ f i ∧ f i < 14) (h : Q (.bool false) s) : wpAny (model prog w) A (compareOp .NotEq (.ref l) (.ref b)) Q E s := by
  have := RcNeAt.lists (A := A) (s := s) (items := vs.toArray) (items2 := us.toArray) (e := fun _ => true) ⟨_, (N _ h1).1, rfl, c, rfl⟩ ⟨_, (N _ h2).1, rfl, d, rfl⟩ (by rw [List.size_toArray, List.size_toArray]; omega) hu (fl_all (booked_of X F) n1 n2 f1 f2 hf0)
  refine this prog w E Q ?_
  have e : (!(List.range vs.toArray.size).all fun _ => true) = false := by simp
  rw [e]; exact h
theorem eq_lists (hu : A.units < cLine) (X : (hd.heap_1 w.params).In h₀) (F : Fr h₀ L s.heap m) (N : News h₀ L s.heap R) (h1 : (l, lsObj vs c) ∈ R) (h2 : (b, lsObj us d) ∈ R) (n1 : vs.length = n) (n2 : us.length = n) (f1 : ∀ i, i < n → FlAt vs i (hf (f i))) (f2 : ∀ i, i < n → FlAt us i (hf (f i)))
    (hf0 : ∀ i, i < n → 0 ≤ f i ∧ f i < 14) (h : Q (.bool true) s) : wpAny (model prog w) A (compareOp .Eq (.ref l) (.ref b)) Q E s := by
  refine eq_listAt (items := vs.toArray) (items2 := us.toArray) (e := fun _ => true) ⟨_, (N _ h1).1, rfl, c, rfl⟩ ⟨_, (N _ h2).1, rfl, d, rfl⟩ (by rw [List.size_toArray, List.size_toArray]; omega) hu (fl_all (booked_of X F) n1 n2 f1 f2 hf0) ?_
  have e : ((List.range vs.toArray.size).all fun _ => true) = true := by simp
  rw [e]; exact h
end
end
section
open PySem PySem.W PySem.Calls PyProof.Rows PySem.Spec
section
variable {w : World} {A : Around} {E : Value → Shared → Prop} {s : Shared} {h₀ : Heap} {L a : Addr} {m : Str → Option Value} {cn : Str} {cs : Scope} {ccd : Value} {cl : List (Str × Addr)}
/-- a block whose value is bound to a cell -/
theorem rra_cell {y : Str} {py : Pos} {Q : Flow → Shared → Prop} {D C cc : Addr} {o : Obj} {v₀ : Option Value} {h : Heap} {k : Nat} {ys : List Value} {led : Led} (hk : cs.kind = .function) (hx : (envX cn cs L a ccd cl).kindOf y = some .cell) (hc : cl.lookup y = some cc) (hm : (cc, o) ∈ led) (hd : o.data = .cell v₀)
    (F : Fr h₀ L h m) (N : News h₀ L h ((D, lsObj ys ys.length) :: led)) (off : ∀ q ∈ led, q.1 ≠ D ∧ q.1 ≠ C) (hns : ∃ m', h.Ns C m') (hC : h₀.get? C = none) (hCL : C ≠ L) (hCD : C ≠ D)
    (fin : ∀ h' k' o', k ≤ k' → Fr h₀ L h' m → (∀ R' : Led, (∀ q ∈ R', q = (cc, o') ∨ (q ∈ (D, lsObj ys ys.length) :: led ∧ q.1 ≠ cc)) → News h₀ L h' R') → o'.data = .cell (some (.ref D)) → Q .next { s with heap := h', toks := k' }) : RRa w A E (envX cn cs L a ccd cl) y py Q (.ref D) C (.ok .next) { s with heap := h, toks := k } := by
  obtain ⟨m', hn⟩ := hns
  have z := N (cc, o) (.tail _ hm)
  show wpAny _ A (assign (.Name y py) (envX cn cs L a ccd cl) (.ref D)) _ _ _
  refine wpAny_assign_Name (wpAny_storeName_cell hk hx hc ⟨o, z.1, hd⟩ fun h₂ hv hs => ?_)
  obtain ⟨o', ho', hd'⟩ := hv
  have F₂ : Fr h₀ L h₂ m := F.change hs z.2.1 z.2.2
  have N₂ : ∀ R' : Led, (∀ q ∈ R', q = (cc, o') ∨ (q ∈ (D, lsObj ys ys.length) :: led ∧ q.1 ≠ cc)) → News h₀ L h₂ R' := fun R' hR' => news_put N hs (.tail _ hm) ho' hR'
  have hcC := (off _ hm).2
  refine ⟨m', hn.sameBut hs (Ne.symm hcC), fun h' hs' => fin h' _ o' (Nat.le_refl _) (F₂.change hs' hCL hC) (fun R' hR' p hp => ?_) hd'⟩
  have z2 := N₂ R' hR' p hp
  refine ⟨hs'.extBut _ _ ?_ z2.1, z2.2⟩
  rcases hR' p hp with rfl | ⟨h1, _⟩
  · exact hcC
  · rcases List.mem_cons.mp h1 with rfl | h1
    · exact hCD.symm
    · exact (off p h1).2
/-- an item of a pair of the ledger -/
theorem item_pair {value slice : Expr} {D : Addr} {vs : List Value} {R : Led} {k : Nat} {u : Tok} {x : Value} {Q : Value → Shared → Prop} (N : News h₀ L s.heap R) (hm : (D, tpObj vs) ∈ R) (hk : vs[k]? = some x) (hl : vs.length ≤ 1000) (h : Q x s)
    (hs : subscripted slice false (.ref D) (.int (k : Nat) u) = operate [.ref D, .int (k : Nat) u] (getItem (.ref D) (.int (k : Nat) u)) := by with_unfolding_all rfl) (hg : ∀ r, letTemporaryGo value (.ref D) r = pure () := by intro _; with_unfolding_all rfl) :
    wpAny (model PR w) A (subscriptTail value slice (.ref D) (.int (k : Nat) u)) Q E s := by
  have hlt : k < vs.length := by
    rcases Nat.lt_or_ge k vs.length with h | h
    · exact h
    · rw [List.getElem?_eq_none h] at hk; cases hk
  refine item_tuple (items := vs.toArray) (j := k) ⟨_, (N _ hm).1, rfl, _, rfl⟩ (by omega) (by omega) ?_ (by simpa using hk) h hs hg
  have e := StrLaws.seqIndex_nonneg (i := (k : Int)) (n := vs.toArray.size) (by omega) (by rw [List.size_toArray]; omega)
  rw [e]; congr 1
end
theorem name_ints {vs : List Value} {zs : List Int} {k : Nat} {G : Prop} (h : IntsAre vs (zs.take k)) (g : ∀ zs' : List Int, zs'.length ≤ k → IntsAre vs zs' → G) : G := g _ (by rw [List.length_take]; omega) h
theorem name_nums {vs : List Value} {zs : List Int} {G : Prop} (h : IntsAre vs ((zs.map fun x => Int.fmod x 1000000) ++ ([297, 1162, 5483, 38] : List Int).drop zs.length)) (hz : zs.length ≤ 6)
    (g : ∀ ns : List Int, 4 ≤ ns.length → ns.length ≤ 6 → (∀ (i : Nat) (x : Int), ns[i]? = some x → 0 ≤ x ∧ x < 1000000) → IntsAre vs ns → G) : G := by
  refine g _ ?_ ?_ (fun i x hx => ?_) h
  · rw [List.length_append, List.length_map, List.length_drop]; simp; omega
  · rw [List.length_append, List.length_map, List.length_drop]; simp; omega
  · have hm := List.mem_of_getElem? hx
    rcases List.mem_append.mp hm with hm | hm
    · obtain ⟨y, _, rfl⟩ := List.mem_map.mp hm
      exact ⟨Int.fmod_nonneg_of_pos y (by decide), Int.fmod_lt_of_pos y (by decide)⟩
    · have := List.mem_of_mem_drop hm
      simp only [List.mem_cons, List.not_mem_nil, or_false] at this
      rcases this with rfl | rfl | rfl | rfl <;> decide
theorem pick3 {g h : Heap} {L : Addr} {a b c d e f1 f2 : Addr × Obj} (N : News g L h [a, b, c, d, e, f1, f2]) : News g L h [a, f1, f2] := news_sub N (by
  intro q hq
  simp only [List.mem_cons, List.not_mem_nil, or_false] at hq ⊢
  rcases hq with h | h | h <;> simp [h])
/-- the numbers, cut -/
def DrJ (led0 : Led) (zs : List Int) (i _k : Nat) (ys : List Value) (led : Led) : Prop := led = led0 ∧ IntsAre ys ((zs.take i).map fun x => Int.fmod x 1000000)
theorem DrJ.len {led0 led : Led} {zs : List Int} {i k : Nat} {ys : List Value} (h : DrJ led0 zs i k ys led) : ys.length ≤ i := by
  rw [h.2.length, List.length_map, List.length_take]; omega
theorem ints_at {vs : List Value} {zs : List Int} {i : Nat} {v : Value} (h : IntsAre vs zs) (hv : vs[i]? = some v) : ∃ n t, v = .int n t ∧ zs[i]? = some n := IntsAre.at h i v hv
theorem drj_next {led0 led : Led} {zs : List Int} {i k k' : Nat} {ys : List Value} {n : Int} {t : Nat} (h : DrJ led0 zs i k ys led) (hz : zs[i]? = some n) : DrJ led0 zs (i + 1) k' (ys ++ [.int (Int.fmod n 1000000) t]) led := by
  refine ⟨h.1, ?_⟩
  obtain ⟨h1, h2⟩ := List.getElem?_eq_some_iff.mp hz
  rw [← List.take_append_getElem h1, h2, List.map_append]
  have := intsAre_push (its := ys.toArray) (t := t) (n := Int.fmod n 1000000) (xs := (zs.take i).map fun x => Int.fmod x 1000000) h.2
  simpa using this
/-- the paths, with fresh tokens -/
def PaJ (led0 : Led) (lo : Nat) (i k : Nat) (ys : List Value) (led : Led) : Prop := led = led0 ∧ ys.length = i ∧ ∃ (P : Nat → Str) (TT : Nat → Nat), (∀ j, j < i → ys[j]? = some (.str (P j) (TT j)) ∧ lo ≤ TT j ∧ TT j < k ∧ (P j).length ≤ 5) ∧ ∀ a b, a < b → b < i → TT a < TT b
theorem paj_next {led0 led : Led} {lo i k n k' : Nat} {ys : List Value} {y : Str} {t : Nat} (h : PaJ led0 lo i k ys led) (hk : k ≤ n) (hlo : lo ≤ n) (h1 : n ≤ t) (h2 : t < k') (h3 : y.length ≤ 5) : PaJ led0 lo (i + 1) k' (ys ++ [.str y t]) led := by
  obtain ⟨e, e2, P, TT, a, b⟩ := h
  refine ⟨e, by simp [e2], fun j => if j < i then P j else y, fun j => if j < i then TT j else t, fun j hj => ?_, fun c d hcd hd => ?_⟩
  · by_cases hji : j < i
    · obtain ⟨b1, b2, b3, b4⟩ := a j hji
      dsimp only
      rw [if_pos hji, if_pos hji]
      exact ⟨by rw [List.getElem?_append_left (by omega)]; exact b1, b2, by omega, b4⟩
    · obtain rfl : j = i := by omega
      dsimp only
      rw [if_neg hji, if_neg hji]
      exact ⟨by rw [← e2]; simp, by omega, h2, h3⟩
  · dsimp only
    rw [if_pos (by omega : c < i)]
    have := (a c (by omega)).2.2.1
    by_cases hdi : d < i
    · rw [if_pos hdi]; exact b c d hcd hdi
    · rw [if_neg hdi]; omega
theorem paj_end {led0 led : Led} {lo n k : Nat} {ys : List Value} (h : PaJ led0 lo n k ys led) (h0 : 0 < lo) (h1 : 1 ≤ n) (h6 : n ≤ 6) : ∃ (P : Nat → Str) (TT : Nat → Nat), Paths ys P TT n k ∧ ∀ i, i < n → (P i).length ≤ 5 := by
  obtain ⟨e, e2, P, TT, a, b⟩ := h
  refine ⟨P, TT, ⟨e2, fun i hi => (a i hi).1, fun i hi => ⟨(a i hi).2.2.1, by have := (a i hi).2.1; omega⟩, fun i j hi hj hij => ?_, fun i hi => by have := (a i hi).2.2.2; omega, h1, h6⟩, fun i hi => (a i hi).2.2.2⟩
  rcases Nat.lt_trichotomy i j with h | h | h
  · exact absurd hij (Nat.ne_of_lt (b i j h hj))
  · rw [h]
  · exact absurd hij (Nat.ne_of_gt (b j i h hi))
/-- the cuts: pairs of the ledger -/
def CuJ (led0 : Led) (kf : Nat → KV) (i _k : Nat) (ys : List Value) (led : Led) : Prop := ys.length = i ∧ (∀ q ∈ led0, q ∈ led) ∧ ∀ j, j < i → ∃ v, ys[j]? = some v ∧ IsKey led v (kf j)
theorem cuj_next {led0 led : Led} {kf : Nat → KV} {i k k' : Nat} {ys : List Value} {D : Addr} {a b : Str} {t1 t2 : Nat} (h : CuJ led0 kf i k ys led) (e : kf i = [a, b]) : CuJ led0 kf (i + 1) k' (ys ++ [.ref D]) ((D, tpObj [.str a t1, .str b t2]) :: led) := by
  obtain ⟨e1, e2, e3⟩ := h
  refine ⟨by simp [e1], fun q hq => .tail _ (e2 q hq), fun j hj => ?_⟩
  by_cases hji : j < i
  · obtain ⟨v, b1, b2⟩ := e3 j hji
    exact ⟨v, by rw [List.getElem?_append_left (by omega)]; exact b1, b2.mono fun q hq => .tail _ hq⟩
  · obtain rfl : j = i := by omega
    exact ⟨.ref D, by rw [← e1]; simp, by rw [e]; exact .two (.head _)⟩
theorem cuj_keys {led0 led : Led} {kf : Nat → KV} {n k : Nat} {ys : List Value} (h : CuJ led0 kf n k ys led) (hl : ∀ i, (kf i).length = 2) : Keys led ys n 2 kf := ⟨h.1, h.2.2, fun i _ => hl i⟩
/-- one part of each cut -/
def CpJ (led0 : Led) (g : Nat → Str) (i _k : Nat) (ys : List Value) (led : Led) : Prop := led = led0 ∧ ys.length = i ∧ ∀ j, j < i → ∃ t, ys[j]? = some (.str (g j) t)
theorem cpj_next {led0 led : Led} {g : Nat → Str} {i k k' : Nat} {ys : List Value} {t : Nat} (h : CpJ led0 g i k ys led) : CpJ led0 g (i + 1) k' (ys ++ [.str (g i) t]) led := by
  obtain ⟨e, e1, e3⟩ := h
  refine ⟨e, by simp [e1], fun j hj => ?_⟩
  by_cases hji : j < i
  · obtain ⟨t', b1⟩ := e3 j hji
    exact ⟨t', by rw [List.getElem?_append_left (by omega)]; exact b1⟩
  · obtain rfl : j = i := by omega
    exact ⟨t, by rw [← e1]; simp⟩
theorem cpj_keys {led0 led R : Led} {g : Nat → Str} {n k : Nat} {ys : List Value} (h : CpJ led0 g n k ys led) : Keys R ys n 1 (fun i => [g i]) := ⟨h.2.1, fun i hi => by
  obtain ⟨t, e⟩ := h.2.2 i hi
  exact ⟨_, e, .one⟩, fun _ _ => rfl⟩
/-- a list of floats in the making -/
def FlJ (led0 : Led) (f : Nat → Int) (i _k : Nat) (ys : List Value) (led : Led) : Prop := led = led0 ∧ ys.length = i ∧ ∀ j, j < i → FlAt ys j (hf (f j))
theorem flj_next {led0 led : Led} {f : Nat → Int} {i k k' : Nat} {ys : List Value} {t : Nat} {x : Int} (h : FlJ led0 f i k ys led) (e : x = f i) (ht : 0 < t) : FlJ led0 f (i + 1) k' (ys ++ [.float (hf x) t]) led := by
  obtain ⟨e0, e1, e3⟩ := h
  subst e
  refine ⟨e0, by simp [e1], fun j hj => ?_⟩
  by_cases hji : j < i
  · obtain ⟨t', b0, b1⟩ := e3 j hji
    exact ⟨t', b0, by rw [List.getElem?_append_left (by omega)]; exact b1⟩
  · obtain rfl : j = i := by omega
    exact ⟨t, ht, by rw [← e1]; simp⟩
theorem three_parts (n : Nat) (kf : Nat → KV) (i : Nat) : loN true n kf i + loN false n kf i + szN n kf i = n := by
  unfold loN szN
  have : ∀ l : List Nat, (l.filter fun j => rl true (kf j) (kf i)).length + (l.filter fun j => rl false (kf j) (kf i)).length + (l.filter fun j => decide (kf j = kf i)).length = l.length := by
    intro l
    induction l with
    | nil => rfl
    | cons x r ih =>
      simp only [List.filter_cons, List.length_cons]
      have ht : rl true (kf x) (kf i) = kLt (kf i) (kf x) := rfl
      have hf : rl false (kf x) (kf i) = kLt (kf x) (kf i) := rfl
      rw [ht, hf]
      by_cases e : kf x = kf i
      · rw [e, kl_irr]; simp; omega
      · rcases kl_tri (kf x) (kf i) with h | h | h
        · exact absurd h e
        · have h2 : kLt (kf i) (kf x) = false := by
            cases hh : kLt (kf i) (kf x) with
            | false => rfl
            | true => have := kl_trans h hh; rw [kl_irr] at this; cases this
          simp [h, h2, e]; omega
        · have h2 : kLt (kf x) (kf i) = false := by
            cases hh : kLt (kf x) (kf i) with
            | false => rfl
            | true => have := kl_trans h hh; rw [kl_irr] at this; cases this
          simp [h, h2, e]; omega
  have h := this (List.range n)
  rw [List.length_range] at h
  exact h
theorem rk_rev {n i : Nat} {kf : Nat → KV} : rkI true 1 n kf i = 2 * ((n : Int) + 1) - rkI false 1 n kf i := by
  have := three_parts n kf i
  unfold rkI
  omega
theorem rk_zero {n i : Nat} {kf : Nat → KV} : rkI false 0 n kf i = rkI false 1 n kf i - 2 := by
  unfold rkI
  omega
section
variable {w : World} {vs : List Value} {P : Nat → Str} {TT : Nat → Nat} {n nt c0 pl : Nat} {news : Led}
theorem rk_split (PP : Paths vs P TT n nt) (hpl : (pl, lsObj vs c0) ∈ news) (C : FnCt w 338 headOf tailOf) : CtR w nt 40 (.ref 244) [.ref pl] [(Str.ofString "key", .ref 338)] news (RankPost false 1 n (fun i => [headOf (P i), tailOf (P i)]) news) := by
  obtain ⟨binds, RA⟩ := rargs1 w pl 338
  have h := rank_ct w 7 vs pl c0 nt 338 [] news (fun x => [headOf x, tailOf x]) P TT 2 _ false 1 _ RA (.inr rfl) (by decide) hpl (fun _ hq => nomatch hq) (data_two PP C)
  rw [PP.len] at h
  exact h
theorem rk_splitext (PP : Paths vs P TT n nt) (hpl : (pl, lsObj vs c0) ∈ news) (C : FnCt w 345 frontOf endOf) : CtR w nt 40 (.ref 244) [.ref pl] [(Str.ofString "key", .ref 345)] news (RankPost false 1 n (fun i => [frontOf (P i), endOf (P i)]) news) := by
  obtain ⟨binds, RA⟩ := rargs1 w pl 345
  have h := rank_ct w 7 vs pl c0 nt 345 [] news (fun x => [frontOf x, endOf x]) P TT 2 _ false 1 _ RA (.inr rfl) (by decide) hpl (fun _ hq => nomatch hq) (data_two PP C)
  rw [PP.len] at h
  exact h
theorem rk_revd (PP : Paths vs P TT n nt) (hpl : (pl, lsObj vs c0) ∈ news) (C : FnCt w 338 headOf tailOf) : CtR w nt 40 (.ref 244) [.ref pl] [(Str.ofString "key", .ref 338), (Str.ofString "reverse", .bool true)] news (RankPost true 1 n (fun i => [headOf (P i), tailOf (P i)]) news) := by
  obtain ⟨binds, RA⟩ := rargs2 w pl 338
  have h := rank_ct w 7 vs pl c0 nt 338 [] news (fun x => [headOf x, tailOf x]) P TT 2 _ true 1 _ RA (.inr rfl) (by decide) hpl (fun _ hq => nomatch hq) (data_two PP C)
  rw [PP.len] at h
  exact h
theorem rk_from0 (PP : Paths vs P TT n nt) (hpl : (pl, lsObj vs c0) ∈ news) (C : FnCt w 345 frontOf endOf) (t : Nat) : CtR w nt 40 (.ref 244) [.ref pl] [(Str.ofString "key", .ref 345), (Str.ofString "start", .int 0 t)] news (RankPost false 0 n (fun i => [frontOf (P i), endOf (P i)]) news) := by
  obtain ⟨binds, RA⟩ := rargs3 w pl 345 t
  have h := rank_ct w 7 vs pl c0 nt 345 [] news (fun x => [frontOf x, endOf x]) P TT 2 _ false 0 _ RA (.inl rfl) (by decide) hpl (fun _ hq => nomatch hq) (data_two PP C)
  rw [PP.len] at h
  exact h
theorem rk_one {g : Str → Str} {f : Addr} {kk : Nat} (hkk : kk ≤ 20) (PP : Paths vs P TT n nt) (hpl : (pl, lsObj vs c0) ∈ news) (C : ∀ (x : Str) (t : Tok) (news : Led), x.length ≤ 1048576 → Ct w kk (.ref f) [.str x t] [] news (Same news fun n n' r => ∃ t', r = .str (g x) t' ∧ Tk t x n t' (g x) n')) :
    CtR w nt 40 (.ref 244) [.ref pl] [(Str.ofString "key", .ref f)] news (RankPost false 1 n (fun i => [g (P i)]) news) := by
  obtain ⟨binds, RA⟩ := rargs1 w pl f
  have h := rank_ct w kk vs pl c0 nt f [] news (fun x => [g x]) P TT 1 _ false 1 _ RA (.inr rfl) hkk hpl (fun _ hq => nomatch hq) (data_one PP fun x t news hx _ => (C x t news hx).post fun n n' news' r ⟨e, t', e1, e2⟩ => ⟨t', e1, e2, e⟩)
  rw [PP.len] at h
  exact h
end
theorem split7 (w : World) : FnCt w 338 headOf tailOf := fun x t news hx => (split_ct w x t news hx).mono (by decide)
theorem splitext7 (w : World) : FnCt w 345 frontOf endOf := fun x t news hx => splitext_ct w x t news hx
theorem keep338 (w : World) : keepIn (hd.heap_1 w.params) (.ref 338) = true := by
  refine said ?_
  w_on
  k_fill
  unfold Said
  rfl
theorem keep345 (w : World) : keepIn (hd.heap_1 w.params) (.ref 345) = true := by
  refine said ?_
  w_on
  k_fill
  unfold Said
  rfl
/-- where no frame lies below, the ground does not turn -/
theorem fr_back {g g' h : Heap} {L : Addr} {m : Str → Option Value} (K : KtsTurn [] g g') (F : Fr g' L h m) : Fr g L h m := ⟨F.ns, fun b o e => F.keep b o (K.other b o e (fun h => nomatch h)), by rw [← K.size]; exact F.above⟩
theorem news_back {g g' h : Heap} {L : Addr} {led : Led} (K : KtsTurn [] g g') (N : News g' L h led) : News g L h led := fun q hq => by
  obtain ⟨a, b, c⟩ := N q hq
  refine ⟨a, b, ?_⟩
  cases e : g.get? q.1 with
  | none => rfl
  | some o => rw [K.other _ o e (fun h => nomatch h)] at c; cases c
theorem CtR.home {w : World} {lo k : Nat} {f : Value} {vs : List Value} {kw : List (Str × Value)} {news : Led} {Post : Nat → Nat → Led → Value → Prop} (C : CtR w lo k f vs kw news Post)
    {p : Program} {loose : List Str} {mean : ExcName → Option Value} {mg mb : Str → Option Value} {dp un : Nat} {gd : Option (List Code)} {cn : Str} {cs : Scope} {a : Addr} {ccd : Value} {cl : List (Str × Addr)} {A₀ : Around} {h₀ : Heap} {L : Addr} {m : Str → Option Value} {s : Shared} {Q E : Value → Shared → Prop}
    (B : Below A₀ h₀ [] h₀) (F : Fr h₀ L s.heap m) (X : (hd.heap_1 w.params).In h₀) (N : News h₀ L s.heap news) (T : Top p loose mean mg mb h₀) (hk : cs.kind = .function) (hd : dp + k < recursionLimit) (hu : un + 10 * k < cLine) (ht : 0 < s.toks) (hlo : lo ≤ s.toks)
    (ret : ∀ r news' h' tk', s.toks ≤ tk' → Fr h₀ L h' m → News h₀ L h' news' → Post s.toks tk' news' r → Q r { s with heap := h', toks := tk' }) :
    wpAny (model PR w) (ktrTop dp un gd cn cs L a ccd cl []) (call f vs kw) Q E s :=
  C.use B F X N T X T ktsDicts_nil hk hd hu ht hlo fun h₁ r news' h' tk' a1 G a2 a3 a4 => ret r news' h' tk' a1 (fr_back G.1 a2) (news_back G.1 a3) a4
theorem apart_new {own led : Led} {D : Addr} {o : Obj} (ap : Apart own led) (l : ∀ q ∈ own, @LT.lt Nat _ q.1 D) : Apart own ((D, o) :: led) := fun q hq p hp => by
  rcases List.mem_cons.mp hq with rfl | hq
  · exact Nat.ne_of_gt (l p hp)
  · exact ap q hq p hp
theorem pick_cell {g h : Heap} {L cc PL : Addr} {co' a x y : Obj} {z : Addr × Obj} (N : ∀ R' : Led, (∀ q ∈ R', q = (cc, co') ∨ (q ∈ [(PL, a), z, (cc, x), (390, y)] ∧ q.1 ≠ cc)) → News g L h R') (h1 : PL ≠ cc) (h2 : @Ne Nat 390 cc) : News g L h [(cc, co'), (PL, a), (390, y)] := N _ fun q hq => by
  simp only [List.mem_cons, List.not_mem_nil, or_false] at hq
  rcases hq with rfl | rfl | rfl
  · exact .inl rfl
  · exact .inr ⟨.head _, h1⟩
  · exact .inr ⟨.tail _ (.tail _ (.tail _ (.head _))), h2⟩
theorem tab_start {led : Led} : TabSt led #[] lp1 lp2 lq := ⟨by first | trivial | exact True.intro | (unfold TriplesOk; simp), .inl rfl, .inl rfl⟩
theorem news_cut {g h : Heap} {L : Addr} {x a b d : Addr × Obj} {led : Led} (N : News g L h (x :: a :: b :: d :: led)) : News g L h (([a] ++ [b, d]) ++ x :: led) := news_sub N fun q hq => by
  simp only [List.cons_append, List.nil_append, List.mem_cons] at hq ⊢
  rcases hq with h | h | h | h | h <;> simp [h]
theorem apart_cut {D : Addr} {o : Obj} {a b d : Addr × Obj} {led : Led} (ap : Apart ([a] ++ [b, d]) led) (l : ∀ q ∈ a :: b :: d :: led, @LT.lt Nat _ q.1 D) : Apart ([a] ++ [b, d]) ((D, o) :: led) := apart_new ap fun q hq => l q (by
  simp only [List.cons_append, List.nil_append, List.mem_cons, List.not_mem_nil, or_false] at hq ⊢
  rcases hq with h | h | h <;> simp [h])
theorem key_two {R : Led} {v : Value} {a b : Str} (h : IsKey R v [a, b]) : ∃ (D : Addr) (t1 t2 : Nat), v = .ref D ∧ (D, tpObj [.str a t1, .str b t2]) ∈ R := by
  cases h with
  | two h => exact ⟨_, _, _, rfl, h⟩
theorem nod5 {L PL BS BX : Addr} {a b c d e : Obj} {ledB : Led} (l0 : @LT.lt Nat _ 390 L) (h1 : L + 1 ≠ PL) (h2 : (390 : Addr) ≠ PL) (l1 : ∀ q ∈ ledB, @LT.lt Nat _ q.1 BS) (l2 : ∀ q ∈ (BS, d) :: ledB, @LT.lt Nat _ q.1 BX)
    (mC : (L + 1, b) ∈ ledB) (mPL : (PL, c) ∈ ledB) (m390 : (390, a) ∈ ledB) : NoD [(390, a), (L + 1, b), (PL, c), (BS, d), (BX, e)] := by
  have a1 : @LT.lt Nat _ (L + 1) BS := l1 _ mC
  have a2 : @LT.lt Nat _ PL BS := l1 _ mPL
  have a3 : @LT.lt Nat _ 390 BS := l1 _ m390
  have b1 : @LT.lt Nat _ (L + 1) BX := l2 _ (.tail _ mC)
  have b2 : @LT.lt Nat _ PL BX := l2 _ (.tail _ mPL)
  have b3 : @LT.lt Nat _ 390 BX := l2 _ (.tail _ m390)
  have b4 : @LT.lt Nat _ BS BX := l2 _ (.head _)
  have nil : NoD [] := List.nodup_nil
  refine ((((nil.cons (fun q hq => nomatch hq)).cons fun q hq => ?_).cons fun q hq => ?_).cons fun q hq => ?_).cons fun q hq => ?_
  · rcases List.mem_singleton.mp hq with rfl
    exact Nat.ne_of_gt b4
  · simp only [List.mem_cons, List.not_mem_nil, or_false] at hq
    rcases hq with rfl | rfl
    · exact Nat.ne_of_gt a2
    · exact Nat.ne_of_gt b2
  · simp only [List.mem_cons, List.not_mem_nil, or_false] at hq
    rcases hq with rfl | rfl | rfl
    · exact h1.symm
    · exact Nat.ne_of_gt a1
    · exact Nat.ne_of_gt b1
  · simp only [List.mem_cons, List.not_mem_nil, or_false] at hq
    rcases hq with rfl | rfl | rfl | rfl
    · show (L + 1 : Nat) ≠ 390
      exact Nat.ne_of_gt (Nat.lt_succ_of_lt l0)
    · exact h2.symm
    · exact Nat.ne_of_gt a3
    · exact Nat.ne_of_gt b3
theorem news5 {g h : Heap} {L : Addr} {R : Led} {a b c d e : Addr × Obj} (N : News g L h R) (h1 : a ∈ R) (h2 : b ∈ R) (h3 : c ∈ R) (h4 : d ∈ R) (h5 : e ∈ R) : News g L h (a :: [b, c, d, e]) := news_sub N fun q hq => by
  simp only [List.mem_cons, List.not_mem_nil, or_false] at hq
  rcases hq with rfl | rfl | rfl | rfl | rfl <;> assumption
end
section
theorem clean_Lw : True := by
  k_with_none
  trivial
theorem lines_Om_Lw : True := by
  k_with "om in" => (first
      | with_reducible assumption
      | with_reducible exact List.mem_cons_self
      | (with_reducible refine List.mem_cons_of_mem _ ?_; k_extra "om in")
      | (with_reducible refine List.mem_append_right _ ?_; k_extra "om in")
      | (with_reducible refine List.mem_append_left _ ?_; k_extra "om in"))
  k_with "om sub" => (first
      | with_reducible assumption
      | with_reducible exact fun _ h => h
      | (with_reducible refine sub_cons ?a ?b; (case a => k_extra "om in"); (case b => k_extra "om sub"))
      | (with_reducible refine sub_app ?a ?b; (case a => k_extra "om sub"); (case b => k_extra "om sub"))
      | (with_reducible refine sub_tl ?_; k_extra "om sub")
      | (with_reducible refine sub_appR ?_; k_extra "om sub")
      | (with_reducible refine sub_appL ?_; k_extra "om sub")
      | with_reducible exact sub_nil)
  k_with "om room" => (first
      | (with_reducible refine lt_room1 _ (by assumption) ?_; decide)
      | (with_reducible refine lt_room2 _ _ (by assumption) ?_; decide)
      | (with_reducible refine lt_room3 _ _ _ (by assumption) ?_; decide)
      | (with_reducible refine lt_room4 _ _ _ _ (by assumption) ?_; decide)
      | (with_reducible refine lt_room5 _ _ _ _ _ (by assumption) ?_; decide)
      | (with_reducible refine lt_roomk _ (by assumption) (by assumption) ?_; decide)
      | (with_reducible refine lt_roomt _ _ _ _ (by assumption) (by assumption) ?_; decide)
      | (with_reducible exact lt_room0 (by assumption)))
  k_with "om lt1" => (first
      | with_reducible assumption
      | with_reducible exact And.left (by assumption)
      | with_reducible exact And.left (And.right (by assumption))
      | with_reducible exact And.left (And.right (And.right (by assumption)))
      | with_reducible exact And.left (And.right (And.right (And.right (by assumption))))
      | with_reducible exact And.left (And.right (And.right (And.right (And.right (by assumption)))))
      | with_reducible exact And.left (And.right (And.right (And.right (And.right (And.right (by assumption))))))
      | with_reducible exact And.left (And.right (And.right (And.right (And.right (And.right (And.right (by assumption)))))))
      | with_reducible exact And.right (by assumption)
      | with_reducible exact And.right (And.right (by assumption))
      | with_reducible exact And.right (And.right (And.right (by assumption)))
      | with_reducible exact And.right (And.right (And.right (And.right (by assumption)))))
  k_with "om lt0" => (solve
      | iterate 12 (first | done | with_reducible assumption | with_reducible refine Nat.lt_trans ?_ (by assumption)))
  k_with "om lt" => (solve
      | iterate 12 (first | done | with_reducible assumption | with_reducible refine Nat.lt_trans ?_ (by assumption))
      | iterate 12 (first | done | k_extra "om lt1" | with_reducible refine Nat.lt_trans ?_ (by assumption)))
  k_with "om le" => (solve
      | iterate 24 (first | done | with_reducible assumption | with_reducible exact Nat.le_refl _ | with_reducible refine le_add1 ?_ | with_reducible refine le_up ?_ (by assumption) | with_reducible refine Nat.le_trans ?_ (by assumption) | with_reducible refine Nat.le_trans (m := 1048576) ?_ (by decide))
      | iterate 24 (first | done | with_reducible assumption | with_reducible exact Nat.le_refl _ | with_reducible refine le_add1 ?_ | with_reducible refine Nat.le_trans ?_ (by assumption))
      | (with_reducible refine Nat.le_trans (by assumption) ?_; decide)
      | decide)
  k_with "om pos" => (solve
      | iterate 24 (first | done | with_reducible assumption | with_reducible exact Nat.succ_pos _ | with_reducible refine pos_add ?_ | with_reducible refine pos_up ?_ (by assumption) | with_reducible refine pos_of_le ?_ (by assumption))
      | iterate 40 (first | done | with_reducible assumption | with_reducible exact Nat.succ_pos _ | with_reducible refine pos_of_le ?_ (by assumption)))
  k_with "om" => ((k_whole; first
      | (with_reducible show _ ≤ _; first | k_extra "om le" | (with_reducible refine Nat.le_of_lt ?_; k_extra "om lt"))
      | (with_reducible show _ ≠ _; first | (with_reducible refine ne_up ?_; k_extra "om lt0") | (with_reducible refine ne_dn ?_; k_extra "om lt0") | (with_reducible refine ne_dn ?_; k_extra "om lt") | (with_reducible refine ne_up ?_; k_extra "om lt"))
      | (with_reducible show 0 < _; k_extra "om pos")
      | (with_reducible show _ < _; first | k_extra "om room" | k_extra "om lt" | (with_reducible refine lt_of_add1 ?_; k_extra "om le") | (with_reducible refine Nat.lt_of_lt_of_le (by assumption) ?_; k_extra "om le"))
      | (with_reducible show ¬ _ ≤ _; with_reducible refine not_le_of ?_; k_extra "om lt")
      | (with_reducible show ¬ _ < _; with_reducible refine not_lt_of ?_; k_extra "om le")))
  k_with "my Om omega 9" => (first | k_extra "om" | ((fail_if_success (fail_if_success omega (splitDisjunctions := true))); (first | lia | omega (splitDisjunctions := true))))
  k_with "om peel" => ((repeat first | (with_reducible refine all_ne_cons ?a ?_; (case a => ((try dsimp only); omega))) | (with_reducible refine all_lt_cons ?a ?_; (case a => ((try dsimp only); omega)))))
  k_with "my Om simp 11" => (first | (k_whole; (with_reducible show _ ∈ _); k_extra "om in") | simp (contextual := false))
  trivial
theorem lines_PreM_Lw : True := by
  k_with "my PreM kin 0" => (first | with_reducible assumption | exact Frag.In.keeps (by k_asm) (Fr.keep (by k_asm)))
  k_with "my PreM execs cons 1" => ((k_here; first
      | ((fail_if_success k_fold); (refine' execs_cons_k ?_); intro zqk zKk)
      | ((refine' execs_cons_q ?_); intro zq0 zN0 zqk zKk)))
  k_with "my kont" => (refine' kont_nextS s (by with_reducible assumption) ?_)
  k_with "my PreM kunfold 3" => ((k_end; first
      | ((first | k_extra "my kont" | refine' kont_next (by with_reducible assumption) ?_ | refine' kont_ret (by with_reducible assumption) ?_ | refine' kont_brk (by with_reducible assumption) ?_ | refine' kont_cont (by with_reducible assumption) ?_); intro zk9 zhk9 zhk7 zhk8; (try dsimp only at zhk9 zhk7 zhk8))
      | refine' named_q (by with_reducible assumption) ?_))
  k_with "my PreM After 4" => (((refine' after_gen ?_); intro zk9 zhk9 zhk7 zhk8; (try dsimp only at zhk9 zhk7 zhk8 ⊢)))
  k_with "my start" => ((
      refine said ?_
      w_on
      k_fill
      unfold Said
      unfold Ct))
  k_with "my enter" => ((
      refine wpAny_call ?_
      k_dflt cell_enter
      refine gen_toks (Nat.le_add_right _ _) ?_
      intro zk7 zhk7))
  k_with "my pos" => (first | with_reducible assumption | omega | assumption | ((try dsimp only); omega) | ((try dsimp only at *); omega))
  k_with "my prem" => ((
      (case k1 => k_asm); (case k2 => k_asm); (case k3 => k_asm); (case k4 => k_asm); (case k5 => k_asm); (case kK => first | exact rfl | assumption); (case kd => ktr_room); (case ku => ktr_units); (case kt => k_extra "my pos")))
  k_with "my PreM call builtinissubclass 9" => ((k_here; k_dflt (refine' issub_str ?k1 ?_; (case k1 => exact News.isTup (by k_asm) (by k_mem)); k_whole)))
  k_with "my PreM subscriptTail Name Slice str ref 10" => (((with_reducible show wpAny _ _ (subscriptTail _ (Expr.Slice none (some _) none _) _ _) _ _ _); (with_reducible rename Fr _ _ _ _ => zF'); (with_reducible rename News _ _ _ _ => zN'); (refine slice_tk_ns (hsz := ?hsz) (s := ⟨_, _, _, _, _⟩) zF' zN' ?_); (case hsz => size_fits); intro _ _ _ _ _ _ _ _))
  k_with "my PreM subscriptTail Name Slice str ref 11" => (((with_reducible show wpAny _ _ (subscriptTail _ (Expr.Slice (some _) none none _) _ _) _ _ _); (with_reducible rename Fr _ _ _ _ => zF'); (with_reducible rename News _ _ _ _ => zN'); (refine slice_tk_sn (hsz := ?hsz) (s := ⟨_, _, _, _, _⟩) zF' zN' ?_); (case hsz => size_fits); intro _ _ _ _ _ _ _ _))
  k_with "my PreM subscriptTail Name Slice str ref 12" => (((with_reducible show wpAny _ _ (subscriptTail _ (Expr.Slice (some _) (some _) none _) _ _) _ _ _); (with_reducible rename Fr _ _ _ _ => zF'); (with_reducible rename News _ _ _ _ => zN'); (refine slice_tk_ss (hsz := ?hsz) (s := ⟨_, _, _, _, _⟩) zF' zN' ?_); (case hsz => size_fits); intro _ _ _ _ _ _ _ _))
  k_with "my PreM call builtinstrrstrip 13" => (((refine rstrip_tk (hsz := ?hsz) (s := ⟨_, _, _, _, _⟩) ?_); (case hsz => size_fits); intro _ _ _ _ _))
  k_with "my PreM binaryOp Mult str int 14" => ((refine mul_tk (s := ⟨_, _, _, _, _⟩) (mulOk_of 16 1048576 (by first | decide | omega) (by omega) (by omega) (by decide) (by decide)) ?_; intro _ _ _))
  k_with "my tk" => (first | exact Tk.trans (by k_asm) (by k_asm) (by k_extra "my pos") (by k_extra "my pos") (by k_extra "my pos") (by k_extra "my pos") | exact Tk.mono (by k_asm) (by k_extra "my pos") (by k_extra "my pos") | exact .inl ⟨rfl, rfl⟩)
  k_with "my young" => ((first | exact of_allLt (by k_asm) | exact of_allLt (And.right (by assumption : _ ∧ AllLt _ _)) | assumption))
  k_with "my look" => (first | assumption | exact rfl | (refine Eq.trans (if_neg (by decide)) ?_; k_extra "my look") | (refine Eq.trans (if_pos rfl) ?_; exact rfl) | (dsimp only; first | assumption | exact rfl | (refine Eq.trans (if_neg (by decide)) ?_; k_extra "my look") | (refine Eq.trans (if_pos rfl) ?_; exact rfl)))
  k_with "my PreM eval Name 18" => ((k_here; (with_reducible show wpAny _ _ (eval (PySem.Expr.Name _ _) (envOf _ _ _ _ _)) _ _ _); name_kind "local"; k_dflt (refine' ld ?k1 ?k2 ?_; (case k1 => k_asm); (case k2 => k_extra "my look"); k_whole)))
  k_with "my PreM callWith ref 19" => (((with_reducible show wpAny _ _ (callWith _ _ _ (backTo _ (starEach (_ :: _) _)) (backToKw _ (keywordEach (_ :: _) _))) _ _ _); k_here; k_dflt (refine' callWith_KW ?k1 ?k2 ?k3 ?_; (case k1 => k_asm); (case k2 => k_is); (case k3 => exact rfl); k_whole)))
  k_with "my PreM callWith ref 20" => (((with_reducible show wpAny _ _ (callWith _ _ _ (backTo _ (starEach (_ :: _) _)) []) _ _ _); k_here; k_dflt (refine' callWith_K ?k1 ?k2 ?_; (case k1 => k_asm); (case k2 => k_is); k_whole)))
  k_with "my PreM loadName 21" => ((k_here; k_dflt (refine' ldn ?k1 ?k2 ?_; (case k1 => k_asm); (case k2 => k_extra "my look"); k_whole)))
  k_with "my enterK" => ((
      refine wpAny_call ?_
      k_dflt (refine' code_def ?k1 ?k2 ?k3 ?k4 ?k5 ?kA ?kF ?kK ?k6 ?k7 ?k8 ?k9 ?kB ?_ ?c2 ?c3 ?c4 ?c5; (case kA => exact rfl); (case kF => exact rfl); (case kK => assumption); (case k1 => k_asm); (case k2 => k_asm); (case k3 => k_asm); (case k4 => k_asm); (case k5 => k_asm); (case k6 => k_is); (case k7 => k_is); (case k8 => ktr_room); (case k9 => (refine' kp_binds ?kx ?ke; (case kx => k_in); (case ke => exact fun _ => rfl))); (case c5 => decide); (case kB => exact locs rfl); (case c2 => exact rfl); (case c3 => exact rfl); (case c4 => exact rfl); k_whole; intro zg' zL' zh' zFG' zF' zN' zB' zX' zT'; (try dsimp only); (try k_lift zB'); (try k_fold))
      refine gen_toks (Nat.le_add_right _ _) ?_
      intro zk7 zhk7))
  k_with "my PreM kall 23" => (first | assumption | exact ne_all1 (by k_asm) (by (try dsimp only); omega) | exact ne_all2 (by k_asm) (by (try dsimp only); omega) | fail "k_all")
  trivial
theorem lines_PreSM_Lw : True := by
  k_with "my enterS" => ((
      refine wpAny_call ?_
      k_dflt (refine' code_defX ?k1 ?k2 ?k3 ?k4 ?k5 ?XB ?TB ?D ?kA ?kK ?k6 ?k7 ?k8 ?k9 ?kB ?_ ?c2 ?c3 ?c4 ?c5; (case kA => exact rfl); (case kK => assumption); (case k1 => assumption); (case k2 => assumption); (case k3 => assumption); (case k4 => assumption); (case k5 => assumption); (case XB => assumption); (case TB => assumption); (case D => assumption); (case k6 => k_is); (case k7 => k_is); (case k8 => ktr_room); (case k9 => first | exact BindsTo.of_eq rfl | (refine' kp_binds ?kx ?ke; (case kx => ((with_reducible rename Fr _ _ _ _ => zkF); exact Frag.In.keeps (by k_asm) zkF.keep)); (case ke => exact fun _ => rfl))); (case c5 => decide); (case kB => exact locs rfl); (case c2 => exact rfl); (case c3 => exact rfl); (case c4 => exact rfl); k_whole; intro zg' zL' zh' zFG' zF' zN' zB' zX' zT' zD'; (try dsimp only); (try k_lift zB'); (try k_fold))
      refine gen_toks (Nat.le_add_right _ _) ?_
      intro zk7 zhk7))
  k_with "my PreSM noteFrame ref 1" => ((k_here; (with_reducible rename Heap.MadeExc _ _ _ _ _ => zmeX); k_dflt (refine' caught_new (T' := "StopIteration") (Heap.MadeExc.newExc zmeX) ?F ?N ?K ?XB ?TB ?D ?ex PyProof.Rows.Boot.«StopIteration» ?hn ?h1 ?h2 ?h3 ?_; (case F => k_asm); (case N => k_asm); (case K => assumption); (case XB => assumption); (case TB => assumption); (case D => assumption); (case ex => k_is); (case hn => decide); (case h1 => (rw [isSubtype_type]; kernel_rfl)); (case h2 => (rw [isSubtype_type]; kernel_rfl)); (case h3 => (rw [isSubtype_type]; kernel_rfl)); k_whole); intro zh' zg' zT' zF' zN' zK' zX' zP' zD'; (try k_lift zK'); (try k_sweep)))
  k_with "my startS" => ((
      refine said ?_
      w_on
      k_fill
      unfold Said
      unfold CtS))
  k_with "my gd" => (first | exact Gd.refl (by k_asm) (by k_asm) (by k_asm) (by k_asm) | exact ⟨by first | assumption | exact KtsTurn.refl, by assumption, by assumption, by assumption, by assumption⟩)
  k_with "my lay" => (first | (refine news_sub (by k_asm) ?_; k_extra "om sub") | (refine news_sub (by k_asm) ?_; intro q hq; simp only [List.mem_cons] at hq ⊢; (first | (rcases hq with rfl | rfl | rfl | rfl | rfl | rfl | rfl | rfl | hq <;> simp [*]; done) | (rcases hq with rfl | rfl | rfl | rfl | rfl | rfl | rfl | hq <;> simp [*]; done) | (rcases hq with rfl | rfl | rfl | rfl | rfl | rfl | hq <;> simp [*]; done) | (rcases hq with rfl | rfl | rfl | rfl | rfl | hq <;> simp [*]; done) | (rcases hq with rfl | rfl | rfl | rfl | hq <;> simp [*]; done) | (rcases hq with rfl | rfl | rfl | hq <;> simp [*]; done))))
  k_with "my premL" => ((
      (case k1 => k_asm); (case k2 => k_asm); (case k3 => k_asm); (case k4 => first | assumption | k_extra "my lay"); (case k5 => k_asm); (case kK => first | exact rfl | assumption); (case kd => ktr_room); (case ku => ktr_units); (case kt => k_extra "my pos")))
  k_with "my PreSM getMethod ref 6" => ((k_here; k_dflt (refine' method_slot ?k1 ?k2 ?k3 ?k4 ?k5 ?k6 ?kT ?k7 ?k8 ?k9 ?k10 ?k11 ?_; (case k1 => k_asm); (case k2 => k_asm); (case k3 => k_inst); (case k4 => k_is); (case k5 => k_is); (case k6 => k_is); (case kT => k_is); (case k7 => k_is); (case k8 => k_is); (case k9 => k_is); (case k10 => k_slotget); (case k11 => k_handed); k_whole)))
  k_with "my premS" => ((
      (case k1 => k_asm); (case k2 => k_asm); (case k3 => k_asm); (case k4 => first | assumption | k_extra "my lay"); (case k5 => k_asm); (case k6 => assumption); (case k7 => assumption); (case k8 => assumption); (case kK => first | exact rfl | assumption); (case kd => ktr_room); (case ku => ktr_units); (case kt => k_extra "my pos")))
  k_with "my young6" => (first
      | exact of_allLt (And.right (And.right (And.right (And.right (And.right (And.right (by assumption : _ ∧ _ ∧ _ ∧ _ ∧ _ ∧ _ ∧ AllLt _ _)))))))
      | exact of_allLt (And.right (And.right (And.right (And.right (And.right (And.right (And.right (by assumption : _ ∧ _ ∧ _ ∧ _ ∧ _ ∧ _ ∧ _ ∧ AllLt _ _))))))))
      | exact of_allLt (And.right (And.right (And.right (And.right (And.right (And.right (And.right (And.right (by assumption : _ ∧ _ ∧ _ ∧ _ ∧ _ ∧ _ ∧ _ ∧ _ ∧ AllLt _ _)))))))))
      | fail "my young6")
  trivial
theorem lines_Lw : True := by
  k_with "my in" => (repeat (first | exact List.Mem.head _ | exact List.mem_append_right _ (by k_asm) | refine List.Mem.tail _ ?_))
  k_with "my mem" => (repeat (first | (with_reducible assumption) | exact List.Mem.head _ | refine List.mem_cons_of_mem _ ?_))
  trivial
theorem rk_bnd {x : Int} (h : 2 ≤ x ∧ x < 13) : 0 ≤ x ∧ x < 14 := ⟨Int.le_trans (by decide) h.1, Int.lt_trans h.2 (by decide)⟩
theorem rk_bnd2 {x : Int} (h : 2 ≤ x ∧ x < 13) : 0 ≤ x - 2 ∧ x - 2 < 14 := by omega
theorem law_nn {n : Nat} (h : 4 ≤ n) (h6 : n ≤ 6) : (5 : Int) ≤ (n : Int) + 1 ∧ (n : Int) + 1 < 8 := by omega
local macro_rules | `(tactic| walk_at "exec Assign cons ListComp") => `(tactic| k_extra "my compa")
local macro_rules | `(tactic| walk_at "eval ListComp") => `(tactic| k_extra "my comp")
local macro_rules | `(tactic| walk_at "CompLed") => `(tactic| k_extra "my led")
theorem ints4 {a b c d : Int} {t u v x : Nat} : IntsAre [.int a t, .int b u, .int c v, .int d x] [a, b, c, d] := .cons _ _ (.cons _ _ (.cons _ _ (.cons _ _ .nil)))
local macro_rules | `(tactic| walk_at "eval Name") => `(tactic| k_extra "my name")
def LawEnd (g : Heap) (L : Addr) (s : Shared) (f : Flow) (s' : Shared) : Prop := f = .ret (.bool true) ∧ ∃ h' tk' m ps, s' = { s with heap := h', toks := tk' } ∧ Fr g L h' m ∧ News g L h' [(390, tabObj ps)]
theorem law_mono {M : Model} {A : Around} {t : Sem Flow} {Q : Flow → Shared → Prop} {E : Value → Shared → Prop} {s : Shared} {g : Heap} {L : Addr} {m : Str → Option Value} (_ : Fr g L s.heap m) (main : wpAny M A t (LawEnd g L s) (fun _ _ => False) s) (post : ∀ f s', LawEnd g L s f s' → Q f s') : wpAny M A t Q E s :=
  wpAny_mono main post fun _ _ h => h.elim
theorem fr_look {g h : Heap} {L : Addr} {m m' : Str → Option Value} (F : Fr g L h m) (e : m = m') : Fr g L h m' := e ▸ F
set_option maxHeartbeats 16000000 in
theorem law_of : BothAt PySem.Challenge.pw_ij0120_01 topView topLoose topXt topHook.obs topHook.val 6396 "special-get-raises" false ∧ BothAt PySem.Challenge.pw_ij0120_01 topView topLoose topXt topHook.obs topHook.val 6396 "special-get-raises" true → PySem.Challenge.rw_ij0120_01.Holds := fun hb => Mine.hd ⟨hb, by
  clear hb
  k_go0
  (with_reducible rename Fr _ _ _ _ => F')
  refine law_mono F' ?main ?post
  case post =>
    rintro f s' ⟨rfl, h', tk', m', ps, rfl, F2, N2⟩
    dsimp only
    refine ⟨?_, GrownAt.of N2 (.head _), trivial⟩
    (k_end; wrow_close)
  case main =>
    rename_i w s0 s1 mg0 mb0 G Y fa ob pm cd doc ho hcd hg X V T B TE TW xs hs hlay0 hL hr hl2 as1 as2 SC vals as3 hLl ra w1 r0 hI hr2 hc1 hc2 hD h1 tk1 co hco X0 X' T' K' N' l0
    have hlen : xs.length ≤ 63 := by omega
    clear X0 hD hc2 hc1 hr2 r0 w1 ra hLl hl2 hr hL hlay0 hs hT9 TW TE B T V X hT8 hg hcd ho Y G codeHd
    replace hco : co.data = .cell none := hco
    replace F' := fr_look F' (m' := fun y => if y = Str.ofString "script" then some (Value.ref SC) else none) rfl
    dsimp only
    clear ob pm doc as1 as2 as3
    generalize ghostOf s1.heap [(392, 390)] = g at *
    generalize s1.heap.objs.size = L at *
    obtain ⟨p, loose, mean, T2⟩ : ∃ p loose mean, Top p loose mean mg0 mb0 g := ⟨_, _, _, T'⟩
    clear T'
    k_with "my compa" => (k_dflt (refine comp_assign (by with_unfolding_all rfl) (by with_unfolding_all rfl) rfl (by decide) ?_))
    repeat' ((fail_if_success (with_reducible show CompLed _ _ _ _ _ _ _ _ _ _ _ _ _ _ _)); (first | (k_unfold; (try dsimp only)) | walk1 | (dsimp only; walk1)))
    try any_goals (first | exact Str.ofString "" | exact (0 : Addr) | exact Value.none)
    with_reducible rename News _ _ _ _ => Ng
    with_reducible rename Fr _ _ _ _ => Fg
    (with_reducible rename IntsAre _ (List.take _ _) => hI0)
    refine name_ints hI0 fun zs hzl hI1 => ?_
    k_dflt (refine comp_go_l (c := 0) (DrJ _ zs) rfl (by decide) rfl rfl Fg Ng ⟨rfl, .nil⟩ (fun i k ys led' h => by rw [h.1]; exact .head _) (fun _ _ _ _ h => h.len) (by rw [hI1.length]; omega) ?_ ?_)
    · intro C; unfold Turns; intro I D i v ys fl o led h k k0 E hi hv hk0 hk hJ hFA ho F5 N5 ap
      obtain ⟨oC, m', rfl, hns, hm⟩ := hFA
      have hJ' := hJ.1
      subst hJ'
      simp only [List.cons_append, List.nil_append] at N5
      have hone := hm _ rfl
      obtain ⟨z, t, rfl, hz⟩ := ints_at hI1 hv
      refine wpAny_tests_nil ?_
      rw [if_pos rfl]
      repeat' ((fail_if_success (with_reducible show ElTo _ _ _ _ _ _ _ _ _ _)); (first | (k_unfold; (try dsimp only)) | walk1 | (dsimp only; walk1)))
      with_reducible rename News _ _ _ _ => Nz
      with_reducible rename Fr _ _ _ _ => Fz
      exact ElTo.intro _ (by k_extra "my pos") Fz Nz ap (drj_next hJ hz)
    · intro D C h k ys led hk hJ F5 N5 off hns hC hCL hCD
      obtain ⟨hJ1, hI2⟩ := hJ
      subst hJ1
      rw [List.take_of_length_le (by rw [hI1.length]; exact Nat.le_refl _)] at hI2
      k_dflt (refine rra ?hL rfl rfl F5 N5 off hns hC hCL hCD fun h7 k7 hk7 F7 N7 => ?_)
      case hL => rfl
      k_with "subscriptTail List cons Slice ref ref" => (
        (with_reducible rename News _ _ _ _ => Nk)
        (with_reducible rename Fr _ _ _ _ => Fk)
        k_dflt (refine kba_turn (value' := PySem.Expr.Name (PySem.Str.ofString "_") ⟨0, 0, 0, 0⟩) (fun _ => rfl) ?_)
        k_dflt (refine kmk_slice_ints (c := 4 - zs.length) (ms := [297, 1162, 5483, 38].drop zs.length) Fk Nk (News.isList Nk (.head _)) (IsPart.int _ _) IsPart.none ints4 ?im ?ic ?_ (by with_unfolding_all rfl) (by intro _; with_unfolding_all rfl) (Nat.le_of_ble_eq_true rfl))
        (case im => (refine cast (congrArg (fun k => IntsAre _ (List.drop k _)) ?_) (kmk_from ints4 (Int.natCast_nonneg _)); rw [List.length_map]; exact Int.toNat_natCast _))
        (case ic => simp)
        (intro D4 ws4 h4 F4 N4 l4 I4 C4 _)
        (try dsimp only))
      k_with "my comp" => (k_dflt (refine comp_eval (by with_unfolding_all rfl) rfl (by decide) ?_))
      repeat' ((fail_if_success (with_reducible show CompLed _ _ _ _ _ _ _ _ _ _ _ _ _ _ _)); (first | (k_unfold; (try dsimp only)) | walk1 | (dsimp only; walk1)))
      try any_goals (first | exact Str.ofString "" | exact (0 : Addr) | exact Value.none)
      with_reducible rename News _ _ _ _ => Ng
      with_reducible rename Fr _ _ _ _ => Fg
      (with_reducible rename IntsAre _ (_ ++ _) => hI5)
      refine name_nums hI5 hzl fun ns hn1 hn6 hnr hI6 => ?_
      have hn1p : 1 ≤ ns.length := Nat.le_trans (by decide) hn1
      have hn1k : ns.length ≤ 1000 := Nat.le_trans hn6 (by decide)
      obtain ⟨hi5, hi8⟩ := law_nn hn1 hn6
      have Nh := pick3 Ng
      clear Ng
      k_dflt (refine comp_go_l (c := 0) (PaJ _ 1) rfl (by decide) rfl rfl Fg Nh ⟨rfl, rfl, fun _ => Str.empty, fun _ => 0, fun j hj => absurd hj (Nat.not_lt_zero _), fun a b _ hb => absurd hb (Nat.not_lt_zero _)⟩ (fun i k ys led' h => by rw [h.1]; exact .head _) (fun _ _ _ _ h => Nat.le_of_eq h.2.1) (by rw [hI6.length]; omega) ?_ ?_)
      · intro C; unfold Turns; intro I D i v ys fl o led h k k0 E hi hv hk0 hk hJ hFA ho F5 N5 ap
        obtain ⟨oC, m', rfl, hns, hm⟩ := hFA
        have hJ' := hJ.1
        subst hJ'
        simp only [List.cons_append, List.nil_append] at N5
        have hone := hm _ rfl
        obtain ⟨z, t, rfl, hz⟩ := ints_at hI6 hv
        have hzr := hnr i z hz
        refine wpAny_tests_nil ?_
        rw [if_pos rfl]
        k_with "my call" => (
          k_dflt (refine' Ct.use (lawpath_ct w z t _ hzr.1 hzr.2) ?k1 ?k2 ?k3 ?k4 ?k5 ?kK ?kd ?ku ?kt ?_; k_extra "my prem"); (intro r9 news9 h9 tk9 T9 F9 N9 P9; obtain ⟨e9, y9, t9, e8, b1, b2, b3⟩ := P9; subst e9; subst e8; (try dsimp only); (try k_fold)))
        repeat' ((fail_if_success (with_reducible show ElTo _ _ _ _ _ _ _ _ _ _)); (first | (k_unfold; (try dsimp only)) | walk1 | (dsimp only; walk1)))
        try any_goals (first | exact Str.ofString "" | exact (0 : Addr) | exact Value.none)
        with_reducible rename News _ _ _ _ => Nz
        with_reducible rename Fr _ _ _ _ => Fz
        exact ElTo.intro _ (by k_extra "my pos") Fz Nz ap (paj_next hJ (by k_extra "my pos") (by k_extra "my pos") b1 b2 b3)
      · intro PL C5 h5 k5 vs led5 hk5 hJ5 F6 N6 off5 hns5 hC5 hCL5 hCD5
        obtain rfl := hJ5.1
        rw [hI6.length] at hJ5
        obtain ⟨P, TT, PP, hP5⟩ := paj_end hJ5 (by decide) (by omega) hn6
        refine rre F6 N6 off5 hns5 hC5 hCL5 hCD5 fun h8 F8 N8 => ?_
        repeat' ((fail_if_success (with_reducible show wpAny _ _ (storeName _ _ _) _ _ _)); (first | (k_unfold; (try dsimp only)) | walk1 | (dsimp only; walk1)))
        try any_goals (first | exact Str.ofString "" | exact (0 : Addr) | exact Value.none)
        k_dflt (refine store_cell F8 N8 rfl (.tail _ (.tail _ (.head _))) hco ?_ rfl rfl)
        intro h9 co9 F9 N9 d9
        try dsimp only
        have hcc := (off5 _ (.tail _ (.head _))).1
        have h39 := (off5 _ (.tail _ (.tail _ (.head _)))).1
        have N10 := pick_cell N9 hcc.symm (neN (by omega))
        clear N9
        k_with "my name" => ((with_reducible show wpAny _ _ (eval (Expr.Name (Str.ofString "paths") _) _) _ _ _); (with_reducible rename News _ _ _ _ => Nk); k_dflt (first | (refine nameX_C Nk rfl ?m d9 ?_ rfl rfl; (case m => k_extra "my mem")) | (refine lcf_cell Nk rfl ?m d9 ?_ rfl rfl; (case m => k_extra "my mem")) | (refine lcf_free Nk rfl ?m d9 ?_ rfl rfl; (case m => k_extra "my mem"))))
        repeat' ((fail_if_success (with_reducible show CompLed _ _ _ _ _ _ _ _ _ _ _ _ _ _ _)); (first | (k_unfold; (try dsimp only)) | walk1 | (dsimp only; walk1)))
        try any_goals (first | exact Str.ofString "" | exact (0 : Addr) | exact Value.none)
        with_reducible rename News _ _ _ _ => Ng
        with_reducible rename Fr _ _ _ _ => Fg
        refine abs_led Ng fun led0 hL0 Nb => ?_
        clear Ng
        have mC : (_, co9) ∈ led0 := hL0 ▸ List.Mem.head _
        have mPL : (PL, lsObj vs vs.length) ∈ led0 := by rw [hL0]; exact .tail _ (.head _)
        have m390 : (390, tabObj #[]) ∈ led0 := by rw [hL0]; exact .tail _ (.tail _ (.head _))
        clear hL0
        k_dflt (refine comp_go_l (vs := vs) (c := vs.length) (CuJ led0 fun i => [headOf (P i), tailOf (P i)]) rfl (by decide) rfl rfl Fg Nb ⟨rfl, fun _ h => h, fun j hj => absurd hj (Nat.not_lt_zero _)⟩ (fun i k ys led' h => h.2.1 _ mPL) (fun _ _ _ _ h => Nat.le_of_eq h.1) (by rw [PP.len]; omega) ?_ ?_)
        · intro C; unfold Turns; intro I D i v ys fl o led h k k0 E hi hv hk0 hk hJ hFA ho F5 N5 ap
          obtain ⟨oC, m', rfl, hns, hm⟩ := hFA
          simp only [List.cons_append, List.nil_append] at N5
          have hone := hm _ rfl
          have hin : i < ns.length := by rw [PP.len] at hi; exact hi
          obtain rfl : v = .str (P i) (TT i) := Option.some.inj (hv.symm.trans (PP.v i hin))
          refine wpAny_tests_nil ?_
          rw [if_pos rfl]
          k_with "my call" => (
            k_dflt (refine' Ct.use (hat_ct w (P i) (TT i) _ (hP5 i hin)) ?k1 ?k2 ?k3 ?k4 ?k5 ?kK ?kd ?ku ?kt ?_; k_extra "my prem"); (intro r9 news9 h9 tk9 T9 F9 N9 P9; obtain ⟨D9, t1, t2, e9, e8, l9⟩ := P9; subst e9; subst e8; (try dsimp only); (try k_fold)))
          repeat' ((fail_if_success (with_reducible show ElTo _ _ _ _ _ _ _ _ _ _)); (first | (k_unfold; (try dsimp only)) | walk1 | (dsimp only; walk1)))
          try any_goals (first | exact Str.ofString "" | exact (0 : Addr) | exact Value.none)
          with_reducible rename News _ _ _ _ => Nz
          with_reducible rename Fr _ _ _ _ => Fz
          exact ElTo.intro _ (by k_extra "my pos") Fz (news_cut Nz) (apart_cut ap l9) (cuj_next hJ rfl)
        · intro CU C h k ys1 led1 hk1 hJ1 F5 N5 off hns hC hCL hCD
          have K1 := cuj_keys (n := ns.length) (PP.len ▸ hJ1) (fun _ => rfl)
          have s1 := hJ1.2.1
          have len1 := hJ1.1
          clear hJ1
          k_dflt (refine rra ?hL rfl rfl F5 N5 off hns hC hCL hCD fun h7 k7 hk7 F7 N7 => ?_)
          case hL => rfl
          refine abs_led N7 fun ledA hA NA => ?_
          have mCA : (L + 1, co9) ∈ ledA := by rw [hA]; exact .tail _ (s1 _ mC)
          have mPLA : (PL, lsObj vs vs.length) ∈ ledA := by rw [hA]; exact .tail _ (s1 _ mPL)
          have m390A : (390, tabObj #[]) ∈ ledA := by rw [hA]; exact .tail _ (s1 _ m390)
          have mCUA : (CU, lsObj ys1 ys1.length) ∈ ledA := by rw [hA]; exact .head _
          have K1A : Keys ledA ys1 ns.length 2 (fun i => [headOf (P i), tailOf (P i)]) := by rw [hA]; exact K1.mono fun q hq => .tail _ hq
          clear hA N7 N5 K1 s1 mC mPL m390 off hns hC hCL hCD Fg
          repeat' ((fail_if_success (with_reducible show CompLed _ _ _ _ _ _ _ _ _ _ _ _ _ _ _)); (first | (k_unfold; (try dsimp only)) | walk1 | (dsimp only; walk1)))
          try any_goals (first | exact Str.ofString "" | exact (0 : Addr) | exact Value.none)
          with_reducible rename News _ _ _ _ => Ng
          with_reducible rename Fr _ _ _ _ => Fg
          k_dflt (refine comp_go_l (vs := vs) (c := vs.length) (CuJ ledA fun i => [frontOf (P i), endOf (P i)]) rfl (by decide) rfl rfl Fg Ng ⟨rfl, fun _ h => h, fun j hj => absurd hj (Nat.not_lt_zero _)⟩ (fun i k ys led' h => h.2.1 _ mPLA) (fun _ _ _ _ h => Nat.le_of_eq h.1) (by rw [PP.len]; omega) ?_ ?_)
          · intro C; unfold Turns; intro I D i v ys fl o led h k k0 E hi hv hk0 hk hJ hFA ho F5 N5 ap
            obtain ⟨oC, m', rfl, hns, hm⟩ := hFA
            simp only [List.cons_append, List.nil_append] at N5
            have hone := hm _ rfl
            have hin : i < ns.length := by rw [PP.len] at hi; exact hi
            obtain rfl : v = .str (P i) (TT i) := Option.some.inj (hv.symm.trans (PP.v i hin))
            refine wpAny_tests_nil ?_
            rw [if_pos rfl]
            k_with "my call" => (
              k_dflt (refine' Ct.use (fe_ct w (P i) (TT i) _ (hP5 i hin)) ?k1 ?k2 ?k3 ?k4 ?k5 ?kK ?kd ?ku ?kt ?_; k_extra "my prem"); (intro r9 news9 h9 tk9 T9 F9 N9 P9; obtain ⟨D9, t1, t2, e9, e8, l9⟩ := P9; subst e9; subst e8; (try dsimp only); (try k_fold)))
            repeat' ((fail_if_success (with_reducible show ElTo _ _ _ _ _ _ _ _ _ _)); (first | (k_unfold; (try dsimp only)) | walk1 | (dsimp only; walk1)))
            try any_goals (first | exact Str.ofString "" | exact (0 : Addr) | exact Value.none)
            with_reducible rename News _ _ _ _ => Nz
            with_reducible rename Fr _ _ _ _ => Fz
            exact ElTo.intro _ (by k_extra "my pos") Fz (news_cut Nz) (apart_cut ap l9) (cuj_next hJ rfl)
          · intro EN C h k ys2 led2 hk2 hJ2 F5 N5 off hns hC hCL hCD
            have K2 := cuj_keys (n := ns.length) (PP.len ▸ hJ2) (fun _ => rfl)
            have s2 := hJ2.2.1
            clear hJ2
            k_dflt (refine rra ?hL rfl rfl F5 N5 off hns hC hCL hCD fun h7 k7 hk7 F7 N7 => ?_)
            case hL => rfl
            refine abs_led N7 fun ledB hB NB => ?_
            have mC : (L + 1, co9) ∈ ledB := by rw [hB]; exact .tail _ (s2 _ mCA)
            have mPL : (PL, lsObj vs vs.length) ∈ ledB := by rw [hB]; exact .tail _ (s2 _ mPLA)
            have m390 : (390, tabObj #[]) ∈ ledB := by rw [hB]; exact .tail _ (s2 _ m390A)
            have mCU : (CU, lsObj ys1 ys1.length) ∈ ledB := by rw [hB]; exact .tail _ (s2 _ mCUA)
            have mEN : (EN, lsObj ys2 ys2.length) ∈ ledB := by rw [hB]; exact .head _
            have K1 : Keys ledB ys1 ns.length 2 (fun i => [headOf (P i), tailOf (P i)]) := K1A.mono fun q hq => by rw [hB]; exact .tail _ (s2 _ hq)
            have K2 : Keys ledB ys2 ns.length 2 (fun i => [frontOf (P i), endOf (P i)]) := by rw [hB]; exact K2.mono fun q hq => .tail _ hq
            clear hB N7 N5 s2 mCA mPLA m390A mCUA K1A Ng off hns hC hCL hCD Fg F5
            repeat' ((fail_if_success (with_reducible show wpAny _ _ (call (Value.ref 244) _ _) _ _ _)); (first | (k_unfold; (try dsimp only)) | walk1 | (dsimp only; walk1)))
            try any_goals (first | exact Str.ofString "" | exact (0 : Addr) | exact Value.none)
            with_reducible rename News _ _ _ _ => Ng
            with_reducible rename Fr _ _ _ _ => Fg
            k_dflt (refine CtR.home (rk_split PP mPL (split7 w)) K' Fg X' Ng T2 rfl (by ktr_room) (by ktr_units) (by k_extra "my pos") (by k_extra "my pos") ?_)
            intro r20 news20 h20 k20 hk20 F20 N20 P20
            obtain ⟨BS, res1, c1, e1, e2, l1, len1, R1⟩ := P20
            subst e1
            subst e2
            try dsimp only
            repeat' ((fail_if_success (with_reducible show wpAny _ _ (call (Value.ref 244) _ _) _ _ _)); (first | (k_unfold; (try dsimp only)) | walk1 | (dsimp only; walk1)))
            try any_goals (first | exact Str.ofString "" | exact (0 : Addr) | exact Value.none)
            with_reducible rename News _ _ _ _ => Ng
            with_reducible rename Fr _ _ _ _ => Fg
            k_dflt (refine CtR.home (rk_splitext PP (.tail _ mPL) (splitext7 w)) K' Fg X' Ng T2 rfl (by ktr_room) (by ktr_units) (by k_extra "my pos") (by k_extra "my pos") ?_)
            intro r21 news21 h21 k21 hk21 F21 N21 P21
            obtain ⟨BX, res2, c2, e1, e2, l2, len2, R2⟩ := P21
            subst e1
            subst e2
            try dsimp only
            with_reducible rename News _ _ _ _ => Ng
            with_reducible rename Fr _ _ _ _ => Fg
            refine abs_led Ng fun ledC hC NC => ?_
            have mBX : (BX, lsObj res2 c2) ∈ ledC := by rw [hC]; exact .head _
            have mBS : (BS, lsObj res1 c1) ∈ ledC := by rw [hC]; exact .tail _ (.head _)
            have sB : ∀ q ∈ ledB, q ∈ ledC := fun q hq => by rw [hC]; exact .tail _ (.tail _ hq)
            have nd5 := nod5 l0 hcc h39 l1 l2 (e := lsObj res2 c2) mC mPL m390
            have mC' := sB _ mC
            have mPL' := sB _ mPL
            have m390' := sB _ m390
            have mCU' := sB _ mCU
            have mEN' := sB _ mEN
            have K1' := K1.mono sB
            have K2' := K2.mono sB
            have bd1 := fun (i : Nat) (hi : i < ns.length) => rkI_bound (b := false) (kf := (fun i => [headOf (P i), tailOf (P i)])) hi hn6
            have bd2 := fun (i : Nat) (hi : i < ns.length) => rkI_bound (b := false) (kf := (fun i => [frontOf (P i), endOf (P i)])) hi hn6
            clear hC Ng K1 K2 mC mPL m390 mCU mEN sB l1 l2
            repeat' ((fail_if_success (with_reducible show wpAny _ _ (call (Value.ref 388) _ _) _ _ _)); (first | (k_unfold; (try dsimp only)) | walk1 | (dsimp only; walk1)))
            try any_goals (first | exact Str.ofString "" | exact (0 : Addr) | exact Value.none)
            with_reducible rename News _ _ _ _ => Ng
            with_reducible rename Fr _ _ _ _ => Fg
            k_dflt (refine Ct.use (lranks_w w CU _ _ ns.length 2 _ _ mCU' K1' (by omega) hn6).ct K' Fg X' Ng T2 rfl (by ktr_room) (by ktr_units) (by k_extra "my pos") ?_)
            intro r22 news22 h22 k22 hk22 F22 N22 P22
            obtain ⟨LR22, lr22, lc22, e1, e2, ln22, LQ22⟩ := P22
            subst e1
            subst e2
            try dsimp only
            repeat' ((fail_if_success (with_reducible show wpAny _ _ (compareOp CmpOp.NotEq (Value.ref _) (Value.ref _)) _ _ _)); (first | (k_unfold; (try dsimp only)) | walk1 | (dsimp only; walk1)))
            try any_goals (first | exact Str.ofString "" | exact (0 : Addr) | exact Value.none)
            with_reducible rename News _ _ _ _ => Ng
            with_reducible rename Fr _ _ _ _ => Fg
            k_dflt (refine ne_lists (n := ns.length) (f := rkI false 1 ns.length (fun i => [headOf (P i), tailOf (P i)])) (by ktr_units) X' Fg Ng (by k_extra "my mem") (by k_extra "my mem") len1 ln22 R1 LQ22 (fun i hi => rk_bnd (bd1 i hi)) ?_)
            try dsimp only
            repeat' ((fail_if_success (with_reducible show wpAny _ _ (call (Value.ref 388) _ _) _ _ _)); (first | (k_unfold; (try dsimp only)) | walk1 | (dsimp only; walk1)))
            try any_goals (first | exact Str.ofString "" | exact (0 : Addr) | exact Value.none)
            with_reducible rename News _ _ _ _ => Ng
            with_reducible rename Fr _ _ _ _ => Fg
            k_dflt (refine Ct.use (lranks_w w EN _ _ ns.length 2 _ _ (.tail _ mEN') (K2'.mono fun q hq => .tail _ hq) (by omega) hn6).ct K' Fg X' Ng T2 rfl (by ktr_room) (by ktr_units) (by k_extra "my pos") ?_)
            intro r23 news23 h23 k23 hk23 F23 N23 P23
            obtain ⟨LR23, lr23, lc23, e1, e2, ln23, LQ23⟩ := P23
            subst e1
            subst e2
            try dsimp only
            repeat' ((fail_if_success (with_reducible show wpAny _ _ (compareOp CmpOp.NotEq (Value.ref _) (Value.ref _)) _ _ _)); (first | (k_unfold; (try dsimp only)) | walk1 | (dsimp only; walk1)))
            try any_goals (first | exact Str.ofString "" | exact (0 : Addr) | exact Value.none)
            with_reducible rename News _ _ _ _ => Ng
            with_reducible rename Fr _ _ _ _ => Fg
            k_dflt (refine ne_lists (n := ns.length) (f := rkI false 1 ns.length (fun i => [frontOf (P i), endOf (P i)])) (by ktr_units) X' Fg Ng (by k_extra "my mem") (by k_extra "my mem") len2 ln23 R2 LQ23 (fun i hi => rk_bnd (bd2 i hi)) ?_)
            try dsimp only
            have bdx := fun (i : Nat) (hi : i < ns.length) => rkI_bound (b := false) (kf := fun i => [headOf (P i)]) hi hn6
            repeat' ((fail_if_success (with_reducible show wpAny _ _ (call (Value.ref 244) _ _) _ _ _)); (first | (k_unfold; (try dsimp only)) | walk1 | (dsimp only; walk1)))
            try any_goals (first | exact Str.ofString "" | exact (0 : Addr) | exact Value.none)
            with_reducible rename News _ _ _ _ => Ng
            with_reducible rename Fr _ _ _ _ => Fg
            k_dflt (refine CtR.home (rk_one (g := headOf) (kk := 4) (by decide) PP (by k_extra "my mem") (fun x t news hx => dirname_ct w x t news hx)) K' Fg X' Ng T2 rfl (by ktr_room) (by ktr_units) (by k_extra "my pos") (by k_extra "my pos") ?_)
            intro r24 news24 h24 k24 hk24 F24 N24 P24
            obtain ⟨RO24, ro24, rc24, e1, e2, rl24, rn24, RQ24⟩ := P24
            subst e1
            subst e2
            try dsimp only
            repeat' ((fail_if_success (with_reducible show CompLed _ _ _ _ _ _ _ _ _ _ _ _ _ _ _)); (first | (k_unfold; (try dsimp only)) | walk1 | (dsimp only; walk1)))
            try any_goals (first | exact Str.ofString "" | exact (0 : Addr) | exact Value.none)
            with_reducible rename News _ _ _ _ => Ng
            with_reducible rename Fr _ _ _ _ => Fg
            k_dflt (refine comp_go_l (vs := ys1) (c := _) (CpJ _ fun i => headOf (P i)) rfl (by decide) rfl rfl Fg Ng ⟨rfl, rfl, fun j hj => absurd hj (Nat.not_lt_zero _)⟩ (fun i k ys led' h => by rw [h.1]; k_extra "my mem") (fun _ _ _ _ h => Nat.le_of_eq h.2.1) (by rw [K1'.len]; omega) ?_ ?_)
            · intro C; unfold Turns; intro I D i v ys fl o led h k k0 E hi hv hk0 hk hJ hFA ho F5 N5 ap
              obtain ⟨oC, m', rfl, hns, hm⟩ := hFA
              have hJ' := hJ.1.symm
              subst hJ'
              simp only [List.cons_append, List.nil_append] at N5
              have hone := hm _ rfl
              have hin : i < ns.length := by rw [K1'.len] at hi; exact hi
              obtain ⟨v', hv', hkey⟩ := K1'.at_ i hin
              obtain rfl : v' = v := Option.some.inj (hv'.symm.trans hv)
              obtain ⟨DD, ta, tb, rfl, hD⟩ := key_two hkey
              refine wpAny_tests_nil ?_
              rw [if_pos rfl]
              k_with "subscriptTail Name Constant ref int" => ((with_reducible rename News _ _ _ _ => Nk); k_dflt (refine item_pair (k := 0) Nk (by k_extra "my mem") rfl (by simp) ?_ (by with_unfolding_all rfl) (by intro _; with_unfolding_all rfl)))
              repeat' ((fail_if_success (with_reducible show ElTo _ _ _ _ _ _ _ _ _ _)); (first | (k_unfold; (try dsimp only)) | walk1 | (dsimp only; walk1)))
              try any_goals (first | exact Str.ofString "" | exact (0 : Addr) | exact Value.none)
              with_reducible rename News _ _ _ _ => Nz
              with_reducible rename Fr _ _ _ _ => Fz
              exact ElTo.intro _ (by k_extra "my pos") Fz Nz ap (cpj_next hJ)
            · intro CP24 C h k CP24ys led hk hJ F5 N5 off hns hC hCL hCD
              have hJ' := hJ.1.symm
              subst hJ'
              have hJ24 := hJ
              rw [K1'.len] at hJ24
              refine rre F5 N5 off hns hC hCL hCD fun h24 F24 N24 => ?_
              try dsimp only
              repeat' ((fail_if_success (with_reducible show wpAny _ _ (call (Value.ref 388) _ _) _ _ _)); (first | (k_unfold; (try dsimp only)) | walk1 | (dsimp only; walk1)))
              try any_goals (first | exact Str.ofString "" | exact (0 : Addr) | exact Value.none)
              with_reducible rename News _ _ _ _ => Ng
              with_reducible rename Fr _ _ _ _ => Fg
              k_dflt (refine Ct.use (lranks_w w CP24 _ _ ns.length 1 _ _ (.head _) (cpj_keys hJ24) (by omega) hn6).ct K' Fg X' Ng T2 rfl (by ktr_room) (by ktr_units) (by k_extra "my pos") ?_)
              intro r25 news25 h25 k25 hk25 F25 N25 P25
              obtain ⟨LR25, lr25, lc25, e1, e2, ln25, LQ25⟩ := P25
              subst e1
              subst e2
              try dsimp only
              repeat' ((fail_if_success (with_reducible show wpAny _ _ (compareOp CmpOp.NotEq (Value.ref _) (Value.ref _)) _ _ _)); (first | (k_unfold; (try dsimp only)) | walk1 | (dsimp only; walk1)))
              try any_goals (first | exact Str.ofString "" | exact (0 : Addr) | exact Value.none)
              with_reducible rename News _ _ _ _ => Ng
              with_reducible rename Fr _ _ _ _ => Fg
              k_dflt (refine ne_lists (n := ns.length) (f := rkI false 1 ns.length (fun i => [headOf (P i)])) (by ktr_units) X' Fg Ng (by k_extra "my mem") (by k_extra "my mem") rn24 ln25 RQ24 LQ25 (fun i hi => rk_bnd (bdx i hi)) ?_)
              try dsimp only
              have bdx := fun (i : Nat) (hi : i < ns.length) => rkI_bound (b := false) (kf := fun i => [tailOf (P i)]) hi hn6
              repeat' ((fail_if_success (with_reducible show wpAny _ _ (call (Value.ref 244) _ _) _ _ _)); (first | (k_unfold; (try dsimp only)) | walk1 | (dsimp only; walk1)))
              try any_goals (first | exact Str.ofString "" | exact (0 : Addr) | exact Value.none)
              with_reducible rename News _ _ _ _ => Ng
              with_reducible rename Fr _ _ _ _ => Fg
              k_dflt (refine CtR.home (rk_one (g := tailOf) (kk := 4) (by decide) PP (by k_extra "my mem") (fun x t news hx => basename_ct w x t news hx)) K' Fg X' Ng T2 rfl (by ktr_room) (by ktr_units) (by k_extra "my pos") (by k_extra "my pos") ?_)
              intro r26 news26 h26 k26 hk26 F26 N26 P26
              obtain ⟨RO26, ro26, rc26, e1, e2, rl26, rn26, RQ26⟩ := P26
              subst e1
              subst e2
              try dsimp only
              repeat' ((fail_if_success (with_reducible show CompLed _ _ _ _ _ _ _ _ _ _ _ _ _ _ _)); (first | (k_unfold; (try dsimp only)) | walk1 | (dsimp only; walk1)))
              try any_goals (first | exact Str.ofString "" | exact (0 : Addr) | exact Value.none)
              with_reducible rename News _ _ _ _ => Ng
              with_reducible rename Fr _ _ _ _ => Fg
              k_dflt (refine comp_go_l (vs := ys1) (c := _) (CpJ _ fun i => tailOf (P i)) rfl (by decide) rfl rfl Fg Ng ⟨rfl, rfl, fun j hj => absurd hj (Nat.not_lt_zero _)⟩ (fun i k ys led' h => by rw [h.1]; k_extra "my mem") (fun _ _ _ _ h => Nat.le_of_eq h.2.1) (by rw [K1'.len]; omega) ?_ ?_)
              · intro C; unfold Turns; intro I D i v ys fl o led h k k0 E hi hv hk0 hk hJ hFA ho F5 N5 ap
                obtain ⟨oC, m', rfl, hns, hm⟩ := hFA
                have hJ' := hJ.1.symm
                subst hJ'
                simp only [List.cons_append, List.nil_append] at N5
                have hone := hm _ rfl
                have hin : i < ns.length := by rw [K1'.len] at hi; exact hi
                obtain ⟨v', hv', hkey⟩ := K1'.at_ i hin
                obtain rfl : v' = v := Option.some.inj (hv'.symm.trans hv)
                obtain ⟨DD, ta, tb, rfl, hD⟩ := key_two hkey
                refine wpAny_tests_nil ?_
                rw [if_pos rfl]
                k_with "subscriptTail Name Constant ref int" => ((with_reducible rename News _ _ _ _ => Nk); k_dflt (refine item_pair (k := 1) Nk (by k_extra "my mem") rfl (by simp) ?_ (by with_unfolding_all rfl) (by intro _; with_unfolding_all rfl)))
                repeat' ((fail_if_success (with_reducible show ElTo _ _ _ _ _ _ _ _ _ _)); (first | (k_unfold; (try dsimp only)) | walk1 | (dsimp only; walk1)))
                try any_goals (first | exact Str.ofString "" | exact (0 : Addr) | exact Value.none)
                with_reducible rename News _ _ _ _ => Nz
                with_reducible rename Fr _ _ _ _ => Fz
                exact ElTo.intro _ (by k_extra "my pos") Fz Nz ap (cpj_next hJ)
              · intro CP26 C h k CP26ys led hk hJ F5 N5 off hns hC hCL hCD
                have hJ' := hJ.1.symm
                subst hJ'
                have hJ26 := hJ
                rw [K1'.len] at hJ26
                refine rre F5 N5 off hns hC hCL hCD fun h26 F26 N26 => ?_
                try dsimp only
                repeat' ((fail_if_success (with_reducible show wpAny _ _ (call (Value.ref 388) _ _) _ _ _)); (first | (k_unfold; (try dsimp only)) | walk1 | (dsimp only; walk1)))
                try any_goals (first | exact Str.ofString "" | exact (0 : Addr) | exact Value.none)
                with_reducible rename News _ _ _ _ => Ng
                with_reducible rename Fr _ _ _ _ => Fg
                k_dflt (refine Ct.use (lranks_w w CP26 _ _ ns.length 1 _ _ (.head _) (cpj_keys hJ26) (by omega) hn6).ct K' Fg X' Ng T2 rfl (by ktr_room) (by ktr_units) (by k_extra "my pos") ?_)
                intro r27 news27 h27 k27 hk27 F27 N27 P27
                obtain ⟨LR27, lr27, lc27, e1, e2, ln27, LQ27⟩ := P27
                subst e1
                subst e2
                try dsimp only
                repeat' ((fail_if_success (with_reducible show wpAny _ _ (compareOp CmpOp.NotEq (Value.ref _) (Value.ref _)) _ _ _)); (first | (k_unfold; (try dsimp only)) | walk1 | (dsimp only; walk1)))
                try any_goals (first | exact Str.ofString "" | exact (0 : Addr) | exact Value.none)
                with_reducible rename News _ _ _ _ => Ng
                with_reducible rename Fr _ _ _ _ => Fg
                k_dflt (refine ne_lists (n := ns.length) (f := rkI false 1 ns.length (fun i => [tailOf (P i)])) (by ktr_units) X' Fg Ng (by k_extra "my mem") (by k_extra "my mem") rn26 ln27 RQ26 LQ27 (fun i hi => rk_bnd (bdx i hi)) ?_)
                try dsimp only
                repeat' ((fail_if_success (with_reducible show wpAny _ _ (call (Value.ref 393) _ _) _ _ _)); (first | (k_unfold; (try dsimp only)) | walk1 | (dsimp only; walk1)))
                try any_goals (first | exact Str.ofString "" | exact (0 : Addr) | exact Value.none)
                with_reducible rename News _ _ _ _ => Ng
                with_reducible rename Fr _ _ _ _ => Fg
                have NQ30 := news5 (a := (390, tabObj #[])) (b := (L + 1, co9)) (c := (PL, lsObj vs vs.length)) (d := (BS, lsObj res1 c1)) (e := (BX, lsObj res2 c2)) Ng (by k_extra "my mem") (by k_extra "my mem") (by k_extra "my mem") (by k_extra "my mem") (by k_extra "my mem")
                k_dflt (refine CtR.home (bh_ct w 338 (keep338 w) headOf tailOf (split7 w) PL vs.length ns.length _ vs P TT #[] _ (.tail _ (.head _)) PP tab_start nd5) K' Fg X' NQ30 T2 rfl (by ktr_room) (by ktr_units) (by k_extra "my pos") (by k_extra "my pos") ?_)
                intro r30 news30 h30 k30 hk30 F30 N30 P30
                obtain ⟨HD30, hs30, hc30, ps30, own30, e1, e2, nd30, tb30, hl30, HQ30⟩ := P30
                subst e1
                subst e2
                try dsimp only
                refine abs_led N30 fun led30 hE30 NE30 => ?_
                have mC30 : (L + 1, co9) ∈ led30 := by rw [hE30]; simp
                have mPL30 : (PL, lsObj vs vs.length) ∈ led30 := by rw [hE30]; simp
                have mBS30 : (BS, lsObj res1 c1) ∈ led30 := by rw [hE30]; simp
                have mBX30 : (BX, lsObj res2 c2) ∈ led30 := by rw [hE30]; simp
                have m3930 : (390, tabObj ps30) ∈ led30 := by rw [hE30]; simp
                have mHD30 : (HD30, lsObj hs30 hc30) ∈ led30 := by rw [hE30]; simp
                clear N30
                repeat' ((fail_if_success (with_reducible show wpAny _ _ (compareOp CmpOp.NotEq (Value.ref _) (Value.ref _)) _ _ _)); (first | (k_unfold; (try dsimp only)) | walk1 | (dsimp only; walk1)))
                try any_goals (first | exact Str.ofString "" | exact (0 : Addr) | exact Value.none)
                with_reducible rename News _ _ _ _ => Ng
                with_reducible rename Fr _ _ _ _ => Fg
                k_dflt (refine ne_lists (n := ns.length) (f := rkI false 1 ns.length (fun i => [headOf (P i), tailOf (P i)])) (by ktr_units) X' Fg Ng (by k_extra "my mem") (by k_extra "my mem") hl30 len1 HQ30 R1 (fun i hi => rk_bnd (bd1 i hi)) ?_)
                try dsimp only
                repeat' ((fail_if_success (with_reducible show wpAny _ _ (call (Value.ref 393) _ _) _ _ _)); (first | (k_unfold; (try dsimp only)) | walk1 | (dsimp only; walk1)))
                try any_goals (first | exact Str.ofString "" | exact (0 : Addr) | exact Value.none)
                with_reducible rename News _ _ _ _ => Ng
                with_reducible rename Fr _ _ _ _ => Fg
                have NQ31 := news_sub Ng fun q hq => by
                  rw [hE30]
                  exact List.Mem.tail _ hq
                clear mC' mPL' m390' mCU' mEN'
                k_dflt (refine CtR.home (bh_ct w 345 (keep345 w) frontOf endOf (splitext7 w) PL vs.length ns.length _ vs P TT ps30 _ (List.mem_append_right _ (.tail _ (.head _))) PP tb30 nd30.tail) K' Fg X' NQ31 T2 rfl (by ktr_room) (by ktr_units) (by k_extra "my pos") (by k_extra "my pos") ?_)
                intro r31 news31 h31 k31 hk31 F31 N31 P31
                obtain ⟨HD31, hs31, hc31, ps31, own31, e1, e2, nd31, tb31, hl31, HQ31⟩ := P31
                subst e1
                subst e2
                try dsimp only
                refine abs_led N31 fun led31 hE31 NE31 => ?_
                have mC31 : (L + 1, co9) ∈ led31 := by rw [hE31]; simp
                have mPL31 : (PL, lsObj vs vs.length) ∈ led31 := by rw [hE31]; simp
                have mBS31 : (BS, lsObj res1 c1) ∈ led31 := by rw [hE31]; simp
                have mBX31 : (BX, lsObj res2 c2) ∈ led31 := by rw [hE31]; simp
                have m3931 : (390, tabObj ps31) ∈ led31 := by rw [hE31]; simp
                have mHD31 : (HD31, lsObj hs31 hc31) ∈ led31 := by rw [hE31]; simp
                clear N31
                repeat' ((fail_if_success (with_reducible show wpAny _ _ (compareOp CmpOp.NotEq (Value.ref _) (Value.ref _)) _ _ _)); (first | (k_unfold; (try dsimp only)) | walk1 | (dsimp only; walk1)))
                try any_goals (first | exact Str.ofString "" | exact (0 : Addr) | exact Value.none)
                with_reducible rename News _ _ _ _ => Ng
                with_reducible rename Fr _ _ _ _ => Fg
                k_dflt (refine ne_lists (n := ns.length) (f := rkI false 1 ns.length (fun i => [frontOf (P i), endOf (P i)])) (by ktr_units) X' Fg Ng (by k_extra "my mem") (by k_extra "my mem") hl31 len2 HQ31 R2 (fun i hi => rk_bnd (bd2 i hi)) ?_)
                try dsimp only
                repeat' ((fail_if_success (with_reducible show CompLed _ _ _ _ _ _ _ _ _ _ _ _ _ _ _)); (first | (k_unfold; (try dsimp only)) | walk1 | (dsimp only; walk1)))
                try any_goals (first | exact Str.ofString "" | exact (0 : Addr) | exact Value.none)
                with_reducible rename News _ _ _ _ => Ng
                with_reducible rename Fr _ _ _ _ => Fg
                k_dflt (refine comp_go_l (vs := res1) (c := _) (FlJ _ fun i => 2 * ((ns.length : Int) + 1) - rkI false 1 ns.length (fun i => [headOf (P i), tailOf (P i)]) i) rfl (by decide) rfl rfl Fg Ng ⟨rfl, rfl, fun j hj => absurd hj (Nat.not_lt_zero _)⟩ (fun i k ys led' h => by rw [h.1]; k_extra "my mem") (fun _ _ _ _ h => Nat.le_of_eq h.2.1) (by rw [len1]; omega) ?_ ?_)
                · intro C; unfold Turns; intro I D i v ys fl o led h k k0 E hi hv hk0 hk hJ hFA ho F5 N5 ap
                  obtain ⟨oC, m', rfl, hns, hm⟩ := hFA
                  have hJ' := hJ.1.symm
                  subst hJ'
                  simp only [List.cons_append, List.nil_append] at N5
                  have hone := hm _ rfl
                  have hin : i < ns.length := by rw [len1] at hi; exact hi
                  obtain ⟨tv, htv, hvv⟩ := R1 i hin
                  obtain rfl : v = .float _ tv := Option.some.inj (hv.symm.trans hvv)
                  refine wpAny_tests_nil ?_
                  rw [if_pos rfl]
                  k_with "call builtin:len" => ((with_reducible rename News _ _ _ _ => Nk); k_dflt (refine len_ledN (n := ns.length) Nk (by k_extra "my mem") PP.len (by omega) ?_); (try dsimp only))
                  k_with "binaryOp Sub int float" => (k_dflt (refine isub_half (by omega) (by omega) (bd1 i hin).1 (bd1 i hin).2 ?_); (try dsimp only))
                  repeat' ((fail_if_success (with_reducible show ElTo _ _ _ _ _ _ _ _ _ _)); (first | (k_unfold; (try dsimp only)) | walk1 | (dsimp only; walk1)))
                  try any_goals (first | exact Str.ofString "" | exact (0 : Addr) | exact Value.none)
                  with_reducible rename News _ _ _ _ => Nz
                  with_reducible rename Fr _ _ _ _ => Fz
                  exact ElTo.intro _ (by k_extra "my pos") Fz Nz ap (flj_next hJ rfl (by k_extra "my pos"))
                · intro AB C h k ABys led hk hJ F5 N5 off hns hC hCL hCD
                  have hJ' := hJ.1.symm
                  subst hJ'
                  have hJ40 := hJ
                  rw [len1] at hJ40
                  obtain ⟨_, lab, QAB⟩ := hJ40
                  k_dflt (refine rra ?hL rfl rfl F5 N5 off hns hC hCL hCD fun h7 k7 hk7 F7 N7 => ?_)
                  case hL => rfl
                  repeat' ((fail_if_success (with_reducible show wpAny _ _ (call (Value.ref 244) _ _) _ _ _)); (first | (k_unfold; (try dsimp only)) | walk1 | (dsimp only; walk1)))
                  try any_goals (first | exact Str.ofString "" | exact (0 : Addr) | exact Value.none)
                  with_reducible rename News _ _ _ _ => Ng
                  with_reducible rename Fr _ _ _ _ => Fg
                  k_dflt (refine CtR.home (rk_revd PP (by k_extra "my mem") (split7 w)) K' Fg X' Ng T2 rfl (by ktr_room) (by ktr_units) (by k_extra "my pos") (by k_extra "my pos") ?_)
                  intro r41 news41 h41 k41 hk41 F41 N41 P41
                  obtain ⟨RO41, ro41, rc41, e1, e2, rl41, rn41, RQ41⟩ := P41
                  subst e1
                  subst e2
                  try dsimp only
                  have bdr := fun (i : Nat) (hi : i < ns.length) => rkI_bound (b := true) (kf := (fun i => [headOf (P i), tailOf (P i)])) hi hn6
                  have QAB' : ∀ i, i < ns.length → FlAt ABys i (hf (rkI true 1 ns.length (fun i => [headOf (P i), tailOf (P i)]) i)) := fun i hi => by rw [rk_rev]; exact QAB i hi
                  repeat' ((fail_if_success (with_reducible show wpAny _ _ (compareOp CmpOp.Eq (Value.ref _) (Value.ref _)) _ _ _)); (first | (k_unfold; (try dsimp only)) | walk1 | (dsimp only; walk1)))
                  try any_goals (first | exact Str.ofString "" | exact (0 : Addr) | exact Value.none)
                  with_reducible rename News _ _ _ _ => Ng
                  with_reducible rename Fr _ _ _ _ => Fg
                  k_dflt (refine eq_lists (n := ns.length) (f := rkI true 1 ns.length (fun i => [headOf (P i), tailOf (P i)])) (by ktr_units) X' Fg Ng (by k_extra "my mem") (by k_extra "my mem") rn41 lab RQ41 QAB' (fun i hi => rk_bnd (bdr i hi)) ?_)
                  try dsimp only
                  repeat' ((fail_if_success (with_reducible show wpAny _ _ (call (Value.ref 244) _ _) _ _ _)); (first | (k_unfold; (try dsimp only)) | walk1 | (dsimp only; walk1)))
                  try any_goals (first | exact Str.ofString "" | exact (0 : Addr) | exact Value.none)
                  with_reducible rename News _ _ _ _ => Ng
                  with_reducible rename Fr _ _ _ _ => Fg
                  k_dflt (refine CtR.home (rk_from0 PP (by k_extra "my mem") (splitext7 w) _) K' Fg X' Ng T2 rfl (by ktr_room) (by ktr_units) (by k_extra "my pos") (by k_extra "my pos") ?_)
                  intro r42 news42 h42 k42 hk42 F42 N42 P42
                  obtain ⟨RO42, ro42, rc42, e1, e2, rl42, rn42, RQ42⟩ := P42
                  subst e1
                  subst e2
                  try dsimp only
                  repeat' ((fail_if_success (with_reducible show CompLed _ _ _ _ _ _ _ _ _ _ _ _ _ _ _)); (first | (k_unfold; (try dsimp only)) | walk1 | (dsimp only; walk1)))
                  try any_goals (first | exact Str.ofString "" | exact (0 : Addr) | exact Value.none)
                  with_reducible rename News _ _ _ _ => Ng
                  with_reducible rename Fr _ _ _ _ => Fg
                  k_dflt (refine comp_go_l (vs := res2) (c := _) (FlJ _ fun i => rkI false 1 ns.length (fun i => [frontOf (P i), endOf (P i)]) i - 2) rfl (by decide) rfl rfl Fg Ng ⟨rfl, rfl, fun j hj => absurd hj (Nat.not_lt_zero _)⟩ (fun i k ys led' h => by rw [h.1]; k_extra "my mem") (fun _ _ _ _ h => Nat.le_of_eq h.2.1) (by rw [len2]; omega) ?_ ?_)
                  · intro C; unfold Turns; intro I D i v ys fl o led h k k0 E hi hv hk0 hk hJ hFA ho F5 N5 ap
                    obtain ⟨oC, m', rfl, hns, hm⟩ := hFA
                    have hJ' := hJ.1.symm
                    subst hJ'
                    simp only [List.cons_append, List.nil_append] at N5
                    have hone := hm _ rfl
                    have hin : i < ns.length := by rw [len2] at hi; exact hi
                    obtain ⟨tv, htv, hvv⟩ := R2 i hin
                    obtain rfl : v = .float _ tv := Option.some.inj (hv.symm.trans hvv)
                    refine wpAny_tests_nil ?_
                    rw [if_pos rfl]
                    k_with "binaryOp Sub float int" => (k_dflt (refine sub1_half (bd2 i hin).1 (bd2 i hin).2 ?_); (try dsimp only))
                    repeat' ((fail_if_success (with_reducible show ElTo _ _ _ _ _ _ _ _ _ _)); (first | (k_unfold; (try dsimp only)) | walk1 | (dsimp only; walk1)))
                    try any_goals (first | exact Str.ofString "" | exact (0 : Addr) | exact Value.none)
                    with_reducible rename News _ _ _ _ => Nz
                    with_reducible rename Fr _ _ _ _ => Fz
                    exact ElTo.intro _ (by k_extra "my pos") Fz Nz ap (flj_next hJ rfl (by k_extra "my pos"))
                  · intro ZE C h k ZEys led hk hJ F5 N5 off hns hC hCL hCD
                    have hJ' := hJ.1.symm
                    subst hJ'
                    have hJ43 := hJ
                    rw [len2] at hJ43
                    obtain ⟨_, lze, QZE⟩ := hJ43
                    refine rre F5 N5 off hns hC hCL hCD fun h43 F43 N43 => ?_
                    try dsimp only
                    have bd0 : ∀ i, i < ns.length → 0 ≤ rkI false 0 ns.length (fun i => [frontOf (P i), endOf (P i)]) i ∧ rkI false 0 ns.length (fun i => [frontOf (P i), endOf (P i)]) i < 14 := fun i hi => by rw [rk_zero]; exact rk_bnd2 (bd2 i hi)
                    have QZE' : ∀ i, i < ns.length → FlAt ZEys i (hf (rkI false 0 ns.length (fun i => [frontOf (P i), endOf (P i)]) i)) := fun i hi => by rw [rk_zero]; exact QZE i hi
                    repeat' ((fail_if_success (with_reducible show wpAny _ _ (compareOp CmpOp.Eq (Value.ref _) (Value.ref _)) _ _ _)); (first | (k_unfold; (try dsimp only)) | walk1 | (dsimp only; walk1)))
                    try any_goals (first | exact Str.ofString "" | exact (0 : Addr) | exact Value.none)
                    with_reducible rename News _ _ _ _ => Ng
                    with_reducible rename Fr _ _ _ _ => Fg
                    k_dflt (refine eq_lists (n := ns.length) (f := rkI false 0 ns.length (fun i => [frontOf (P i), endOf (P i)])) (by ktr_units) X' Fg Ng (by k_extra "my mem") (by k_extra "my mem") rn42 lze RQ42 QZE' (fun i hi => bd0 i hi) ?_)
                    try dsimp only
                    repeat' ((fail_if_success (with_reducible show LawEnd _ _ _ _ _)); (first | (k_unfold; (try dsimp only)) | walk1 | (dsimp only; walk1)))
                    try any_goals (first | exact Str.ofString "" | exact (0 : Addr) | exact Value.none)
                    with_reducible rename News _ _ _ _ => Ng
                    with_reducible rename Fr _ _ _ _ => Fg
                    exact ⟨rfl, _, _, _, ps31, rfl, Fg, news_sub Ng (fun q hq => by rcases List.mem_singleton.mp hq with rfl; k_extra "my mem")⟩⟩
end
section
open PySem PySem.W PyProof.Rows
theorem law_holds : PySem.Challenge.rw_ij0120_01.Holds := law_of ⟨both0, both1⟩
end
end Mine
theorem PySem.Challenge.cw_ij0120_01_holds : PySem.Challenge.rw_ij0120_01.Holds :=
  Mine.law_holds
