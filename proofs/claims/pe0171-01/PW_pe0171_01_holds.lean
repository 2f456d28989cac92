import PyProof.Rows.All
import Wide.All
import OpenK.AllK
import Wide.FinOn
import PySem.Challenge.RW_pe0171_01
set_option Elab.async false
set_option rowWalk.seconds 0
set_option compiler.extract_closed false
open PySem PySem.W PyProof.Rows

section
open PySem PySem.W PyProof.Rows
set_option Elab.async false
set_option maxRecDepth 100000
set_option maxHeartbeats 8000000
namespace Mine
/-- the statements that the head keeps: the class, the three constants, the defs without defaults -/
noncomputable def vw : Program := PySem.W.view PySem.Challenge.pw_pe0171_01 [4, 6, 7, 8, 9, 10, 12, 13, 14, 15, 16, 17, 18, 19, 20, 21]
/-- the top's run from the booted heap, in the library's quick words -/
noncomputable abbrev runQ (p : Program) (N : Nat) (w : World) (os : OsState) : Option Shared :=
  PySem.W.Fast.tw14082659384304107361 PySem.W.Fast.tw14364793385576792824 p w (boot_heap w.params).objs.size ((boot_heap w.params).nsMap mainGlobals "__annotations__") N ⟨boot_heap w.params, Array.mk [], boot_drawn, boot_toks, os⟩ (topStub p)
theorem run_is (p : Program) (N : Nat) (w : World) (os : OsState) :
    topRun treeTable p w (boot_heap w.params).objs.size ((boot_heap w.params).nsMap mainGlobals "__annotations__") N ⟨boot_heap w.params, Array.mk [], boot_drawn, boot_toks, os⟩ (topStub p) = runQ p N w os := by
  unfold runQ
  rw [PySem.W.Fast.te14082659384304107361, PySem.W.Fast.te14364793385576792824]
noncomputable abbrev topLaid (p : Program) (w : World) (s : Shared) : Bool :=
  staticsOk (importedModules p.main.body) (boot_heap w.params) s.heap && namesBound p s.heap && gensDone s && laidKept (boot_heap w.params) s.heap
/-- the head from the booted heap: the kernel runs the top alone, and each look by itself -/
theorem left_boot {p q : Program} {loose : List Str} {Xt : Shared → Bool} {α : Type} {Yf : Shared → α} {Ya : World → α} {N : Nat} {g0 : Bool}
    (b : ∀ w : World, (fencedOpening treeTable p w N).map (fun s => (s.heap, s.gens, s.drawn, s.toks)) = some (boot_heap w.params, Array.mk [], boot_drawn, boot_toks))
    (h0 : ∀ w : World, ((boot_heap w.params).isNs mainGlobals && (Array.mk ([] : List GenState)).size == 0) = true)
    (hA : ∀ w : World, (fun os => (runQ p N w os).map fun s => (topLaid p w s, PySem.W.Fast.tw4187177175401517315 q loose (importedModules p.main.body) Xt g0 s, Yf s)) = fun _ => some (true, openGood q loose, Ya w)) :
    LeftO p q loose Xt Yf Ya N g0 := fun w => by
  obtain ⟨⟨h', gs, d, k, os⟩, e, e'⟩ := Option.map_eq_some_iff.mp (b w)
  obtain ⟨rfl, rfl, rfl, rfl⟩ : h' = boot_heap w.params ∧ gs = Array.mk [] ∧ d = boot_drawn ∧ k = boot_toks := by simpa using e'
  obtain ⟨s, hs, l⟩ := Option.map_eq_some_iff.mp (congrFun (hA w) os)
  obtain ⟨l1, l⟩ := Prod.mk.inj l
  obtain ⟨l2, l3⟩ := Prod.mk.inj l
  rw [← PySem.W.Fast.te4187177175401517315] at l2
  have t : topFrom treeTable p w N ⟨boot_heap w.params, Array.mk [], boot_drawn, boot_toks, os⟩ = some s := by
    unfold topFrom
    dsimp only
    rw [h0 w, run_is, hs]
    show (match topLaid p w s with | true => some s | false => none) = _
    rw [l1]
  unfold openEnds
  rw [e]
  show (topFrom treeTable p w N _).map _ = _
  rw [t]
  exact congrArg some (Prod.ext l2 l3)
theorem law_said : OpenLaw.wellSaid PySem.Challenge.rw_pe0171_01 = true := (congrFun PySem.W.Fast.te9446332074065402090 _).trans (by
  unfold PySem.W.Fast.tw9446332074065402090 PySem.W.Fast.tw17960256430627541270 PySem.W.Fast.tw2436336058641802641 PySem.W.Fast.tw12908688711261696721
  (repeat' (with_reducible refine look_both ?_ ?_)) <;> decide +kernel)
noncomputable abbrev seenX (s : Shared) : Bool := xlAt vw [] s && recOk (RowW.records (OpenRow.toRowW (OpenLaw.row PySem.Challenge.rw_pe0171_01))) s
local macro_rules | `(tactic| o_law) => `(tactic| refine holds_law law_said fun said => ?_)
local macro_rules | `(tactic| o_head $H) => `(tactic| (
  refine holds_open (q := vw) (loose := ["bisect_right", "bisect_left"]) (Xt := seenX) (XP := XL vw [])
    (Yf := Hook.obs $H) (Ya := Hook.val $H) (YP := Hook.says $H) (N := 1832) ?hl (Hook.of $H) (Hook.keeps $H)
    (fun s e => xl_of s (Bool.and_eq_true_iff.mp e).1) XL.keeps (by rfl) (by rfl) (by rfl) (fun s e => recFacts_of (Bool.and_eq_true_iff.mp e).2)
    (by rfl) (by first | assumption | decide +kernel) (by decide +kernel) ⟨rfl, rfl, rfl, rfl, rfl, by decide +kernel⟩ ?hw ?hc
  (case hl => exact left_boot (boot_open (by kernel_rfl) (by decide) (by intro s; kernel_rfl)) (by intro w; kernel_rfl) (by intro w; kernel_rfl))))
open_top hd for PySem.Challenge.rw_pe0171_01
end Mine
end

section
set_option autoImplicit false
namespace Mine
section
variable (s : Nat → Nat → Nat)

/-- the least price of turning a into b: a sign put in or taken out costs 2, written over s -/
noncomputable def D : List Nat → List Nat → Nat
  | [], b => 2 * b.length
  | x :: a, [] => 2 * (a.length + 1)
  | x :: a, y :: b => min (D a b + s x y) (min (D a (y :: b) + 2) (D (x :: a) b + 2))
termination_by a b => a.length + b.length

theorem D_nil_left (b : List Nat) : D s [] b = 2 * b.length := by unfold D; rfl
theorem D_nil_right (a : List Nat) : D s a [] = 2 * a.length := by
  cases a with
  | nil => unfold D; rfl
  | cons x a => unfold D; simp
theorem D_cons (x y : Nat) (a b : List Nat) : D s (x :: a) (y :: b) = min (D s a b + s x y) (min (D s a (y :: b) + 2) (D s (x :: a) b + 2)) := by
  rw [D]

/-- an alignment and its price -/
inductive Al : List Nat → List Nat → Nat → Prop
  | nil : Al [] [] 0
  | sub (x y : Nat) {a b : List Nat} {n : Nat} : Al a b n → Al (x :: a) (y :: b) (n + s x y)
  | del (x : Nat) {a b : List Nat} {n : Nat} : Al a b n → Al (x :: a) b (n + 2)
  | ins (y : Nat) {a b : List Nat} {n : Nat} : Al a b n → Al a (y :: b) (n + 2)

theorem Al.snocDel (x : Nat) {a b : List Nat} {n : Nat} (h : Al s a b n) : Al s (a ++ [x]) b (n + 2) := by
  induction h with
  | nil => exact .del x .nil
  | sub x' y _ ih => rw [show ∀ n m : Nat, n + m + 2 = n + 2 + m from by lia]; exact .sub x' y ih
  | del x' _ ih => exact .del x' ih
  | ins y _ ih => exact .ins y ih
theorem Al.snocIns (y : Nat) {a b : List Nat} {n : Nat} (h : Al s a b n) : Al s a (b ++ [y]) (n + 2) := by
  induction h with
  | nil => exact .ins y .nil
  | sub x y' _ ih => rw [show ∀ n m : Nat, n + m + 2 = n + 2 + m from by lia]; exact .sub x y' ih
  | del x _ ih => exact .del x ih
  | ins y' _ ih => exact .ins y' ih
theorem Al.snocSub (x y : Nat) {a b : List Nat} {n : Nat} (h : Al s a b n) : Al s (a ++ [x]) (b ++ [y]) (n + s x y) := by
  induction h with
  | nil => exact .sub x y .nil
  | sub x' y' _ ih => rw [show ∀ n m k : Nat, n + m + k = n + k + m from by lia]; exact .sub x' y' ih
  | del x' _ ih => rw [show ∀ n k : Nat, n + 2 + k = n + k + 2 from by lia]; exact .del x' ih
  | ins y' _ ih => rw [show ∀ n k : Nat, n + 2 + k = n + k + 2 from by lia]; exact .ins y' ih
theorem Al.rev {a b : List Nat} {n : Nat} (h : Al s a b n) : Al s a.reverse b.reverse n := by
  induction h with
  | nil => exact .nil
  | sub x y _ ih => rw [List.reverse_cons, List.reverse_cons]; exact .snocSub s x y ih
  | del x _ ih => rw [List.reverse_cons]; exact .snocDel s x ih
  | ins y _ ih => rw [List.reverse_cons]; exact .snocIns s y ih

theorem Al.nilLeft (b : List Nat) : Al s [] b (2 * b.length) := by
  induction b with
  | nil => exact .nil
  | cons y b ih => exact .ins y ih
theorem Al.nilRight (a : List Nat) : Al s a [] (2 * a.length) := by
  induction a with
  | nil => exact .nil
  | cons x a ih => exact .del x ih

theorem Al.best (a b : List Nat) : Al s a b (D s a b) := by
  have key : ∀ n, ∀ a b : List Nat, a.length + b.length ≤ n → Al s a b (D s a b) := by
    intro n
    induction n with
    | zero =>
      intro a b h
      have ha : a = [] := List.eq_nil_of_length_eq_zero (by lia)
      have hb : b = [] := List.eq_nil_of_length_eq_zero (by lia)
      subst ha; subst hb; rw [D_nil_left]; exact .nil
    | succ n ih =>
      intro a b h
      cases a with
      | nil => rw [D_nil_left]; exact .nilLeft s b
      | cons x a =>
        cases b with
        | nil => rw [D_nil_right]; exact .nilRight s _
        | cons y b =>
          simp only [List.length_cons] at h
          rw [D_cons]
          rcases Nat.le_total (D s a b + s x y) (min (D s a (y :: b) + 2) (D s (x :: a) b + 2)) with q | q
          · rw [Nat.min_eq_left q]; exact .sub x y (ih a b (by lia))
          · rw [Nat.min_eq_right q]
            rcases Nat.le_total (D s a (y :: b) + 2) (D s (x :: a) b + 2) with r | r
            · rw [Nat.min_eq_left r]; exact .del x (ih a (y :: b) (by simp only [List.length_cons]; lia))
            · rw [Nat.min_eq_right r]; exact .ins y (ih (x :: a) b (by simp only [List.length_cons]; lia))
  exact key _ a b (Nat.le_refl _)

theorem D_le_del (x : Nat) (a b : List Nat) : D s (x :: a) b ≤ D s a b + 2 := by
  cases b with
  | nil => rw [D_nil_right, D_nil_right, List.length_cons]; lia
  | cons y b => rw [D_cons]; lia
theorem D_le_ins (y : Nat) (a b : List Nat) : D s a (y :: b) ≤ D s a b + 2 := by
  cases a with
  | nil => rw [D_nil_left, D_nil_left, List.length_cons]; lia
  | cons x a => rw [D_cons]; lia
theorem D_le_sub (x y : Nat) (a b : List Nat) : D s (x :: a) (y :: b) ≤ D s a b + s x y := by rw [D_cons]; lia

theorem D_le_al {a b : List Nat} {n : Nat} (h : Al s a b n) : D s a b ≤ n := by
  induction h with
  | nil => rw [D_nil_left]; exact Nat.le_refl _
  | sub x y _ ih => exact Nat.le_trans (D_le_sub s x y _ _) (by lia)
  | del x _ ih => exact Nat.le_trans (D_le_del s x _ _) (by lia)
  | ins y _ ih => exact Nat.le_trans (D_le_ins s y _ _) (by lia)

theorem D_rev (a b : List Nat) : D s a.reverse b.reverse = D s a b := by
  apply Nat.le_antisymm
  · exact D_le_al s (Al.rev s (Al.best s a b))
  · have := D_le_al s (Al.rev s (Al.best s a.reverse b.reverse))
    rwa [List.reverse_reverse, List.reverse_reverse] at this

/-- one sign fewer costs at most 2 more -/
theorem D_back (a b : List Nat) : (∀ x, D s a b ≤ D s (x :: a) b + 2) ∧ (∀ y, D s a b ≤ D s a (y :: b) + 2) := by
  have key : ∀ n, ∀ a b : List Nat, a.length + b.length ≤ n → (∀ x, D s a b ≤ D s (x :: a) b + 2) ∧ (∀ y, D s a b ≤ D s a (y :: b) + 2) := by
    intro n
    induction n with
    | zero =>
      intro a b h
      have ha : a = [] := List.eq_nil_of_length_eq_zero (by lia)
      have hb : b = [] := List.eq_nil_of_length_eq_zero (by lia)
      subst ha; subst hb; rw [D_nil_left]; exact ⟨fun _ => Nat.zero_le _, fun _ => Nat.zero_le _⟩
    | succ n ih =>
      intro a b h
      refine ⟨fun x => ?_, fun y => ?_⟩
      · cases b with
        | nil => rw [D_nil_right, D_nil_right, List.length_cons]; lia
        | cons y b =>
          simp only [List.length_cons] at h
          rw [D_cons]
          have h1 : D s a (y :: b) ≤ D s a b + 2 := D_le_ins s y a b
          have h2 : D s a (y :: b) ≤ D s (x :: a) b + 2 + 2 := by
            have := (ih a b (by lia)).1 x
            lia
          lia
      · cases a with
        | nil => rw [D_nil_left, D_nil_left, List.length_cons]; lia
        | cons x a =>
          simp only [List.length_cons] at h
          rw [D_cons]
          have h1 : D s (x :: a) b ≤ D s a b + 2 := D_le_del s x a b
          have h2 : D s (x :: a) b ≤ D s a (y :: b) + 2 + 2 := by
            have := (ih a b (by lia)).2 y
            lia
          lia
  exact key _ a b (Nat.le_refl _)

theorem D_same (hs : ∀ c, s c c = 0) (c : Nat) (a b : List Nat) : D s (c :: a) (c :: b) = D s a b := by
  apply Nat.le_antisymm
  · have := D_le_sub s c c a b; rw [hs] at this; exact this
  · rw [D_cons]
    have h1 := (D_back s a b).2 c
    have h2 := (D_back s a b).1 c
    lia

theorem D_symm (hs : ∀ c d, s c d = s d c) (a b : List Nat) : D s a b = D s b a := by
  have half : ∀ {a b : List Nat} {n : Nat}, Al s a b n → Al s b a n := by
    intro a b n h
    induction h with
    | nil => exact .nil
    | sub x y _ ih => rw [hs x y]; exact .sub y x ih
    | del x _ ih => exact .ins x ih
    | ins y _ ih => exact .del y ih
  exact Nat.le_antisymm (D_le_al s (half (Al.best s b a))) (D_le_al s (half (Al.best s a b)))

theorem D_len (a b : List Nat) : 2 * a.length ≤ D s a b + 2 * b.length ∧ 2 * b.length ≤ D s a b + 2 * a.length := by
  have : ∀ {a b : List Nat} {n : Nat}, Al s a b n → 2 * a.length ≤ n + 2 * b.length ∧ 2 * b.length ≤ n + 2 * a.length := by
    intro a b n h
    induction h with
    | nil => simp
    | sub x y _ ih => simp only [List.length_cons]; lia
    | del x _ ih => simp only [List.length_cons]; lia
    | ins y _ ih => simp only [List.length_cons]; lia
  exact this (Al.best s a b)

/-- the same from the last signs -/
theorem D_snoc (x y : Nat) (a b : List Nat) : D s (a ++ [x]) (b ++ [y]) = min (D s a b + s x y) (min (D s a (b ++ [y]) + 2) (D s (a ++ [x]) b + 2)) := by
  rw [← D_rev s (a ++ [x]), ← D_rev s a b, ← D_rev s a (b ++ [y]), ← D_rev s (a ++ [x]) b]
  simp only [List.reverse_append, List.reverse_cons, List.reverse_nil, List.nil_append, List.singleton_append]
  exact D_cons s x y _ _
theorem D_snoc_same (hs : ∀ c, s c c = 0) (c : Nat) (a b : List Nat) : D s (a ++ [c]) (b ++ [c]) = D s a b := by
  rw [← D_rev s (a ++ [c]), ← D_rev s a b]
  simp only [List.reverse_append, List.reverse_cons, List.reverse_nil, List.nil_append, List.singleton_append]
  exact D_same s hs c _ _
theorem D_snoc_back (a b : List Nat) : (∀ x, D s a b ≤ D s (a ++ [x]) b + 2) ∧ (∀ y, D s a b ≤ D s a (b ++ [y]) + 2) := by
  refine ⟨fun x => ?_, fun y => ?_⟩
  · rw [← D_rev s (a ++ [x]), ← D_rev s a b, List.reverse_append]; exact (D_back s _ _).1 x
  · rw [← D_rev s a (b ++ [y]), ← D_rev s a b, List.reverse_append]; exact (D_back s _ _).2 y
theorem D_snoc_del (x : Nat) (a b : List Nat) : D s (a ++ [x]) b ≤ D s a b + 2 := by
  rw [← D_rev s (a ++ [x]), ← D_rev s a b, List.reverse_append]; exact D_le_del s x _ _
theorem D_snoc_ins (y : Nat) (a b : List Nat) : D s a (b ++ [y]) ≤ D s a b + 2 := by
  rw [← D_rev s a (b ++ [y]), ← D_rev s a b, List.reverse_append]; exact D_le_ins s y _ _
theorem D_diag (x y : Nat) (a b : List Nat) : D s a b ≤ D s (a ++ [x]) (b ++ [y]) := by
  rw [D_snoc]
  have h1 := (D_snoc_back s a b).2 y
  have h2 := (D_snoc_back s a b).1 x
  lia
theorem D_app (hs : ∀ c, s c c = 0) (p a b : List Nat) : D s (p ++ a) (p ++ b) = D s a b := by
  induction p with
  | nil => rfl
  | cons c p ih => rw [List.cons_append, List.cons_append, D_same s hs, ih]
theorem D_app_right (hs : ∀ c, s c c = 0) (p a b : List Nat) : D s (a ++ p) (b ++ p) = D s a b := by
  rw [← D_rev s (a ++ p), List.reverse_append, List.reverse_append, D_app s hs, D_rev]

/-- no later row goes below the least of a row -/
theorem D_row (hs2 : ∀ c d, s c d ≤ 2) (b a : List Nat) (v : Nat) (h : ∀ j, 1 ≤ j → j ≤ a.length → v ≤ D s b (a.take j)) (ha : a ≠ []) (hb : b ≠ []) : ∀ (c : List Nat) (j : Nat), j ≤ a.length → v ≤ D s (b ++ c) (a.take j) := by
  have h0 : v ≤ D s b [] := by
    obtain ⟨x, a', rfl⟩ := List.exists_cons_of_ne_nil ha
    have h1 := h 1 (Nat.le_refl _) (by simp)
    simp only [List.take_succ_cons, List.take_zero] at h1
    have hb' : b = b.dropLast ++ [b.getLast hb] := (List.dropLast_concat_getLast hb).symm
    have h2 := D_snoc s (b.getLast hb) x b.dropLast []
    rw [← hb', List.nil_append, D_nil_right] at h2
    rw [D_nil_right]
    have h3 := hs2 (b.getLast hb) x
    have h4 : b.length = b.dropLast.length + 1 := by rw [List.length_dropLast]; have := List.length_pos_iff.mpr hb; lia
    lia
  have hall : ∀ j, j ≤ a.length → v ≤ D s b (a.take j) := by
    intro j hj
    cases j with
    | zero => rw [List.take_zero]; exact h0
    | succ j => exact h (j + 1) (by lia) hj
  intro c
  have key : ∀ n (c : List Nat), c.length = n → ∀ j, j ≤ a.length → v ≤ D s (b ++ c) (a.take j) := by
    intro n
    induction n with
    | zero => intro c hc; rw [List.eq_nil_of_length_eq_zero hc, List.append_nil]; exact hall
    | succ n ih =>
      intro c hc
      have hne : c ≠ [] := by intro q; rw [q] at hc; cases hc
      have hc' : c = c.dropLast ++ [c.getLast hne] := (List.dropLast_concat_getLast hne).symm
      have hl : c.dropLast.length = n := by rw [List.length_dropLast]; lia
      rw [hc', ← List.append_assoc]
      intro j
      induction j with
      | zero =>
        intro _
        have h1 := ih c.dropLast hl 0 (Nat.zero_le _)
        rw [List.take_zero, D_nil_right] at h1 ⊢
        rw [List.length_append]; lia
      | succ j ihj =>
        intro hj
        have hj' : j < a.length := hj
        rw [List.take_succ_eq_append_getElem hj', D_snoc]
        have h1 := ih c.dropLast hl j (by lia)
        have h2 := ih c.dropLast hl (j + 1) hj
        rw [List.take_succ_eq_append_getElem hj'] at h2
        have h3 := ihj (by lia)
        lia
  exact key _ c rfl
end
end Mine
end

section
open PySem PySem.W PyProof.Rows PySem.Calls
set_option Elab.async false
set_option maxRecDepth 100000
set_option maxHeartbeats 8000000
namespace Mine
noncomputable abbrev theProg : Program := PySem.Challenge.rw_pe0171_01.row.prog

/-- what stands around a call: no exception at hand -/
noncomputable abbrev Ar (dp un : Nat) (fr : Option (List Env)) (gd : Option (List Code)) : Around := { handled := none, depth := dp, frames := fr, guards := gd, units := un }

noncomputable abbrev Keeps (h h' : Heap) : Prop := ∀ b o, h.get? b = some o → h'.get? b = some o

theorem fr_on {h₀ h h' : Heap} {L : Addr} {m : Str → Option Value} (F : Fr h₀ L h m) (k : Keeps h h') : Fr h₀ L h' m :=
  ⟨F.ns.keeps k, fun b o e => k _ _ (F.keep b o e), F.above⟩
theorem news_on {h₀ h h' : Heap} {L : Addr} {news : List (Addr × Obj)} (N : News h₀ L h news) (k : Keeps h h') : News h₀ L h' news :=
  fun p hp => ⟨k _ _ (N p hp).1, (N p hp).2⟩

theorem call_raw {prog : Program} {w : World} {A : Around} {s : Shared} {K : Frag} {R : Result → Shared → Prop} {name qual : Str} {params : Arguments} {body : List Stmt} {scope : Scope} {dV kV doc pm cdv ct oc : Value} {an od : Option Addr} {osl : Array (Option Value)} {f : Addr} {args : Args} {binds : List (Str × Value)}
    (X : K.In s.heap) (hlim : s.heap.NoLimit)
    (ho : K.lookup f = some ⟨oc, od, .func (fnOf name qual params body scope dV kV doc pm an cdv ct), osl⟩) (hcd : codeIn K cdv qual = true) (hroom : A.depth < recursionLimit)
    (hbind : BindsTo s (fnOf name qual params body scope dV kV doc pm an cdv ct) args binds) (hloc : ∀ y ∈ binds, scope.names.lookup y.1 = some .local)
    (h : ∀ L' h₁, Fr s.heap L' h₁ (fun y => binds.reverse.lookup y) → News s.heap L' h₁ [] →
      wpAny (model prog w) (A.deeper (envOf qual scope L' f cdv)) (execs body (envOf qual scope L' f cdv))
        (fun fl s' => R (.ok (.ret (match fl with | .ret v => v | _ => .none))) s')
        (fun e s' => wpAny (model prog w) (A.deeper (envOf qual scope L' f cdv)) (leaving (envOf qual scope L' f cdv) e) (fun _ s'' => R (.error e) s'') (fun e' s'' => R (.error e') s'') s')
        { s with heap := h₁, toks := s.toks + binds.length })
    (hco : scope.isCoroutine = false) (hgen : scope.isGenerator = false) (hk : scope.kind = .function)
    (hcell : ∀ x ∈ scope.names, x.2 ≠ .cell) : codeAny (model prog w) A (.call (.ref f) args) R s := by
  refine codeAny_call_def (fd := fnOf name qual params body scope dV kV doc pm an cdv ct) (body := body) (binds := binds) hroom (X _ _ ho) rfl hlim (codeRec_of X hcd) rfl hbind hcell hloc (fun h₁ hns hk₁ => ?_) hco hgen hk
  exact h _ _ ⟨hns, hk₁, Nat.le_refl _⟩ News.nil


/-- entering a def: nothing may be raised out of it -/
theorem enter_raw {prog : Program} {w : World} {A : Around} {s : Shared} {K : Frag} {Q E : Value → Shared → Prop} {name qual : Str} {params : Arguments} {body : List Stmt} {scope : Scope} {dV kV doc pm cdv ct oc : Value} {an od : Option Addr} {osl : Array (Option Value)} {f : Addr} {pos : List Value} {kw : List (Str × Value)} {binds : List (Str × Value)}
    (X : K.In s.heap) (hlim : s.heap.NoLimit)
    (ho : K.lookup f = some ⟨oc, od, .func (fnOf name qual params body scope dV kV doc pm an cdv ct), osl⟩) (hcd : codeIn K cdv qual = true) (hroom : A.depth < recursionLimit)
    (hbind : BindsTo s (fnOf name qual params body scope dV kV doc pm an cdv ct) ⟨pos, kw⟩ binds) (hloc : ∀ y ∈ binds, scope.names.lookup y.1 = some .local)
    (h : ∀ L' h₁, Fr s.heap L' h₁ (fun y => binds.reverse.lookup y) → News s.heap L' h₁ [] →
      wpAny (model prog w) (A.deeper (envOf qual scope L' f cdv)) (execs body (envOf qual scope L' f cdv))
        (fun fl s' => Q (match fl with | .ret v => v | _ => .none) s') (fun _ _ => False)
        { s with heap := h₁, toks := s.toks + binds.length })
    (hco : scope.isCoroutine = false) (hgen : scope.isGenerator = false) (hk : scope.kind = .function)
    (hcell : ∀ x ∈ scope.names, x.2 ≠ .cell) : wpAny (model prog w) A (PySem.call (.ref f) pos kw) Q E s :=
  wpAny_call (call_raw X hlim ho hcd hroom hbind hloc (fun L h1 F N => wpAny_mono (E := fun _ _ => False) (h L h1 F N) (fun _ _ x => x) (fun _ _ x => False.elim x)) hco hgen hk hcell)

noncomputable abbrev NoE : Value → Shared → Prop := fun _ _ => False

/-- what is known of the frame's names, whatever the others are -/
noncomputable def over (ps : List (Str × Value)) (m : Str → Option Value) : Str → Option Value := fun y => match ps.lookup y with | some v => some v | none => m y

theorem over_eq {ps : List (Str × Value)} {m : Str → Option Value} (h : ∀ p ∈ ps, m p.1 = some p.2) : over ps m = m := by
  funext y
  unfold over
  split
  · rename_i v e
    obtain ⟨l, r, hps, _⟩ := List.lookup_eq_some_iff.mp e
    exact (h (y, v) (by rw [hps]; simp)).symm
  · rfl

theorem start_of {m : Str → Option Value} : ∀ {ps : List (Str × Value)}, ps.map (fun p => m p.1) = ps.map (fun p => some p.2) → ∀ p ∈ ps, m p.1 = some p.2
  | [], _, _, hp => nomatch hp
  | q :: r, h, p, hp => by
    simp only [List.map_cons, List.cons.injEq] at h
    rcases List.mem_cons.mp hp with e | hp
    · rw [e]; exact h.1
    · exact start_of h.2 p hp
theorem sub_of {news news' : List (Addr × Obj)} (h : news.Sublist news') : ∀ p ∈ news, p ∈ news' := fun _ hp => h.subset hp

/-- a state: the shared parts of s, a frame with the names ps, a ledger -/
noncomputable def At (s : Shared) (h₀ : Heap) (L : Addr) (ps : List (Str × Value)) (news : List (Addr × Obj)) (s' : Shared) : Prop :=
  ∃ h tk m, s' = { s with heap := h, toks := tk } ∧ Fr h₀ L h (over ps m) ∧ News h₀ L h news ∧ (news.map (·.1)).Nodup

theorem at_intro {s : Shared} {h₀ h : Heap} {L : Addr} {m : Str → Option Value} {ps : List (Str × Value)} {news news' : List (Addr × Obj)} {tk : Nat}
    (F : Fr h₀ L h m) (N : News h₀ L h news') (hm : ps.map (fun p => m p.1) = ps.map (fun p => some p.2)) (hn : ∀ p ∈ news, p ∈ news') (hd : (news.map (·.1)).Nodup) :
    At s h₀ L ps news { s with heap := h, toks := tk } := ⟨h, tk, m, rfl, by rw [over_eq (start_of hm)]; exact F, fun p hp => N p (hn p hp), hd⟩

theorem seq_cut {M : Model} {A : Around} {E : Value → Shared → Prop} {s : Shared} {st : Stmt} {rest : List Stmt} {env : Env} {Q : Flow → Shared → Prop} (R : Shared → Prop)
    (h1 : wpAny M A (exec st env) (fun f s' => match f with | .next => R s' | f => Q f s') E s) (h2 : ∀ s', R s' → wpAny M A (execs rest env) Q E s') :
    wpAny M A (execs (st :: rest) env) Q E s := by
  refine wpAny_execs_cons (wpAny_mono h1 (fun f s' h => ?_) fun _ _ x => x)
  cases f with
  | next => exact h2 s' h
  | brk => exact h
  | cont => exact h
  | ret v => exact h

theorem execs_split_wp {M : Model} {Γ : Ctx} {env : Env} {rest : List Stmt} {Q : Flow → Pos → Shared → Prop} {E : Value → Pos → Shared → Prop} : ∀ (pre : List Stmt) (p : Pos) (s : Shared),
    Sem.wp M Γ (execs pre env) (fun f p' s' => match f with | .next => Sem.wp M Γ (execs rest env) Q E p' s' | f => Q f p' s') E p s → Sem.wp M Γ (execs (pre ++ rest) env) Q E p s
  | [], p, s, h => h
  | st :: pre, p, s, h => by
    rw [execs_cons, Sem.wp_bind'] at h
    rw [List.cons_append, execs_cons, Sem.wp_bind']
    refine Sem.wp_mono M Γ _ (fun f p' s' h' => ?_) (fun _ _ _ h' => h') _ _ h
    cases f with
    | next => exact execs_split_wp pre p' s' h'
    | brk => exact h'
    | cont => exact h'
    | ret v => exact h'

/-- what is wanted behind, under a seal -/
structure Hid {α : Type} (Q Q' : α → Shared → Prop) : Prop where
  out : ∀ x s, Q x s → Q' x s
theorem hide {α : Type} {M : Model} {A : Around} {t : Sem α} {E : Value → Shared → Prop} {s : Shared} {Q : α → Shared → Prop} (h : ∀ Q', Hid Q Q' → wpAny M A t Q' E s) : wpAny M A t Q E s := h Q ⟨fun _ _ x => x⟩

/-- the goal under a letter, while things are taken apart -/
theorem small {P : Prop} (h : ∀ G : Prop, (P → G) → G) : P := h P id
theorem hideE {α : Type} {M : Model} {A : Around} {t : Sem α} {E : Value → Shared → Prop} {s : Shared} {Q : α → Shared → Prop} (h : ∀ Q', Hid Q Q' → wpAny M A t Q' NoE s) : wpAny M A t Q E s :=
  wpAny_mono (h Q ⟨fun _ _ x => x⟩) (fun _ _ x => x) (fun _ _ x => False.elim x)

/-- a seal: the walk stops here -/
structure Cut (R : Prop) : Prop where
  out : R

/-- the first k statements to R, the rest from R -/
theorem cut_at (k : Nat) {M : Model} {A : Around} {E : Value → Shared → Prop} {s : Shared} {l : List Stmt} {env : Env} {Q : Flow → Shared → Prop} (R : Shared → Prop)
    (h1 : wpAny M A (execs (l.take k) env) (fun f s' => match f with | .next => Cut (R s') | f => Q f s') E s) (h2 : ∀ s', R s' → wpAny M A (execs (l.drop k) env) Q E s') :
    wpAny M A (execs l env) Q E s := by
  intro Γ p hΓ
  rw [← List.take_append_drop k l]
  refine execs_split_wp _ p s (Sem.wp_mono M Γ _ (fun f p' s' h' => ?_) (fun _ _ _ h' => h') _ _ (h1 Γ p hΓ))
  cases f with
  | next => exact h2 s' h'.out Γ p' hΓ
  | brk => exact h'
  | cont => exact h'
  | ret v => exact h'

section
variable {prog : Program} {w : World} {A : Around} {Q : Flow → Shared → Prop} {s s₁ : Shared} {env : Env} {h₀ : Heap} {L : Addr}

theorem passes_noE : PassesOwn (model prog w) A env NoE := fun _ _ x => False.elim x

theorem while_at {σ : Type} {test : Expr} {body : List Stmt} {pos : Pos} (μ : σ → Nat) (ps : σ → List (Str × Value)) (news : σ → List (Addr × Obj)) (P : σ → Prop) (c₀ : σ) (hP : P c₀) (h₁ : At s h₀ L (ps c₀) (news c₀) s₁)
    (turn : ∀ c h tk m, P c → Fr h₀ L h (over (ps c) m) → News h₀ L h (news c) → ((news c).map (·.1)).Nodup →
      wpAny (model prog w) A (isTrue test env (eval test env)) (fun b s₂ => if b = true then wpAny (model prog w) A (execs body env) (fun f s₃ => match f with
          | .next => Cut (∃ c', μ c' < μ c ∧ P c' ∧ At s h₀ L (ps c') (news c') s₃)
          | .cont => Cut (∃ c', μ c' < μ c ∧ P c' ∧ At s h₀ L (ps c') (news c') s₃)
          | .brk => Q .next s₃
          | .ret v => Q (.ret v) s₃) NoE s₂ else Q .next s₂) NoE { s with heap := h, toks := tk }) :
    wpAny (model prog w) A (exec (.While test body [] pos) env) Q NoE s₁ := by
  refine wpAny_While (codeAny_whileLoop (fun n s' => ∃ c, μ c = n ∧ P c ∧ At s h₀ L (ps c) (news c) s') ?_ (μ c₀) ⟨c₀, rfl, hP, h₁⟩)
  rintro n s' ⟨c, rfl, hPc, h, tk, m, rfl, F, N, nd⟩
  refine wpAny_mono (turn c h tk m hPc F N nd) (fun b s₂ h₂ => ?_) (fun _ _ x => False.elim x)
  cases b with
  | false =>
    simp only [Bool.false_eq_true, if_false] at h₂ ⊢
    exact wpAny_execs_nil h₂
  | true =>
    simp only [if_true] at h₂ ⊢
    refine wpAny_mono h₂ (fun f s₃ h₃ => ?_) (fun _ _ x => False.elim x)
    cases f with
    | next => obtain ⟨c', h4, h5, h6⟩ := h₃.out; exact ⟨μ c', h4, c', rfl, h5, h6⟩
    | cont => obtain ⟨c', h4, h5, h6⟩ := h₃.out; exact ⟨μ c', h4, c', rfl, h5, h6⟩
    | brk => exact h₃
    | ret v => exact h₃

theorem while_hd {σ : Type} {test : Expr} {body : List Stmt} {pos : Pos} (μ : σ → Nat) (ps : σ → List (Str × Value)) (news : σ → List (Addr × Obj)) (P : σ → Prop) (c₀ : σ) (hP : P c₀) (h₁ : At s h₀ L (ps c₀) (news c₀) s₁)
    (turn : ∀ c h tk m, P c → Fr h₀ L h (over (ps c) m) → News h₀ L h (news c) → ((news c).map (·.1)).Nodup → ∀ Q' : Flow → Shared → Prop, Hid (fun f s₃ => match f with
          | .next => Cut (∃ c', μ c' < μ c ∧ P c' ∧ At s h₀ L (ps c') (news c') s₃)
          | .cont => Cut (∃ c', μ c' < μ c ∧ P c' ∧ At s h₀ L (ps c') (news c') s₃)
          | .brk => Q .next s₃
          | .ret v => Q (.ret v) s₃) Q' →
      wpAny (model prog w) A (isTrue test env (eval test env)) (fun b s₂ => if b = true then wpAny (model prog w) A (execs body env) Q' NoE s₂ else Q' .brk s₂) NoE { s with heap := h, toks := tk }) :
    wpAny (model prog w) A (exec (.While test body [] pos) env) Q NoE s₁ := by
  refine wpAny_While (codeAny_whileLoop (fun n s' => ∃ c, μ c = n ∧ P c ∧ At s h₀ L (ps c) (news c) s') ?_ (μ c₀) ⟨c₀, rfl, hP, h₁⟩)
  rintro n s' ⟨c, rfl, hPc, h, tk, m, rfl, F, N, nd⟩
  refine wpAny_mono (turn c h tk m hPc F N nd _ ⟨fun _ _ x => x⟩) (fun b s₂ h₂ => ?_) (fun _ _ x => False.elim x)
  cases b with
  | false =>
    simp only [Bool.false_eq_true, if_false] at h₂ ⊢
    exact wpAny_execs_nil h₂
  | true =>
    simp only [if_true] at h₂ ⊢
    refine wpAny_mono h₂ (fun f s₃ h₃ => ?_) (fun _ _ x => False.elim x)
    cases f with
    | next => obtain ⟨c', h4, h5, h6⟩ := h₃.out; exact ⟨μ c', h4, c', rfl, h5, h6⟩
    | cont => obtain ⟨c', h4, h5, h6⟩ := h₃.out; exact ⟨μ c', h4, c', rfl, h5, h6⟩
    | brk => exact h₃
    | ret v => exact h₃

noncomputable abbrev rangeIt (x left step : Int) : Obj := { cls := .type "range_iterator", dict := none, data := .fields #[rawInt x, rawInt left, rawInt step], slots := #[] }

theorem for_range {σ : Type} {x : Str} {px pos : Pos} {iter : Expr} {body : List Stmt} (a : Int) (n : Nat) (ps : σ → List (Str × Value)) (news : σ → List (Addr × Obj)) (P : Nat → σ → Prop)
    (hh : A.handled = none) (hx : env.kindOf x = some .local) (hp : (env.scope.kind == .class || (env.scope.kind == .module && env.locals != env.globals)) = false) (hL : env.locals = L)
    (hiter : wpAny (model prog w) A (eval iter env) (fun v s₂ => Cut (∃ r b t u t', v = .ref r ∧ IsRange s₂.heap r a b 1 t u t' ∧ Builtin.Range.small a b 1 = true ∧ Builtin.Range.rangeSize a b 1 = (n : Int) ∧
        ∃ c₀, P 0 c₀ ∧ At s h₀ L (ps c₀) (news c₀) s₂)) NoE s₁)
    (turn : ∀ i c it h tk m t, i < n → P i c → Fr h₀ L h (over ((x, .int (a + i) t) :: (ps c)) m) → News h₀ L h ((it, rangeIt (a + (i : Int) + 1) (n - (i : Int) - 1) 1) :: news c) → (((it, rangeIt (a + (i : Int) + 1) (n - (i : Int) - 1) 1) :: news c).map (·.1)).Nodup →
      wpAny (model prog w) A (execs body env) (fun f s₃ => match f with
          | .next => Cut (∃ c', P (i + 1) c' ∧ At s h₀ L (ps c') ((it, rangeIt (a + (i : Int) + 1) (n - (i : Int) - 1) 1) :: news c') s₃)
          | .cont => Cut (∃ c', P (i + 1) c' ∧ At s h₀ L (ps c') ((it, rangeIt (a + (i : Int) + 1) (n - (i : Int) - 1) 1) :: news c') s₃)
          | .brk => Q .next s₃
          | .ret v => Q (.ret v) s₃) NoE { s with heap := h, toks := tk })
    (done : ∀ c h tk m, P n c → Fr h₀ L h (over (ps c) m) → News h₀ L h (news c) → ((news c).map (·.1)).Nodup → Q .next { s with heap := h, toks := tk })
    (hs : ∀ x, foldedSetIterable iter env x = pure x := by intro _; rfl) :
    wpAny (model prog w) A (exec (.For (.Name x px) iter body [] pos) env) Q NoE s₁ := by
  refine wpAny_For (wpAny_mono hiter ?_ fun _ _ x => x) hs
  rintro v s₂ ⟨r, b, t, u, t', rfl, hr, hsm, hsz, c₀, hP, h, tk, m, rfl, F, N, nd⟩
  refine wpAny_pyIter_range hr hsm ?_
  rw [hsz]
  refine codeAny_forLoop (fun k s' => ∃ i c, i ≤ n ∧ k = n - i ∧ P i c ∧ At s h₀ L (ps c) ((h.objs.size, rangeIt (a + i) (n - (i : Int)) 1) :: news c) s') ?_ n ?_
  · rintro k s' ⟨i, c, hi, rfl, hPi, h', tk', m', rfl, F', N', nd'⟩
    have hit : IsRangeIter h' h.objs.size (a + i) (n - (i : Int)) 1 := (N' _ (List.mem_cons_self ..)).1
    have hneL : h.objs.size ≠ L := (N' _ (List.mem_cons_self ..)).2.1
    have hfree : h₀.get? h.objs.size = none := (N' _ (List.mem_cons_self ..)).2.2
    by_cases hin : i < n
    · refine wpAny_pyNext_range_item hit (by omega) fun h₃ hit₃ sb => ?_
      have F₃ : Fr h₀ L h₃ (over (ps c) m') := ⟨F'.ns.sameBut sb (Ne.symm hneL), fun b o e => (sb.2 b (fun q => by rw [q, hfree] at e; cases e)).trans (F'.keep b o e), F'.above⟩
      have N₃ : News h₀ L h₃ ((h.objs.size, rangeIt (a + (i : Int) + 1) (n - (i : Int) - 1) 1) :: news c) := by
        intro p hp
        rcases List.mem_cons.mp hp with rfl | hp
        · exact ⟨hit₃, hneL, hfree⟩
        · have hne : p.1 ≠ h.objs.size := by
            intro q
            have := (List.nodup_cons.mp nd').1
            exact this (List.mem_map.mpr ⟨p, hp, q⟩)
          have := N' p (List.mem_cons_of_mem _ hp)
          exact ⟨(sb.2 _ hne).trans this.1, this.2⟩
      refine wpAny_assign_Name (wpAny_storeName_local hx (m := over (ps c) m') (by rw [hL]; exact F₃.ns) (fun h₄ hn₄ sb₄ => ?_) hp)
      rw [hL] at hn₄ sb₄
      have F₄ := F₃.set hn₄ sb₄
      have N₄ := N₃.set sb₄
      have em : (fun y => if y = x then some (Value.int (a + i) tk') else over (ps c) m' y) = over ((x, .int (a + i) tk') :: ps c) m' := by
        funext y
        by_cases hy : y = x
        · subst hy; simp [over]
        · have : (y == x) = false := by simpa using hy
          simp [over, List.lookup_cons, hy, this]
      rw [em] at F₄
      refine wpAny_mono (turn i c h.objs.size h₄ _ m' tk' hin hPi F₄ N₄ (by simpa using nd')) (fun f s₃ h₃ => ?_) (fun _ _ x => False.elim x)
      have cast1 : a + ((i + 1 : Nat) : Int) = a + (i : Int) + 1 := by omega
      have cast2 : (n : Int) - ((i + 1 : Nat) : Int) = n - (i : Int) - 1 := by omega
      cases f with
      | next => obtain ⟨c', hP', hA⟩ := h₃.out; exact ⟨n - (i + 1), by omega, i + 1, c', by omega, rfl, hP', by rw [cast1, cast2]; exact hA⟩
      | cont => obtain ⟨c', hP', hA⟩ := h₃.out; exact ⟨n - (i + 1), by omega, i + 1, c', by omega, rfl, hP', by rw [cast1, cast2]; exact hA⟩
      | brk => exact h₃
      | ret v => exact h₃
    · obtain rfl : i = n := by omega
      refine wpAny_pyNext_range_end hh hit (by omega) fun h₃ ext => ?_
      refine wpAny_execs_nil ?_
      refine done c h₃ tk' m' hPi ⟨F'.ns.extBut ext (Ne.symm hneL), fun b o e => ext b o (fun q => by rw [q, hfree] at e; cases e) (F'.keep b o e), F'.above⟩ (fun p hp => ?_) (List.nodup_cons.mp nd').2
      have hne : p.1 ≠ h.objs.size := by
        intro q
        have := (List.nodup_cons.mp nd').1
        exact this (List.mem_map.mpr ⟨p, hp, q⟩)
      have := N' p (List.mem_cons_of_mem _ hp)
      exact ⟨ext _ _ hne this.1, this.2⟩
  · refine ⟨0, c₀, Nat.zero_le _, rfl, hP, _, _, m, rfl, F.push _, ?_, ?_⟩
    · have := N.push F (rangeIt (a + (0 : Nat)) (n - ((0 : Nat) : Int)) 1)
      simpa using this
    · refine List.nodup_cons.mpr ⟨fun hm => ?_, nd⟩
      obtain ⟨p, hp, e⟩ := List.mem_map.mp hm
      have := Heap.lt_size (N p hp).1
      exact absurd this (by rw [e]; exact Nat.lt_irrefl _)
end

noncomputable def rangeL (a c : Int) (n : Nat) : List Int := (List.range n).map fun j : Nat => a + (j : Int) * c

theorem intsAre_of {vs : List Value} {ns : List Int} (hl : vs.length = ns.length) (h : ∀ (i : Nat) (v : Value), vs[i]? = some v → ∃ t, v = .int (ns.getD i 0) t) : IntsAre vs ns := by
  induction vs generalizing ns with
  | nil => cases ns with
    | nil => exact .nil
    | cons => simp at hl
  | cons v vs ih => cases ns with
    | nil => simp at hl
    | cons n ns =>
      obtain ⟨t, e⟩ := h 0 v rfl
      simp only [List.getD_cons_zero] at e
      subst e
      refine .cons n t (ih (by simpa using hl) fun i w hw => ?_)
      have := h (i + 1) w (by simpa using hw)
      simpa using this

theorem list_range_K {prog : Program} {w : World} {A : Around} {E : Value → Shared → Prop} {s : Shared} {h₀ : Heap} {L : Addr} {m : Str → Option Value} {Q : Value → Shared → Prop}
    {r : Addr} {a b c : Int} {t u v : Tok} (n : Nat) {news : List (Addr × Obj)} (hh : A.handled = none) (F : Fr h₀ L s.heap m) (N : News h₀ L s.heap news)
    (hr : IsRange s.heap r a b c t u v) (hsmall : Builtin.Range.small a b c = true) (hn : Builtin.Range.rangeSize a b c = (n : Int)) (hlen : n ≤ 2 ^ 24)
    (hQ : ∀ l h' tk (vs : List Value) ep, Fr h₀ L h' m → News h₀ L h' ((l, listOf vs.toArray ep) :: news) → (∀ p ∈ news, p.1 < l) → IntsAre vs (rangeL a c n) → Q (.ref l) { s with heap := h', toks := tk }) :
    wpAny (model prog w) A (call (.type "list") [.ref r]) Q E s := by
  refine call_list_range hh hr hsmall hn hlen fun h' tk acc' c' hk hS' hacc => ?_
  have hfree : h₀.get? s.heap.objs.size = none := by
    cases e : h₀.get? s.heap.objs.size with
    | none => rfl
    | some o => exact absurd (Heap.lt_size (F.keep _ _ e)) (Nat.lt_irrefl _)
  refine hQ _ h' tk acc'.toList c' (fr_on F hk) (fun p hp => ?_) (fun p hp => Heap.lt_size (N p hp).1) (intsAre_of (by simp [rangeL, hacc.1]) fun i v hv => ?_)
  · rcases List.mem_cons.mp hp with rfl | hp
    · exact ⟨by simpa using hS', Nat.ne_of_gt F.ns.lt, hfree⟩
    · exact ⟨hk _ _ (N p hp).1, (N p hp).2⟩
  · have hv' : acc'[i]? = some v := by simpa using hv
    obtain ⟨tk, rfl⟩ := hacc.2 i v hv'
    have hj : i < n := by
      have := (Array.getElem?_eq_some_iff.mp hv').1
      rw [hacc.1] at this; exact this
    exact ⟨tk, by simp [rangeL, hj]⟩

/-- entering a def some of whose names are kept in cells -/
theorem enter_rawC {prog : Program} {w : World} {A : Around} {s : Shared} {K : Frag} {Q E : Value → Shared → Prop} {name qual : Str} {params : Arguments} {body : List Stmt} {scope : Scope} {dV kV doc pm cdv ct oc : Value} {an od : Option Addr} {osl : Array (Option Value)} {f : Addr} {pos : List Value} {kw : List (Str × Value)} {binds : List (Str × Value)}
    (X : K.In s.heap) (hlim : s.heap.NoLimit)
    (ho : K.lookup f = some ⟨oc, od, .func (fnOf name qual params body scope dV kV doc pm an cdv ct), osl⟩) (hcd : codeIn K cdv qual = true) (hroom : A.depth < recursionLimit)
    (hbind : BindsTo s (fnOf name qual params body scope dV kV doc pm an cdv ct) ⟨pos, kw⟩ binds)
    (hkind : (binds.all fun y => scope.names.lookup y.1 == some .local || scope.names.lookup y.1 == some .cell) = true)
    (hnd : ((cellsFrom 0 scope.names []).map (·.1)).Nodup)
    (h : ∀ L' h₁ tk cells, Fr s.heap L' h₁ (bindL (envOfC qual scope L' f cdv).kindOf binds fun _ => none) → News s.heap L' h₁ cells →
      CellsAre (bindC (envOfC qual scope L' f cdv).kindOf binds fun _ => none) (cellsFrom (L' + 1) scope.names []) cells →
      wpAny (model prog w) (A.deeper (envOfC qual scope L' f cdv)) (execs body (envOfC qual scope L' f cdv))
        (fun fl s' => Q (match fl with | .ret v => v | _ => .none) s') NoE { s with heap := h₁, toks := tk })
    (hco : scope.isCoroutine = false) (hgen : scope.isGenerator = false) (hk : scope.kind = .function) : wpAny (model prog w) A (PySem.call (.ref f) pos kw) Q E s := by
  refine wpAny_call ?_
  refine codeAny_call_function hroom (X _ _ ho) rfl hco hgen rfl (codeRec_of X hcd) (hbind _ _ _ _ ?_)
  refine wpAny_newFunctionEnv_cells hk (kindsX hkind _) fun env' he s' x => ?_
  subst he
  refine ⟨hlim.keeps x.toInCall.keep, codeAny_func ?_⟩
  obtain ⟨h₁, tk, rfl, _⟩ := x.done
  have hk₁ := x.toInCall.keep
  obtain ⟨cells, NC, Y⟩ := Cl.news (h₀ := s.heap) (Nat.le_refl _) fun n c hm => ⟨x.cell n c (lookup_of_mem_nodup (cellsFrom_names scope.names 0 (s.heap.objs.size + 1) [] [] rfl ▸ hnd) hm), x.above n c hm⟩
  exact wpAny_mono (E := NoE) (h s.heap.objs.size h₁ tk cells ⟨x.toInCall.ns, fun b o e => hk₁ b o e, Nat.le_refl _⟩ NC Y) (fun _ _ x => x) (fun _ _ x => False.elim x)

end Mine
end

section
open PySem PySem.W PyProof.Rows PySem.Calls PyProof PySem.Builtin PySem.Builtin.Str
set_option Elab.async false
set_option linter.unusedSimpArgs false
set_option autoImplicit false
namespace Mine
noncomputable def ofL (l : List Nat) : Str := ⟨l.toArray⟩
theorem ofL_length (l : List Nat) : (ofL l).length = l.length := by simp [ofL, Str.length]
theorem ofL_cps (l : List Nat) : (ofL l).cps.toList = l := by simp [ofL]
theorem ofL_inj {a b : List Nat} : ofL a = ofL b ↔ a = b := by
  constructor
  · intro h; have := congrArg (fun x => x.cps.toList) h; simpa [ofL] using this
  · intro h; rw [h]
theorem ofL_beq (a b : List Nat) : (ofL a == ofL b) = decide (a = b) := by
  by_cases h : a = b
  · subst h; simp
  · rw [decide_eq_false h, beq_eq_false_iff_ne]; exact fun q => h (ofL_inj.mp q)
theorem ofL_eta (x : Str) : x = ofL x.cps.toList := by cases x; simp [ofL]
theorem ofL_append (a b : List Nat) : ofL a ++ ofL b = ofL (a ++ b) := by
  show Str.append (ofL a) (ofL b) = _
  simp [Str.append, ofL]

theorem slice_gen (l : List Nat) (i j : Int) (h0 : 0 ≤ i) (h1 : i ≤ j) (h2 : j ≤ l.length) : Txt.slice (ofL l) (some i) (some j) = ofL ((l.drop i.toNat).take (j - i).toNat) := by
  have := beq_iff_eq.mp (slice_closesL (x := ofL l) (i := i) (j := j) h0 h1 (by rw [ofL_length]; exact h2))
  rw [this, ofL_cps]; rfl
theorem slice_from {l : List Nat} {i : Int} (h0 : 0 ≤ i) : Txt.slice (ofL l) (some i) none = ofL (l.drop i.toNat) := by
  by_cases h : i ≤ (l.length : Int)
  · rw [slice_from_eq (x := ofL l) (b := ((ofL l).length : Int)) h0 (by rw [ofL_length]; exact h) rfl, ofL_cps, ofL_length]
    show ofL _ = _
    rw [List.take_of_length_le]
    rw [List.length_drop]; lia
  · rw [slice_beyond (by rw [ofL_length]; lia), List.drop_of_length_le (by lia)]; rfl
theorem idx_neg {n : Nat} {j : Int} (h : j < 0) : strSliceIndices none (some j) 1 n = strSliceIndices none (some (max 0 (j + n))) 1 n := by
  have h2 : (1 : Int) > 0 := by decide
  have h3 : ¬ (max 0 (j + n) < 0) := by lia
  have h4 : max 0 (min (j + (n : Int)) n) = max 0 (min (max 0 (j + (n : Int))) n) := by lia
  simp only [strSliceIndices, h, h2, h3, if_true, if_false]
  rw [h4]
theorem idx_big {n : Nat} {j : Int} (h : (n : Int) ≤ j) : strSliceIndices none (some j) 1 n = strSliceIndices none (some (n : Int)) 1 n := by
  have h2 : (1 : Int) > 0 := by decide
  have h3 : ¬ (j < 0) := by lia
  have h4 : ¬ ((n : Int) < 0) := by lia
  simp only [strSliceIndices, h2, h3, h4, if_true, if_false]
  rw [Int.min_eq_right h, Int.min_self]
theorem slice_to0 {l : List Nat} {j : Int} (h0 : 0 ≤ j) (h1 : j ≤ (l.length : Int)) : Txt.slice (ofL l) none (some j) = ofL (l.take j.toNat) := by
  have := beq_iff_eq.mp (slice_closes_toL (x := ofL l) (j := j) h0 (by rw [ofL_length]; exact h1))
  rw [this, ofL_cps]
  simp [ofL]
theorem slice_to {l : List Nat} {j : Int} (h0 : 0 ≤ j) : Txt.slice (ofL l) none (some j) = ofL (l.take j.toNat) := by
  by_cases h : j ≤ (l.length : Int)
  · exact slice_to0 h0 h
  · have e : Txt.slice (ofL l) none (some j) = Txt.slice (ofL l) none (some (l.length : Int)) := by
      unfold Txt.slice
      rw [ofL_length, idx_big (by lia)]
    rw [e, slice_to0 (by lia) (Int.le_refl _)]
    rw [List.take_of_length_le (i := j.toNat) (by lia)]
    congr 1
    exact List.take_of_length_le (by lia)
theorem slice_to_neg {l : List Nat} {j : Int} (h0 : j < 0) : Txt.slice (ofL l) none (some j) = ofL (l.take (j + l.length).toNat) := by
  have e : Txt.slice (ofL l) none (some j) = Txt.slice (ofL l) none (some (max 0 (j + l.length))) := by
    unfold Txt.slice
    rw [ofL_length, idx_neg h0]
  rw [e, slice_to (by lia)]
  congr 2
  lia
theorem slice_all {l : List Nat} : Txt.slice (ofL l) none none = ofL l := by
  unfold Txt.slice
  have : (strSliceIndices none none 1 (ofL l).length).length = (ofL l).length := by
    simp [strSliceIndices, sliceRange]
    lia
  rw [this]; simp
theorem item_at0 {l : List Nat} {i : Int} (h0 : 0 ≤ i) (h1 : i < (l.length : Int)) : Txt.item (ofL l) i = ofL [l.getD i.toNat 0] := by
  rw [item_at (x := ofL l) h0 (by rw [ofL_length]; exact h1) rfl]
  simp [ofL]
theorem item_neg {l : List Nat} {i : Int} (h0 : i < 0) (h1 : -(l.length : Int) ≤ i) : Txt.item (ofL l) i = ofL [l.getD (i + l.length).toNat 0] := by
  rw [beq_iff_eq.mp (item_closes_neg (x := ofL l) (j := i + l.length) h0 (by rw [ofL_length]; exact h1) (by rw [ofL_length]))]
  simp [ofL]

noncomputable def subN (c d : Nat) : Nat := if c = d then 0 else if Txt.lower (ofL [c]) = Txt.lower (ofL [d]) then 1 else 2
theorem subN_self (c : Nat) : subN c c = 0 := by simp [subN]
theorem subN_symm (c d : Nat) : subN c d = subN d c := by
  unfold subN
  by_cases h : c = d
  · subst h; rfl
  · rw [if_neg h, if_neg (Ne.symm h)]
    by_cases q : Txt.lower (ofL [c]) = Txt.lower (ofL [d])
    · rw [if_pos q, if_pos q.symm]
    · rw [if_neg q, if_neg (Ne.symm q)]
theorem subN_le (c d : Nat) : subN c d ≤ 2 := by unfold subN; split <;> (try split) <;> lia
noncomputable def subCost (c1 c2 : Str) : Int := if c1 = c2 then 0 else if Txt.lower c1 = Txt.lower c2 then 1 else 2
theorem subCost_eq (c d : Nat) : subCost (ofL [c]) (ofL [d]) = (subN c d : Int) := by
  unfold subCost subN
  by_cases h : c = d
  · subst h; simp
  · rw [if_neg h, if_neg (fun q => h (by have := ofL_inj.mp q; simpa using this))]
    split <;> rfl
end Mine
end

section
open PySem PySem.W PyProof.Rows PySem.Calls PyProof
set_option Elab.async false
set_option maxRecDepth 100000
set_option maxHeartbeats 8000000
set_option linter.unusedSimpArgs false
set_option linter.unusedVariables false
namespace Mine
example : True := by
  w_top off
  exact True.intro
local macro_rules | `(tactic| walk_at "idle 0") => `(tactic| skip)
example : (PySem.Challenge.rw_pe0171_01 = PySem.Challenge.rw_pe0171_01) ∧ hd.heap_1 = hd.heap_1 := by
  k_fill
  exact ⟨rfl, rfl⟩

theorem sub_spec {w : World} {dp un : Nat} {fr : Option (List Env)} {gd : Option (List Code)} {s : Shared} {p : Program} {loose : List Str} {mean : ExcName → Option Value} {mg mb : Str → Option Value} {c1 c2 : Str} {t1 t2 : Tok} {Q E : Value → Shared → Prop}
   (X : (hd.heap_1 w.params).In s.heap) (T : Top p loose mean mg mb s.heap) (hroom : dp < recursionLimit) (h1 : c1.length ≤ 100) (h2 : c2.length ≤ 100)
   (hQ : ∀ (t : Tok) (h' : Heap) (tk' : Nat), Keeps s.heap h' → Q (.int (subCost c1 c2) t) { s with heap := h', toks := tk' }) :
   wpAny (model theProg w) (Ar dp un fr gd) (PySem.call (.ref 81) [.str c1 t1, .str c2 t2]) Q E s := by
  k_dflt (refine' enter_raw X T.nolimit ?ho ?hcd hroom (BindsTo.of_eq (binds := [(Str.ofString "ch_a", .str c1 t1), (Str.ofString "ch_b", .str c2 t2)]) ?hbind)  (locs ?hloc) ?_ ?h1 ?h2 ?h3 ?hcell)
  case ho => k_is
  case hcd => k_is
  case hbind => exact rfl
  case hcell => decide
  case hloc => exact rfl
  case h1 => exact rfl
  case h2 => exact rfl
  case h3 => exact rfl
  k_dflt (intro L h₁ F' N')
  try dsimp only
  k_steps
  · have e : subCost c1 c2 = 0 := by simp_all [subCost]
    rw [e] at hQ
    exact hQ _ _ _ (Fr.keep ‹_›)
  · have e : subCost c1 c2 = 1 := by simp_all [subCost]
    rw [e] at hQ
    exact hQ _ _ _ (Fr.keep ‹_›)
  · have e : subCost c1 c2 = 2 := by simp_all [subCost]
    rw [e] at hQ
    exact hQ _ _ _ (Fr.keep ‹_›)

theorem sub_call {w : World} {dp un : Nat} {fr : Option (List Env)} {gd : Option (List Code)} {s : Shared} {p : Program} {loose : List Str} {mean : ExcName → Option Value} {mg mb : Str → Option Value} {h₀ : Heap} {L : Addr} {m : Str → Option Value} {news : List (Addr × Obj)} {c1 c2 : Str} {t1 t2 : Tok} {Q E : Value → Shared → Prop}
   (F : Fr h₀ L s.heap m) (N : News h₀ L s.heap news) (X : (hd.heap_1 w.params).In h₀) (T : Top p loose mean mg mb h₀) (hroom : dp < recursionLimit) (h1 : c1.length ≤ 100) (h2 : c2.length ≤ 100)
   (hQ : ∀ (t : Tok) (h' : Heap) (tk' : Nat), Fr h₀ L h' m → News h₀ L h' news → Q (.int (subCost c1 c2) t) { s with heap := h', toks := tk' }) :
   wpAny (model theProg w) (Ar dp un fr gd) (PySem.call (.ref 81) [.str c1 t1, .str c2 t2]) Q E s :=
  sub_spec (X.keeps F.keep) (T.keeps F.keep) hroom h1 h2 fun t h' tk k => hQ t h' tk (fr_on F k) (news_on N k)
end Mine
end

section
open PySem PySem.W PyProof.Rows PySem.Calls PyProof
set_option Elab.async false
set_option linter.unusedSimpArgs false
set_option linter.unusedVariables false
namespace Mine
theorem beq_item {x y : Str} (h : (x == y) = true) : x = y := by simpa using h
theorem drop_step {a b : List Nat} {k : Nat} (ha : k < a.length) (hb : k < b.length) (h : (Txt.item (ofL a) (k : Int) == Txt.item (ofL b) (k : Int)) = true) :
    D subN (a.drop (k + 1)) (b.drop (k + 1)) = D subN (a.drop k) (b.drop k) := by
  have e := beq_item h
  rw [item_at0 (by lia) (by lia), item_at0 (by lia) (by lia)] at e
  have e' := ofL_inj.mp e
  simp only [Int.toNat_natCast, List.cons.injEq, and_true] at e'
  rw [List.getD_eq_getElem?_getD, List.getD_eq_getElem?_getD, List.getElem?_eq_getElem ha, List.getElem?_eq_getElem hb] at e'
  simp only [Option.getD_some] at e'
  rw [List.drop_eq_getElem_cons ha, List.drop_eq_getElem_cons hb, e', D_same subN subN_self]
theorem take_step {a b : List Nat} {q : Nat} (ha : q < a.length) (hb : q < b.length) (h : (Txt.item (ofL a) (-(q : Int) - 1) == Txt.item (ofL b) (-(q : Int) - 1)) = true) :
    D subN (a.take (a.length - (q + 1))) (b.take (b.length - (q + 1))) = D subN (a.take (a.length - q)) (b.take (b.length - q)) := by
  have e := beq_item h
  rw [item_neg (by lia) (by lia), item_neg (by lia) (by lia)] at e
  have e' := ofL_inj.mp e
  simp only [List.cons.injEq, and_true] at e'
  have ea : (-(q : Int) - 1 + a.length).toNat = a.length - (q + 1) := by lia
  have eb : (-(q : Int) - 1 + b.length).toNat = b.length - (q + 1) := by lia
  have la : a.length - (q + 1) < a.length := by lia
  have lb : b.length - (q + 1) < b.length := by lia
  rw [ea, eb, List.getD_eq_getElem?_getD, List.getD_eq_getElem?_getD, List.getElem?_eq_getElem la, List.getElem?_eq_getElem lb] at e'
  simp only [Option.getD_some] at e'
  have ta : a.take (a.length - q) = a.take (a.length - (q + 1)) ++ [a[a.length - (q + 1)]] := by
    rw [show a.length - q = a.length - (q + 1) + 1 from by lia]; exact List.take_succ_eq_append_getElem la
  have tb : b.take (b.length - q) = b.take (b.length - (q + 1)) ++ [b[b.length - (q + 1)]] := by
    rw [show b.length - q = b.length - (q + 1) + 1 from by lia]; exact List.take_succ_eq_append_getElem lb
  rw [ta, tb, e', D_snoc_same subN subN_self]
theorem D_self (a : List Nat) : D subN a a = 0 := by have := D_app subN subN_self a [] []; simpa [D_nil_left] using this

/-- one cell of the table -/
theorem cell {α β : List Nat} {i j : Nat} (hi : i < β.length) (hj : j < α.length) {dist res r : Int}
    (hd : dist = D subN (β.take i) (α.take j)) (hr : res = if j = 0 then 2 * (i : Int) else D subN (β.take (i + 1)) (α.take j))
    (hrow : r = D subN (β.take i) (α.take (j + 1))) :
    (D subN (β.take (i + 1)) (α.take (j + 1)) : Int) = min (min res r + 2) (dist + subN (β.getD i 0) (α.getD j 0)) := by
  have e := D_snoc subN β[i] α[j] (β.take i) (α.take j)
  rw [← List.take_succ_eq_append_getElem hi, ← List.take_succ_eq_append_getElem hj] at e
  have g1 : β.getD i 0 = β[i] := by rw [List.getD_eq_getElem?_getD, List.getElem?_eq_getElem hi]; rfl
  have g2 : α.getD j 0 = α[j] := by rw [List.getD_eq_getElem?_getD, List.getElem?_eq_getElem hj]; rfl
  rw [g1, g2, hd, hrow, e]
  by_cases h0 : j = 0
  · subst h0
    rw [if_pos rfl] at hr
    have h1 : D subN (β.take i) (α.take 0) = 2 * i := by rw [List.take_zero, D_nil_right, List.length_take]; lia
    have h2 : D subN (β.take (i + 1)) (α.take 0) = 2 * (i + 1) := by rw [List.take_zero, D_nil_right, List.length_take]; lia
    have h3 := subN_le β[i] α[0]
    rw [h1] at *
    rw [h2] at *
    rw [hr]
    lia
  · rw [if_neg h0] at hr
    rw [hr]
    lia
/-- the early end is right -/
theorem early {α β : List Nat} {i : Nat} {mini mc : Int} (hi : i < β.length) (hα : α ≠ []) (h : ∀ j, 1 ≤ j → j ≤ α.length → mini ≤ D subN (β.take (i + 1)) (α.take j)) (hm : mc < mini) : mc < (D subN β α : Int) := by
  have hb : β.take (i + 1) ≠ [] := by intro q; have := congrArg List.length q; simp at this; rcases this with h | h <;> (try subst h) <;> simp at hi
  have := D_row subN subN_le (β.take (i + 1)) α mini.toNat (fun j h1 h2 => by have := h j h1 h2; lia) hα hb (β.drop (i + 1)) α.length (Nat.le_refl _)
  rw [List.take_append_drop, List.take_length] at this
  by_cases h0 : 0 ≤ mini
  · lia
  · lia
theorem minmin (x r res : Int) : (if x < (if r < res then r else res) + 2 then x else (if r < res then r else res) + 2) = min (min res r + 2) x := by
  split <;> split <;> lia
theorem getD_set_self {ns : List Int} {j : Nat} {d : Int} (h : j < ns.length) : (ns.set j d).getD j 0 = d := by
  simp [List.getD_eq_getElem?_getD, h]
theorem getD_set_ne {ns : List Int} {j k : Nat} {d : Int} (h : k ≠ j) : (ns.set j d).getD k 0 = ns.getD k 0 := by
  simp [List.getD_eq_getElem?_getD, List.getElem?_set, Ne.symm h]
theorem small_of {a b c : Int} (h0 : -1000 ≤ a) (h1 : a < 1000) (h2 : -1000 ≤ b) (h3 : b < 1000) (h4 : 0 < c) (h5 : c < 3) : Builtin.Range.small a b c = true := by
  have hc : c = 1 ∨ c = 2 := by lia
  unfold Builtin.Range.small Builtin.Range.rangeFitsLong Builtin.Range.rangeSize
  rcases hc with h | h <;> subst h <;> simp <;> split <;> lia
theorem size_two {n : Nat} (h : 1 ≤ n) : Builtin.Range.rangeSize 2 (2 * ((n : Int) + 1)) 2 = (n : Int) := by
  unfold Builtin.Range.rangeSize
  simp only [show (2 : Int) > 0 by decide, if_true]
  split <;> lia
theorem size_one {n : Nat} : Builtin.Range.rangeSize 0 (n : Int) 1 = (n : Int) := by
  unfold Builtin.Range.rangeSize
  simp only [show (1 : Int) > 0 by decide, if_true]
  split <;> lia
end Mine
end

local macro_rules | `(tactic| tb_start) => `(tactic| exact rfl)
local macro_rules | `(tactic| tb_rel) => `(tactic| first | (refine Mine.sub_of ?_; (repeat' (first | exact List.Sublist.refl _ | refine List.Sublist.cons_cons _ ?_ | refine List.Sublist.cons _ ?_)); done) | (repeat' (first | exact List.forall_mem_nil _ | (refine List.forall_mem_cons.mpr ⟨by k_mem, ?_⟩))))
section
local macro_rules | `(tactic| omega) => `(tactic| lia)
section
open PySem PySem.W PyProof.Rows PySem.Calls PyProof
set_option Elab.async false
set_option maxRecDepth 100000
set_option maxHeartbeats 8000000
set_option linter.unusedSimpArgs false
set_option linter.unusedVariables false
namespace Mine
example : True := by
  w_top off
  exact True.intro
example : (PySem.Challenge.rw_pe0171_01 = PySem.Challenge.rw_pe0171_01) ∧ hd.heap_1 = hd.heap_1 := by
  k_fill
  exact ⟨rfl, rfl⟩

set_option pp.deepTerms false
set_option pp.maxSteps 1000
-- names of the frame; ledger; distinct

local macro_rules | `(tactic| walk_at "subscriptTail Name Slice str ref") => `(tactic| ((with_reducible show wpAny _ _ (subscriptTail _ (Expr.Slice none (some (Expr.BoolOp _ _ _)) none _) _ _) _ _ _); (with_reducible rename Fr _ _ _ _ => F'); (with_reducible rename News _ _ _ _ => N'); refine slice_strN_nn_len (s := ⟨_, _, _, _, _⟩) F' N' ?_; intro _ _ _ _ _ _; (try dsimp only)))

local macro_rules | `(tactic| walk_at "ite") => `(tactic| first
  | (refine ite_pos (by (try simp only [bne_iff_ne, ne_eq, decide_eq_true_eq, beq_iff_eq, Bool.not_eq_true', decide_eq_false_iff_not, bne_eq_false_iff_eq]); omega) ?_)
  | (refine ite_neg (by (try simp only [bne_iff_ne, ne_eq, decide_eq_true_eq, beq_iff_eq, Bool.not_eq_true', decide_eq_false_iff_not, bne_eq_false_iff_eq]); omega) ?_))

structure InS where
  vs : List Value
  ns : List Int
  ep : Nat
  dist : Int
  res : Int
  mini : Int
  td : Tok
  tr : Tok
  tm : Tok

local macro_rules | `(tactic| walk_at "call ref") => `(tactic| ((with_reducible show wpAny _ _ (PySem.call (Value.ref 81) _) _ _ _); k_dflt (refine sub_call (by k_asm) (by k_asm) (by k_asm) (by k_asm) (by simp only [depth_deeper]; omega) (by omega) (by omega) ?_); intro _ _ _ _ _; (try dsimp only)))

theorem lev_spec {w : World} {dp un : Nat} {fr : Option (List Env)} {gd : Option (List Code)} {s : Shared} {p : Program} {loose : List Str} {mean : ExcName → Option Value} {mg mb : Str → Option Value} {a b : List Nat} {mc : Int} {t1 t2 t3 : Tok} {Q E : Value → Shared → Prop}
   (X : (hd.heap_1 w.params).In s.heap) (T : Top p loose mean mg mb s.heap) (hroom : dp + 1 < recursionLimit) (h1 : a.length ≤ 4) (h2 : b.length ≤ 4)
   (hQ : ∀ (i : Int) (t : Tok) (h' : Heap) (tk' : Nat), Keeps s.heap h' → (i ≤ mc ↔ (D subN a b : Int) ≤ mc) → Q (.int i t) { s with heap := h', toks := tk' }) :
   wpAny (model theProg w) (Ar dp un fr gd) (PySem.call (.ref 88) [.str (ofL a) t1, .str (ofL b) t2, .int mc t3]) Q E s := by
  k_dflt (refine' enter_raw X T.nolimit ?ho ?hcd (Nat.lt_of_succ_lt hroom) (BindsTo.of_eq (binds := [(Str.ofString "a", .str (ofL a) t1), (Str.ofString "b", .str (ofL b) t2), (Str.ofString "max_cost", .int mc t3)]) ?hbind)  (locs ?hloc) ?_ ?h1 ?h2 ?h3 ?hcell)
  case ho => k_is
  case hcd => k_is
  case hbind => exact rfl
  case hcell => decide
  case hloc => exact rfl
  case h1 => exact rfl
  case h2 => exact rfl
  case h3 => exact rfl
  k_dflt (intro L h₁ F' N')
  try dsimp only
  have lA := ofL_length a
  have lB := ofL_length b
  -- if a == b: return 0; pre = 0
  refine cut_at 2 (R := fun s' => ∃ t, At s s.heap L [(Str.ofString "pre", .int 0 t), (Str.ofString "a", .str (ofL a) t1), (Str.ofString "b", .str (ofL b) t2), (Str.ofString "max_cost", .int mc t3)] [] s') ?_ ?_
  · refine hide fun Qc1 Hc1 => ?_
    simp only [List.take_succ_cons, List.take_zero]
    k_steps
    all_goals (repeat (first | refine Hc1.out _ _ ?_))
    all_goals (try ((try dsimp only); (with_reducible refine wpAny_execs_nil ?_); (repeat (first | refine Hc1.out _ _ ?_))))
    · -- the return
      have e : a = b := by simpa [ofL_beq] using ‹(ofL a == ofL b) = true›
      subst e
      exact hQ _ _ _ _ (Fr.keep ‹_›) (by rw [D_self]; simp)
    · exact ⟨_, at_intro (by k_asm) (by k_asm) (by tb_start) (by tb_rel) (by simp)⟩
  rintro s' ⟨t, hAt⟩
  simp only [List.drop_succ_cons, List.drop_zero]
  clear F' N' h₁
  -- while ..: pre += 1
  refine cut_at 1 (R := fun s' => ∃ (k : Nat) (t : Tok), D subN (a.drop k) (b.drop k) = D subN a b ∧ At s s.heap L [(Str.ofString "pre", .int k t), (Str.ofString "a", .str (ofL a) t1), (Str.ofString "b", .str (ofL b) t2), (Str.ofString "max_cost", .int mc t3)] [] s') ?_ ?_
  · refine hide fun Qc2 Hc2 => ?_
    simp only [List.take_succ_cons, List.take_zero]
    refine wpAny_execs_cons ?_
    refine while_hd (σ := Nat × Tok) (fun c => a.length - c.1) (fun c => [(Str.ofString "pre", .int c.1 c.2), (Str.ofString "a", .str (ofL a) t1), (Str.ofString "b", .str (ofL b) t2), (Str.ofString "max_cost", .int mc t3)]) (fun _ => [])
       (fun c => c.1 ≤ a.length ∧ c.1 ≤ b.length ∧ D subN (a.drop c.1) (b.drop c.1) = D subN a b) (0, t) ⟨Nat.zero_le _, Nat.zero_le _, rfl⟩ hAt ?_
    rintro ⟨k, tk⟩ h tk' m hp9 F N _ Qt3 Ht3
    refine small fun Gx hGx => ?_
    obtain ⟨hka, hkb, hD⟩ := hp9
    refine hGx ?_
    clear hGx Gx
    dsimp only at F N ⊢
    have la : (Txt.slice (ofL a) (some (k : Int)) none).length = a.length - k := by rw [slice_from (by omega), ofL_length]; simp
    have lb : (Txt.slice (ofL b) (some (k : Int)) none).length = b.length - k := by rw [slice_from (by omega), ofL_length]; simp
    k_steps
    all_goals (repeat (first | refine Ht3.out _ _ ?_ | refine Hc2.out _ _ ?_ | refine Hc1.out _ _ ?_))
    all_goals (try ((try dsimp only); (with_reducible refine wpAny_execs_nil ?_); (repeat (first | refine Ht3.out _ _ ?_ | refine Hc2.out _ _ ?_ | refine Hc1.out _ _ ?_))))
    · refine ⟨(k + 1, _), by omega, ⟨by omega, by omega, ?_⟩, at_intro (by k_asm) (by k_asm) (by tb_start) (by tb_rel) (by simp)⟩
      rw [drop_step (by omega) (by omega) (by assumption)]; exact hD
    all_goals exact ⟨k, _, hD, at_intro (by k_asm) (by k_asm) (by tb_start) (by tb_rel) (by simp)⟩
  clear hAt t s'
  intro s' hs9
  refine small fun Gx hGx => ?_
  obtain ⟨k, t, hD, hAt⟩ := hs9
  refine hGx ?_
  clear hGx Gx
  simp only [List.drop_succ_cons, List.drop_zero]
  -- a = a[pre:]; b = b[pre:]; post = 0
  refine cut_at 3 (R := fun s' => ∃ (a1 b1 : List Nat) (t t1 t2 : Tok), a1.length ≤ 4 ∧ b1.length ≤ 4 ∧ D subN a1 b1 = D subN a b ∧ At s s.heap L [(Str.ofString "post", .int 0 t), (Str.ofString "a", .str (ofL a1) t1), (Str.ofString "b", .str (ofL b1) t2), (Str.ofString "max_cost", .int mc t3)] [] s') ?_ ?_
  · refine small fun Gx hGx => ?_
    obtain ⟨h, tk, m, rfl, F, N, _⟩ := hAt
    refine hGx ?_
    clear hGx Gx
    refine hide fun Qc4 Hc4 => ?_
    simp only [List.take_succ_cons, List.take_zero]
    have ea := slice_from (l := a) (i := (k : Int)) (by omega)
    have eb := slice_from (l := b) (i := (k : Int)) (by omega)
    k_steps
    all_goals (repeat (first | refine Hc4.out _ _ ?_ | refine Ht3.out _ _ ?_ | refine Hc2.out _ _ ?_ | refine Hc1.out _ _ ?_))
    all_goals (try ((try dsimp only); (with_reducible refine wpAny_execs_nil ?_); (repeat (first | refine Hc4.out _ _ ?_ | refine Ht3.out _ _ ?_ | refine Hc2.out _ _ ?_ | refine Hc1.out _ _ ?_))))
    simp only [ea, eb, Int.toNat_natCast] at *
    exact ⟨a.drop k, b.drop k, _, _, _, by simp; omega, by simp; omega, hD, at_intro (by k_asm) (by k_asm) (by tb_start) (by tb_rel) (by simp)⟩
  clear hD hAt lA lB h1 h2 k t t1 t2 s'
  intro s' hs9
  refine small fun Gx hGx => ?_
  obtain ⟨a1, b1, t, t1, t2, la1, lb1, hD, hAt⟩ := hs9
  refine hGx ?_
  clear hGx Gx
  have lA1 := ofL_length a1
  have lB1 := ofL_length b1
  simp only [List.drop_succ_cons, List.drop_zero]
  -- while ..: post -= 1
  refine cut_at 1 (R := fun s' => ∃ (z : Int) (q : Nat) (t : Tok), z = -(q : Int) ∧ q ≤ a1.length ∧ q ≤ b1.length ∧ D subN (a1.take (a1.length - q)) (b1.take (b1.length - q)) = D subN a b ∧ At s s.heap L [(Str.ofString "post", .int z t), (Str.ofString "a", .str (ofL a1) t1), (Str.ofString "b", .str (ofL b1) t2), (Str.ofString "max_cost", .int mc t3)] [] s') ?_ ?_
  · refine hide fun Qc5 Hc5 => ?_
    simp only [List.take_succ_cons, List.take_zero]
    refine wpAny_execs_cons ?_
    refine while_hd (σ := Int × Tok) (fun c => (c.1 + a1.length).toNat) (fun c => [(Str.ofString "post", .int c.1 c.2), (Str.ofString "a", .str (ofL a1) t1), (Str.ofString "b", .str (ofL b1) t2), (Str.ofString "max_cost", .int mc t3)]) (fun _ => [])
       (fun c => ∃ q : Nat, c.1 = -(q : Int) ∧ q ≤ a1.length ∧ q ≤ b1.length ∧ D subN (a1.take (a1.length - q)) (b1.take (b1.length - q)) = D subN a b) (0, t) ⟨0, rfl, Nat.zero_le _, Nat.zero_le _, by simpa using hD⟩ hAt ?_
    rintro ⟨z, tk⟩ h tk' m hp9 F N _ Qt6 Ht6
    refine small fun Gx hGx => ?_
    obtain ⟨q, hz, hka, hkb, hD⟩ := hp9
    refine hGx ?_
    clear hGx Gx
    clear hAt t
    dsimp only at F N hz ⊢
    by_cases hq : z = 0
    · subst hq
      have la0 : (Txt.slice (ofL a1) none none).length = a1.length := by rw [slice_all, ofL_length]
      have lb0 : (Txt.slice (ofL b1) none none).length = b1.length := by rw [slice_all, ofL_length]
      obtain rfl : q = 0 := by omega
      k_steps
      all_goals (repeat (first | refine Ht6.out _ _ ?_ | refine Hc5.out _ _ ?_ | refine Hc4.out _ _ ?_ | refine Ht3.out _ _ ?_ | refine Hc2.out _ _ ?_ | refine Hc1.out _ _ ?_))
      all_goals (try ((try dsimp only); (with_reducible refine wpAny_execs_nil ?_); (repeat (first | refine Ht6.out _ _ ?_ | refine Hc5.out _ _ ?_ | refine Hc4.out _ _ ?_ | refine Ht3.out _ _ ?_ | refine Hc2.out _ _ ?_ | refine Hc1.out _ _ ?_))))
      · refine ⟨(0 - 1, _), by dsimp only; omega, ⟨0 + 1, by rfl, by omega, by omega, ?_⟩, at_intro (by k_asm) (by k_asm) (by tb_start) (by tb_rel) (by simp)⟩
        rw [take_step (by omega) (by omega) (by assumption)]; exact hD
      all_goals exact ⟨0, 0, _, by decide, by omega, by omega, hD, at_intro (by k_asm) (by k_asm) (by tb_start) (by tb_rel) (by simp)⟩
    · have la : (Txt.slice (ofL a1) none (some z)).length = a1.length - q := by rw [slice_to_neg (by omega), ofL_length, List.length_take]; omega
      have lb : (Txt.slice (ofL b1) none (some z)).length = b1.length - q := by rw [slice_to_neg (by omega), ofL_length, List.length_take]; omega
      k_steps
      all_goals (repeat (first | refine Ht6.out _ _ ?_ | refine Hc5.out _ _ ?_ | refine Hc4.out _ _ ?_ | refine Ht3.out _ _ ?_ | refine Hc2.out _ _ ?_ | refine Hc1.out _ _ ?_))
      all_goals (try ((try dsimp only); (with_reducible refine wpAny_execs_nil ?_); (repeat (first | refine Ht6.out _ _ ?_ | refine Hc5.out _ _ ?_ | refine Hc4.out _ _ ?_ | refine Ht3.out _ _ ?_ | refine Hc2.out _ _ ?_ | refine Hc1.out _ _ ?_))))
      · refine ⟨(z - 1, _), by dsimp only; omega, ⟨q + 1, by dsimp only; omega, by omega, by omega, ?_⟩, at_intro (by k_asm) (by k_asm) (by tb_start) (by tb_rel) (by simp)⟩
        subst hz
        rw [take_step (by omega) (by omega) (by assumption)]; exact hD
      all_goals exact ⟨z, q, _, hz, hka, hkb, hD, at_intro (by k_asm) (by k_asm) (by tb_start) (by tb_rel) (by simp)⟩
  clear hAt hD t s'
  intro s' hs9
  refine small fun Gx hGx => ?_
  obtain ⟨z, q, t, hz, hq1, hq2, hD, hAt⟩ := hs9
  refine hGx ?_
  clear hGx Gx
  simp only [List.drop_succ_cons, List.drop_zero]
  -- a = a[:post or None]; b = b[:post or None]
  refine cut_at 2 (R := fun s' => ∃ (t1 t2 : Tok), At s s.heap L [(Str.ofString "a", .str (ofL (a1.take (a1.length - q))) t1), (Str.ofString "b", .str (ofL (b1.take (b1.length - q))) t2), (Str.ofString "max_cost", .int mc t3)] [] s') ?_ ?_
  · refine small fun Gx hGx => ?_
    obtain ⟨h, tk, m, rfl, F, N, _⟩ := hAt
    refine hGx ?_
    clear hGx Gx
    refine hide fun Qc7 Hc7 => ?_
    simp only [List.take_succ_cons, List.take_zero]
    by_cases hq : z = 0
    · subst hq
      obtain rfl : q = 0 := by omega
      k_steps
      all_goals (repeat (first | refine Hc7.out _ _ ?_ | refine Ht6.out _ _ ?_ | refine Hc5.out _ _ ?_ | refine Hc4.out _ _ ?_ | refine Ht3.out _ _ ?_ | refine Hc2.out _ _ ?_ | refine Hc1.out _ _ ?_))
      all_goals (try ((try dsimp only); (with_reducible refine wpAny_execs_nil ?_); (repeat (first | refine Hc7.out _ _ ?_ | refine Ht6.out _ _ ?_ | refine Hc5.out _ _ ?_ | refine Hc4.out _ _ ?_ | refine Ht3.out _ _ ?_ | refine Hc2.out _ _ ?_ | refine Hc1.out _ _ ?_))))
      simp only [slice_all] at *
      simp only [Nat.sub_zero, List.take_length]
      exact ⟨_, _, at_intro (by k_asm) (by k_asm) (by tb_start) (by tb_rel) (by simp)⟩
    · have ea : Txt.slice (ofL a1) none (some z) = ofL (a1.take (a1.length - q)) := by rw [slice_to_neg (by omega)]; congr 2; omega
      have eb : Txt.slice (ofL b1) none (some z) = ofL (b1.take (b1.length - q)) := by rw [slice_to_neg (by omega)]; congr 2; omega
      k_steps
      all_goals (repeat (first | refine Hc7.out _ _ ?_ | refine Ht6.out _ _ ?_ | refine Hc5.out _ _ ?_ | refine Hc4.out _ _ ?_ | refine Ht3.out _ _ ?_ | refine Hc2.out _ _ ?_ | refine Hc1.out _ _ ?_))
      all_goals (try ((try dsimp only); (with_reducible refine wpAny_execs_nil ?_); (repeat (first | refine Hc7.out _ _ ?_ | refine Ht6.out _ _ ?_ | refine Hc5.out _ _ ?_ | refine Hc4.out _ _ ?_ | refine Ht3.out _ _ ?_ | refine Hc2.out _ _ ?_ | refine Hc1.out _ _ ?_))))
      simp only [ea, eb] at *
      exact ⟨_, _, at_intro (by k_asm) (by k_asm) (by tb_start) (by tb_rel) (by simp)⟩
  clear hAt t t1 t2 s'
  intro s' hs9
  refine small fun Gx hGx => ?_
  obtain ⟨t1, t2, hAt⟩ := hs9
  refine hGx ?_
  clear hGx Gx
  simp only [List.drop_succ_cons, List.drop_zero]
  generalize ha2 : a1.take (a1.length - q) = a2 at *
  generalize hb2 : b1.take (b1.length - q) = b2 at *
  have la2 : a2.length ≤ 4 := by rw [← ha2, List.length_take]; omega
  have lb2 : b2.length ≤ 4 := by rw [← hb2, List.length_take]; omega
  clear ha2 hb2 hz hq1 hq2 lA1 lB1 la1 lb1 a1 b1 q z
  have lA2 := ofL_length a2
  have lB2 := ofL_length b2
  -- the plain cases; the shorter one first
  refine cut_at 4 (R := fun s' => ∃ (α β : List Nat) (t1 t2 : Tok), 1 ≤ α.length ∧ α.length ≤ β.length ∧ β.length ≤ 4 ∧ D subN β α = D subN a b ∧ At s s.heap L [(Str.ofString "a", .str (ofL α) t1), (Str.ofString "b", .str (ofL β) t2), (Str.ofString "max_cost", .int mc t3)] [] s') ?_ ?_
  · refine small fun Gx hGx => ?_
    obtain ⟨h, tk, m, rfl, F, N, _⟩ := hAt
    refine hGx ?_
    clear hGx Gx
    refine hide fun Qc8 Hc8 => ?_
    simp only [List.take_succ_cons, List.take_zero]
    have hlen := D_len subN a2 b2
    k_steps
    all_goals (repeat (first | refine Hc8.out _ _ ?_ | refine Hc7.out _ _ ?_ | refine Ht6.out _ _ ?_ | refine Hc5.out _ _ ?_ | refine Hc4.out _ _ ?_ | refine Ht3.out _ _ ?_ | refine Hc2.out _ _ ?_ | refine Hc1.out _ _ ?_))
    all_goals (try ((try dsimp only); (with_reducible refine wpAny_execs_nil ?_); (repeat (first | refine Hc8.out _ _ ?_ | refine Hc7.out _ _ ?_ | refine Ht6.out _ _ ?_ | refine Hc5.out _ _ ?_ | refine Hc4.out _ _ ?_ | refine Ht3.out _ _ ?_ | refine Hc2.out _ _ ?_ | refine Hc1.out _ _ ?_))))
    · exact hQ _ _ _ _ (Fr.keep ‹_›) (by rw [← hD]; omega)
    · exact ⟨b2, a2, _, _, by omega, by omega, by omega, hD, at_intro (by k_asm) (by k_asm) (by tb_start) (by tb_rel) (by simp)⟩
    · exact hQ _ _ _ _ (Fr.keep ‹_›) (by rw [← hD]; omega)
    · exact ⟨a2, b2, _, _, by omega, by omega, by omega, (D_symm subN subN_symm b2 a2).trans hD, at_intro (by k_asm) (by k_asm) (by tb_start) (by tb_rel) (by simp)⟩
    · have e : b2 = [] := List.eq_nil_of_length_eq_zero (by omega)
      subst e
      exact hQ _ _ _ _ (Fr.keep ‹_›) (by rw [← hD, D_nil_right, lA2]; simp [ofL_length])
    · have e : a2 = [] := List.eq_nil_of_length_eq_zero (by omega)
      subst e
      exact hQ _ _ _ _ (Fr.keep ‹_›) (by rw [← hD, D_nil_left, lB2]; simp [ofL_length])
  clear hAt hD lA2 lB2 la2 lb2 a2 b2 t1 t2 s'
  intro s' hs9
  refine small fun Gx hGx => ?_
  obtain ⟨α, β, t1, t2, hα, hαβ, hβ, hD, hAt⟩ := hs9
  refine hGx ?_
  clear hGx Gx
  have lA := ofL_length α
  have lB := ofL_length β
  simp only [List.drop_succ_cons, List.drop_zero]
  -- row = list(range(..)); result = 0
  refine cut_at 2 (R := fun s' => ∃ (row : Addr) (vs : List Value) (ns : List Int) (ep : Nat) (tr : Tok), IntsAre vs ns ∧ ns = rangeL 2 2 α.length ∧ At s s.heap L [(Str.ofString "row", .ref row), (Str.ofString "result", .int 0 tr), (Str.ofString "a", .str (ofL α) t1), (Str.ofString "b", .str (ofL β) t2), (Str.ofString "max_cost", .int mc t3)] [(row, listOf vs.toArray ep)] s') ?_ ?_
  · refine small fun Gx hGx => ?_
    obtain ⟨h, tk, m, rfl, F, N, _⟩ := hAt
    refine hGx ?_
    clear hGx Gx
    refine hide fun Qc9 Hc9 => ?_
    simp only [List.take_succ_cons, List.take_zero]
    k_steps
    all_goals (repeat (first | refine Hc9.out _ _ ?_ | refine Hc8.out _ _ ?_ | refine Hc7.out _ _ ?_ | refine Ht6.out _ _ ?_ | refine Hc5.out _ _ ?_ | refine Hc4.out _ _ ?_ | refine Ht3.out _ _ ?_ | refine Hc2.out _ _ ?_))
    all_goals (try ((try dsimp only); (with_reducible refine wpAny_execs_nil ?_); (repeat (first | refine Hc9.out _ _ ?_ | refine Hc8.out _ _ ?_ | refine Hc7.out _ _ ?_ | refine Ht6.out _ _ ?_ | refine Hc5.out _ _ ?_ | refine Hc4.out _ _ ?_ | refine Ht3.out _ _ ?_ | refine Hc2.out _ _ ?_))))
    k_dflt (refine list_range_K α.length rfl (by k_asm) (by k_asm) (by assumption) ?_ ?_ (by omega) ?_)
    · exact small_of (by omega) (by omega) (by omega) (by omega) (by omega) (by omega)
    · rw [lA]; exact size_two hα
    intro l h' tk' vs ep F' N' hl hi
    k_steps
    all_goals (repeat (first | refine Hc9.out _ _ ?_ | refine Hc8.out _ _ ?_ | refine Hc7.out _ _ ?_ | refine Ht6.out _ _ ?_ | refine Hc5.out _ _ ?_ | refine Hc4.out _ _ ?_ | refine Ht3.out _ _ ?_ | refine Hc2.out _ _ ?_))
    all_goals (try ((try dsimp only); (with_reducible refine wpAny_execs_nil ?_); (repeat (first | refine Hc9.out _ _ ?_ | refine Hc8.out _ _ ?_ | refine Hc7.out _ _ ?_ | refine Ht6.out _ _ ?_ | refine Hc5.out _ _ ?_ | refine Hc4.out _ _ ?_ | refine Ht3.out _ _ ?_ | refine Hc2.out _ _ ?_))))
    exact ⟨_, vs, _, ep, _, hi, rfl, at_intro (by k_asm) (by k_asm) (by tb_start) (by tb_rel) (by simp)⟩
  clear hAt s'
  intro s' hs9
  refine small fun Gx hGx => ?_
  obtain ⟨row, vs, ns, ep, tr, hi, hns, hAt⟩ := hs9
  refine hGx ?_
  clear hGx Gx
  simp only [List.drop_succ_cons, List.drop_zero]
  -- for bindex in range(len(b)): ..
  refine cut_at 1 (R := fun s' => ∃ (r : Int) (tr : Tok) (news : List (Addr × Obj)), r = D subN a b ∧ At s s.heap L [(Str.ofString "result", .int r tr)] news s') ?_ ?_
  · refine hide fun Qc10 Hc10 => ?_
    simp only [List.take_succ_cons, List.take_zero]
    refine wpAny_execs_cons ?_
    refine for_range (s := s) (h₀ := s.heap) (L := L) (σ := List Value × List Int × Nat × Int × Tok) 0 β.length
      (fun c => [(Str.ofString "row", .ref row), (Str.ofString "result", .int c.2.2.2.1 c.2.2.2.2), (Str.ofString "a", .str (ofL α) t1), (Str.ofString "b", .str (ofL β) t2), (Str.ofString "max_cost", .int mc t3)])
      (fun c => [(row, listOf c.1.toArray c.2.2.1)])
      (fun i c => IntsAre c.1 c.2.1 ∧ c.2.1.length = α.length ∧ (∀ j, j < α.length → c.2.1.getD j 0 = D subN (β.take i) (α.take (j + 1))) ∧ (1 ≤ i → c.2.2.2.1 = D subN (β.take i) α))
      rfl rfl rfl rfl ?_ ?_ ?_
    · refine small fun Gx hGx => ?_
      obtain ⟨h, tk, m, rfl, F, N, _⟩ := hAt
      refine hGx ?_
      clear hGx Gx
      k_steps
      all_goals (repeat (first | refine Hc10.out _ _ ?_ | refine Hc9.out _ _ ?_ | refine Hc8.out _ _ ?_ | refine Hc7.out _ _ ?_ | refine Ht6.out _ _ ?_ | refine Hc5.out _ _ ?_ | refine Hc4.out _ _ ?_ | refine Ht3.out _ _ ?_))
      all_goals (try ((try dsimp only); (with_reducible refine wpAny_execs_nil ?_); (repeat (first | refine Hc10.out _ _ ?_ | refine Hc9.out _ _ ?_ | refine Hc8.out _ _ ?_ | refine Hc7.out _ _ ?_ | refine Ht6.out _ _ ?_ | refine Hc5.out _ _ ?_ | refine Hc4.out _ _ ?_ | refine Ht3.out _ _ ?_))))
      rw [lB] at *
      refine ⟨_, _, _, _, _, rfl, by assumption, small_of (by omega) (by omega) (by omega) (by omega) (by omega) (by omega), size_one, (vs, ns, ep, 0, tr), ⟨hi, ?_, ?_, fun h => absurd h (by decide)⟩, at_intro (by k_asm) (by k_asm) (by tb_start) (by tb_rel) (by simp)⟩
      · rw [hns]; simp [rangeL]
      · intro j hj
        dsimp only
        rw [hns, List.take_zero, D_nil_left, List.length_take]
        simp [rangeL, hj]; omega
    · clear hAt hi hns vs ns ep tr
      rintro i ⟨vs, ns, ep, res, tr⟩ it h tk m t hi hp9 F N nd
      refine small fun Gx hGx => ?_
      obtain ⟨hints, hlen, hrow, hres⟩ := hp9
      refine hGx ?_
      clear hGx Gx
      dsimp only at hints hlen hrow hres F N nd ⊢
      refine hide fun Qt11 Ht11 => ?_
      simp only [List.map_cons, List.map_nil, List.nodup_cons, List.mem_cons, List.not_mem_nil, or_false, not_false_eq_true, List.nodup_nil, and_true] at nd
      -- bchar = b[bindex]; distance = result = bindex * _MOVE_COST; minimum = ..
      refine cut_at 3 (R := fun s' => ∃ tb td tm, At s s.heap L [(Str.ofString "bchar", .str (Txt.item (ofL β) (0 + (i : Int))) tb), (Str.ofString "distance", .int ((0 + (i : Int)) * 2) td), (Str.ofString "result", .int ((0 + (i : Int)) * 2) td), (Str.ofString "minimum", .int 9223372036854775807 tm),
          (Str.ofString "row", .ref row), (Str.ofString "a", .str (ofL α) t1), (Str.ofString "b", .str (ofL β) t2), (Str.ofString "max_cost", .int mc t3)] [(it, rangeIt (0 + (i : Int) + 1) ((β.length : Int) - (i : Int) - 1) 1), (row, listOf vs.toArray ep)] s') ?_ ?_
      · refine hide fun Qc12 Hc12 => ?_
        simp only [List.take_succ_cons, List.take_zero]
        k_steps
        all_goals (repeat (first | refine Hc12.out _ _ ?_ | refine Ht11.out _ _ ?_ | refine Hc10.out _ _ ?_ | refine Hc9.out _ _ ?_ | refine Hc8.out _ _ ?_ | refine Hc7.out _ _ ?_ | refine Ht6.out _ _ ?_ | refine Hc5.out _ _ ?_))
        all_goals (try ((try dsimp only); (with_reducible refine wpAny_execs_nil ?_); (repeat (first | refine Hc12.out _ _ ?_ | refine Ht11.out _ _ ?_ | refine Hc10.out _ _ ?_ | refine Hc9.out _ _ ?_ | refine Hc8.out _ _ ?_ | refine Hc7.out _ _ ?_ | refine Ht6.out _ _ ?_ | refine Hc5.out _ _ ?_))))
        exact ⟨_, _, _, at_intro (by k_asm) (by k_asm) (by tb_start) (by tb_rel) (by simp; omega)⟩
      clear F N m h tk
      intro s1 hs9
      refine small fun Gx hGx => ?_
      obtain ⟨tb, td, tm, hAt⟩ := hs9
      refine hGx ?_
      clear hGx Gx
      simp only [List.drop_succ_cons, List.drop_zero]
      -- for index in range(len(a)): ..
      refine cut_at 1 (R := fun s' => ∃ (c : InS), IntsAre c.vs c.ns ∧ c.ns.length = α.length ∧ (∀ j, j < α.length → c.ns.getD j 0 = D subN (β.take (i + 1)) (α.take (j + 1))) ∧ c.res = D subN (β.take (i + 1)) α ∧ (∀ j, 1 ≤ j → j ≤ α.length → c.mini ≤ D subN (β.take (i + 1)) (α.take j)) ∧
          At s s.heap L [(Str.ofString "result", .int c.res c.tr), (Str.ofString "minimum", .int c.mini c.tm), (Str.ofString "row", .ref row), (Str.ofString "a", .str (ofL α) t1), (Str.ofString "b", .str (ofL β) t2), (Str.ofString "max_cost", .int mc t3)] [(it, rangeIt (0 + (i : Int) + 1) ((β.length : Int) - (i : Int) - 1) 1), (row, listOf c.vs.toArray c.ep)] s') ?_ ?_
      · refine hide fun Qc13 Hc13 => ?_
        simp only [List.take_succ_cons, List.take_zero]
        refine wpAny_execs_cons ?_
        refine for_range (s := s) (h₀ := s.heap) (L := L) (σ := InS) 0 α.length
          (fun c => [(Str.ofString "bchar", .str (Txt.item (ofL β) (0 + (i : Int))) tb), (Str.ofString "distance", .int c.dist c.td), (Str.ofString "result", .int c.res c.tr), (Str.ofString "minimum", .int c.mini c.tm), (Str.ofString "row", .ref row), (Str.ofString "a", .str (ofL α) t1), (Str.ofString "b", .str (ofL β) t2), (Str.ofString "max_cost", .int mc t3)])
          (fun c => [(it, rangeIt (0 + (i : Int) + 1) ((β.length : Int) - (i : Int) - 1) 1), (row, listOf c.vs.toArray c.ep)])
          (fun j c => IntsAre c.vs c.ns ∧ c.ns.length = α.length ∧ (∀ k, k < j → c.ns.getD k 0 = D subN (β.take (i + 1)) (α.take (k + 1))) ∧ (∀ k, j ≤ k → k < α.length → c.ns.getD k 0 = D subN (β.take i) (α.take (k + 1))) ∧
             c.dist = D subN (β.take i) (α.take j) ∧ c.res = (if j = 0 then 2 * (i : Int) else D subN (β.take (i + 1)) (α.take j)) ∧ (∀ k, 1 ≤ k → k ≤ j → c.mini ≤ D subN (β.take (i + 1)) (α.take k)))
          rfl rfl rfl rfl ?_ ?_ ?_
        · refine small fun Gx hGx => ?_
          obtain ⟨h, tk, m, rfl, F, N, _⟩ := hAt
          refine hGx ?_
          clear hGx Gx
          k_steps
          all_goals (repeat (first | refine Hc13.out _ _ ?_ | refine Hc12.out _ _ ?_ | refine Ht11.out _ _ ?_ | refine Hc10.out _ _ ?_ | refine Hc9.out _ _ ?_ | refine Hc8.out _ _ ?_ | refine Hc7.out _ _ ?_ | refine Ht6.out _ _ ?_))
          all_goals (try ((try dsimp only); (with_reducible refine wpAny_execs_nil ?_); (repeat (first | refine Hc13.out _ _ ?_ | refine Hc12.out _ _ ?_ | refine Ht11.out _ _ ?_ | refine Hc10.out _ _ ?_ | refine Hc9.out _ _ ?_ | refine Hc8.out _ _ ?_ | refine Hc7.out _ _ ?_ | refine Ht6.out _ _ ?_))))
          rw [lA] at *
          refine ⟨_, _, _, _, _, rfl, by assumption, small_of (by omega) (by omega) (by omega) (by omega) (by omega) (by omega), size_one, ⟨vs, ns, ep, (0 + (i : Int)) * 2, (0 + (i : Int)) * 2, 9223372036854775807, td, td, tm⟩, ⟨hints, hlen, ?_, ?_, ?_, ?_, ?_⟩, at_intro (by k_asm) (by k_asm) (by tb_start) (by tb_rel) (by simp; omega)⟩
          · intro k hk; exact absurd hk (Nat.not_lt_zero _)
          · intro k _ hk; exact hrow k hk
          · dsimp only; rw [List.take_zero, D_nil_right, List.length_take]; omega
          · simp; omega
          · intro k h1 h2; omega
        · clear hAt hints hlen hrow hres vs ns ep res tr
          rintro j ⟨vs, ns, ep, dist, res, mini, td, tr, tm⟩ it2 h tk m t hj hp9 F N nd2
          refine small fun Gx hGx => ?_
          obtain ⟨hints, hlen, hrow1, hrow2, hdist, hres, hmini⟩ := hp9
          refine hGx ?_
          clear hGx Gx
          dsimp only at hints hlen hrow1 hrow2 hdist hres hmini F N nd2 ⊢
          refine hide fun Qt14 Ht14 => ?_
          simp only [List.map_cons, List.map_nil, List.nodup_cons, List.mem_cons, List.not_mem_nil, or_false, not_or, not_false_eq_true, List.nodup_nil, and_true] at nd2
          have n1 := neN nd2.1.1
          have n2 := neN nd2.1.2
          have n3 := neN nd2.2
          have hcell := cell hi hj hdist hres (hrow2 j (Nat.le_refl _) hj)
          have e1 : Txt.item (ofL β) (0 + (i : Int)) = ofL [β.getD i 0] := by rw [item_at0 (by omega) (by omega)]; congr 3; omega
          have e2 : Txt.item (ofL α) (0 + (j : Int)) = ofL [α.getD j 0] := by rw [item_at0 (by omega) (by omega)]; congr 3; omega
          have e3 : subCost (Txt.item (ofL β) (0 + (i : Int))) (Txt.item (ofL α) (0 + (j : Int))) = subN (β.getD i 0) (α.getD j 0) := by rw [e1, e2, subCost_eq]
          have hl1 : (Txt.item (ofL β) (0 + (i : Int))).length = 1 := rfl
          have ej : (0 + (j : Int)).toNat = j := by omega
          k_steps
          all_goals (repeat (first | refine Ht14.out _ _ ?_ | refine Hc13.out _ _ ?_ | refine Hc12.out _ _ ?_ | refine Ht11.out _ _ ?_ | refine Hc10.out _ _ ?_ | refine Hc9.out _ _ ?_ | refine Hc8.out _ _ ?_ | refine Hc7.out _ _ ?_))
          all_goals (try ((try dsimp only); (with_reducible refine wpAny_execs_nil ?_); (repeat (first | refine Ht14.out _ _ ?_ | refine Hc13.out _ _ ?_ | refine Hc12.out _ _ ?_ | refine Ht11.out _ _ ?_ | refine Hc10.out _ _ ?_ | refine Hc9.out _ _ ?_ | refine Hc8.out _ _ ?_ | refine Hc7.out _ _ ?_))))
          all_goals simp only [ej, e3, minmin, ← hcell] at *
          · refine ⟨⟨_, _, _, _, _, _, _, _, _⟩, ⟨‹IntsAre (List.set _ _ _) _›, ?_, ?_, ?_, ?_, ?_, ?_⟩, at_intro (by k_asm) (by k_asm) (by tb_start) (by tb_rel) (by simp; omega)⟩
            all_goals dsimp only
            · rw [List.length_set]; exact hlen
            · intro k hk
              by_cases q : k = j
              · subst q; rw [getD_set_self (by omega)]
              · rw [getD_set_ne q]; exact hrow1 k (by omega)
            · intro k h1 h2; rw [getD_set_ne (by omega)]; exact hrow2 k (by omega) h2
            · exact hrow2 j (Nat.le_refl _) hj
            · rw [if_neg (by omega)]
            · intro k h1 h2
              by_cases q : k = j + 1
              · subst q; exact Int.le_refl _
              · have := hmini k h1 (by omega); exact Int.le_trans (Int.le_of_lt (by assumption)) this
          · refine ⟨⟨_, _, _, _, _, _, _, _, _⟩, ⟨‹IntsAre (List.set _ _ _) _›, ?_, ?_, ?_, ?_, ?_, ?_⟩, at_intro (by k_asm) (by k_asm) (by tb_start) (by tb_rel) (by simp; omega)⟩
            all_goals dsimp only
            · rw [List.length_set]; exact hlen
            · intro k hk
              by_cases q : k = j
              · subst q; rw [getD_set_self (by omega)]
              · rw [getD_set_ne q]; exact hrow1 k (by omega)
            · intro k h1 h2; rw [getD_set_ne (by omega)]; exact hrow2 k (by omega) h2
            · exact hrow2 j (Nat.le_refl _) hj
            · rw [if_neg (by omega)]
            · intro k h1 h2
              by_cases q : k = j + 1
              · subst q; omega
              · have := hmini k h1 (by omega); omega
        · rintro ⟨vs, ns, ep, dist, res, mini, td, tr, tm⟩ h tk m hp9 F N nd
          refine small fun Gx hGx => ?_
          obtain ⟨hints, hlen, hrow1, hrow2, hdist, hres, hmini⟩ := hp9
          refine hGx ?_
          clear hGx Gx
          dsimp only at hints hlen hrow1 hrow2 hdist hres hmini F N nd ⊢
          refine wpAny_execs_nil ?_
          all_goals (repeat (first | refine Ht14.out _ _ ?_ | refine Hc13.out _ _ ?_ | refine Hc12.out _ _ ?_ | refine Ht11.out _ _ ?_ | refine Hc10.out _ _ ?_ | refine Hc9.out _ _ ?_ | refine Hc8.out _ _ ?_ | refine Hc7.out _ _ ?_))
          all_goals (try ((try dsimp only); (with_reducible refine wpAny_execs_nil ?_); (repeat (first | refine Ht14.out _ _ ?_ | refine Hc13.out _ _ ?_ | refine Hc12.out _ _ ?_ | refine Ht11.out _ _ ?_ | refine Hc10.out _ _ ?_ | refine Hc9.out _ _ ?_ | refine Hc8.out _ _ ?_ | refine Hc7.out _ _ ?_))))
          refine ⟨⟨vs, ns, ep, dist, res, mini, td, tr, tm⟩, hints, hlen, hrow1, ?_, hmini, at_intro (by k_asm) (by k_asm) (by tb_start) (fun p hp => hp) nd⟩
          dsimp only
          rw [hres, if_neg (by omega), List.take_length]
      clear hAt hints hlen hrow hres vs ns ep res tr
      intro s2 hs9
      refine small fun Gx hGx => ?_
      obtain ⟨⟨vs, ns, ep, dist, res, mini, td, tr, tm⟩, hints, hlen, hrow, hres, hmini, h, tk, m, rfl, F, N, nd2⟩ := hs9
      refine hGx ?_
      clear hGx Gx
      dsimp only at hints hlen hrow hres hmini F N nd2
      simp only [List.drop_succ_cons, List.drop_zero]
      k_steps
      all_goals (repeat (first | refine Ht14.out _ _ ?_ | refine Hc13.out _ _ ?_ | refine Hc12.out _ _ ?_ | refine Ht11.out _ _ ?_ | refine Hc10.out _ _ ?_ | refine Hc9.out _ _ ?_ | refine Hc8.out _ _ ?_ | refine Hc7.out _ _ ?_))
      all_goals (try ((try dsimp only); (with_reducible refine wpAny_execs_nil ?_); (repeat (first | refine Ht14.out _ _ ?_ | refine Hc13.out _ _ ?_ | refine Hc12.out _ _ ?_ | refine Ht11.out _ _ ?_ | refine Hc10.out _ _ ?_ | refine Hc9.out _ _ ?_ | refine Hc8.out _ _ ?_ | refine Hc7.out _ _ ?_))))
      · refine hQ _ _ _ _ (Fr.keep ‹_›) ?_
        have := early (mc := mc) hi (by intro q; rw [q] at hα; simp at hα) hmini (by assumption)
        rw [hD] at this
        omega
      · exact ⟨(vs, ns, ep, res, tr), ⟨hints, hlen, hrow, fun _ => hres⟩, at_intro (by k_asm) (by k_asm) (by tb_start) (by tb_rel) (by simpa using nd2)⟩
    · rintro ⟨vs, ns, ep, res, tr⟩ h tk m hp9 F N nd
      refine small fun Gx hGx => ?_
      obtain ⟨hints, hlen, hrow, hres⟩ := hp9
      refine hGx ?_
      clear hGx Gx
      dsimp only at hints hlen hrow hres F N nd
      refine wpAny_execs_nil ?_
      all_goals (repeat (first | refine Ht14.out _ _ ?_ | refine Hc13.out _ _ ?_ | refine Hc12.out _ _ ?_ | refine Ht11.out _ _ ?_ | refine Hc10.out _ _ ?_ | refine Hc9.out _ _ ?_ | refine Hc8.out _ _ ?_ | refine Hc7.out _ _ ?_))
      all_goals (try ((try dsimp only); (with_reducible refine wpAny_execs_nil ?_); (repeat (first | refine Ht14.out _ _ ?_ | refine Hc13.out _ _ ?_ | refine Hc12.out _ _ ?_ | refine Ht11.out _ _ ?_ | refine Hc10.out _ _ ?_ | refine Hc9.out _ _ ?_ | refine Hc8.out _ _ ?_ | refine Hc7.out _ _ ?_))))
      refine ⟨res, _, _, (by rw [hres (by omega), List.take_length, hD]), at_intro (by k_asm) (by k_asm) (by tb_start) (fun p hp => hp) nd⟩
  clear hAt
  intro s' hs9
  refine small fun Gx hGx => ?_
  obtain ⟨r, tr, news, hr, h, tk, m, rfl, F, N, _⟩ := hs9
  refine hGx ?_
  clear hGx Gx
  simp only [List.drop_succ_cons, List.drop_zero]
  k_steps
  all_goals (repeat (first | refine Ht14.out _ _ ?_ | refine Hc13.out _ _ ?_ | refine Hc12.out _ _ ?_ | refine Ht11.out _ _ ?_ | refine Hc10.out _ _ ?_ | refine Hc9.out _ _ ?_ | refine Hc8.out _ _ ?_ | refine Hc7.out _ _ ?_))
  all_goals (try ((try dsimp only); (with_reducible refine wpAny_execs_nil ?_); (repeat (first | refine Ht14.out _ _ ?_ | refine Hc13.out _ _ ?_ | refine Hc12.out _ _ ?_ | refine Ht11.out _ _ ?_ | refine Hc10.out _ _ ?_ | refine Hc9.out _ _ ?_ | refine Hc8.out _ _ ?_ | refine Hc7.out _ _ ?_))))
  exact hQ _ _ _ _ (Fr.keep ‹_›) (by rw [hr])

theorem lev_call {w : World} {dp un : Nat} {fr : Option (List Env)} {gd : Option (List Code)} {s : Shared} {p : Program} {loose : List Str} {mean : ExcName → Option Value} {mg mb : Str → Option Value} {h₀ : Heap} {L : Addr} {m : Str → Option Value} {news : List (Addr × Obj)} {a b : List Nat} {mc : Int} {t1 t2 t3 : Tok} {Q E : Value → Shared → Prop}
   (F : Fr h₀ L s.heap m) (N : News h₀ L s.heap news) (X : (hd.heap_1 w.params).In h₀) (T : Top p loose mean mg mb h₀) (hroom : dp + 1 < recursionLimit) (h1 : a.length ≤ 4) (h2 : b.length ≤ 4)
   (hQ : ∀ (i : Int) (t : Tok) (h' : Heap) (tk' : Nat), Fr h₀ L h' m → News h₀ L h' news → (i ≤ mc ↔ (D subN a b : Int) ≤ mc) → Q (.int i t) { s with heap := h', toks := tk' }) :
   wpAny (model theProg w) (Ar dp un fr gd) (PySem.call (.ref 88) [.str (ofL a) t1, .str (ofL b) t2, .int mc t3]) Q E s :=
  lev_spec (X.keeps F.keep) (T.keeps F.keep) hroom h1 h2 fun i t h' tk k hi => hQ i t h' tk (fr_on F k) (news_on N k) hi
end Mine
end

section
open PySem PySem.W PyProof.Rows PySem.Calls PyProof
set_option Elab.async false
set_option maxRecDepth 100000
set_option maxHeartbeats 4000000
set_option linter.unusedVariables false
namespace Mine
section
variable {prog : Program} {w : World} {A : Around} {h₀ : Heap} {L : Addr} {m : Str → Option Value} {env : Env} {ct elt : Expr} {x : Str} {scope : Scope} {cl : List (Str × Addr)} {s : Shared} {P : Nat → Value → Prop} {Fin : List Value → List (Addr × Obj) → Prop} {news : List (Addr × Obj)}

/-- a comprehension with one test, by what holds of the list so far -/
theorem compT_ind {S : List (Addr × Obj) → Prop} (n : Nat) (J : Nat → List Value → Prop) (h0 : J 0 [])
    (step : ∀ i ys, i < n → J i ys → ∀ v I oI C oC D m₂ h tk (E' : Value → Shared → Prop), P i v → LCg.NsObj oC m₂ → m₂ x = some v → Fr h₀ L h m → News h₀ L h ((I, oI) :: (C, oC) :: (D, LCg.lst ys) :: news) → LCg.Off3 I C D news → ((@Ne Nat I C) ∧ (@Ne Nat I D) ∧ (@Ne Nat C D)) →
      wpAny (model prog w) A (isTrue ct (compEnvC scope cl C env) (eval ct (compEnvC scope cl C env))) (fun ok s' => if ok = true then
        wpAny (model prog w) A (eval elt (compEnvC scope cl C env)) (LCg.CompEnd h₀ L m { s with heap := h, toks := tk } I oI C oC D (LCg.lst ys) S (fun y news' => news' = news ∧ J (i + 1) (ys ++ [y]))) E' s'
        else LCg.CompEnd h₀ L m { s with heap := h, toks := tk } I oI C oC D (LCg.lst ys) S (fun _ news' => news' = news ∧ J (i + 1) ys) Value.none s') E' { s with heap := h, toks := tk })
    (fin : ∀ ys, J n ys → Fin ys news) : LCt.CompRestT prog w A h₀ L m env ct elt x scope cl s S P Fin n 0 [] news := by
  have key : ∀ k i ys, i + k = n → J i ys → LCt.CompRestT prog w A h₀ L m env ct elt x scope cl s S P Fin k i ys news := by
    intro k
    induction k with
    | zero => intro i ys hi hJ; exact LCt.CompRestT.zero (fin ys (by rw [show n = i from by omega]; exact hJ))
    | succ k ih =>
      intro i ys hi hJ
      refine LCt.CompRestT.succ ?_
      intro v I oI C oC D m₂ h tk E' hP hC hx F N off ne
      refine wpAny_mono (step i ys (by omega) hJ v I oI C oC D m₂ h tk E' hP hC hx F N off ne) (fun ok s' h' => ?_) fun _ _ e => e
      cases ok with
      | true =>
        simp only [if_true] at h' ⊢
        refine wpAny_mono h' (fun y s₂ h₂ => ?_) fun _ _ e => e
        obtain ⟨h1, tk1, news', e, F', N', off', hS', rfl, hJ'⟩ := h₂
        exact ⟨h1, tk1, news', e, F', N', off', hS', ih (i + 1) _ (by omega) hJ'⟩
      | false =>
        simp only [Bool.false_eq_true, if_false] at h' ⊢
        obtain ⟨h1, tk1, news', e, F', N', off', hS', rfl, hJ'⟩ := h'
        exact ⟨h1, tk1, news', e, F', N', off', hS', ih (i + 1) _ (by omega) hJ'⟩
  exact key n 0 [] (by omega) h0

theorem comp_ind {S : List (Addr × Obj) → Prop} (n : Nat) (J : Nat → List Value → Prop) (h0 : J 0 [])
    (step : ∀ i ys, i < n → J i ys → ∀ v I oI C oC D m₂ h tk (E' : Value → Shared → Prop), P i v → LCg.NsObj oC m₂ → m₂ x = some v → Fr h₀ L h m → News h₀ L h ((I, oI) :: (C, oC) :: (D, LCg.lst ys) :: news) → LCg.Off3 I C D news → ((@Ne Nat I C) ∧ (@Ne Nat I D) ∧ (@Ne Nat C D)) →
        wpAny (model prog w) A (eval elt (compEnvC scope cl C env)) (LCg.CompEnd h₀ L m { s with heap := h, toks := tk } I oI C oC D (LCg.lst ys) S (fun y news' => news' = news ∧ J (i + 1) (ys ++ [y]))) E' { s with heap := h, toks := tk })
    (fin : ∀ ys, J n ys → Fin ys news) : LCg.CompRest prog w A h₀ L m env elt x scope cl s S P Fin n 0 [] news := by
  have key : ∀ k i ys, i + k = n → J i ys → LCg.CompRest prog w A h₀ L m env elt x scope cl s S P Fin k i ys news := by
    intro k
    induction k with
    | zero => intro i ys hi hJ; exact LCg.CompRest.zero (fin ys (by rw [show n = i from by omega]; exact hJ))
    | succ k ih =>
      intro i ys hi hJ
      refine LCg.CompRest.succ ?_
      intro v I oI C oC D m₂ h tk E' hP hC hx F N off ne
      refine wpAny_mono (step i ys (by omega) hJ v I oI C oC D m₂ h tk E' hP hC hx F N off ne) (fun y s₂ h₂ => ?_) fun _ _ e => e
      obtain ⟨h1, tk1, news', e, F', N', off', hS', rfl, hJ'⟩ := h₂
      exact ⟨h1, tk1, news', e, F', N', off', hS', ih (i + 1) _ (by omega) hJ'⟩
  exact key n 0 [] (by omega) h0
end

theorem IntsAre.snoc {vs : List Value} {ns : List Int} (h : IntsAre vs ns) (n : Int) (t : Tok) : IntsAre (vs ++ [.int n t]) (ns ++ [n]) := by
  induction h with
  | nil => exact .cons n t .nil
  | cons a u _ ih => exact .cons a u ih

/-- the places of a shift: the law's own list -/
noncomputable def placesTo (m : Nat) (k : Int) (i : Nat) : List Int := ((List.range i).map fun j : Nat => (j : Int)).filter fun j => decide (0 ≤ j + k ∧ j + k ≤ (m : Int))
noncomputable def places (n m : Nat) (k : Int) : List Int := placesTo m k (n + 1)
theorem placesTo_succ (m : Nat) (k : Int) (i : Nat) : placesTo m k (i + 1) = placesTo m k i ++ (if 0 ≤ (i : Int) + k ∧ (i : Int) + k ≤ (m : Int) then [(i : Int)] else []) := by
  unfold placesTo
  rw [List.range_succ, List.map_append, List.filter_append]
  congr 1
  by_cases h : 0 ≤ (i : Int) + k ∧ (i : Int) + k ≤ (m : Int)
  · simp [h]
  · simp only [List.map_cons, List.map_nil, List.filter_cons, List.filter_nil, h, decide_false, Bool.false_eq_true]
/-- an object that a call has made goes onto the ledger -/
theorem news_new {h₀ h h' : Heap} {L l : Addr} {o : Obj} {m : Str → Option Value} {news : List (Addr × Obj)} (F : Fr h₀ L h m) (N : News h₀ L h news) (k : Keeps h h') (hn : h.get? l = none) (hl : h'.get? l = some o) : News h₀ L h' ((l, o) :: news) := by
  intro p hp
  rcases List.mem_cons.mp hp with rfl | hp
  · refine ⟨hl, fun q => ?_, ?_⟩
    · obtain ⟨oL, _, _, hL, _⟩ := F.ns
      simp only at q hn
      rw [q, hL] at hn; cases hn
    · cases e : h₀.get? l with
      | none => rfl
      | some o' => have := F.keep _ _ e; rw [hn] at this; cases this
  · exact news_on N k p hp
theorem off_new {h₀ h : Heap} {L l : Addr} : ∀ {news : List (Addr × Obj)}, News h₀ L h news → h.get? l = none → LCg.Off1 l news
  | [], _, _ => trivial
  | p :: r, N, hn => by
    refine ⟨fun q => ?_, off_new (fun p hp => N p (List.mem_cons_of_mem _ hp)) hn⟩
    have h1 := (N p (List.mem_cons_self ..)).1
    rw [show p.1 = l from q, hn] at h1
    cases h1
end Mine
end

section
open PySem PySem.W PyProof.Rows PySem.Calls PyProof
set_option Elab.async false
set_option maxRecDepth 100000
set_option maxHeartbeats 8000000
set_option linter.unusedSimpArgs false
set_option linter.unusedVariables false
namespace Mine
example : True := by
  w_top off
  exact True.intro
example : (PySem.Challenge.rw_pe0171_01 = PySem.Challenge.rw_pe0171_01) ∧ hd.heap_1 = hd.heap_1 := by
  k_fill
  exact ⟨rfl, rfl⟩

set_option pp.deepTerms false
set_option pp.maxSteps 1000

theorem plc_spec {w : World} {dp un : Nat} {fr : Option (List Env)} {gd : Option (List Code)} {s : Shared} {p : Program} {loose : List Str} {mean : ExcName → Option Value} {mg mb : Str → Option Value} {a b : List Nat} {k : Int} {t1 t2 t3 : Tok} {Q E : Value → Shared → Prop}
   (X : (hd.heap_1 w.params).In s.heap) (T : Top p loose mean mg mb s.heap) (hroom : dp + 1 < recursionLimit) (h1 : a.length ≤ 4) (h2 : b.length ≤ 4) (h3 : -2 ≤ k) (h4 : k ≤ 2)
   (hQ : ∀ (l : Addr) (vs : List Value) (ep : Nat) (h' : Heap) (tk' : Nat), Keeps s.heap h' → s.heap.get? l = none → h'.get? l = some (listOf vs.toArray ep) → IntsAre vs (places a.length b.length k) → Q (.ref l) { s with heap := h', toks := tk' }) :
   wpAny (model theProg w) (Ar dp un fr gd) (PySem.call (.ref 110) [.str (ofL a) t1, .str (ofL b) t2, .int k t3]) Q E s := by
  k_dflt (refine' enter_rawC X T.nolimit ?ho ?hcd (Nat.lt_of_succ_lt hroom) (BindsTo.of_eq (binds := [(Str.ofString "one", .str (ofL a) t1), (Str.ofString "other", .str (ofL b) t2), (Str.ofString "shift", .int k t3)]) ?hbind) ?hkind ?hnd ?_ ?h1 ?h2 ?h3)
  case ho => k_is
  case hcd => k_is
  case hbind => exact rfl
  case hkind => exact rfl
  case hnd => decide +kernel
  case h1 => exact rfl
  case h2 => exact rfl
  case h3 => exact rfl
  k_dflt (intro L h₁ tk cells' F' N' Y')
  refine small fun Gx hGx => ?_
  obtain ⟨o1, o2, hE, d1, d2⟩ := CellsAre.two Y'
  refine hGx ?_
  clear hGx Gx
  subst hE
  have d1 : o1.data = .cell (some (.int k t3)) := d1
  have d2 : o2.data = .cell (some (.str (ofL b) t2)) := d2
  try dsimp only
  have lA := ofL_length a
  have lB := ofL_length b
  refine wpAny_execs_cons ?_
  refine wpAny_Return_some ?_
  k_dflt (refine LCt.ListComp_T (F₀ := by k_asm) (by with_unfolding_all rfl) (by decide) (by rfl) (by decide) (by rfl) ?_)
  k_steps
  rename_i a1 F N k1
  rename IsRange _ _ _ _ _ _ _ _ => hr
  k_dflt (refine LCt.CompSrcT.range (n := a.length + 1) rfl F N hr (small_of (by omega) (by omega) (by omega) (by omega) (by omega) (by omega)) (by rw [lA]; exact_mod_cast size_one (n := a.length + 1)) (Nat.le_trans (show a.length + 1 ≤ 5 by omega) (by decide)) ?_)
  intro g
  refine compT_ind (a.length + 1) (fun i ys => IntsAre ys (placesTo b.length k i)) .nil ?_ ?_
  · rintro i ys hi hys v I oI C oC D m₂ h tk E' ⟨t, rfl⟩ hC hx F N off ne
    simp only [LCg.Off3, and_true] at off
    k_steps
    · rw [placesTo_succ, if_pos (by omega), show (0 + (i : Int)) = (i : Int) by omega]
      exact IntsAre.snoc hys _ _
    all_goals (rw [placesTo_succ, if_neg (by omega), List.append_nil]; exact hys)
  · intro ys hys
    unfold LCg.FinE
    intro D h tk F N off
    have hD := N _ (List.mem_cons_self ..)
    exact hQ D ys _ h tk F.keep hD.2.2 hD.1 hys

theorem plc_call {w : World} {dp un : Nat} {fr : Option (List Env)} {gd : Option (List Code)} {s : Shared} {p : Program} {loose : List Str} {mean : ExcName → Option Value} {mg mb : Str → Option Value} {h₀ : Heap} {L : Addr} {m : Str → Option Value} {news : List (Addr × Obj)} {a b : List Nat} {k : Int} {t1 t2 t3 : Tok} {Q E : Value → Shared → Prop}
   (F : Fr h₀ L s.heap m) (N : News h₀ L s.heap news) (X : (hd.heap_1 w.params).In h₀) (T : Top p loose mean mg mb h₀) (hroom : dp + 1 < recursionLimit) (h1 : a.length ≤ 4) (h2 : b.length ≤ 4) (h3 : -2 ≤ k) (h4 : k ≤ 2)
   (hQ : ∀ (l : Addr) (vs : List Value) (ep : Nat) (h' : Heap) (tk' : Nat), Fr h₀ L h' m → News h₀ L h' ((l, listOf vs.toArray ep) :: news) → LCg.Off1 l news → IntsAre vs (places a.length b.length k) → Q (.ref l) { s with heap := h', toks := tk' }) :
   wpAny (model theProg w) (Ar dp un fr gd) (PySem.call (.ref 110) [.str (ofL a) t1, .str (ofL b) t2, .int k t3]) Q E s :=
  plc_spec (X.keeps F.keep) (T.keeps F.keep) hroom h1 h2 h3 h4 fun l vs ep h' tk kp hn hl hi => hQ l vs ep h' tk (fr_on F kp) (news_new F N kp hn hl) (off_new N hn) hi
end Mine
end

section
open PySem PySem.W PyProof.Rows PySem.Calls PyProof
set_option Elab.async false
set_option maxRecDepth 100000
set_option maxHeartbeats 4000000
set_option linter.unusedVariables false
namespace Mine
/-- a function that stands in the heap -/
structure FnAt (h : Heap) (f : Addr) : Prop where
  out : ∃ o fd, h.get? f = some o ∧ o.data = .func fd
theorem FnAt.keeps {h h' : Heap} {f : Addr} (x : FnAt h f) (k : Keeps h h') : FnAt h' f := let ⟨o, fd, e, d⟩ := x.out; ⟨o, fd, k _ _ e, d⟩
theorem callWith_F {M : Model} {A : Around} {E : Value → Shared → Prop} {s : Shared} {h₀ : Heap} {f : Addr} {env : Env} {pos : Pos} {first : List Value} {Q : Value → Shared → Prop} {e : Expr} {rest : List Expr} (hf : FnAt h₀ f)
    (h : wpAny M A (spliced (backTo pos (starEach (e :: rest) env))) (fun vs s₁ => Keeps h₀ s₁.heap ∧ wpAny M A (PySem.call (.ref f) (first ++ vs)) Q E s₁) E s)
    (he : starEach (e :: rest) env = (false, eval e env) :: starEach rest env := by rfl) (hplain : (backTo pos (starEach rest env)).any (·.1) = false := by rfl) :
    wpAny M A (callWith pos (.ref f) first (backTo pos (starEach (e :: rest) env)) []) Q E s := by
  obtain ⟨o, fd, h1, h2⟩ := hf.out
  rw [he] at h ⊢
  refine callWith_function (o := o) (fd := fd) (evalArgs_plain (wpAny_mono h (fun vs s₁ q => ?_) fun _ _ x => x))
  exact ⟨⟨q.1 _ _ h1, h2⟩, q.2⟩
theorem if_else {M : Model} {A : Around} {E : Value → Shared → Prop} {s : Shared} {env : Env} {test : Expr} {body orelse : List Stmt} {pos : Pos} {Q : Flow → Shared → Prop} (R : Shared → Prop)
    (h : wpAny M A (PySem.isTrue test env (eval test env)) (fun b s' => Cut (b = false ∧ R s')) E s) (h2 : ∀ s', R s' → wpAny M A (execs orelse env) Q E s') : wpAny M A (exec (.If test body orelse pos) env) Q E s :=
  wpAny_If (wpAny_mono h (fun b s' q => by obtain ⟨rfl, r⟩ := q.out; exact h2 s' r) fun _ _ x => x)
theorem if_then {M : Model} {A : Around} {E : Value → Shared → Prop} {s : Shared} {env : Env} {test : Expr} {body orelse : List Stmt} {pos : Pos} {Q : Flow → Shared → Prop} (R : Shared → Prop)
    (h : wpAny M A (PySem.isTrue test env (eval test env)) (fun b s' => Cut (b = true ∧ R s')) E s) (h2 : ∀ s', R s' → wpAny M A (execs body env) Q E s') : wpAny M A (exec (.If test body orelse pos) env) Q E s :=
  wpAny_If (wpAny_mono h (fun b s' q => by obtain ⟨rfl, r⟩ := q.out; exact h2 s' r) fun _ _ x => x)
end Mine
end

section
open PySem PySem.W PyProof.Rows PySem.Calls PyProof
set_option Elab.async false
set_option maxRecDepth 100000
set_option maxHeartbeats 8000000
set_option linter.unusedSimpArgs false
set_option linter.unusedVariables false
namespace Mine
example : True := by
  w_top off
  exact True.intro
example : (PySem.Challenge.rw_pe0171_01 = PySem.Challenge.rw_pe0171_01) ∧ hd.heap_1 = hd.heap_1 := by
  k_fill
  exact ⟨rfl, rfl⟩

set_option pp.deepTerms false
set_option pp.maxSteps 1000
local macro_rules | `(tactic| walk_at "ite") => `(tactic| first
  | (refine ite_pos (by (try simp only [bne_iff_ne, ne_eq, decide_eq_true_eq, beq_iff_eq, Bool.not_eq_true', decide_eq_false_iff_not, bne_eq_false_iff_eq]); omega) ?_)
  | (refine ite_neg (by (try simp only [bne_iff_ne, ne_eq, decide_eq_true_eq, beq_iff_eq, Bool.not_eq_true', decide_eq_false_iff_not, bne_eq_false_iff_eq]); omega) ?_))

/-- the key: told of each item, against x -/
noncomputable def KeyOk (w : World) (h₀ : Heap) (f : Addr) (ns : List Int) (x : Int) (P : Nat → Prop) : Prop :=
  ∀ (dp un : Nat) (fr : Option (List Env)) (gd : Option (List Code)) (j : Nat) (t : Tok) (s : Shared) (Q E : Value → Shared → Prop), dp + 2 < recursionLimit → j < ns.length → Keeps h₀ s.heap →
    (∀ (i : Int) (t : Tok) (h' : Heap) (tk' : Nat), Keeps s.heap h' → (i ≤ x ↔ P j) → Q (.int i t) { s with heap := h', toks := tk' }) →
    wpAny (model theProg w) (Ar dp un fr gd) (PySem.call (.ref f) [.int (ns.getD j 0) t]) Q E s

theorem key_call {w : World} {dp un : Nat} {fr : Option (List Env)} {gd : Option (List Code)} {s : Shared} {h₀ : Heap} {L : Addr} {m : Str → Option Value} {news : List (Addr × Obj)} {f : Addr} {ns : List Int} {x : Int} {P : Nat → Prop} {v : Int} {j : Nat} {t : Tok} {Q E : Value → Shared → Prop}
   (K : KeyOk w h₀ f ns x P) (F : Fr h₀ L s.heap m) (N : News h₀ L s.heap news) (hroom : dp + 2 < recursionLimit) (hj : j < ns.length) (hv : v = ns.getD j 0)
   (hQ : ∀ (i : Int) (t : Tok) (h' : Heap) (tk' : Nat), Fr h₀ L h' m → News h₀ L h' news → (i ≤ x ↔ P j) → Q (.int i t) { s with heap := h', toks := tk' }) :
   wpAny (model theProg w) (Ar dp un fr gd) (PySem.call (.ref f) [.int v t]) Q E s := by
  subst hv
  exact K dp un fr gd j t s Q E hroom hj F.keep fun i t h' tk k hi => hQ i t h' tk (fr_on F k) (news_on N k) hi

local macro_rules | `(tactic| walk_at "callWith ref") => `(tactic| (k_dflt (refine callWith_F (by with_reducible assumption) ?_)))
local macro_rules | `(tactic| walk_at "And") => `(tactic| ((with_reducible show Keeps _ _ ∧ _); refine ⟨Fr.keep (by k_asm), ?_⟩; (try dsimp only [List.nil_append, List.cons_append])))
local macro_rules | `(tactic| walk_at "call ref") => `(tactic| (k_dflt (refine key_call (by with_reducible assumption) (by k_asm) (by k_asm) (by simp only [depth_deeper]; omega) ?kj rfl ?_; (case kj => omega)); intro _ _ _ _ _ _ _; (try dsimp only)))

theorem bisr_spec {w : World} {dp un : Nat} {fr : Option (List Env)} {gd : Option (List Code)} {s : Shared} {p : Program} {loose : List Str} {mean : ExcName → Option Value} {mg mb : Str → Option Value} {l f : Addr} {vs : List Value} {ns : List Int} {x : Int} {t : Tok} {P : Nat → Prop} {Q E : Value → Shared → Prop}
   (X : (hd.heap_1 w.params).In s.heap) (T : Top p loose mean mg mb s.heap) (hroom : dp + 3 < recursionLimit) (hL : s.heap.IsList l vs.toArray) (hI : IntsAre vs ns) (hlen : ns.length ≤ 10) (hf : FnAt s.heap f)
   (K : KeyOk w s.heap f ns x P) (mono : ∀ i j, i ≤ j → P j → P i)
   (hQ : ∀ (r : Nat) (t : Tok) (h' : Heap) (tk' : Nat), Keeps s.heap h' → r ≤ ns.length → (∀ j, j < r → P j) → (∀ j, r ≤ j → j < ns.length → ¬ P j) → Q (.int r t) { s with heap := h', toks := tk' }) :
   wpAny (model theProg w) (Ar dp un fr gd) (PySem.call (.ref 23) [.ref l, .int x t] [(Str.ofString "key", .ref f)]) Q E s := by
  k_dflt (refine' enter_raw X T.nolimit ?ho ?hcd (show dp < recursionLimit by omega) (binds := [(Str.ofString "a", .ref l), (Str.ofString "x", .int x t), (Str.ofString "lo", .int 0 189), (Str.ofString "hi", .none), (Str.ofString "key", .ref f)]) ?hbind (locs ?hloc) ?_ ?h1 ?h2 ?h3 ?hcell)
  case ho => k_is
  case hcd => k_is
  case hbind => first | exact BindsTo.of_eq rfl | exact binds_K X rfl (by k_is) rfl rfl rfl
  case hcell => decide
  case hloc => exact rfl
  case h1 => exact rfl
  case h2 => exact rfl
  case h3 => exact rfl
  k_dflt (intro L h₁ F' N')
  try dsimp only
  refine cut_at 2 (R := fun s' => ∃ th, At s s.heap L [(Str.ofString "lo", .int 0 189), (Str.ofString "hi", .int ns.length th), (Str.ofString "a", .ref l), (Str.ofString "x", .int x t), (Str.ofString "key", .ref f)] [] s') ?_ ?_
  · simp only [List.take_succ_cons, List.take_zero]
    k_steps
    exact ⟨_, at_intro (by k_asm) (by k_asm) (by tb_start) (by tb_rel) (by simp)⟩
  clear F' N' h₁
  rintro s' ⟨th, hAt⟩
  simp only [List.drop_succ_cons, List.drop_zero]
  refine cut_at 1 (R := fun s' => ∃ (r : Nat) (tl : Tok), r ≤ ns.length ∧ (∀ j, j < r → P j) ∧ (∀ j, r ≤ j → j < ns.length → ¬ P j) ∧ At s s.heap L [(Str.ofString "lo", .int r tl)] [] s') ?_ ?_
  · simp only [List.take_succ_cons, List.take_zero]
    refine wpAny_execs_cons ?_
    refine if_else (R := fun s' => At s s.heap L [(Str.ofString "lo", .int 0 189), (Str.ofString "hi", .int ns.length th), (Str.ofString "a", .ref l), (Str.ofString "x", .int x t), (Str.ofString "key", .ref f)] [] s') ?_ ?_
    · refine small fun Gx hGx => ?_
      obtain ⟨h, tk, m, rfl, F, N, _⟩ := hAt
      refine hGx ?_
      clear hGx Gx
      k_steps
      exact ⟨rfl, at_intro (by k_asm) (by k_asm) (by tb_start) (by tb_rel) (by simp)⟩
    clear hAt s'
    rintro s' hAt
    refine wpAny_execs_cons ?_
    refine while_at (σ := (Nat × Nat) × (Tok × Tok)) (fun c => c.1.2 - c.1.1) (fun c => [(Str.ofString "lo", .int c.1.1 c.2.1), (Str.ofString "hi", .int c.1.2 c.2.2), (Str.ofString "a", .ref l), (Str.ofString "x", .int x t), (Str.ofString "key", .ref f)]) (fun _ => [])
       (fun c => c.1.1 ≤ c.1.2 ∧ c.1.2 ≤ ns.length ∧ (∀ j, j < c.1.1 → P j) ∧ (∀ j, c.1.2 ≤ j → j < ns.length → ¬ P j)) ((0, ns.length), (189, th)) ⟨Nat.zero_le _, Nat.le_refl _, fun j h => absurd h (Nat.not_lt_zero _), fun j h1 h2 => absurd h2 (by dsimp only at h1; omega)⟩ hAt ?_
    rintro ⟨⟨lo, hi⟩, tl, th⟩ h tk m hp9 F N _
    refine small fun Gx hGx => ?_
    obtain ⟨hle, hhi, hlow, hhigh⟩ := hp9
    refine hGx ?_
    clear hGx Gx
    clear hAt
    dsimp only at hle hhi hlow hhigh F N ⊢
    have hm : ((lo : Int) + hi).fdiv 2 = (((lo + hi) / 2 : Nat) : Int) := by rw [Int.fdiv_eq_ediv_of_nonneg _ (by decide)]; omega
    have hmid : lo < hi → (lo + hi) / 2 < hi := by omega
    k_steps
    all_goals simp only [hm, Int.toNat_natCast] at *
    · have hn : ¬ P ((lo + hi) / 2) := fun q => by have := (‹_ ≤ x ↔ P _›).mpr q; omega
      refine ⟨((lo, (lo + hi) / 2), (_, _)), by dsimp only; omega, ⟨by dsimp only; omega, by dsimp only; omega, hlow, ?_⟩, at_intro (by k_asm) (by k_asm) (by tb_start) (by tb_rel) (by simp)⟩
      intro j h1 h2 q
      exact hn (mono _ _ h1 q)
    · have hn : P ((lo + hi) / 2) := (‹_ ≤ x ↔ P _›).mp (by omega)
      refine ⟨(((lo + hi) / 2 + 1, hi), (_, _)), by dsimp only; omega, ⟨by dsimp only; omega, hhi, ?_, hhigh⟩, at_intro (by k_asm) (by k_asm) (by tb_start) (by tb_rel) (by simp)⟩
      intro j h1
      exact mono _ _ (by dsimp only at h1; omega) hn
    · exact ⟨lo, _, by omega, hlow, fun j h1 h2 => hhigh j (by omega) h2, at_intro (by k_asm) (by k_asm) (by tb_start) (by tb_rel) (by simp)⟩
  clear hAt s'
  intro s' hs9
  refine small fun Gx hGx => ?_
  obtain ⟨r, tl, h1, h2, h3, h, tk, m, rfl, F, N, _⟩ := hs9
  refine hGx ?_
  clear hGx Gx
  simp only [List.drop_succ_cons, List.drop_zero]
  k_steps
  exact hQ r _ _ _ (Fr.keep ‹_›) h1 h2 h3
theorem bisl_spec {w : World} {dp un : Nat} {fr : Option (List Env)} {gd : Option (List Code)} {s : Shared} {p : Program} {loose : List Str} {mean : ExcName → Option Value} {mg mb : Str → Option Value} {l f : Addr} {vs : List Value} {ns : List Int} {x : Int} {t : Tok} {P : Nat → Prop} {Q E : Value → Shared → Prop}
   (X : (hd.heap_1 w.params).In s.heap) (T : Top p loose mean mg mb s.heap) (hroom : dp + 3 < recursionLimit) (hL : s.heap.IsList l vs.toArray) (hI : IntsAre vs ns) (hlen : ns.length ≤ 10) (hf : FnAt s.heap f)
   (K : KeyOk w s.heap f ns x P) (mono : ∀ i j, i ≤ j → P j → P i)
   (hQ : ∀ (r : Nat) (t : Tok) (h' : Heap) (tk' : Nat), Keeps s.heap h' → r ≤ ns.length → (∀ j, j < r → P j) → (∀ j, r ≤ j → j < ns.length → ¬ P j) → Q (.int r t) { s with heap := h', toks := tk' }) :
   wpAny (model theProg w) (Ar dp un fr gd) (PySem.call (.ref 32) [.ref l, .int (x + 1) t] [(Str.ofString "key", .ref f)]) Q E s := by
  k_dflt (refine' enter_raw X T.nolimit ?ho ?hcd (show dp < recursionLimit by omega) (binds := [(Str.ofString "a", .ref l), (Str.ofString "x", .int (x + 1) t), (Str.ofString "lo", .int 0 203), (Str.ofString "hi", .none), (Str.ofString "key", .ref f)]) ?hbind (locs ?hloc) ?_ ?h1 ?h2 ?h3 ?hcell)
  case ho => k_is
  case hcd => k_is
  case hbind => first | exact BindsTo.of_eq rfl | exact binds_K X rfl (by k_is) rfl rfl rfl
  case hcell => decide
  case hloc => exact rfl
  case h1 => exact rfl
  case h2 => exact rfl
  case h3 => exact rfl
  k_dflt (intro L h₁ F' N')
  try dsimp only
  refine cut_at 2 (R := fun s' => ∃ th, At s s.heap L [(Str.ofString "lo", .int 0 203), (Str.ofString "hi", .int ns.length th), (Str.ofString "a", .ref l), (Str.ofString "x", .int (x + 1) t), (Str.ofString "key", .ref f)] [] s') ?_ ?_
  · simp only [List.take_succ_cons, List.take_zero]
    k_steps
    exact ⟨_, at_intro (by k_asm) (by k_asm) (by tb_start) (by tb_rel) (by simp)⟩
  clear F' N' h₁
  rintro s' ⟨th, hAt⟩
  simp only [List.drop_succ_cons, List.drop_zero]
  refine cut_at 1 (R := fun s' => ∃ (r : Nat) (tl : Tok), r ≤ ns.length ∧ (∀ j, j < r → P j) ∧ (∀ j, r ≤ j → j < ns.length → ¬ P j) ∧ At s s.heap L [(Str.ofString "lo", .int r tl)] [] s') ?_ ?_
  · simp only [List.take_succ_cons, List.take_zero]
    refine wpAny_execs_cons ?_
    refine if_else (R := fun s' => At s s.heap L [(Str.ofString "lo", .int 0 203), (Str.ofString "hi", .int ns.length th), (Str.ofString "a", .ref l), (Str.ofString "x", .int (x + 1) t), (Str.ofString "key", .ref f)] [] s') ?_ ?_
    · refine small fun Gx hGx => ?_
      obtain ⟨h, tk, m, rfl, F, N, _⟩ := hAt
      refine hGx ?_
      clear hGx Gx
      k_steps
      exact ⟨rfl, at_intro (by k_asm) (by k_asm) (by tb_start) (by tb_rel) (by simp)⟩
    clear hAt s'
    rintro s' hAt
    refine wpAny_execs_cons ?_
    refine while_at (σ := (Nat × Nat) × (Tok × Tok)) (fun c => c.1.2 - c.1.1) (fun c => [(Str.ofString "lo", .int c.1.1 c.2.1), (Str.ofString "hi", .int c.1.2 c.2.2), (Str.ofString "a", .ref l), (Str.ofString "x", .int (x + 1) t), (Str.ofString "key", .ref f)]) (fun _ => [])
       (fun c => c.1.1 ≤ c.1.2 ∧ c.1.2 ≤ ns.length ∧ (∀ j, j < c.1.1 → P j) ∧ (∀ j, c.1.2 ≤ j → j < ns.length → ¬ P j)) ((0, ns.length), (203, th)) ⟨Nat.zero_le _, Nat.le_refl _, fun j h => absurd h (Nat.not_lt_zero _), fun j h1 h2 => absurd h2 (by dsimp only at h1; omega)⟩ hAt ?_
    rintro ⟨⟨lo, hi⟩, tl, th⟩ h tk m hp9 F N _
    refine small fun Gx hGx => ?_
    obtain ⟨hle, hhi, hlow, hhigh⟩ := hp9
    refine hGx ?_
    clear hGx Gx
    clear hAt
    dsimp only at hle hhi hlow hhigh F N ⊢
    have hm : ((lo : Int) + hi).fdiv 2 = (((lo + hi) / 2 : Nat) : Int) := by rw [Int.fdiv_eq_ediv_of_nonneg _ (by decide)]; omega
    have hmid : lo < hi → (lo + hi) / 2 < hi := by omega
    k_steps
    all_goals simp only [hm, Int.toNat_natCast] at *
    · have hn : P ((lo + hi) / 2) := (‹_ ≤ x ↔ P _›).mp (by omega)
      refine ⟨(((lo + hi) / 2 + 1, hi), (_, _)), by dsimp only; omega, ⟨by dsimp only; omega, hhi, ?_, hhigh⟩, at_intro (by k_asm) (by k_asm) (by tb_start) (by tb_rel) (by simp)⟩
      intro j h1
      exact mono _ _ (by dsimp only at h1; omega) hn
    · have hn : ¬ P ((lo + hi) / 2) := fun q => by have := (‹_ ≤ x ↔ P _›).mpr q; omega
      refine ⟨((lo, (lo + hi) / 2), (_, _)), by dsimp only; omega, ⟨by dsimp only; omega, by dsimp only; omega, hlow, ?_⟩, at_intro (by k_asm) (by k_asm) (by tb_start) (by tb_rel) (by simp)⟩
      intro j h1 h2 q
      exact hn (mono _ _ h1 q)
    · exact ⟨lo, _, by omega, hlow, fun j h1 h2 => hhigh j (by omega) h2, at_intro (by k_asm) (by k_asm) (by tb_start) (by tb_rel) (by simp)⟩
  clear hAt s'
  intro s' hs9
  refine small fun Gx hGx => ?_
  obtain ⟨r, tl, h1, h2, h3, h, tk, m, rfl, F, N, _⟩ := hs9
  refine hGx ?_
  clear hGx Gx
  simp only [List.drop_succ_cons, List.drop_zero]
  k_steps
  exact hQ r _ _ _ (Fr.keep ‹_›) h1 h2 h3
end Mine
end

end
section
open PySem PySem.W PyProof.Rows PySem.Calls PyProof
set_option Elab.async false
set_option maxRecDepth 100000
set_option maxHeartbeats 4000000
set_option linter.unusedVariables false
namespace Mine
/-- objects that stood before the call go onto its ledger -/
theorem rebase {h h₁ : Heap} {L : Addr} {m : Str → Option Value} {news : List (Addr × Obj)} (own : List (Addr × Obj)) (F : Fr h L h₁ m) (N : News h L h₁ news) (hown : ∀ p ∈ own, h.get? p.1 = some p.2) :
    Fr (hideAll h (own.map (·.1))) L h₁ m ∧ News (hideAll h (own.map (·.1))) L h₁ (news ++ own) := by
  refine ⟨⟨F.ns, fun b o e => F.keep b o (of_hideAll _ e), by rw [hideAll_size]; exact F.above⟩, fun p hp => ?_⟩
  rcases List.mem_append.mp hp with hp | hp
  · refine ⟨(N p hp).1, (N p hp).2.1, ?_⟩
    cases e : (hideAll h (own.map (·.1))).get? p.1 with
    | none => rfl
    | some o => have := of_hideAll _ e; rw [(N p hp).2.2] at this; cases this
  · exact ⟨F.keep _ _ (hown p hp), Nat.ne_of_lt (Nat.lt_of_lt_of_le (Heap.lt_size (hown p hp)) F.above), hideAll_none _ (List.mem_map_of_mem hp)⟩
theorem keeps_hide {g h : Heap} {as : List Addr} (k : Keeps g h) (hn : ∀ a ∈ as, g.get? a = none) : Keeps g (hideAll h as) :=
  fun b o e => hideAll_get _ (k b o e) fun q => by rw [hn b q] at e; cases e

theorem keeps_own {h h' : Heap} {L : Addr} {m : Str → Option Value} {own news : List (Addr × Obj)} (hown : ∀ p ∈ own, h.get? p.1 = some p.2) (F : Fr (hideAll h (own.map (·.1))) L h' m) (N : News (hideAll h (own.map (·.1))) L h' news) (hs : ∀ p ∈ own, p ∈ news) : Keeps h h' := by
  intro b o e
  by_cases q : b ∈ own.map (·.1)
  · obtain ⟨p, hp, rfl⟩ := List.mem_map.mp q
    rw [hown p hp] at e
    cases e
    exact (N p (hs p hp)).1
  · exact F.keep b o (hideAll_get _ e q)

theorem enter_lam {prog : Program} {w : World} {A : Around} {s : Shared} {Q E : Value → Shared → Prop} {name qual : Str} {params : Arguments} {body : Expr} {scope : Scope} {cl : List (Str × Addr)} {pm ctv : Value} {c' : Addr} {f : Addr} {pos : List Value} {binds : List (Str × Value)}
    (ho : s.heap.get? f = some (kla_obj name qual params body scope cl pm c' ctv)) (hcd : s.heap.CodeRec (.ref c') qual) (hlim : s.heap.NoLimit) (hroom : A.depth < recursionLimit)
    (hbind : bindArgs (kla_fn name qual params body scope cl pm (.ref c') ctv) ⟨pos, []⟩ = pure binds) (hloc : ∀ y ∈ binds, scope.names.lookup y.1 = some .local)
    (h : ∀ L' h₁, Fr s.heap L' h₁ (fun y => binds.reverse.lookup y) → News s.heap L' h₁ [] →
      wpAny (model prog w) (A.deeper (envX qual scope L' f (.ref c') cl)) (eval body (envX qual scope L' f (.ref c') cl)) (fun v s' => Q v s') NoE { s with heap := h₁, toks := s.toks + binds.length })
    (hco : scope.isCoroutine = false) (hgen : scope.isGenerator = false) (hk : scope.kind = .function)
    (hcell : ∀ x ∈ scope.names, x.2 ≠ .cell) : wpAny (model prog w) A (PySem.call (.ref f) pos) Q E s := by
  refine wpAny_call (kla_callFunE hroom ho rfl hco hgen rfl hcd ?_)
  rw [hbind]
  refine wpAny_pure (wpAny_newFunctionEnv hcell hloc (fun h₁ hns hsb => ⟨hlim.fresh _ hsb, ?_⟩) hk)
  show codeAny _ _ (.expr body (envX qual scope s.heap.objs.size f (.ref c') cl)) _ _
  have hk₁ : ∀ b o, s.heap.get? b = some o → h₁.get? b = some o := fun b o e => hsb.extBut b o (Nat.ne_of_lt (Heap.lt_size e)) (Heap.get?_push_of_some _ e)
  exact kla_codeExpr (wpAny_mono (E := NoE) (h s.heap.objs.size h₁ ⟨hns, hk₁, Nat.le_refl _⟩ News.nil) (fun _ _ x => x) fun _ _ x => False.elim x)

/-- the key that _law_key makes, by what it tells wherever its own objects stand -/
structure KeySem (w : World) (g : Heap) (f : Addr) (own : List (Addr × Obj)) (a b : List Nat) (k pr : Int) : Prop where
  fn : ∃ o fd, (f, o) ∈ own ∧ o.data = .func fd
  call : ∀ (dp un : Nat) (fr : Option (List Env)) (gd : Option (List Code)) (i : Int) (t : Tok) (s : Shared) (Q E : Value → Shared → Prop), dp + 2 < recursionLimit → 0 ≤ i → 0 ≤ i + k → Keeps g s.heap → (∀ p ∈ own, s.heap.get? p.1 = some p.2) →
    (∀ (r : Int) (t : Tok) (h' : Heap) (tk' : Nat), Keeps s.heap h' → (r ≤ pr ↔ (D subN (a.take i.toNat) (b.take (i + k).toNat) : Int) ≤ pr) → Q (.int r t) { s with heap := h', toks := tk' }) →
    wpAny (model theProg w) (Ar dp un fr gd) (PySem.call (.ref f) [.int i t]) Q E s

/-- the lambda's code object -/
noncomputable def CodeF (oc : Obj) : Prop := ∃ vs t, oc.data = .fields vs ∧ vs[1]? = some (.str (Str.ofString "_law_key.<locals>.<lambda>") t)
/-- the table of _law_key's code, once the lambda's code is in it -/
noncomputable abbrev tabF (c : Addr) : Obj := tabObj #[rawInt 163, rawInt 11, .ref c]
end Mine
end

section
open PySem PySem.W PyProof.Rows PySem.Calls PyProof
set_option Elab.async false
set_option maxRecDepth 100000
set_option maxHeartbeats 8000000
set_option linter.unusedSimpArgs false
set_option linter.unusedVariables false
namespace Mine
example : True := by
  w_top off
  exact True.intro
example : (PySem.Challenge.rw_pe0171_01 = PySem.Challenge.rw_pe0171_01) ∧ hd.heap_1 = hd.heap_1 := by
  k_fill
  exact ⟨rfl, rfl⟩

set_option pp.deepTerms false
set_option pp.maxSteps 1000

theorem key_specE {w : World} {dp un : Nat} {fr : Option (List Env)} {gd : Option (List Code)} {s : Shared} {g : Heap} {p : Program} {loose : List Str} {mean : ExcName → Option Value} {mg mb : Str → Option Value} {a b : List Nat} {k pr : Int} {t1 t2 t3 t4 : Tok} {Q E : Value → Shared → Prop}
   (X : (hd.heap_1 w.params).In g) (T : Top p loose mean mg mb g) (C : CodeHd g 116 112) (hg : g.get? 112 = none) (kg : Keeps g s.heap) (e0 : s.heap.get? 112 = some (tabObj #[])) (hroom : dp + 3 < recursionLimit) (h1 : a.length ≤ 4) (h2 : b.length ≤ 4)
   (hQ : ∀ (f : Addr) (o0 : Obj) (c1 : Addr) (o1 : Obj) (c2 : Addr) (o2 : Obj) (c3 : Addr) (o3 : Obj) (c4 : Addr) (o4 : Obj) (c0 : Addr) (oc0 : Obj) (h' : Heap) (tk' : Nat), Keeps (hideAll s.heap [112]) h' → h'.get? 112 = some (tabF c0) → CodeF oc0 → s.heap.get? c0 = none → (∀ p ∈ [(f, o0), (c1, o1), (c2, o2), (c3, o3), (c4, o4), (c0, oc0)], h'.get? p.1 = some p.2) → (∀ x ∈ [f, c1, c2, c3, c4], s.heap.get? x = none) → KeySem w g f [(f, o0), (c1, o1), (c2, o2), (c3, o3), (c4, o4), (c0, oc0)] a b k pr → Q (.ref f) { s with heap := h', toks := tk' }) :
   wpAny (model theProg w) (Ar dp un fr gd) (PySem.call (.ref 117) [.str (ofL a) t1, .str (ofL b) t2, .int k t3, .int pr t4]) Q E s := by
  k_dflt (refine' enter_rawC (X.keeps kg) (T.keeps kg).nolimit ?ho ?hcd (show dp < recursionLimit by omega) (BindsTo.of_eq (binds := [(Str.ofString "one", .str (ofL a) t1), (Str.ofString "other", .str (ofL b) t2), (Str.ofString "shift", .int k t3), (Str.ofString "price", .int pr t4)]) ?hbind) ?hkind ?hnd ?_ ?h1 ?h2 ?h3)
  case ho => k_is
  case hcd => k_is
  case hbind => exact rfl
  case hkind => exact rfl
  case hnd => decide +kernel
  case h1 => exact rfl
  case h2 => exact rfl
  case h3 => exact rfl
  k_dflt (intro L h₁ tk cells' F' N' Y')
  refine small fun Gx hGx => ?_
  obtain ⟨o1, o2, o3, o4, hE, d1, d2, d3, d4⟩ := CellsAre.four Y'
  refine hGx ?_
  clear hGx Gx
  subst hE
  have d1 : o1.data = .cell (some (.int pr t4)) := d1
  have d2 : o2.data = .cell (some (.int k t3)) := d2
  have d3 : o3.data = .cell (some (.str (ofL b) t2)) := d3
  have d4 : o4.data = .cell (some (.str (ofL a) t1)) := d4
  clear Y'
  have kg2 : Keeps g (hideAll s.heap [112]) := keeps_hide kg (by simpa using hg)
  have X2 := X.keeps kg2
  have T2 := T.keeps kg2
  have C2 := C.keeps kg2
  have key : ∀ ps, s.heap.get? 112 = some (tabObj ps) → Fr (hideAll s.heap [112]) L h₁ _ ∧ News (hideAll s.heap [112]) L h₁ _ := fun ps e => rebase [(112, tabObj ps)] F' N' (by simpa using e)
  have hL : ∀ o, s.heap.get? 112 = some o → 112 < L := fun o e => Nat.lt_of_lt_of_le (Heap.lt_size e) F'.above
  have gn : ∀ b, (hideAll s.heap [112]).get? b = none → g.get? b = none := fun b e => by
    cases q : g.get? b with
    | none => rfl
    | some o => have := kg2 b o q; rw [e] at this; cases this
  obtain ⟨F, N⟩ := key _ e0
  simp only [List.cons_append, List.nil_append] at N
  clear F' N' key
  have hL' := ltN (hL _ e0)
  k_steps
  rename_i f c0 oc0 vs0 t0 ctv h' tk' F2 N2 e2 e3 l1 l2
  have hoc : h'.get? c0 = some oc0 := N2.get (by k_mem)
  have hF := (N2 _ (List.mem_cons_self ..))
  have hnew : ∀ x, L < x → s.heap.get? x = none := fun x hx => Heap.get?_none_of_le (Nat.le_trans (by have := F2.above; rwa [hideAll_size] at this) (Nat.le_of_lt hx))
  have nw : ∀ x ∈ [f, L + 1 + 1 + 1 + 1, L + 1 + 1 + 1, L + 1 + 1, L + 1], s.heap.get? x = none := by
    have l4 := l1.2.2.2.1
    intro x hx
    simp only [List.mem_cons, List.not_mem_nil, or_false] at hx
    refine hnew x (ltN ?_)
    rcases hx with h | h | h | h | h
    · rw [h]; exact Nat.lt_trans (Nat.lt_trans (Nat.lt_succ_self L) l4) l2
    all_goals (rw [h]; omega)
  have main : ∀ o0, h'.get? f = some o0 → KeySem w g f [(f, o0), (L + 1 + 1 + 1 + 1, o1), (L + 1 + 1 + 1, o2), (L + 1 + 1, o3), (L + 1, o4), (c0, oc0)] a b k pr → Q (.ref f) { s with heap := h', toks := tk' } := fun o0 ho KS =>
    hQ f o0 _ o1 _ o2 _ o3 _ o4 c0 oc0 h' _ F2.keep (N2.get (by k_mem)) ⟨vs0, t0, e2, e3⟩ (hnew _ (Nat.lt_trans (Nat.lt_succ_self L) l1.2.2.2.1)) (by
      intro p hp
      simp only [List.mem_cons, List.not_mem_nil, or_false] at hp
      rcases hp with h | h | h | h | h | h
      · rw [h]; exact ho
      all_goals (refine (N2 p ?_).1; simp [h])) nw KS
  refine main _ hF.1 ⟨⟨_, _, List.mem_cons_self .., rfl⟩, ?_⟩
  · intro dp un fr gd i t s₂ Q E hr hi0 hik kg3 kp hQ'
    k_dflt (refine' enter_lam (kp _ (List.mem_cons_self ..)) ?hcd (T.keeps kg3).nolimit (show dp < recursionLimit by omega) ?hb (locs ?hloc) ?_ ?h1 ?h2 ?h3 ?hcell)
    case hcd => exact ⟨c0, oc0, vs0, t0, rfl, kp (c0, oc0) (by simp), e2, e3⟩
    case hb => exact rfl
    case hloc => exact rfl
    case h1 => exact rfl
    case h2 => exact rfl
    case h3 => exact rfl
    case hcell => decide
    k_dflt (intro L3 h3 F3 N3)
    have own : ∀ p ∈ [(L + 1 + 1 + 1 + 1, o1), (L + 1 + 1 + 1, o2), (L + 1 + 1, o3), (L + 1, o4)], s₂.heap.get? p.1 = some p.2 ∧ g.get? p.1 = none := by
      intro p hp
      refine ⟨kp p ?_, gn _ (N2 p ?_).2.2⟩
      all_goals (simp only [List.mem_cons, List.not_mem_nil, or_false] at hp ⊢; rcases hp with h | h | h | h <;> simp [h])
    obtain ⟨F4, N4⟩ := rebase _ F3 N3 fun p hp => (own p hp).1
    have kg4 := keeps_hide (as := [(L + 1 + 1 + 1 + 1, o1), (L + 1 + 1 + 1, o2), (L + 1 + 1, o3), (L + 1, o4)].map (·.1)) kg3 (by intro a ha; obtain ⟨p, hp, rfl⟩ := List.mem_map.mp ha; exact (own p hp).2)
    have X4 := X.keeps kg4
    have T4 := T.keeps kg4
    clear F3 N3 F N F2 X2 T2
    simp only [List.cons_append, List.nil_append] at N4
    have es1 : Txt.slice (ofL a) none (some i) = ofL (a.take i.toNat) := slice_to hi0
    have es2 : Txt.slice (ofL b) none (some (i + k)) = ofL (b.take (i + k).toNat) := slice_to hik
    have lA := ofL_length a
    have lB := ofL_length b
    k_steps
    rw [es1, es2]
    k_dflt (refine lev_call (by k_asm) (by k_asm) (by k_asm) (by k_asm) (by omega) (by rw [List.length_take]; omega) (by rw [List.length_take]; omega) ?_)
    intro r t5 h5 tk5 F5 N5 hr5
    exact hQ' r _ _ _ (keeps_own (fun p hp => (own p hp).1) F5 N5 fun p hp => hp) hr5

theorem key_specF {w : World} {dp un : Nat} {fr : Option (List Env)} {gd : Option (List Code)} {s : Shared} {g : Heap} {p : Program} {loose : List Str} {mean : ExcName → Option Value} {mg mb : Str → Option Value} {a b : List Nat} {k pr : Int} {t1 t2 t3 t4 : Tok} {c0 : Addr} {oc0 : Obj} {Q E : Value → Shared → Prop}
   (X : (hd.heap_1 w.params).In g) (T : Top p loose mean mg mb g) (C : CodeHd g 116 112) (hg : g.get? 112 = none) (kg : Keeps g s.heap) (e0 : s.heap.get? 112 = some (tabF c0)) (e1 : s.heap.get? c0 = some oc0) (ef : CodeF oc0) (hroom : dp + 3 < recursionLimit) (h1 : a.length ≤ 4) (h2 : b.length ≤ 4)
   (hQ : ∀ (f : Addr) (o0 : Obj) (c1 : Addr) (o1 : Obj) (c2 : Addr) (o2 : Obj) (c3 : Addr) (o3 : Obj) (c4 : Addr) (o4 : Obj) (h' : Heap) (tk' : Nat), Keeps (hideAll s.heap [112]) h' → h'.get? 112 = some (tabF c0) → (∀ p ∈ [(f, o0), (c1, o1), (c2, o2), (c3, o3), (c4, o4), (c0, oc0)], h'.get? p.1 = some p.2) → (∀ x ∈ [f, c1, c2, c3, c4], s.heap.get? x = none) → KeySem w g f [(f, o0), (c1, o1), (c2, o2), (c3, o3), (c4, o4), (c0, oc0)] a b k pr → Q (.ref f) { s with heap := h', toks := tk' }) :
   wpAny (model theProg w) (Ar dp un fr gd) (PySem.call (.ref 117) [.str (ofL a) t1, .str (ofL b) t2, .int k t3, .int pr t4]) Q E s := by
  k_dflt (refine' enter_rawC (X.keeps kg) (T.keeps kg).nolimit ?ho ?hcd (show dp < recursionLimit by omega) (BindsTo.of_eq (binds := [(Str.ofString "one", .str (ofL a) t1), (Str.ofString "other", .str (ofL b) t2), (Str.ofString "shift", .int k t3), (Str.ofString "price", .int pr t4)]) ?hbind) ?hkind ?hnd ?_ ?h1 ?h2 ?h3)
  case ho => k_is
  case hcd => k_is
  case hbind => exact rfl
  case hkind => exact rfl
  case hnd => decide +kernel
  case h1 => exact rfl
  case h2 => exact rfl
  case h3 => exact rfl
  k_dflt (intro L h₁ tk cells' F' N' Y')
  refine small fun Gx hGx => ?_
  obtain ⟨o1, o2, o3, o4, hE, d1, d2, d3, d4⟩ := CellsAre.four Y'
  refine hGx ?_
  clear hGx Gx
  subst hE
  have d1 : o1.data = .cell (some (.int pr t4)) := d1
  have d2 : o2.data = .cell (some (.int k t3)) := d2
  have d3 : o3.data = .cell (some (.str (ofL b) t2)) := d3
  have d4 : o4.data = .cell (some (.str (ofL a) t1)) := d4
  clear Y'
  have kg2 : Keeps g (hideAll s.heap [112]) := keeps_hide kg (by simpa using hg)
  have X2 := X.keeps kg2
  have T2 := T.keeps kg2
  have C2 := C.keeps kg2
  have key : ∀ ps, s.heap.get? 112 = some (tabObj ps) → Fr (hideAll s.heap [112]) L h₁ _ ∧ News (hideAll s.heap [112]) L h₁ _ := fun ps e => rebase [(112, tabObj ps)] F' N' (by simpa using e)
  have hL : ∀ o, s.heap.get? 112 = some o → 112 < L := fun o e => Nat.lt_of_lt_of_le (Heap.lt_size e) F'.above
  have gn : ∀ b, (hideAll s.heap [112]).get? b = none → g.get? b = none := fun b e => by
    cases q : g.get? b with
    | none => rfl
    | some o => have := kg2 b o q; rw [e] at this; cases this
  refine small fun Gx hGx => ?_
  obtain ⟨vs0, t0, e2, e3⟩ := ef
  refine hGx ?_
  clear hGx Gx
  obtain ⟨F, N⟩ := key _ e0
  simp only [List.cons_append, List.nil_append] at N
  clear F' N' key
  have hL' := ltN (hL _ e0)
  k_steps
  rename_i f ctv h' tk' F2 N2 l2
  have hc0 : c0 ≠ 112 := by
    intro q
    rw [q, e0] at e1
    cases e1
    cases e2
    cases e3
  have hoc : h'.get? c0 = some oc0 := F2.keep _ _ (hideAll_get [112] e1 (by simpa using hc0))
  have hF := (N2 _ (List.mem_cons_self ..))
  have hnew : ∀ x, L < x → s.heap.get? x = none := fun x hx => Heap.get?_none_of_le (Nat.le_trans (by have := F2.above; rwa [hideAll_size] at this) (Nat.le_of_lt hx))
  have nw : ∀ x ∈ [f, L + 1 + 1 + 1 + 1, L + 1 + 1 + 1, L + 1 + 1, L + 1], s.heap.get? x = none := by
    have l4 := l2.2.2.2.1
    intro x hx
    simp only [List.mem_cons, List.not_mem_nil, or_false] at hx
    refine hnew x (ltN ?_)
    rcases hx with h | h | h | h | h
    · rw [h]; exact Nat.lt_trans (Nat.lt_succ_self L) l4
    all_goals (rw [h]; omega)
  have main : ∀ o0, h'.get? f = some o0 → KeySem w g f [(f, o0), (L + 1 + 1 + 1 + 1, o1), (L + 1 + 1 + 1, o2), (L + 1 + 1, o3), (L + 1, o4), (c0, oc0)] a b k pr → Q (.ref f) { s with heap := h', toks := tk' } := fun o0 ho KS =>
    hQ f o0 _ o1 _ o2 _ o3 _ o4 h' _ F2.keep (N2.get (by k_mem)) (by
      intro p hp
      simp only [List.mem_cons, List.not_mem_nil, or_false] at hp
      rcases hp with h | h | h | h | h | h
      · rw [h]; exact ho
      · refine (N2 p ?_).1; simp [h]
      · refine (N2 p ?_).1; simp [h]
      · refine (N2 p ?_).1; simp [h]
      · refine (N2 p ?_).1; simp [h]
      · rw [h]; exact hoc) nw KS
  refine main _ hF.1 ⟨⟨_, _, List.mem_cons_self .., rfl⟩, ?_⟩
  · intro dp un fr gd i t s₂ Q E hr hi0 hik kg3 kp hQ'
    k_dflt (refine' enter_lam (kp _ (List.mem_cons_self ..)) ?hcd (T.keeps kg3).nolimit (show dp < recursionLimit by omega) ?hb (locs ?hloc) ?_ ?h1 ?h2 ?h3 ?hcell)
    case hcd => exact ⟨c0, oc0, vs0, t0, rfl, kp (c0, oc0) (by simp), e2, e3⟩
    case hb => exact rfl
    case hloc => exact rfl
    case h1 => exact rfl
    case h2 => exact rfl
    case h3 => exact rfl
    case hcell => decide
    k_dflt (intro L3 h3 F3 N3)
    have own : ∀ p ∈ [(L + 1 + 1 + 1 + 1, o1), (L + 1 + 1 + 1, o2), (L + 1 + 1, o3), (L + 1, o4)], s₂.heap.get? p.1 = some p.2 ∧ g.get? p.1 = none := by
      intro p hp
      refine ⟨kp p ?_, gn _ (N2 p ?_).2.2⟩
      all_goals (simp only [List.mem_cons, List.not_mem_nil, or_false] at hp ⊢; rcases hp with h | h | h | h <;> simp [h])
    obtain ⟨F4, N4⟩ := rebase _ F3 N3 fun p hp => (own p hp).1
    have kg4 := keeps_hide (as := [(L + 1 + 1 + 1 + 1, o1), (L + 1 + 1 + 1, o2), (L + 1 + 1, o3), (L + 1, o4)].map (·.1)) kg3 (by intro a ha; obtain ⟨p, hp, rfl⟩ := List.mem_map.mp ha; exact (own p hp).2)
    have X4 := X.keeps kg4
    have T4 := T.keeps kg4
    clear F3 N3 F N F2 X2 T2
    simp only [List.cons_append, List.nil_append] at N4
    have es1 : Txt.slice (ofL a) none (some i) = ofL (a.take i.toNat) := slice_to hi0
    have es2 : Txt.slice (ofL b) none (some (i + k)) = ofL (b.take (i + k).toNat) := slice_to hik
    have lA := ofL_length a
    have lB := ofL_length b
    k_steps
    rw [es1, es2]
    k_dflt (refine lev_call (by k_asm) (by k_asm) (by k_asm) (by k_asm) (by omega) (by rw [List.length_take]; omega) (by rw [List.length_take]; omega) ?_)
    intro r t5 h5 tk5 F5 N5 hr5
    exact hQ' r _ _ _ (keeps_own (fun p hp => (own p hp).1) F5 N5 fun p hp => hp) hr5
end Mine
end

section
open PySem PySem.W PyProof.Rows PySem.Calls PyProof
set_option Elab.async false
set_option autoImplicit false
set_option linter.unusedVariables false
namespace Mine
noncomputable def plo (k : Int) : Int := max 0 (-k)
noncomputable def plen (n m : Nat) (k : Int) : Nat := (min (n : Int) ((m : Int) - k) - plo k + 1).toNat
theorem places_form_fin : ∀ n : Fin 5, ∀ m : Fin 5, ∀ k : Fin 5, places n.val m.val ((k.val : Int) - 2) = (List.range (plen n.val m.val ((k.val : Int) - 2))).map fun j : Nat => plo ((k.val : Int) - 2) + (j : Int) := by decide +kernel
theorem places_form {n m : Nat} {k : Int} (h1 : n ≤ 4) (h2 : m ≤ 4) (h3 : -2 ≤ k) (h4 : k ≤ 2) : places n m k = (List.range (plen n m k)).map fun j : Nat => plo k + (j : Int) := by
  have := places_form_fin ⟨n, by lia⟩ ⟨m, by lia⟩ ⟨(k + 2).toNat, by lia⟩
  simp only at this
  rwa [show (((k + 2).toNat : Int) - 2) = k from by lia] at this
theorem places_len {n m : Nat} {k : Int} (h1 : n ≤ 4) (h2 : m ≤ 4) (h3 : -2 ≤ k) (h4 : k ≤ 2) : (places n m k).length = plen n m k := by rw [places_form h1 h2 h3 h4]; simp
theorem places_get {n m : Nat} {k : Int} (h1 : n ≤ 4) (h2 : m ≤ 4) (h3 : -2 ≤ k) (h4 : k ≤ 2) {j : Nat} (hj : j < plen n m k) : (places n m k).getD j 0 = plo k + j := by
  rw [places_form h1 h2 h3 h4]; simp [hj]

/-- the price at a place of a shift -/
noncomputable def E (a b : List Nat) (k i : Int) : Nat := D subN (a.take i.toNat) (b.take (i + k).toNat)
noncomputable def cnt (a b : List Nat) (p k : Int) : Nat := ((places a.length b.length k).filter fun i => decide ((E a b k i : Int) ≤ p)).length

theorem cnt_of {q : Int → Bool} : ∀ {ns : List Int} {r : Nat}, r ≤ ns.length → (∀ j, j < r → q (ns.getD j 0) = true) → (∀ j, r ≤ j → j < ns.length → q (ns.getD j 0) = false) → (ns.filter q).length = r
  | [], r, h, _, _ => by simp at h; simp [h]
  | n :: ns, 0, _, _, h2 => by
    rw [List.filter_eq_nil_iff.mpr ?_]; rfl
    intro x hx
    obtain ⟨j, hj, e⟩ := List.mem_iff_getElem.mp hx
    have := h2 j (Nat.zero_le _) hj
    rw [List.getD_eq_getElem?_getD, List.getElem?_eq_getElem hj, Option.getD_some, e] at this
    simp [this]
  | n :: ns, r + 1, h, h1, h2 => by
    have h0 := h1 0 (Nat.succ_pos _)
    simp only [List.getD_cons_zero] at h0
    rw [List.filter_cons_of_pos h0, List.length_cons]
    congr 1
    refine cnt_of (by simpa using h) (fun j hj => ?_) fun j hj1 hj2 => ?_
    · have := h1 (j + 1) (by lia); simpa using this
    · have := h2 (j + 1) (by lia) (by simpa using hj2); simpa using this

theorem E_step {a b : List Nat} {k i : Int} (h0 : 0 ≤ i) (h1 : 0 ≤ i + k) (h2 : i + 1 ≤ a.length) (h3 : i + 1 + k ≤ b.length) : E a b k i ≤ E a b k (i + 1) := by
  unfold E
  have e1 : (i + 1).toNat = i.toNat + 1 := by lia
  have e2 : (i + 1 + k).toNat = (i + k).toNat + 1 := by lia
  rw [e1, e2, List.take_succ_eq_append_getElem (by lia : i.toNat < a.length), List.take_succ_eq_append_getElem (by lia : (i + k).toNat < b.length)]
  exact D_diag subN _ _ _ _

/-- the prices rise along the places -/
theorem E_mono {a b : List Nat} {k : Int} {i j : Nat} (hij : i ≤ j) (hj : j < plen a.length b.length k) : E a b k (plo k + i) ≤ E a b k (plo k + j) := by
  induction j with
  | zero => obtain rfl : i = 0 := by lia
            exact Nat.le_refl _
  | succ j ih =>
    by_cases q : i = j + 1
    · rw [q]; exact Nat.le_refl _
    · refine Nat.le_trans (ih (by lia) (by lia)) ?_
      have hp : plen a.length b.length k = (min (a.length : Int) ((b.length : Int) - k) - plo k + 1).toNat := rfl
      have hk : plo k = max 0 (-k) := rfl
      have := E_step (a := a) (b := b) (k := k) (i := plo k + j) (by lia) (by lia) (by lia) (by lia)
      rwa [show plo k + ((j + 1 : Nat) : Int) = plo k + (j : Int) + 1 from by lia]
/-- what is told of the j-th place -/
noncomputable def Told (a b : List Nat) (k p : Int) (j : Nat) : Prop := j < plen a.length b.length k ∧ (E a b k (plo k + j) : Int) ≤ p
theorem told_mono {a b : List Nat} {k p : Int} (i j : Nat) (h : i ≤ j) (q : Told a b k p j) : Told a b k p i :=
  ⟨by have := q.1; lia, by have := q.2; have := E_mono (a := a) (b := b) (k := k) h q.1; lia⟩
theorem cnt_told {a b : List Nat} {k p : Int} {r : Nat} (h1 : a.length ≤ 4) (h2 : b.length ≤ 4) (h3 : -2 ≤ k) (h4 : k ≤ 2) (hr : r ≤ (places a.length b.length k).length) (hl : ∀ j, j < r → Told a b k p j) (hh : ∀ j, r ≤ j → j < (places a.length b.length k).length → ¬ Told a b k p j) : r = cnt a b p k := by
  refine (cnt_of hr (fun j hj => ?_) fun j hj1 hj2 => ?_).symm
  · have := hl j hj
    rw [places_get h1 h2 h3 h4 this.1]
    simpa using this.2
  · have := hh j hj1 hj2
    rw [places_len h1 h2 h3 h4] at hj2
    rw [places_get h1 h2 h3 h4 hj2]
    have q : ¬ ((E a b k (plo k + j) : Int) ≤ p) := fun q => this ⟨hj2, q⟩
    simpa using q
/-- the answers, price by price, shift by shift -/
noncomputable def ansTo (a b : List Nat) (n : Nat) : List Int := (List.range n).map fun t : Nat => (cnt a b ((t / 5 : Nat) : Int) (((t % 5 : Nat) : Int) - 2) : Int)
theorem ansTo_succ (a b : List Nat) {i j : Nat} (hj : j < 5) : ansTo a b (5 * i + j + 1) = ansTo a b (5 * i + j) ++ [(cnt a b (i : Int) ((j : Int) - 2) : Int)] := by
  unfold ansTo
  rw [List.range_succ, List.map_append]
  have h1 : (5 * i + j) / 5 = i := by lia
  have h2 : (5 * i + j) % 5 = j := by lia
  simp only [List.map_cons, List.map_nil, h1, h2]
end Mine
end

section
open PySem PySem.W PyProof.Rows PySem.Calls PyProof
set_option Elab.async false
set_option maxRecDepth 100000
set_option maxHeartbeats 4000000
set_option linter.unusedVariables false
namespace Mine
/-- two places differ; laid so that omega does not see it -/
structure NeF (a b : Nat) : Prop where
  out : a ≠ b
noncomputable def OffN (l : Addr) : List (Addr × Obj) → Prop
  | [] => True
  | p :: r => NeF p.1 l ∧ OffN l r
theorem offN_of {l : Addr} : ∀ {news : List (Addr × Obj)}, LCg.Off1 l news → OffN l news
  | [], _ => trivial
  | _ :: _, h => ⟨⟨h.1⟩, offN_of h.2⟩
theorem nodup1 {a : Nat} : [a].Nodup := by simp
theorem nodup2 {a b : Nat} (h : a ≠ b) : [a, b].Nodup := by simp [h]
theorem nodup3 {a b c : Nat} (h : (a ≠ b ∧ a ≠ c) ∧ b ≠ c) : [a, b, c].Nodup := by simp [h]
theorem nodup4 {a b c d : Nat} (h : (a ≠ b ∧ a ≠ c ∧ a ≠ d) ∧ (b ≠ c ∧ b ≠ d) ∧ c ≠ d) : [a, b, c, d].Nodup := by simp [h]
theorem nodup5 {a b c d e : Nat} (h : (a ≠ b ∧ a ≠ c ∧ a ≠ d ∧ a ≠ e) ∧ (b ≠ c ∧ b ≠ d ∧ b ≠ e) ∧ (c ≠ d ∧ c ≠ e) ∧ d ≠ e) : [a, b, c, d, e].Nodup := by simp [h]
theorem nodup6 {a b c d e f : Nat} (h : (a ≠ b ∧ a ≠ c ∧ a ≠ d ∧ a ≠ e ∧ a ≠ f) ∧ (b ≠ c ∧ b ≠ d ∧ b ≠ e ∧ b ≠ f) ∧ (c ≠ d ∧ c ≠ e ∧ c ≠ f) ∧ (d ≠ e ∧ d ≠ f) ∧ e ≠ f) : [a, b, c, d, e, f].Nodup := by simp [h]
theorem nodup2' {a b : Nat} (h : [a, b].Nodup) : NeF a b := ⟨fun q => by subst q; simp at h⟩
theorem nodup3' {a b c : Nat} (h : [a, b, c].Nodup) : (NeF a b ∧ NeF a c) ∧ NeF b c := by
  obtain ⟨h1, h⟩ := List.pairwise_cons.mp h
  obtain ⟨h2, h⟩ := List.pairwise_cons.mp h
  exact ⟨⟨⟨h1 _ (.head _)⟩, ⟨h1 _ (.tail _ (.head _))⟩⟩, ⟨h2 _ (.head _)⟩⟩
theorem nodup4' {a b c d : Nat} (h : [a, b, c, d].Nodup) : (NeF a b ∧ NeF a c ∧ NeF a d) ∧ (NeF b c ∧ NeF b d) ∧ NeF c d := by
  obtain ⟨h1, h⟩ := List.pairwise_cons.mp h
  obtain ⟨h2, h⟩ := List.pairwise_cons.mp h
  obtain ⟨h3, h⟩ := List.pairwise_cons.mp h
  exact ⟨⟨⟨h1 _ (.head _)⟩, ⟨h1 _ (.tail _ (.head _))⟩, ⟨h1 _ (.tail _ (.tail _ (.head _)))⟩⟩, ⟨⟨h2 _ (.head _)⟩, ⟨h2 _ (.tail _ (.head _))⟩⟩, ⟨h3 _ (.head _)⟩⟩
theorem nodup5' {a b c d e : Nat} (h : [a, b, c, d, e].Nodup) : (NeF a b ∧ NeF a c ∧ NeF a d ∧ NeF a e) ∧ (NeF b c ∧ NeF b d ∧ NeF b e) ∧ (NeF c d ∧ NeF c e) ∧ NeF d e := by
  obtain ⟨h1, h⟩ := List.pairwise_cons.mp h
  obtain ⟨h2, h⟩ := List.pairwise_cons.mp h
  obtain ⟨h3, h⟩ := List.pairwise_cons.mp h
  obtain ⟨h4, h⟩ := List.pairwise_cons.mp h
  exact ⟨⟨⟨h1 _ (.head _)⟩, ⟨h1 _ (.tail _ (.head _))⟩, ⟨h1 _ (.tail _ (.tail _ (.head _)))⟩, ⟨h1 _ (.tail _ (.tail _ (.tail _ (.head _))))⟩⟩, ⟨⟨h2 _ (.head _)⟩, ⟨h2 _ (.tail _ (.head _))⟩, ⟨h2 _ (.tail _ (.tail _ (.head _)))⟩⟩, ⟨⟨h3 _ (.head _)⟩, ⟨h3 _ (.tail _ (.head _))⟩⟩, ⟨h4 _ (.head _)⟩⟩
theorem nodup6' {a b c d e f : Nat} (h : [a, b, c, d, e, f].Nodup) : (NeF a b ∧ NeF a c ∧ NeF a d ∧ NeF a e ∧ NeF a f) ∧ (NeF b c ∧ NeF b d ∧ NeF b e ∧ NeF b f) ∧ (NeF c d ∧ NeF c e ∧ NeF c f) ∧ (NeF d e ∧ NeF d f) ∧ NeF e f := by
  obtain ⟨h1, h⟩ := List.pairwise_cons.mp h
  obtain ⟨h2, h⟩ := List.pairwise_cons.mp h
  obtain ⟨h3, h⟩ := List.pairwise_cons.mp h
  obtain ⟨h4, h⟩ := List.pairwise_cons.mp h
  obtain ⟨h5, h⟩ := List.pairwise_cons.mp h
  exact ⟨⟨⟨h1 _ (.head _)⟩, ⟨h1 _ (.tail _ (.head _))⟩, ⟨h1 _ (.tail _ (.tail _ (.head _)))⟩, ⟨h1 _ (.tail _ (.tail _ (.tail _ (.head _))))⟩, ⟨h1 _ (.tail _ (.tail _ (.tail _ (.tail _ (.head _)))))⟩⟩, ⟨⟨h2 _ (.head _)⟩, ⟨h2 _ (.tail _ (.head _))⟩, ⟨h2 _ (.tail _ (.tail _ (.head _)))⟩, ⟨h2 _ (.tail _ (.tail _ (.tail _ (.head _))))⟩⟩, ⟨⟨h3 _ (.head _)⟩, ⟨h3 _ (.tail _ (.head _))⟩, ⟨h3 _ (.tail _ (.tail _ (.head _)))⟩⟩, ⟨⟨h4 _ (.head _)⟩, ⟨h4 _ (.tail _ (.head _))⟩⟩, ⟨h5 _ (.head _)⟩⟩
section
variable {w : World} {dp un : Nat} {fr : Option (List Env)} {gd : Option (List Code)} {s : Shared} {p : Program} {loose : List Str} {mean : ExcName → Option Value} {mg mb : Str → Option Value} {h₀ : Heap} {L : Addr} {m : Str → Option Value} {news : List (Addr × Obj)} {a b : List Nat} {k pr : Int} {t1 t2 t3 t4 : Tok} {Q E : Value → Shared → Prop}

theorem fr_hide (F : Fr h₀ L s.heap m) (h : h₀.get? 112 = none) (hL : L ≠ 112) {h' : Heap} (kp : Keeps (hideAll s.heap [112]) h') : Fr h₀ L h' m :=
  ⟨(F.ns.at' fun o e => kp _ _ (hideAll_get [112] e (by simpa using hL))), fun b o e => kp _ _ (hideAll_get [112] (F.keep b o e) (by simp; intro q; rw [q, h] at e; cases e)), F.above⟩

theorem key_callE (F : Fr h₀ L s.heap m) (N : News h₀ L s.heap news) (X : (hd.heap_1 w.params).In h₀) (T : Top p loose mean mg mb h₀) (C : CodeHd h₀ 116 112) (rest : List (Addr × Obj)) (hm : (112, tabObj #[]) ∈ news) (hr : ∀ q ∈ rest, q ∈ news) (hne : ∀ q ∈ rest, q.1 ≠ 112)
   (hroom : dp + 3 < recursionLimit) (h1 : a.length ≤ 4) (h2 : b.length ≤ 4)
   (hQ : ∀ (f : Addr) (o0 : Obj) (c1 : Addr) (o1 : Obj) (c2 : Addr) (o2 : Obj) (c3 : Addr) (o3 : Obj) (c4 : Addr) (o4 : Obj) (c0 : Addr) (oc0 : Obj) (h' : Heap) (tk' : Nat), Fr h₀ L h' m →
     News h₀ L h' ((f, o0) :: (c1, o1) :: (c2, o2) :: (c3, o3) :: (c4, o4) :: (112, tabF c0) :: (c0, oc0) :: rest) → CodeF oc0 → NeF 112 c0 → OffN f rest ∧ OffN c1 rest ∧ OffN c2 rest ∧ OffN c3 rest ∧ OffN c4 rest ∧ OffN c0 rest →
     KeySem w h₀ f [(f, o0), (c1, o1), (c2, o2), (c3, o3), (c4, o4), (c0, oc0)] a b k pr → Q (.ref f) { s with heap := h', toks := tk' }) :
   wpAny (model theProg w) (Ar dp un fr gd) (PySem.call (.ref 117) [.str (ofL a) t1, .str (ofL b) t2, .int k t3, .int pr t4]) Q E s := by
  have hT := N _ hm
  refine key_specE X T C hT.2.2 F.keep hT.1 hroom h1 h2 fun f o0 c1 o1 c2 o2 c3 o3 c4 o4 c0 oc0 h' tk' kp ht hc hn0 hown hnew KS => ?_
  have F' := fr_hide F hT.2.2 (Ne.symm hT.2.1) kp
  have Nr : News h₀ L s.heap rest := fun q hq => N q (hr q hq)
  have mk : ∀ q : Addr × Obj, h'.get? q.1 = some q.2 → s.heap.get? q.1 = none → h'.get? q.1 = some q.2 ∧ q.1 ≠ L ∧ h₀.get? q.1 = none := by
    intro q e en
    refine ⟨e, fun ql => ?_, ?_⟩
    · obtain ⟨oL, _, _, hL, _⟩ := F.ns
      rw [ql, hL] at en; cases en
    · cases e' : h₀.get? q.1 with
      | none => rfl
      | some o' => have := F.keep _ _ e'; rw [en] at this; cases this
  simp only [List.forall_mem_cons, List.not_mem_nil, false_implies, implies_true, and_true] at hown hnew
  obtain ⟨w0, w1, w2, w3, w4, w5⟩ := hown
  obtain ⟨n0, n1, n2, n3, n4⟩ := hnew
  refine hQ f o0 c1 o1 c2 o2 c3 o3 c4 o4 c0 oc0 h' tk' F' ?_ hc ?_ ⟨offN_of (off_new Nr n0), offN_of (off_new Nr n1), offN_of (off_new Nr n2), offN_of (off_new Nr n3), offN_of (off_new Nr n4), offN_of (off_new Nr hn0)⟩ KS
  · intro q hq
    simp only [List.mem_cons] at hq
    rcases hq with h | h | h | h | h | h | h | h
    · rw [h]; exact mk (f, o0) w0 n0
    · rw [h]; exact mk (c1, o1) w1 n1
    · rw [h]; exact mk (c2, o2) w2 n2
    · rw [h]; exact mk (c3, o3) w3 n3
    · rw [h]; exact mk (c4, o4) w4 n4
    · rw [h]; exact ⟨ht, hT.2⟩
    · rw [h]; exact mk (c0, oc0) w5 hn0
    · exact ⟨kp _ _ (hideAll_get [112] (Nr q h).1 (by simpa using hne q h)), (Nr q h).2⟩
  · exact ⟨fun q => by rw [← q, hT.1] at hn0; cases hn0⟩

theorem key_callF {c0 : Addr} {oc0 : Obj} (F : Fr h₀ L s.heap m) (N : News h₀ L s.heap news) (X : (hd.heap_1 w.params).In h₀) (T : Top p loose mean mg mb h₀) (C : CodeHd h₀ 116 112) (rest : List (Addr × Obj)) (hm : (112, tabF c0) ∈ news) (hm0 : (c0, oc0) ∈ news) (ef : CodeF oc0) (hr : ∀ q ∈ rest, q ∈ news) (hne : ∀ q ∈ rest, q.1 ≠ 112)
   (hroom : dp + 3 < recursionLimit) (h1 : a.length ≤ 4) (h2 : b.length ≤ 4)
   (hQ : ∀ (f : Addr) (o0 : Obj) (c1 : Addr) (o1 : Obj) (c2 : Addr) (o2 : Obj) (c3 : Addr) (o3 : Obj) (c4 : Addr) (o4 : Obj) (h' : Heap) (tk' : Nat), Fr h₀ L h' m →
     News h₀ L h' ((f, o0) :: (c1, o1) :: (c2, o2) :: (c3, o3) :: (c4, o4) :: (112, tabF c0) :: (c0, oc0) :: rest) → OffN f rest ∧ OffN c1 rest ∧ OffN c2 rest ∧ OffN c3 rest ∧ OffN c4 rest →
     KeySem w h₀ f [(f, o0), (c1, o1), (c2, o2), (c3, o3), (c4, o4), (c0, oc0)] a b k pr → Q (.ref f) { s with heap := h', toks := tk' }) :
   wpAny (model theProg w) (Ar dp un fr gd) (PySem.call (.ref 117) [.str (ofL a) t1, .str (ofL b) t2, .int k t3, .int pr t4]) Q E s := by
  have hT := N _ hm
  have hC := N _ hm0
  refine key_specF X T C hT.2.2 F.keep hT.1 hC.1 ef hroom h1 h2 fun f o0 c1 o1 c2 o2 c3 o3 c4 o4 h' tk' kp ht hown hnew KS => ?_
  have F' := fr_hide F hT.2.2 (Ne.symm hT.2.1) kp
  have Nr : News h₀ L s.heap rest := fun q hq => N q (hr q hq)
  have mk : ∀ q : Addr × Obj, h'.get? q.1 = some q.2 → s.heap.get? q.1 = none → h'.get? q.1 = some q.2 ∧ q.1 ≠ L ∧ h₀.get? q.1 = none := by
    intro q e en
    refine ⟨e, fun ql => ?_, ?_⟩
    · obtain ⟨oL, _, _, hL, _⟩ := F.ns
      rw [ql, hL] at en; cases en
    · cases e' : h₀.get? q.1 with
      | none => rfl
      | some o' => have := F.keep _ _ e'; rw [en] at this; cases this
  simp only [List.forall_mem_cons, List.not_mem_nil, false_implies, implies_true, and_true] at hown hnew
  obtain ⟨w0, w1, w2, w3, w4, w5⟩ := hown
  obtain ⟨n0, n1, n2, n3, n4⟩ := hnew
  refine hQ f o0 c1 o1 c2 o2 c3 o3 c4 o4 h' tk' F' ?_ ⟨offN_of (off_new Nr n0), offN_of (off_new Nr n1), offN_of (off_new Nr n2), offN_of (off_new Nr n3), offN_of (off_new Nr n4)⟩ KS
  · intro q hq
    simp only [List.mem_cons] at hq
    rcases hq with h | h | h | h | h | h | h | h
    · rw [h]; exact mk (f, o0) w0 n0
    · rw [h]; exact mk (c1, o1) w1 n1
    · rw [h]; exact mk (c2, o2) w2 n2
    · rw [h]; exact mk (c3, o3) w3 n3
    · rw [h]; exact mk (c4, o4) w4 n4
    · rw [h]; exact ⟨ht, hT.2⟩
    · rw [h]; exact ⟨w5, hC.2⟩
    · exact ⟨kp _ _ (hideAll_get [112] (Nr q h).1 (by simpa using hne q h)), (Nr q h).2⟩

theorem plc_callN (F : Fr h₀ L s.heap m) (N : News h₀ L s.heap news) (X : (hd.heap_1 w.params).In h₀) (T : Top p loose mean mg mb h₀) (hroom : dp + 1 < recursionLimit) (h1 : a.length ≤ 4) (h2 : b.length ≤ 4) (h3 : -2 ≤ k) (h4 : k ≤ 2)
   (hQ : ∀ (l : Addr) (vs : List Value) (ep : Nat) (h' : Heap) (tk' : Nat), Fr h₀ L h' m → News h₀ L h' ((l, listOf vs.toArray ep) :: news) → OffN l news → IntsAre vs (places a.length b.length k) → Q (.ref l) { s with heap := h', toks := tk' }) :
   wpAny (model theProg w) (Ar dp un fr gd) (PySem.call (.ref 110) [.str (ofL a) t1, .str (ofL b) t2, .int k t3]) Q E s :=
  plc_call F N X T hroom h1 h2 h3 h4 fun l vs ep h' tk' F' N' off hi => hQ l vs ep h' tk' F' N' (offN_of off) hi

/-- the key's word, for bisect -/
theorem keyOk_of {f : Addr} {own : List (Addr × Obj)} (F : Fr h₀ L s.heap m) (N : News h₀ L s.heap news) (KS : KeySem w h₀ f own a b k pr) (hs : ∀ q ∈ own, q ∈ news) (h1 : a.length ≤ 4) (h2 : b.length ≤ 4) (h3 : -2 ≤ k) (h4 : k ≤ 2) :
    FnAt s.heap f ∧ KeyOk w s.heap f (places a.length b.length k) pr (Told a b k pr) := by
  refine ⟨?_, ?_⟩
  · obtain ⟨o, fd, hm, hd⟩ := KS.fn
    exact ⟨o, fd, (N _ (hs _ hm)).1, hd⟩
  · intro dp un fr gd j t s₂ Q E hroom hj kp hQ
    have hj' : j < plen a.length b.length k := by rwa [places_len h1 h2 h3 h4] at hj
    rw [places_get h1 h2 h3 h4 hj']
    have hk : plo k = max 0 (-k) := rfl
    refine KS.call dp un fr gd _ t s₂ Q E hroom (by omega) (by omega) (fun b o e => kp b o (F.keep b o e)) (fun q hq => kp _ _ (N q (hs q hq)).1) fun r t h' tk' kp' hr => hQ r t h' tk' kp' ?_
    rw [hr]
    exact ⟨fun q => ⟨hj', q⟩, fun q => q.2⟩

theorem bisr_call {f l : Addr} {own : List (Addr × Obj)} {vs : List Value} {ep : Nat} {t : Tok} (F : Fr h₀ L s.heap m) (N : News h₀ L s.heap news) (X : (hd.heap_1 w.params).In h₀) (T : Top p loose mean mg mb h₀) (KS : KeySem w h₀ f own a b k pr) (hs : ∀ q ∈ own, q ∈ news) (hl : (l, listOf vs.toArray ep) ∈ news) (hi : IntsAre vs (places a.length b.length k))
   (hroom : dp + 3 < recursionLimit) (h1 : a.length ≤ 4) (h2 : b.length ≤ 4) (h3 : -2 ≤ k) (h4 : k ≤ 2)
   (hQ : ∀ (t : Tok) (h' : Heap) (tk' : Nat), Fr h₀ L h' m → News h₀ L h' news → Q (.int (cnt a b pr k) t) { s with heap := h', toks := tk' }) :
   wpAny (model theProg w) (Ar dp un fr gd) (PySem.call (.ref 23) [.ref l, .int pr t] [(Str.ofString "key", .ref f)]) Q E s := by
  obtain ⟨hf, K⟩ := keyOk_of F N KS hs h1 h2 h3 h4
  refine bisr_spec (X.keeps F.keep) (T.keeps F.keep) hroom (N.isList hl) hi (by rw [places_len h1 h2 h3 h4]; unfold plen plo; omega) hf K told_mono fun r t h' tk' kp hr hlo hhi => ?_
  rw [cnt_told h1 h2 h3 h4 hr hlo hhi]
  exact hQ t h' tk' (fr_on F kp) (news_on N kp)
theorem bisl_call {f l : Addr} {own : List (Addr × Obj)} {vs : List Value} {ep : Nat} {t : Tok} (F : Fr h₀ L s.heap m) (N : News h₀ L s.heap news) (X : (hd.heap_1 w.params).In h₀) (T : Top p loose mean mg mb h₀) (KS : KeySem w h₀ f own a b k pr) (hs : ∀ q ∈ own, q ∈ news) (hl : (l, listOf vs.toArray ep) ∈ news) (hi : IntsAre vs (places a.length b.length k))
   (hroom : dp + 3 < recursionLimit) (h1 : a.length ≤ 4) (h2 : b.length ≤ 4) (h3 : -2 ≤ k) (h4 : k ≤ 2)
   (hQ : ∀ (t : Tok) (h' : Heap) (tk' : Nat), Fr h₀ L h' m → News h₀ L h' news → Q (.int (cnt a b pr k) t) { s with heap := h', toks := tk' }) :
   wpAny (model theProg w) (Ar dp un fr gd) (PySem.call (.ref 32) [.ref l, .int (pr + 1) t] [(Str.ofString "key", .ref f)]) Q E s := by
  obtain ⟨hf, K⟩ := keyOk_of F N KS hs h1 h2 h3 h4
  refine bisl_spec (X.keeps F.keep) (T.keeps F.keep) hroom (N.isList hl) hi (by rw [places_len h1 h2 h3 h4]; unfold plen plo; omega) hf K told_mono fun r t h' tk' kp hr hlo hhi => ?_
  rw [cnt_told h1 h2 h3 h4 hr hlo hhi]
  exact hQ t h' tk' (fr_on F kp) (news_on N kp)
end
end Mine
end

local macro_rules | `(tactic| k_ne) => `(tactic| (refine neN ?_; (try dsimp only); first | exact Mine.NeF.out (by assumption) | exact Ne.symm (Mine.NeF.out (by assumption))))
section
open PySem PySem.W PyProof.Rows PySem.Calls PyProof
set_option Elab.async false
set_option maxRecDepth 100000
set_option maxHeartbeats 8000000
set_option linter.unusedSimpArgs false
set_option linter.unusedVariables false
namespace Mine
example : True := by
  w_top off
  exact True.intro
example : (PySem.Challenge.rw_pe0171_01 = PySem.Challenge.rw_pe0171_01) ∧ hd.heap_1 = hd.heap_1 := by
  k_fill
  exact ⟨rfl, rfl⟩

set_option pp.deepTerms false
set_option pp.maxSteps 1000

local macro_rules | `(tactic| ktr_unf) => `(tactic| ((repeat' apply And.intro) <;> first | k_ne | (exact NeF.mk (by k_ne))))

noncomputable def At0 (s : Shared) (h₀ : Heap) (L : Addr) (ps : List (Str × Value)) (news : List (Addr × Obj)) (s' : Shared) : Prop :=
  ∃ h tk m, s' = { s with heap := h, toks := tk } ∧ Fr h₀ L h (over ps m) ∧ News h₀ L h news
theorem at0_intro {s : Shared} {h₀ h : Heap} {L : Addr} {m : Str → Option Value} {ps : List (Str × Value)} {news news' : List (Addr × Obj)} {tk : Nat}
    (F : Fr h₀ L h m) (N : News h₀ L h news') (hm : ps.map (fun p => m p.1) = ps.map (fun p => some p.2)) (hn : ∀ p ∈ news, p ∈ news') :
    At0 s h₀ L ps news { s with heap := h, toks := tk } := ⟨h, tk, m, rfl, by rw [over_eq (start_of hm)]; exact F, fun p hp => N p (hn p hp)⟩

/-- the table of _law_key's code on the ledger -/
noncomputable def TabL (tl : List (Addr × Obj)) : Prop := tl = [(112, tabObj #[])] ∨ ∃ c oc, tl = [(112, tabF c), (c, oc)] ∧ CodeF oc ∧ NeF 112 c

structure AskS where
  vs : List Value
  ep : Nat
  tl : List (Addr × Obj)

local macro_rules | `(tactic| walk_at "call ref") => `(tactic| ((with_reducible show wpAny _ _ (PySem.call (Value.ref 110) _) _ _ _); k_dflt (refine plc_callN (by k_asm) (by k_asm) (by k_asm) (by k_asm) (by simp only [depth_deeper]; omega) (by omega) (by omega) (by omega) (by omega) ?_); intro l' vs' ep' h' tk' F' N' off' hi'; (try simp only [OffN, and_true] at off'); (try dsimp only)))
local macro_rules | `(tactic| walk_at "call ref") => `(tactic| ((with_reducible show wpAny _ _ (PySem.call (Value.ref 23) _ _) _ _ _); k_dflt (refine bisr_call (by k_asm) (by k_asm) (by k_asm) (by k_asm) (by assumption) (by tb_rel) (by k_mem) (by assumption) (by simp only [depth_deeper]; omega) (by omega) (by omega) (by omega) (by omega) ?_); intro t' h' tk' F' N'; (try dsimp only)))
local macro_rules | `(tactic| walk_at "call ref") => `(tactic| ((with_reducible show wpAny _ _ (PySem.call (Value.ref 32) _ _) _ _ _); k_dflt (refine bisl_call (by k_asm) (by k_asm) (by k_asm) (by k_asm) (by assumption) (by tb_rel) (by k_mem) (by assumption) (by simp only [depth_deeper]; omega) (by omega) (by omega) (by omega) (by omega) ?_); intro t' h' tk' F' N'; (try dsimp only)))

theorem ask_spec {w : World} {dp un : Nat} {fr : Option (List Env)} {gd : Option (List Code)} {s : Shared} {g : Heap} {p : Program} {loose : List Str} {mean : ExcName → Option Value} {mg mb : Str → Option Value} {a b : List Nat} {t1 t2 : Tok} {tl0 : List (Addr × Obj)} {Q E : Value → Shared → Prop}
   (X : (hd.heap_1 w.params).In g) (T : Top p loose mean mg mb g) (C : CodeHd g 116 112) (kg : Keeps g s.heap) (htl : TabL tl0) (hin : ∀ q ∈ tl0, s.heap.get? q.1 = some q.2 ∧ g.get? q.1 = none) (hroom : dp + 4 < recursionLimit) (h1 : a.length ≤ 4) (h2 : b.length ≤ 4)
   (hQ : ∀ (l : Addr) (vs : List Value) (ep : Nat) (c : Addr) (oc : Obj) (h' : Heap) (tk' : Nat), Keeps (hideAll s.heap [112]) h' → h'.get? 112 = some (tabF c) → h'.get? c = some oc → CodeF oc → (112 : Addr) ≠ c → (s.heap.get? c = none ∨ (c, oc) ∈ tl0) → s.heap.get? l = none → h'.get? l = some (listOf vs.toArray ep) → IntsAre vs (ansTo a b 25) → Q (.ref l) { s with heap := h', toks := tk' }) :
   wpAny (model theProg w) (Ar dp un fr gd) (PySem.call (.ref 124) [.str (ofL a) t1, .str (ofL b) t2]) Q E s := by
  k_dflt (refine' enter_raw (X.keeps kg) (T.keeps kg).nolimit ?ho ?hcd (show dp < recursionLimit by omega) (BindsTo.of_eq (binds := [(Str.ofString "one", .str (ofL a) t1), (Str.ofString "other", .str (ofL b) t2)]) ?hbind)  (locs ?hloc) ?_ ?h1 ?h2 ?h3 ?hcell)
  case ho => k_is
  case hcd => k_is
  case hbind => exact rfl
  case hcell => decide
  case hloc => exact rfl
  case h1 => exact rfl
  case h2 => exact rfl
  case h3 => exact rfl
  k_dflt (intro L h₁ F' N')
  have kg2 : Keeps g (hideAll s.heap (tl0.map (·.1))) := keeps_hide kg (by intro a ha; obtain ⟨q, hq, rfl⟩ := List.mem_map.mp ha; exact (hin q hq).2)
  have X2 := X.keeps kg2
  have T2 := T.keeps kg2
  have C2 := C.keeps kg2
  obtain ⟨F, N⟩ := rebase tl0 F' N' fun q hq => (hin q hq).1
  have Lnew : ∀ q ∈ tl0, q.1 < L := fun q hq => Nat.lt_of_lt_of_le (Heap.lt_size (hin q hq).1) F'.above
  clear F' N'
  generalize hH : hideAll s.heap (tl0.map (·.1)) = H at *
  rw [List.nil_append] at N
  try dsimp only
  refine cut_at 1 (R := fun s' => ∃ ans ep, At s H L [(Str.ofString "answers", .ref ans), (Str.ofString "one", .str (ofL a) t1), (Str.ofString "other", .str (ofL b) t2)] ((ans, listOf #[] ep) :: tl0) s') ?_ ?_
  · refine hide fun Qc1 Hc1 => ?_
    simp only [List.take_succ_cons, List.take_zero]
    rcases htl with rfl | ⟨c, oc, rfl, _, hne⟩
    · k_steps
      all_goals (repeat (first | refine Hc1.out _ _ ?_))
      all_goals (try ((try dsimp only); (with_reducible refine wpAny_execs_nil ?_); (repeat (first | refine Hc1.out _ _ ?_))))
      refine ⟨_, _, at_intro (by k_asm) (by k_asm) (by tb_start) (by tb_rel) ?_⟩
      exact nodup2 (by dsimp only; omega)
    · k_steps
      all_goals (repeat (first | refine Hc1.out _ _ ?_))
      all_goals (try ((try dsimp only); (with_reducible refine wpAny_execs_nil ?_); (repeat (first | refine Hc1.out _ _ ?_))))
      refine ⟨_, _, at_intro (by k_asm) (by k_asm) (by tb_start) (by tb_rel) ?_⟩
      exact nodup3 ⟨⟨by dsimp only; omega, by dsimp only; omega⟩, hne.out⟩
  clear F N h₁
  intro s' hs9
  refine small fun Gx hGx => ?_
  obtain ⟨ans, ep, hAt⟩ := hs9
  refine hGx ?_
  clear hGx Gx
  simp only [List.drop_succ_cons, List.drop_zero]
  refine cut_at 1 (R := fun s' => ∃ (vs : List Value) (ep : Nat) (c : Addr) (oc : Obj), IntsAre vs (ansTo a b 25) ∧ CodeF oc ∧ (112 : Addr) ≠ c ∧ (tl0 ≠ [(112, tabObj #[])] → [(112, tabF c), (c, oc)] = tl0) ∧ At s H L [(Str.ofString "answers", .ref ans)] [(ans, listOf vs.toArray ep), (112, tabF c), (c, oc)] s') ?_ ?_
  · refine hide fun Qc2 Hc2 => ?_
    simp only [List.take_succ_cons, List.take_zero]
    refine wpAny_execs_cons ?_
    refine for_range (s := s) (h₀ := H) (L := L) (σ := AskS) 0 5
      (fun c => [(Str.ofString "answers", .ref ans), (Str.ofString "one", .str (ofL a) t1), (Str.ofString "other", .str (ofL b) t2)])
      (fun c => (ans, listOf c.vs.toArray c.ep) :: c.tl)
      (fun i c => IntsAre c.vs (ansTo a b (5 * i)) ∧ TabL c.tl ∧ (i = 5 → c.tl ≠ [(112, tabObj #[])]) ∧ (tl0 ≠ [(112, tabObj #[])] → c.tl = tl0))
      rfl rfl rfl rfl ?_ ?_ ?_
    · refine small fun Gx hGx => ?_
      obtain ⟨h, tk, m, rfl, F, N, nd⟩ := hAt
      refine hGx ?_
      clear hGx Gx
      k_steps
      all_goals (repeat (first | refine Hc2.out _ _ ?_ | refine Hc1.out _ _ ?_))
      all_goals (try ((try dsimp only); (with_reducible refine wpAny_execs_nil ?_); (repeat (first | refine Hc2.out _ _ ?_ | refine Hc1.out _ _ ?_))))
      refine ⟨_, _, _, _, _, rfl, by assumption, small_of (by omega) (by omega) (by omega) (by omega) (by omega) (by omega), rfl, ⟨[], ep, tl0⟩, ⟨.nil, htl, fun h => absurd h (by decide), fun _ => rfl⟩, at_intro (by k_asm) (by k_asm) (by tb_start) (fun q hq => hq) nd⟩
    · clear hAt htl hin Lnew hH kg2 ep s'
      rintro i ⟨vs, ep, tl⟩ it1 h tk m t hi hp9 F N nd
      refine small fun Gx hGx => ?_
      obtain ⟨hv, ht, -, hsm⟩ := hp9
      refine hGx ?_
      clear hGx Gx
      dsimp only at hv ht F N nd hsm ⊢
      refine hide fun Qt3 Ht3 => ?_
      refine wpAny_execs_cons ?_
      refine for_range (s := s) (h₀ := H) (L := L) (σ := AskS) (-2) 5
        (fun c => [(Str.ofString "price", .int (0 + (i : Int)) t), (Str.ofString "answers", .ref ans), (Str.ofString "one", .str (ofL a) t1), (Str.ofString "other", .str (ofL b) t2)])
        (fun c => (it1, rangeIt (0 + (i : Int) + 1) ((5 : Nat) - (i : Int) - 1) 1) :: (ans, listOf c.vs.toArray c.ep) :: c.tl)
        (fun j c => IntsAre c.vs (ansTo a b (5 * i + j)) ∧ TabL c.tl ∧ (0 < j → c.tl ≠ [(112, tabObj #[])]) ∧ (tl0 ≠ [(112, tabObj #[])] → c.tl = tl0))
        rfl rfl rfl rfl ?_ ?_ ?_
      · k_steps
        all_goals (repeat (first | refine Ht3.out _ _ ?_ | refine Hc2.out _ _ ?_ | refine Hc1.out _ _ ?_))
        all_goals (try ((try dsimp only); (with_reducible refine wpAny_execs_nil ?_); (repeat (first | refine Ht3.out _ _ ?_ | refine Hc2.out _ _ ?_ | refine Hc1.out _ _ ?_))))
        refine ⟨_, _, _, _, _, rfl, by assumption, small_of (by omega) (by omega) (by omega) (by omega) (by omega) (by omega), rfl, ⟨vs, ep, tl⟩, ⟨hv, ht, fun h => absurd h (by decide), hsm⟩, at_intro (by k_asm) (by k_asm) (by tb_start) (fun q hq => hq) nd⟩
      · clear F N nd hv ht hsm vs ep tl h tk m
        rintro j ⟨vs, ep, tl⟩ it2 h tk m tj hj hp9 F N nd
        refine small fun Gx hGx => ?_
        obtain ⟨hv, ht, -, hsm⟩ := hp9
        refine hGx ?_
        clear hGx Gx
        dsimp only at hv ht F N nd hsm ⊢
        refine hide fun Qt4 Ht4 => ?_
        refine cut_at 2 (R := fun s' => ∃ pl vp ep0 f o0 c1 o1 c2 o2 c3 o3 c4 o4 c0 oc0, IntsAre vp (places a.length b.length (-2 + (j : Int))) ∧ CodeF oc0 ∧ KeySem w H f [(f, o0), (c1, o1), (c2, o2), (c3, o3), (c4, o4), (c0, oc0)] a b (-2 + (j : Int)) (0 + (i : Int)) ∧
            (NeF ans pl ∧ NeF ans f ∧ NeF ans c1 ∧ NeF ans c2 ∧ NeF ans c3 ∧ NeF ans c4) ∧ [it2, it1, ans, 112, c0].Nodup ∧ (tl0 ≠ [(112, tabObj #[])] → [(112, tabF c0), (c0, oc0)] = tl0) ∧
            At0 s H L [(Str.ofString "places", .ref pl), (Str.ofString "told", .ref f), (Str.ofString "shift", .int (-2 + (j : Int)) tj), (Str.ofString "price", .int (0 + (i : Int)) t), (Str.ofString "answers", .ref ans), (Str.ofString "one", .str (ofL a) t1), (Str.ofString "other", .str (ofL b) t2)]
              [(pl, listOf vp.toArray ep0), (f, o0), (c1, o1), (c2, o2), (c3, o3), (c4, o4), (112, tabF c0), (c0, oc0), (it2, rangeIt (-2 + (j : Int) + 1) ((5 : Nat) - (j : Int) - 1) 1), (it1, rangeIt (0 + (i : Int) + 1) ((5 : Nat) - (i : Int) - 1) 1), (ans, listOf vs.toArray ep)] s') ?_ ?_
        · refine hide fun Qc5 Hc5 => ?_
          simp only [List.take_succ_cons, List.take_zero]
          rcases ht with rfl | ⟨c0, oc0, rfl, hcf, hne0⟩
          · refine small fun Gx hGx => ?_
            obtain ⟨⟨x1, x2, x3⟩, ⟨x4, x5⟩, x6⟩ := nodup4' nd
            refine hGx ?_
            clear hGx Gx
            have hE : ∀ {P : Prop}, tl0 ≠ [(112, tabObj #[])] → P := fun h => absurd (hsm h).symm h
            clear hsm
            clear nd
            k_steps
            all_goals (repeat (first | refine Hc5.out _ _ ?_ | refine Ht4.out _ _ ?_ | refine Ht3.out _ _ ?_ | refine Hc2.out _ _ ?_ | refine Hc1.out _ _ ?_))
            all_goals (try ((try dsimp only); (with_reducible refine wpAny_execs_nil ?_); (repeat (first | refine Hc5.out _ _ ?_ | refine Ht4.out _ _ ?_ | refine Ht3.out _ _ ?_ | refine Hc2.out _ _ ?_ | refine Hc1.out _ _ ?_))))
            rename NeF _ _ ∧ _ => off'
            refine small fun Gx hGx => ?_
            obtain ⟨y1, y2, y3, y4⟩ := off'
            refine hGx ?_
            clear hGx Gx
            k_dflt (refine key_callE (by k_asm) (by k_asm) (by k_asm) (by k_asm) (by assumption) [(_, listOf _ _), (it2, rangeIt (-2 + (j : Int) + 1) ((5 : Nat) - (j : Int) - 1) 1), (it1, rangeIt (0 + (i : Int) + 1) ((5 : Nat) - (i : Int) - 1) 1), (ans, listOf vs.toArray ep)] (by k_mem) (by tb_rel) ?hne (by omega) (by omega) (by omega) ?_)
            case hne => k_all
            intro f o0 c1 o1 c2 o2 c3 o3 c4 o4 c0 oc0 h' tk' F' N' hcf hc0 offs KS
            have hsm' : tl0 ≠ [(112, tabObj #[])] → [(112, tabF c0), (c0, oc0)] = tl0 := hE
            simp only [OffN, and_true] at offs
            refine small fun Gx hGx => ?_
            obtain ⟨⟨z1, z2, z3, z4⟩, ⟨_, _, _, z5⟩, ⟨_, _, _, z6⟩, ⟨_, _, _, z7⟩, ⟨_, _, _, z8⟩, ⟨_, z9, z10, z11⟩⟩ := offs
            refine hGx ?_
            clear hGx Gx
            k_steps
            all_goals (repeat (first | refine Hc5.out _ _ ?_ | refine Ht4.out _ _ ?_ | refine Ht3.out _ _ ?_ | refine Hc2.out _ _ ?_ | refine Hc1.out _ _ ?_))
            all_goals (try ((try dsimp only); (with_reducible refine wpAny_execs_nil ?_); (repeat (first | refine Hc5.out _ _ ?_ | refine Ht4.out _ _ ?_ | refine Ht3.out _ _ ?_ | refine Hc2.out _ _ ?_ | refine Hc1.out _ _ ?_))))
            refine ⟨_, _, _, f, o0, c1, o1, c2, o2, c3, o3, c4, o4, c0, oc0, by assumption, hcf, KS, ?_, nodup5 ?_, hsm', at0_intro (by k_asm) (by k_asm) (by tb_start) (by tb_rel)⟩
            all_goals ktr_unf
          · refine small fun Gx hGx => ?_
            obtain ⟨⟨x1, x2, x3, x7⟩, ⟨x4, x5, x8⟩, ⟨x6, x9⟩, x10⟩ := nodup5' nd
            refine hGx ?_
            clear hGx Gx
            have hsm' := hsm
            clear nd hsm
            k_steps
            all_goals (repeat (first | refine Hc5.out _ _ ?_ | refine Ht4.out _ _ ?_ | refine Ht3.out _ _ ?_ | refine Hc2.out _ _ ?_ | refine Hc1.out _ _ ?_))
            all_goals (try ((try dsimp only); (with_reducible refine wpAny_execs_nil ?_); (repeat (first | refine Hc5.out _ _ ?_ | refine Ht4.out _ _ ?_ | refine Ht3.out _ _ ?_ | refine Hc2.out _ _ ?_ | refine Hc1.out _ _ ?_))))
            rename NeF _ _ ∧ _ => off'
            refine small fun Gx hGx => ?_
            obtain ⟨y1, y2, y3, y4, y5⟩ := off'
            refine hGx ?_
            clear hGx Gx
            k_dflt (refine key_callF (by k_asm) (by k_asm) (by k_asm) (by k_asm) (by assumption) [(_, listOf _ _), (it2, rangeIt (-2 + (j : Int) + 1) ((5 : Nat) - (j : Int) - 1) 1), (it1, rangeIt (0 + (i : Int) + 1) ((5 : Nat) - (i : Int) - 1) 1), (ans, listOf vs.toArray ep)] (by k_mem) (by k_mem) hcf (by tb_rel) ?hne (by omega) (by omega) (by omega) ?_)
            case hne => k_all
            intro f o0 c1 o1 c2 o2 c3 o3 c4 o4 h' tk' F' N' offs KS
            simp only [OffN, and_true] at offs
            refine small fun Gx hGx => ?_
            obtain ⟨⟨z1, z2, z3, z4⟩, ⟨_, _, _, z5⟩, ⟨_, _, _, z6⟩, ⟨_, _, _, z7⟩, ⟨_, _, _, z8⟩⟩ := offs
            refine hGx ?_
            clear hGx Gx
            k_steps
            all_goals (repeat (first | refine Hc5.out _ _ ?_ | refine Ht4.out _ _ ?_ | refine Ht3.out _ _ ?_ | refine Hc2.out _ _ ?_ | refine Hc1.out _ _ ?_))
            all_goals (try ((try dsimp only); (with_reducible refine wpAny_execs_nil ?_); (repeat (first | refine Hc5.out _ _ ?_ | refine Ht4.out _ _ ?_ | refine Ht3.out _ _ ?_ | refine Hc2.out _ _ ?_ | refine Hc1.out _ _ ?_))))
            refine ⟨_, _, _, f, o0, c1, o1, c2, o2, c3, o3, c4, o4, c0, oc0, by assumption, hcf, KS, ?_, nodup5 ?_, hsm', at0_intro (by k_asm) (by k_asm) (by tb_start) (by tb_rel)⟩
            all_goals ktr_unf
        clear F N nd ht hsm h tk m tl
        intro s' hs9
        refine small fun Gx hGx => ?_
        obtain ⟨pl, vp, ep0, f, o0, c1, o1, c2, o2, c3, o3, c4, o4, c0, oc0, hpl, hcf, KS, ⟨y1, y2, y3, y4, y5, y6⟩, nd, hsm, h, tk, m, rfl, F, N⟩ := hs9
        refine hGx ?_
        clear hGx Gx
        simp only [List.drop_succ_cons, List.drop_zero]
        refine small fun Gx hGx => ?_
        obtain ⟨⟨x1, x2, x3, x7⟩, ⟨x4, x5, x8⟩, ⟨x6, x9⟩, x10⟩ := nodup5' nd
        refine hGx ?_
        clear hGx Gx
        have hlenA := IntsAre.length hv
        have hlenB : (ansTo a b (5 * i + j)).length = 5 * i + j := by simp [ansTo]
        have e1 : (0 + (i : Int)) = i := by omega
        have e2 : (-2 + (j : Int)) = (j : Int) - 2 := by omega
        have e3 : 5 * i + (j + 1) = 5 * i + j + 1 := by omega
        k_steps
        all_goals (repeat (first | refine Hc5.out _ _ ?_ | refine Ht4.out _ _ ?_ | refine Ht3.out _ _ ?_ | refine Hc2.out _ _ ?_ | refine Hc1.out _ _ ?_))
        all_goals (try ((try dsimp only); (with_reducible refine wpAny_execs_nil ?_); (repeat (first | refine Hc5.out _ _ ?_ | refine Ht4.out _ _ ?_ | refine Ht3.out _ _ ?_ | refine Hc2.out _ _ ?_ | refine Hc1.out _ _ ?_))))
        all_goals simp only [List.push_toArray] at *
        all_goals (
          refine ⟨⟨vs ++ [.int _ _], _, [(112, tabF c0), (c0, oc0)]⟩, ⟨?_, .inr ⟨c0, oc0, rfl, hcf, x10⟩, fun _ q => ?_, hsm⟩, at_intro (by k_asm) (by k_asm) (by tb_start) (by tb_rel) nd⟩
          · rw [e3, ansTo_succ a b hj]; dsimp only; rw [e1, e2]; exact IntsAre.snoc hv _ _
          · have := congrArg List.length q; simp at this)
      · clear F N nd hv ht hsm vs ep tl h tk m
        rintro ⟨vs, ep, tl⟩ h tk m hp9 F N nd
        refine small fun Gx hGx => ?_
        obtain ⟨hv, ht, hf, hsm⟩ := hp9
        refine hGx ?_
        clear hGx Gx
        dsimp only at hv ht F N nd hf hsm ⊢
        refine wpAny_execs_nil ?_
        all_goals (repeat (first | refine Hc5.out _ _ ?_ | refine Ht4.out _ _ ?_ | refine Ht3.out _ _ ?_ | refine Hc2.out _ _ ?_ | refine Hc1.out _ _ ?_))
        all_goals (try ((try dsimp only); (with_reducible refine wpAny_execs_nil ?_); (repeat (first | refine Hc5.out _ _ ?_ | refine Ht4.out _ _ ?_ | refine Ht3.out _ _ ?_ | refine Hc2.out _ _ ?_ | refine Hc1.out _ _ ?_))))
        exact ⟨⟨vs, ep, tl⟩, ⟨by rw [show 5 * (i + 1) = 5 * i + 5 from by omega]; exact hv, ht, fun _ => hf (by decide), hsm⟩, at_intro (by k_asm) (by k_asm) (by tb_start) (fun q hq => hq) nd⟩
    · rintro ⟨vs, ep, tl⟩ h tk m hp9 F N nd
      refine small fun Gx hGx => ?_
      obtain ⟨hv, ht, hf, hsm⟩ := hp9
      refine hGx ?_
      clear hGx Gx
      dsimp only at hv ht F N nd hf hsm ⊢
      refine wpAny_execs_nil ?_
      all_goals (repeat (first | refine Hc5.out _ _ ?_ | refine Ht4.out _ _ ?_ | refine Ht3.out _ _ ?_ | refine Hc2.out _ _ ?_ | refine Hc1.out _ _ ?_))
      all_goals (try ((try dsimp only); (with_reducible refine wpAny_execs_nil ?_); (repeat (first | refine Hc5.out _ _ ?_ | refine Ht4.out _ _ ?_ | refine Ht3.out _ _ ?_ | refine Hc2.out _ _ ?_ | refine Hc1.out _ _ ?_))))
      rcases ht with e | ⟨c, oc, rfl, hcf, hne⟩
      · exact absurd e (hf rfl)
      · exact ⟨vs, ep, c, oc, hv, hcf, hne.out, hsm, at_intro (by k_asm) (by k_asm) (by tb_start) (fun q hq => hq) nd⟩
  clear hAt
  intro s' hs9
  refine small fun Gx hGx => ?_
  obtain ⟨vs, ep, c, oc, hv, hcf, hne, hsm, h, tk, m, rfl, F, N, nd⟩ := hs9
  refine hGx ?_
  clear hGx Gx
  simp only [List.drop_succ_cons, List.drop_zero]
  k_steps
  all_goals (repeat (first | refine Hc5.out _ _ ?_ | refine Ht4.out _ _ ?_ | refine Ht3.out _ _ ?_ | refine Hc2.out _ _ ?_ | refine Hc1.out _ _ ?_))
  all_goals (try ((try dsimp only); (with_reducible refine wpAny_execs_nil ?_); (repeat (first | refine Hc5.out _ _ ?_ | refine Ht4.out _ _ ?_ | refine Ht3.out _ _ ?_ | refine Hc2.out _ _ ?_ | refine Hc1.out _ _ ?_))))
  have hA := N (ans, listOf vs.toArray ep) (by simp)
  have hT := N (112, tabF c) (by simp)
  have hC := N (c, oc) (by simp)
  refine small fun Gx hGx => ?_
  obtain ⟨⟨x1, x2⟩, x3⟩ := nodup3' nd
  refine hGx ?_
  clear hGx Gx
  have htl' : tl0 = [(112, tabObj #[])] ∨ tl0 = [(112, tabF c), (c, oc)] := by
    by_cases q : tl0 = [(112, tabObj #[])]
    · exact .inl q
    · exact .inr (hsm q).symm
  refine hQ ans vs ep c oc _ _ ?_ hT.1 hC.1 hcf hne ?_ ?_ hA.1 hv
  · intro b' o e
    have e' := of_hideAll _ e
    have hb : b' ≠ 112 := fun q => by rw [q, hideAll_none [112] (by simp)] at e; cases e
    rcases htl' with q | q
    · exact F.keep b' o (by rw [← hH, q]; exact e)
    · by_cases qc : b' = c
      · have := (hin (c, oc) (by rw [q]; simp)).1
        rw [qc] at e'
        rw [e'] at this
        cases this
        rw [qc]; exact hC.1
      · exact F.keep b' o (by rw [← hH, q]; exact hideAll_get _ e' (by simpa using ⟨hb, qc⟩))
  · rcases htl' with q | q
    · refine .inl ?_
      cases e : s.heap.get? c with
      | none => rfl
      | some o =>
        have : H.get? c = some o := by
          rw [← hH, q]
          exact hideAll_get _ e (by simpa using Ne.symm hne)
        rw [hC.2.2] at this; cases this
    · exact .inr (by rw [q]; simp)
  · cases e : s.heap.get? ans with
    | none => rfl
    | some o =>
      have : H.get? ans = some o := by
        rw [← hH]
        refine hideAll_get _ e ?_
        rcases htl' with q | q
        · rw [q]; simpa using x1.out
        · rw [q]; simpa using ⟨x1.out, x2.out⟩
      rw [hA.2.2] at this; cases this
end Mine
end

section
open PySem PySem.W PyProof.Rows PySem.Calls PyProof
set_option Elab.async false
set_option maxRecDepth 100000
set_option maxHeartbeats 8000000
set_option linter.unusedSimpArgs false
set_option linter.unusedVariables false
namespace Mine
example : True := by
  w_top off
  exact True.intro
example : (PySem.Challenge.rw_pe0171_01 = PySem.Challenge.rw_pe0171_01) ∧ hd.heap_1 = hd.heap_1 := by
  k_fill
  exact ⟨rfl, rfl⟩

set_option pp.deepTerms false
set_option pp.maxSteps 1000

/-- slide on: the same sign, or the same letter in the other size where the place was reached for one less -/
noncomputable def sameB (a b : List Nat) (i k r : Int) : Bool := decide (subN (a.getD i.toNat 0) (b.getD (i + k).toNat 0) = 0) || (decide (subN (a.getD i.toNat 0) (b.getD (i + k).toNat 0) = 1) && decide (i ≤ r))

theorem subN_eq0 {x y : Nat} (h : (ofL [x] == ofL [y]) = true) : subN x y = 0 := by
  rw [ofL_beq] at h
  have : x = y := by simpa using h
  rw [this, subN_self]
theorem subN_eq1 {x y : Nat} (h : (ofL [x] == ofL [y]) = false) (h2 : (Txt.lower (ofL [x]) == Txt.lower (ofL [y])) = true) : subN x y = 1 := by
  rw [ofL_beq] at h
  have h3 : ¬ x = y := by simpa using h
  unfold subN
  rw [if_neg h3, if_pos (by simpa using h2)]
theorem subN_eq2 {x y : Nat} (h : (ofL [x] == ofL [y]) = false) (h2 : (Txt.lower (ofL [x]) == Txt.lower (ofL [y])) = false) : subN x y = 2 := by
  rw [ofL_beq] at h
  have h3 : ¬ x = y := by simpa using h
  unfold subN
  rw [if_neg h3, if_neg (by simpa using h2)]

theorem same_spec {w : World} {dp un : Nat} {fr : Option (List Env)} {gd : Option (List Code)} {s : Shared} {p : Program} {loose : List Str} {mean : ExcName → Option Value} {mg mb : Str → Option Value} {a b : List Nat} {i k r : Int} {t1 t2 t3 t4 t5 : Tok} {Q E : Value → Shared → Prop}
   (X : (hd.heap_1 w.params).In s.heap) (T : Top p loose mean mg mb s.heap) (hroom : dp < recursionLimit) (h1 : a.length ≤ 4) (h2 : b.length ≤ 4) (hi0 : 0 ≤ i) (hi1 : i < a.length) (hk0 : 0 ≤ i + k) (hk1 : i + k < b.length)
   (hQ : ∀ (h' : Heap) (tk' : Nat), Keeps s.heap h' → Q (.bool (sameB a b i k r)) { s with heap := h', toks := tk' }) :
   wpAny (model theProg w) (Ar dp un fr gd) (PySem.call (.ref 138) [.str (ofL a) t1, .str (ofL b) t2, .int i t3, .int k t4, .int r t5]) Q E s := by
  k_dflt (refine' enter_raw X T.nolimit ?ho ?hcd hroom (BindsTo.of_eq (binds := [(Str.ofString "one", .str (ofL a) t1), (Str.ofString "other", .str (ofL b) t2), (Str.ofString "place", .int i t3), (Str.ofString "shift", .int k t4), (Str.ofString "reached", .int r t5)]) ?hbind)  (locs ?hloc) ?_ ?h1 ?h2 ?h3 ?hcell)
  case ho => k_is
  case hcd => k_is
  case hbind => exact rfl
  case hcell => decide
  case hloc => exact rfl
  case h1 => exact rfl
  case h2 => exact rfl
  case h3 => exact rfl
  k_dflt (intro L h₁ F' N')
  have lA := ofL_length a
  have lB := ofL_length b
  have e1 : Txt.item (ofL a) i = ofL [a.getD i.toNat 0] := item_at0 hi0 hi1
  have e2 : Txt.item (ofL b) (i + k) = ofL [b.getD (i + k).toNat 0] := item_at0 hk0 hk1
  k_steps
  all_goals simp only [e1, e2] at *
  · have q := subN_eq0 (by assumption)
    have e : sameB a b i k r = true := by unfold sameB; rw [q]; simp
    rw [e] at hQ
    exact hQ _ _ (Fr.keep ‹_›)
  · have q := subN_eq1 (by assumption) (by assumption)
    have e : sameB a b i k r = decide (i ≤ r) := by unfold sameB; rw [q]; simp
    rw [e] at hQ
    exact hQ _ _ (Fr.keep ‹_›)
  · have q := subN_eq2 (by assumption) (by assumption)
    have e : sameB a b i k r = false := by unfold sameB; rw [q]; simp
    rw [e] at hQ
    have z : (Txt.lower (ofL [a.getD i.toNat 0]) == Txt.lower (ofL [b.getD (i + k).toNat 0])) = false := by assumption
    rw [z]
    exact hQ _ _ (Fr.keep ‹_›)

theorem same_call {w : World} {dp un : Nat} {fr : Option (List Env)} {gd : Option (List Code)} {s : Shared} {p : Program} {loose : List Str} {mean : ExcName → Option Value} {mg mb : Str → Option Value} {h₀ : Heap} {L : Addr} {m : Str → Option Value} {news : List (Addr × Obj)} {a b : List Nat} {i k r : Int} {t1 t2 t3 t4 t5 : Tok} {Q E : Value → Shared → Prop}
   (F : Fr h₀ L s.heap m) (N : News h₀ L s.heap news) (X : (hd.heap_1 w.params).In h₀) (T : Top p loose mean mg mb h₀) (hroom : dp < recursionLimit) (h1 : a.length ≤ 4) (h2 : b.length ≤ 4) (hi0 : 0 ≤ i) (hi1 : i < a.length) (hk0 : 0 ≤ i + k) (hk1 : i + k < b.length)
   (hQ : ∀ (h' : Heap) (tk' : Nat), Fr h₀ L h' m → News h₀ L h' news → Q (.bool (sameB a b i k r)) { s with heap := h', toks := tk' }) :
   wpAny (model theProg w) (Ar dp un fr gd) (PySem.call (.ref 138) [.str (ofL a) t1, .str (ofL b) t2, .int i t3, .int k t4, .int r t5]) Q E s :=
  same_spec (X.keeps F.keep) (T.keeps F.keep) hroom h1 h2 hi0 hi1 hk0 hk1 fun h' tk kp => hQ h' tk (fr_on F kp) (news_on N kp)
end Mine
end

section
open PySem PySem.W PyProof.Rows PySem.Calls PyProof
set_option Elab.async false
set_option autoImplicit false
set_option linter.unusedVariables false
set_option linter.unusedSectionVars false
namespace Mine
/-- the price of the first i signs of a against the first j of b -/
noncomputable def G (a b : List Nat) (i j : Nat) : Nat := D subN (a.take i) (b.take j)
theorem E_G (a b : List Nat) (k i : Int) : E a b k i = G a b i.toNat (i + k).toNat := rfl
section
variable {a b : List Nat}
theorem G_succ {i j : Nat} (hi : i < a.length) (hj : j < b.length) : G a b (i + 1) (j + 1) = min (G a b i j + subN (a.getD i 0) (b.getD j 0)) (min (G a b i (j + 1) + 2) (G a b (i + 1) j + 2)) := by
  unfold G
  have g1 : a.getD i 0 = a[i] := by rw [List.getD_eq_getElem?_getD, List.getElem?_eq_getElem hi]; rfl
  have g2 : b.getD j 0 = b[j] := by rw [List.getD_eq_getElem?_getD, List.getElem?_eq_getElem hj]; rfl
  rw [g1, g2, List.take_succ_eq_append_getElem hi, List.take_succ_eq_append_getElem hj]
  exact D_snoc subN _ _ _ _
theorem G_i {i j : Nat} (hi : i < a.length) : G a b i j ≤ G a b (i + 1) j + 2 ∧ G a b (i + 1) j ≤ G a b i j + 2 := by
  unfold G
  rw [List.take_succ_eq_append_getElem hi]
  exact ⟨(D_snoc_back subN _ _).1 _, D_snoc_del subN _ _ _⟩
theorem G_j {i j : Nat} (hj : j < b.length) : G a b i j ≤ G a b i (j + 1) + 2 ∧ G a b i (j + 1) ≤ G a b i j + 2 := by
  unfold G
  rw [List.take_succ_eq_append_getElem hj]
  exact ⟨(D_snoc_back subN _ _).2 _, D_snoc_ins subN _ _ _⟩
theorem G_len {i j : Nat} (hi : i ≤ a.length) (hj : j ≤ b.length) : 2 * i ≤ G a b i j + 2 * j ∧ 2 * j ≤ G a b i j + 2 * i := by
  have := D_len subN (a.take i) (b.take j)
  rw [List.length_take, List.length_take, Nat.min_eq_left hi, Nat.min_eq_left hj] at this
  exact this
theorem G_zero_left {j : Nat} (hj : j ≤ b.length) : G a b 0 j = 2 * j := by
  unfold G; rw [List.take_zero, D_nil_left, List.length_take, Nat.min_eq_left hj]
theorem G_zero_right {i : Nat} (hi : i ≤ a.length) : G a b i 0 = 2 * i := by
  unfold G; rw [List.take_zero, D_nil_right, List.length_take, Nat.min_eq_left hi]
end

/-- the same, at places told by ints -/
noncomputable def GI (a b : List Nat) (x y : Int) : Int := (G a b x.toNat y.toNat : Int)
theorem toNat_one {x : Int} (h : 0 ≤ x) : (x + 1).toNat = x.toNat + 1 := by lia
theorem toNat_lt {x : Int} {n : Nat} (h0 : 0 ≤ x) (h : x < n) : x.toNat < n := by lia
theorem toNat_le {x : Int} {n : Nat} (h : x ≤ n) : x.toNat ≤ n := by lia
theorem min_cast (u v w : Nat) : ((min u (min v w) : Nat) : Int) = min (u : Int) (min (v : Int) (w : Int)) := by lia
section
variable {a b : List Nat} {x y : Int}
theorem GI_nn : 0 ≤ GI a b x y := Int.natCast_nonneg _
theorem GI_succ (hx : 0 ≤ x) (hy : 0 ≤ y) (hi : x < a.length) (hj : y < b.length) : GI a b (x + 1) (y + 1) = min (GI a b x y + subN (a.getD x.toNat 0) (b.getD y.toNat 0)) (min (GI a b x (y + 1) + 2) (GI a b (x + 1) y + 2)) := by
  have := G_succ (a := a) (b := b) (toNat_lt hx hi) (toNat_lt hy hj)
  unfold GI
  rw [toNat_one hx, toNat_one hy, this, min_cast]
  simp only [Int.natCast_add]
  rfl
theorem GI_i (hx : 0 ≤ x) (hi : x < a.length) : GI a b x y ≤ GI a b (x + 1) y + 2 ∧ GI a b (x + 1) y ≤ GI a b x y + 2 := by
  have := G_i (a := a) (b := b) (j := y.toNat) (toNat_lt hx hi)
  unfold GI
  rw [toNat_one hx]
  lia
theorem GI_j (hy : 0 ≤ y) (hj : y < b.length) : GI a b x y ≤ GI a b x (y + 1) + 2 ∧ GI a b x (y + 1) ≤ GI a b x y + 2 := by
  have := G_j (a := a) (b := b) (i := x.toNat) (toNat_lt hy hj)
  unfold GI
  rw [toNat_one hy]
  lia
theorem GI_len (hx : 0 ≤ x) (hy : 0 ≤ y) (hi : x ≤ a.length) (hj : y ≤ b.length) : 2 * x ≤ GI a b x y + 2 * y ∧ 2 * y ≤ GI a b x y + 2 * x := by
  have := G_len (a := a) (b := b) (toNat_le hi) (toNat_le hj)
  unfold GI
  lia
theorem GI_zero_left (hy : 0 ≤ y) (hj : y ≤ b.length) : GI a b 0 y = 2 * y := by
  have := G_zero_left (a := a) (b := b) (toNat_le hj)
  unfold GI
  rw [Int.toNat_zero, this]
  lia
theorem GI_zero_right (hx : 0 ≤ x) (hi : x ≤ a.length) : GI a b x 0 = 2 * x := by
  have := G_zero_right (a := a) (b := b) (toNat_le hi)
  unfold GI
  rw [Int.toNat_zero, this]
  lia
end
theorem min_cases (u v : Int) : min u v ≤ u ∧ min u v ≤ v ∧ (min u v = u ∨ (min u v = v ∧ v < u)) := by lia
theorem plo_cases (k : Int) : 0 ≤ plo k ∧ 0 ≤ plo k + k ∧ (plo k = 0 ∨ plo k + k = 0) := by unfold plo; lia
theorem plo_iff {k i : Int} : plo k ≤ i ↔ 0 ≤ i ∧ 0 ≤ i + k := by unfold plo; lia
theorem plen_iff {n m : Nat} {k : Int} : 0 < plen n m k ↔ -k ≤ n ∧ k ≤ m := by unfold plen plo; lia
theorem plen_top {n m : Nat} {k : Int} (h : 0 < plen n m k) : plo k + plen n m k - 1 ≤ n ∧ plo k + plen n m k - 1 + k ≤ m ∧ (plo k + plen n m k - 1 = n ∨ plo k + plen n m k - 1 + k = m) := by
  unfold plen plo at *; lia

/-- a row that first holds and then not -/
theorem exists_turn {n : Nat} {P : Nat → Prop} (mono : ∀ i j, i ≤ j → P j → P i) : ∃ r, r ≤ n ∧ (∀ j, j < r → P j) ∧ (∀ j, r ≤ j → j < n → ¬ P j) := by
  induction n with
  | zero => exact ⟨0, Nat.le_refl _, fun j h => absurd h (Nat.not_lt_zero _), fun j _ h => absurd h (Nat.not_lt_zero _)⟩
  | succ n ih =>
    obtain ⟨r, h1, h2, h3⟩ := ih
    by_cases q : r = n ∧ P n
    · refine ⟨n + 1, Nat.le_refl _, fun j hj => mono j n (by lia) q.2, fun j hj1 hj2 => by lia⟩
    · refine ⟨r, by lia, h2, fun j hj1 hj2 hp => ?_⟩
      by_cases e : j = n
      · subst e
        by_cases e2 : r = j
        · exact q ⟨e2, hp⟩
        · exact h3 (j - 1) (by lia) (by lia) (mono _ _ (by lia) hp)
      · exact h3 j hj1 (by lia) hp

section
variable {a b : List Nat} {k p : Int} (h1 : a.length ≤ 4) (h2 : b.length ≤ 4) (h3 : -2 ≤ k) (h4 : k ≤ 2)
include h1 h2 h3 h4
theorem told_iff (j : Nat) : Told a b k p j ↔ j < cnt a b p k := by
  obtain ⟨r, hr, hl, hh⟩ := exists_turn (n := (places a.length b.length k).length) (P := Told a b k p) told_mono
  have e := cnt_told h1 h2 h3 h4 hr hl hh
  rw [← e]
  constructor
  · intro q
    by_cases c : j < r
    · exact c
    · exact absurd q (hh j (by lia) (by rw [places_len h1 h2 h3 h4]; exact q.1))
  · exact hl j
theorem cnt_le : cnt a b p k ≤ plen a.length b.length k := by
  by_cases q : cnt a b p k = 0
  · lia
  · have := ((told_iff h1 h2 h3 h4 (p := p) (cnt a b p k - 1)).mpr (by lia)).1
    lia
theorem cnt_low (hp : p < 2 * (k.natAbs : Int)) : cnt a b p k = 0 := by
  by_cases q : cnt a b p k = 0
  · exact q
  · have t := (told_iff h1 h2 h3 h4 (p := p) 0).mpr (Nat.pos_of_ne_zero q)
    have tp := plen_top (Nat.lt_of_le_of_lt (Nat.zero_le _) t.1)
    have t1 : (1 : Int) ≤ plen a.length b.length k := by have := t.1; lia
    have t2 : GI a b (plo k + ((0 : Nat) : Int)) (plo k + ((0 : Nat) : Int) + k) ≤ p := t.2
    rw [show plo k + ((0 : Nat) : Int) = plo k from Int.add_zero _] at t2
    clear t q
    obtain ⟨c1, c2, c3⟩ := plo_cases k
    have ln := GI_len (a := a) (b := b) c1 c2 (by lia) (by lia)
    clear tp t1 h1 h2 h3 h4
    lia
theorem cnt_pos (hp : 2 * (k.natAbs : Int) ≤ p) (hl : 0 < plen a.length b.length k) : 1 ≤ cnt a b p k := by
  have : Told a b k p 0 := by
    refine ⟨hl, ?_⟩
    show GI a b (plo k + ((0 : Nat) : Int)) (plo k + ((0 : Nat) : Int) + k) ≤ p
    rw [show plo k + ((0 : Nat) : Int) = plo k from Int.add_zero _]
    have tp := plen_iff.mp hl
    clear h1 h2 h3 h4 hl
    obtain ⟨c1, c2, c3⟩ := plo_cases k
    rcases c3 with c3 | c3
    · rw [c3, Int.zero_add, GI_zero_left (by lia) tp.2]; lia
    · rw [c3, GI_zero_right c1 (by lia)]; lia
  exact (told_iff h1 h2 h3 h4 0).mp this
end

/-- how far one comes in a shift at a price, if anywhere -/
noncomputable def reach (a b : List Nat) (p k : Int) : Option Int := if 2 * (k.natAbs : Int) ≤ p ∧ 0 < plen a.length b.length k then some (plo k + cnt a b p k - 1) else none
noncomputable def lastP (a b : List Nat) (k : Int) : Int := plo k + plen a.length b.length k - 1
theorem last_cases {a b : List Nat} {k : Int} (hl : 0 < plen a.length b.length k) : lastP a b k ≤ a.length ∧ lastP a b k + k ≤ b.length ∧ (lastP a b k = a.length ∨ lastP a b k + k = b.length) := plen_top hl
theorem last_iff {a b : List Nat} {k i : Int} (hl : 0 < plen a.length b.length k) : i ≤ lastP a b k ↔ i ≤ a.length ∧ i + k ≤ b.length := by
  have := last_cases hl
  lia
theorem last_pos {a b : List Nat} {k i : Int} (h0 : plo k ≤ i) (h : i ≤ lastP a b k) : 0 < plen a.length b.length k := by
  unfold lastP at h
  lia

section
variable {a b : List Nat} (h1 : a.length ≤ 4) (h2 : b.length ≤ 4)
include h1 h2
theorem reach_some {p k f : Int} (h3 : -2 ≤ k) (h4 : k ≤ 2) (h : reach a b p k = some f) : 2 * (k.natAbs : Int) ≤ p ∧ 0 < plen a.length b.length k ∧ plo k ≤ f ∧ f ≤ lastP a b k ∧ GI a b f (f + k) ≤ p := by
  unfold reach at h
  by_cases c : 2 * (k.natAbs : Int) ≤ p ∧ 0 < plen a.length b.length k
  · rw [if_pos c] at h
    have e : plo k + cnt a b p k - 1 = f := Option.some.inj h
    have h5 := cnt_pos h1 h2 h3 h4 c.1 c.2
    have h6 := cnt_le h1 h2 h3 h4 (p := p)
    have t := (told_iff h1 h2 h3 h4 (p := p) (cnt a b p k - 1)).mpr (Nat.sub_lt h5 Nat.one_pos)
    have t2 : GI a b (plo k + ((cnt a b p k - 1 : Nat) : Int)) (plo k + ((cnt a b p k - 1 : Nat) : Int) + k) ≤ p := t.2
    clear t h h3 h4
    rw [show plo k + ((cnt a b p k - 1 : Nat) : Int) = f from by clear t2 h6 h1 h2 c; lia] at t2
    refine ⟨c.1, c.2, by clear t2 h6 h1 h2 c; lia, ?_, t2⟩
    clear t2 h1 h2 c
    unfold lastP; lia
  · rw [if_neg c] at h; cases h
/-- what is reached is not beyond -/
theorem reach_max {p k i : Int} (h3 : -2 ≤ k) (h4 : k ≤ 2) (hp : 2 * (k.natAbs : Int) ≤ p) (hi0 : plo k ≤ i) (hi1 : i ≤ lastP a b k) (hg : GI a b i (i + k) ≤ p) : ∃ f, reach a b p k = some f ∧ i ≤ f := by
  have hl : 0 < plen a.length b.length k := last_pos hi0 hi1
  refine ⟨plo k + cnt a b p k - 1, by unfold reach; rw [if_pos ⟨hp, hl⟩], ?_⟩
  have t : Told a b k p (i - plo k).toNat := by
    refine ⟨?_, ?_⟩
    · clear hg hp h1 h2 h3 h4
      unfold lastP at hi1; lia
    · show GI a b (plo k + ((i - plo k).toNat : Int)) (plo k + ((i - plo k).toNat : Int) + k) ≤ p
      rw [show plo k + ((i - plo k).toNat : Int) = i from by clear hg hp h1 h2 h3 h4 hl hi1; lia]
      exact hg
  have := (told_iff h1 h2 h3 h4 _).mp t
  clear t hg hp h1 h2 h3 h4 hl hi1
  lia
theorem reach_bound {p k f : Int} (h : reach a b p k = some f) : 2 * (k.natAbs : Int) ≤ p ∧ 0 < plen a.length b.length k := by
  unfold reach at h
  by_cases c : 2 * (k.natAbs : Int) ≤ p ∧ 0 < plen a.length b.length k
  · exact c
  · rw [if_neg c] at h; cases h
theorem lastP_eq {k : Int} (hl : 0 < plen a.length b.length k) : lastP a b k = min (a.length : Int) ((b.length : Int) - k) := by
  have := last_cases hl
  clear h1 h2
  lia
/-- each step comes to a place within the price -/
theorem step_sound {p k x : Int} (h3 : -2 ≤ k) (h4 : k ≤ 2) (hp4 : p ≤ 4) (hp : 2 * (k.natAbs : Int) ≤ p) (hl : 0 < plen a.length b.length k)
    (hx : x = plo k ∨ (∃ f, reach a b (p - 2) k = some f ∧ x = f + 1) ∨ (∃ f, reach a b (p - 2) (k - 1) = some f ∧ x = f) ∨ (∃ f, reach a b (p - 2) (k + 1) = some f ∧ x = f + 1)) (hx0 : plo k ≤ x) :
    plo k ≤ min x (lastP a b k) ∧ min x (lastP a b k) ≤ lastP a b k ∧ GI a b (min x (lastP a b k)) (min x (lastP a b k) + k) ≤ p := by
  obtain ⟨p1, p2, p3⟩ := plo_cases k
  obtain ⟨l1, l2, l3⟩ := last_cases hl
  have lo : plo k ≤ lastP a b k := by unfold lastP; clear l1 l2 l3 hx hx0; lia
  obtain ⟨m1, m2, m3⟩ := min_cases x (lastP a b k)
  have x0 := plo_iff.mp hx0
  generalize min x (lastP a b k) = y at *
  refine ⟨by clear hx; lia, m2, ?_⟩
  rcases hx with rfl | ⟨f, hf, rfl⟩ | ⟨f, hf, hxf⟩ | ⟨f, hf, rfl⟩
  · obtain rfl : y = plo k := by clear l1 l2 l3 p1 p2 p3 h1 h2 h3 h4 hp4 hp hl x0 hx0; lia
    have pl := plen_iff.mp hl
    clear m1 m2 m3 lo l1 l2 l3 x0 hx0 h1 h2 hl h3 h4 hp4
    rcases p3 with p3 | p3
    · rw [p3, Int.zero_add, GI_zero_left (by lia) pl.2]; lia
    · rw [p3, GI_zero_right p1 (by lia)]; lia
  · obtain ⟨_, _, c1, c2, c3⟩ := reach_some h1 h2 h3 h4 hf
    have f0 := plo_iff.mp c1
    clear hf hp hp4 h3 h4 h1 h2 p1 p2 p3 lo hx0 x0 c1 hl
    rcases m3 with rfl | ⟨rfl, m3⟩
    · have g := GI_succ (a := a) (b := b) f0.1 f0.2 (by lia) (by lia)
      have s2 := subN_le (a.getD f.toNat 0) (b.getD (f + k).toNat 0)
      rw [show f + 1 + k = f + k + 1 from by lia, g]
      clear g l1 l2 l3 m1 m2 f0 c2
      lia
    · obtain rfl : f = lastP a b k := by lia
      clear l1 l2 l3 m1 m2 m3 f0 c2
      lia
  · subst hxf
    have hb := reach_bound h1 h2 hf
    have pk := plo_iff.mp (show plo k ≤ y from by clear hf hb l1 l2 l3 p1 p2 p3 x0; lia)
    have k3 : -2 ≤ k - 1 ∨ k - 1 < -2 := by lia
    rcases k3 with k3 | k3
    · obtain ⟨_, _, c1, c2, c3⟩ := reach_some h1 h2 k3 (by clear hf hb; lia) hf
      have f0 := plo_iff.mp c1
      have fl := (last_iff hb.2).mp c2
      clear hf hp hp4 h3 h4 h1 h2 p1 p2 p3 lo hx0 x0 c1 c2 hl hb k3
      rcases m3 with rfl | ⟨rfl, m3⟩
      · have g := (GI_j (a := a) (b := b) (x := y) f0.2 (by lia)).2
        rw [show y + (k - 1) + 1 = y + k from by lia] at g
        clear l1 l2 l3 m1 m2 f0 fl pk
        lia
      · have e : x = lastP a b k + 1 := by clear c3; lia
        subst e
        have g := (GI_i (a := a) (b := b) (x := lastP a b k) (y := lastP a b k + k) pk.1 (by clear c3; lia)).1
        rw [show lastP a b k + 1 + (k - 1) = lastP a b k + k from by lia] at c3
        clear l1 l2 l3 m1 m2 f0 fl pk m3
        lia
    · have := hb.1
      clear hf hb l1 l2 l3 p1 p2 p3 x0 m1 m2 m3
      lia
  · have hb := reach_bound h1 h2 hf
    have pk := plo_iff.mp (show plo k ≤ y from by clear hf hb l1 l2 l3 p1 p2 p3 x0; lia)
    have k3 : k + 1 ≤ 2 ∨ 2 < k + 1 := by lia
    rcases k3 with k3 | k3
    · obtain ⟨_, _, c1, c2, c3⟩ := reach_some h1 h2 (by clear hf hb; lia) k3 hf
      have f0 := plo_iff.mp c1
      have fl := (last_iff hb.2).mp c2
      clear hf hp hp4 h3 h4 h1 h2 p1 p2 p3 lo hx0 x0 c1 c2 hl hb k3
      rcases m3 with rfl | ⟨rfl, m3⟩
      · have g := (GI_i (a := a) (b := b) (x := f) (y := f + (k + 1)) f0.1 (by lia)).2
        rw [show f + 1 + k = f + (k + 1) from by lia]
        clear l1 l2 l3 m1 m2 f0 fl pk
        lia
      · have e : f = lastP a b k := by clear c3; lia
        subst e
        have g := (GI_j (a := a) (b := b) (x := lastP a b k) pk.2 (by clear c3; lia)).1
        rw [show lastP a b k + (k + 1) = lastP a b k + k + 1 from by lia] at c3
        clear l1 l2 l3 m1 m2 f0 fl pk m3
        lia
    · have := hb.1
      clear hf hb l1 l2 l3 p1 p2 p3 x0 m1 m2 m3
      lia

/-- where one slides on, the next place is within the price -/
theorem slide_on {p k i : Int} (h3 : -2 ≤ k) (h4 : k ≤ 2) (hi0 : plo k ≤ i) (hi1 : i < lastP a b k) (hg : GI a b i (i + k) ≤ p) (hs : sameB a b i k ((reach a b (p - 1) k).getD (-1)) = true) :
    GI a b (i + 1) (i + 1 + k) ≤ p := by
  have hl : 0 < plen a.length b.length k := last_pos hi0 (Int.le_of_lt hi1)
  have i0 := plo_iff.mp hi0
  have il := (last_iff hl).mp (Int.add_one_le_of_lt hi1)
  have hG := GI_succ (a := a) (b := b) i0.1 i0.2 (Int.lt_of_add_one_le il.1) (by clear hs hg; lia)
  rw [show i + 1 + k = i + k + 1 from by clear hs hg hG; lia, hG]
  clear hG
  unfold sameB at hs
  simp only [Bool.or_eq_true, Bool.and_eq_true, decide_eq_true_eq] at hs
  generalize subN (a.getD i.toNat 0) (b.getD (i + k).toNat 0) = sb at *
  rcases hs with q | ⟨q, r⟩
  · subst q
    clear h1 h2 h3 h4 hi0 hi1 i0 il hl
    lia
  · subst q
    cases hf : reach a b (p - 1) k with
    | none =>
      rw [hf] at r; simp only [Option.getD_none] at r
      have := i0.1
      clear h1 h2 h3 h4 hi0 hi1 i0 il hl hg hf
      lia
    | some f =>
      rw [hf] at r
      simp only [Option.getD_some] at r
      have hb := reach_bound h1 h2 hf
      have ef : f = plo k + cnt a b (p - 1) k - 1 := by
        unfold reach at hf; rw [if_pos hb] at hf; exact (Option.some.inj hf).symm
      have t := (told_iff h1 h2 h3 h4 (p := p - 1) (i - plo k).toNat).mpr (by clear hf hb hg h1 h2 h3 h4 i0 il hi1; lia)
      have t2 : GI a b (plo k + ((i - plo k).toNat : Int)) (plo k + ((i - plo k).toNat : Int) + k) ≤ p - 1 := t.2
      rw [show plo k + ((i - plo k).toNat : Int) = i from by clear hf hb hg h1 h2 h3 h4 i0 il hi1 t t2 ef r; lia] at t2
      clear hf hb h1 h2 h3 h4 i0 il hi1 t ef r hi0 hl
      lia

theorem stop1 {p k i : Int} (hk0 : -2 ≤ k) (hk1 : k ≤ 2) (hp4 : p ≤ 4) (i0 : 0 ≤ i) (i1 : 0 ≤ i + k) (i2 : i + 1 ≤ a.length) (i3 : i + k + 1 ≤ b.length)
    (s3 : ∀ f, reach a b (p - 2) (k + 1) = some f → f + 1 ≤ i) : p - 2 < GI a b i (i + k + 1) := by
  apply Int.not_le.mp
  intro q
  have ln := GI_len (a := a) (b := b) i0 (Int.le_trans i1 (Int.le_of_lt (Int.lt_succ (i + k)))) (Int.le_of_lt (Int.lt_of_add_one_le i2)) i3
  have pl : 0 < plen a.length b.length (k + 1) := plen_iff.mpr (by clear q ln s3 h1 h2; lia)
  have b1 : k + 1 ≤ 2 := by clear pl s3 i2 i3; lia
  have b2 : 2 * ((k + 1).natAbs : Int) ≤ p - 2 := by clear pl s3 i2 i3 h1 h2 hp4 b1; lia
  obtain ⟨f, hf, hfi⟩ := reach_max h1 h2 (p := p - 2) (k := k + 1) (i := i) (by clear s3 ln q; lia) b1 b2 (plo_iff.mpr ⟨i0, by clear s3 ln q; lia⟩) ((last_iff pl).mpr ⟨by clear s3 ln q; lia, by clear s3 ln q; lia⟩) (by rw [show i + (k + 1) = i + k + 1 from by clear s3 ln q; lia]; exact q)
  exact absurd (s3 f hf) (by clear s3 hf ln q h1 h2; lia)
theorem stop2 {p k i : Int} (hk0 : -2 ≤ k) (hk1 : k ≤ 2) (hp4 : p ≤ 4) (i0 : 0 ≤ i) (i1 : 0 ≤ i + k) (i2 : i + 1 ≤ a.length) (i3 : i + k + 1 ≤ b.length)
    (s2 : ∀ f, reach a b (p - 2) (k - 1) = some f → f ≤ i) : p - 2 < GI a b (i + 1) (i + k) := by
  apply Int.not_le.mp
  intro q
  have ln := GI_len (a := a) (b := b) (Int.le_trans i0 (Int.le_of_lt (Int.lt_succ i))) i1 i2 (Int.le_of_lt (Int.lt_of_add_one_le i3))
  have pl : 0 < plen a.length b.length (k - 1) := plen_iff.mpr (by clear q ln s2 h1 h2; lia)
  have b1 : -2 ≤ k - 1 := by clear pl s2 i2 i3; lia
  have b2 : 2 * ((k - 1).natAbs : Int) ≤ p - 2 := by clear pl s2 i2 i3 h1 h2 hp4 b1; lia
  obtain ⟨f, hf, hfi⟩ := reach_max h1 h2 (p := p - 2) (k := k - 1) (i := i + 1) b1 (by clear s2 ln q; lia) b2 (plo_iff.mpr ⟨by clear s2 ln q; lia, by clear s2 ln q; lia⟩) ((last_iff pl).mpr ⟨i2, by clear s2 ln q; lia⟩) (by rw [show i + 1 + (k - 1) = i + k from by clear s2 ln q; lia]; exact q)
  exact absurd (s2 f hf) (by clear s2 hf ln q h1 h2; lia)
theorem stop3 {p k i : Int} (h3 : -2 ≤ k) (h4 : k ≤ 2) (hi0 : plo k ≤ i) (hi1 : i < lastP a b k) (i1 : 0 ≤ i + k) (i2 : i + 1 ≤ a.length) (i3 : i + k + 1 ≤ b.length)
    (s1 : ∀ f, reach a b (p - 2) k = some f → f + 1 ≤ i) (hs : sameB a b i k ((reach a b (p - 1) k).getD (-1)) = false) : p < GI a b i (i + k) + subN (a.getD i.toNat 0) (b.getD (i + k).toNat 0) := by
  have i0 := (plo_iff.mp hi0).1
  have hln := GI_len (a := a) (b := b) i0 i1 (Int.le_of_lt (Int.lt_of_add_one_le i2)) (Int.le_of_lt (Int.lt_of_add_one_le i3))
  have sle := subN_le (a.getD i.toNat 0) (b.getD (i + k).toNat 0)
  unfold sameB at hs
  simp only [Bool.or_eq_false_iff, Bool.and_eq_false_iff, decide_eq_false_iff_not] at hs
  obtain ⟨n0, n1⟩ := hs
  generalize subN (a.getD i.toNat 0) (b.getD (i + k).toNat 0) = sb at *
  generalize hg : GI a b i (i + k) = g at *
  have hle : i ≤ lastP a b k := Int.le_of_lt hi1
  apply Int.not_le.mp
  intro q
  by_cases z1 : sb = 1
  · rcases n1 with n1 | n1
    · exact n1 z1
    · have b2 : 2 * (k.natAbs : Int) ≤ p - 1 := by clear n0 n1 s1 h1 h2 h3 h4 hi0 hi1 i1 i2 i3 i0 sle hg hle; lia
      obtain ⟨f, hf, hfi⟩ := reach_max h1 h2 (p := p - 1) (k := k) (i := i) h3 h4 b2 hi0 hle (by rw [hg]; clear n0 n1 s1 h1 h2 h3 h4 hi0 hi1 i1 i2 i3 i0 sle hg hle b2 hln; lia)
      rw [hf] at n1
      simp only [Option.getD_some] at n1
      exact n1 hfi
  · have z2 : sb = 2 := by clear n1 s1 h1 h2 h3 h4 hi0 hi1 i1 i2 i3 i0 hg hle hln q; lia
    subst z2
    have b2 : 2 * (k.natAbs : Int) ≤ p - 2 := by clear n0 n1 s1 h1 h2 h3 h4 hi0 hi1 i1 i2 i3 i0 sle hg hle z1; lia
    obtain ⟨f, hf, hfi⟩ := reach_max h1 h2 (p := p - 2) (k := k) (i := i) h3 h4 b2 hi0 hle (by rw [hg]; clear n0 n1 s1 h1 h2 h3 h4 hi0 hi1 i1 i2 i3 i0 sle hg hle b2 hln z1; lia)
    exact absurd (s1 f hf) (Int.not_le.mpr (Int.lt_add_one_of_le hfi))
/-- where no step and no slide goes on, the next place is beyond the price -/
theorem slide_stop {p k i : Int} (h3 : -2 ≤ k) (h4 : k ≤ 2) (hp4 : p ≤ 4) (hi0 : plo k ≤ i) (hi1 : i < lastP a b k)
    (s1 : ∀ f, reach a b (p - 2) k = some f → min (f + 1) (lastP a b k) ≤ i) (s2 : ∀ f, reach a b (p - 2) (k - 1) = some f → min f (lastP a b k) ≤ i) (s3 : ∀ f, reach a b (p - 2) (k + 1) = some f → min (f + 1) (lastP a b k) ≤ i)
    (hs : sameB a b i k ((reach a b (p - 1) k).getD (-1)) = false) : p < GI a b (i + 1) (i + 1 + k) := by
  have hl : 0 < plen a.length b.length k := last_pos hi0 (Int.le_of_lt hi1)
  have i0 := plo_iff.mp hi0
  have il := (last_iff hl).mp (Int.add_one_le_of_lt hi1)
  have i3 : i + k + 1 ≤ b.length := by clear hs s1 s2 s3; lia
  have mn : ∀ u, min u (lastP a b k) ≤ i → u ≤ i := fun u hu => by clear hs s1 s2 s3; lia
  have hG := GI_succ (a := a) (b := b) i0.1 i0.2 (Int.lt_of_add_one_le il.1) (Int.lt_of_add_one_le i3)
  have c1 := stop1 h1 h2 h3 h4 hp4 i0.1 i0.2 il.1 i3 (fun f hf => mn _ (s3 f hf))
  have c2 := stop2 h1 h2 h3 h4 hp4 i0.1 i0.2 il.1 i3 (fun f hf => mn _ (s2 f hf))
  have c3 := stop3 h1 h2 h3 h4 hi0 hi1 i0.2 il.1 i3 (fun f hf => mn _ (s1 f hf)) hs
  rw [show i + 1 + k = i + k + 1 from by clear hs s1 s2 s3 c1 c2 c3 hG; lia, hG]
  clear s1 s2 s3 hs hG hl hi1 il i0 i3 mn h1 h2 h3 h4 hp4 hi0
  lia

/-- the end of the slide is what is reached -/
theorem slide_end {p k i : Int} (h3 : -2 ≤ k) (h4 : k ≤ 2) (hp : 2 * (k.natAbs : Int) ≤ p) (hi0 : plo k ≤ i) (hi1 : i ≤ lastP a b k) (hg : GI a b i (i + k) ≤ p)
    (he : i = lastP a b k ∨ p < GI a b (i + 1) (i + 1 + k)) : reach a b p k = some i ∧ (cnt a b p k : Int) = i - plo k + 1 := by
  have hl : 0 < plen a.length b.length k := last_pos hi0 hi1
  have hL : lastP a b k = plo k + plen a.length b.length k - 1 := rfl
  have h6 := cnt_le h1 h2 h3 h4 (p := p)
  have low : (i - plo k).toNat < cnt a b p k := by
    refine (told_iff h1 h2 h3 h4 _).mp ⟨by clear hg he hp h6 h1 h2 h3 h4; lia, ?_⟩
    show GI a b (plo k + ((i - plo k).toNat : Int)) (plo k + ((i - plo k).toNat : Int) + k) ≤ p
    rw [show plo k + ((i - plo k).toNat : Int) = i from by clear hg he hp h6 h1 h2 h3 h4 hL hl hi1; lia]
    exact hg
  have key : (cnt a b p k : Int) = i - plo k + 1 := by
    rcases he with rfl | he
    · clear hg hp h1 h2 h3 h4; lia
    · by_cases q : (i - plo k).toNat + 1 < cnt a b p k
      · have t := (told_iff h1 h2 h3 h4 (p := p) ((i - plo k).toNat + 1)).mpr q
        have t2 : GI a b (plo k + (((i - plo k).toNat + 1 : Nat) : Int)) (plo k + (((i - plo k).toNat + 1 : Nat) : Int) + k) ≤ p := t.2
        rw [show plo k + (((i - plo k).toNat + 1 : Nat) : Int) = i + 1 from by clear hg he hp h6 h1 h2 h3 h4 hL hl hi1 t t2 q low; lia] at t2
        exact absurd t2 (Int.not_le.mpr he)
      · clear hg he hp h6 h1 h2 h3 h4 hL hl hi1; lia
  refine ⟨?_, key⟩
  unfold reach
  rw [if_pos ⟨hp, hl⟩, key]
  congr 1
  clear key low h6 hL hl he hg hi0 hi1 hp h1 h2 h3 h4
  lia
end
end Mine
end

section
open PySem PySem.W PyProof.Rows PySem.Calls PyProof PySem.Spec PyProof.V
set_option Elab.async false
set_option autoImplicit false
set_option maxHeartbeats 1000000
set_option linter.unusedVariables false
namespace Mine
theorem AllLt.ne {d : Nat} : ∀ {l : List (Addr × Obj)}, AllLt d l → ∀ p ∈ l, p.1 ≠ d
  | [], _, _, h => nomatch h
  | q :: r, h, p, hp => by
    rcases List.mem_cons.mp hp with e | hp
    · rw [e]; exact Nat.ne_of_lt h.1
    · exact AllLt.ne h.2 p hp
theorem OffN.ne {d : Addr} : ∀ {l : List (Addr × Obj)}, OffN d l → ∀ p ∈ l, p.1 ≠ d
  | [], _, _, h => nomatch h
  | q :: r, h, p, hp => by
    rcases List.mem_cons.mp hp with e | hp
    · rw [e]; exact h.1.out
    · exact OffN.ne h.2 p hp
theorem offN_intro {d : Addr} : ∀ {l : List (Addr × Obj)}, (∀ p ∈ l, p.1 ≠ d) → OffN d l
  | [], _ => trivial
  | q :: r, h => ⟨⟨h q (.head _)⟩, offN_intro fun p hp => h p (.tail _ hp)⟩

/-- the table of what is reached, keyed by pairs of ints, with its keys' own objects -/
noncomputable abbrev PairTab (w : World) (news : List (Addr × Obj)) (d : Addr) (D : List (PyData × PyData)) : Prop := TupTab (intKind theProg w) PyData.int news d D
theorem PairTab.mono {w : World} {news news' : List (Addr × Obj)} {d : Addr} {D : List (PyData × PyData)} (T : PairTab w news d D) (h : ∀ p ∈ news, p ∈ news') : PairTab w news' d D :=
  let ⟨lo, o, es, ep, xs, hm, hc, hd, he, hn, hk, hf⟩ := T
  ⟨lo, o, es, ep, xs, h _ hm, hc, hd, he, hn, fun x hx => let ⟨okx, hmk, t⟩ := hk x hx; ⟨okx, h _ hmk, t⟩, hf⟩

section
variable {w : World} {A : Around} {E : Value → Shared → Prop} {s : Shared} {h₀ : Heap} {L d a : Addr} {m : Str → Option Value} {news keys rest : List (Addr × Obj)} {D : List (PyData × PyData)} {ks : List Int} {o ok : Obj}
theorem setItem_keys {v : Value} {dv : PyData} {Q : Unit → Shared → Prop} (hu : A.units + 1 < cLine) (hv : PyProof.V.Flat v dv)
    (F : Fr h₀ L s.heap m) (N : News h₀ L s.heap news) (T : PairTab w ((d, o) :: keys) d D) (hsub : ∀ p ∈ (d, o) :: keys, p ∈ news) (hka : (a, ok) ∈ news) (tk : TupKeyObj (intKind theProg w) ks ok)
    (hrest : ∀ p ∈ rest, p ∈ news) (hne : ∀ p ∈ rest, p.1 ≠ d) (hkd : ∀ p ∈ keys, p.1 ≠ d) (hsz : D.length ≤ sizeLine)
    (h : ∀ h' o', Fr h₀ L h' m → News h₀ L h' ((d, o') :: (a, ok) :: (rest ++ keys)) → PairTab w ((d, o') :: (a, ok) :: keys) d (putD (encTuple PyData.int ks) dv D) → Q () { s with heap := h', toks := s.toks + (ks.length + 1) }) :
    wpAny (model theProg w) A (setItem (.ref d) (.ref a) v) Q E s := by
  obtain ⟨lo, o1, es, ep, xs, hm, hc, hd, he, hn, hk, hf⟩ := T
  have hD : s.heap.DictOfH (tupleKind (intKind theProg w)) d xs := ⟨o1, es, ep, N.get (hsub _ hm), hc, hd, he, fun x hx => let ⟨_, hmk, t⟩ := hk x hx; t.key (N.get (hsub _ hmk)), hn⟩
  have hxs : xs.length ≤ sizeLine := by have e := hf.length; simp only [kvsOf, List.length_map] at e; omega
  have hcls : ∀ {b : Addr} {ob : Obj} {ks' : List Int}, (b, ob) ∈ news → TupKeyObj (intKind theProg w) ks' ob → b ≠ d := by
    intro b ob ks' hb t e
    subst e
    obtain rfl : ob = o1 := Option.some.inj ((N.get hb).symm.trans (N.get (hsub _ hm)))
    have h1 := t.1
    rw [hc.1] at h1
    injection h1 with h2
    exact absurd h2 (by decide)
  refine wpAny_setItem_heap (hsz := hxs) (knd := tupleKind (intKind theProg w)) (tupleKind_room_in1 hu) (tk.key (N.get hka)) hD fun h' hm' hs => ?_
  obtain ⟨o', es', ep', ho', hc', hd', he', _, hn'⟩ := hm'
  have keepN : ∀ p ∈ news, p.1 ≠ d → h'.get? p.1 = some p.2 ∧ p.1 ≠ L ∧ h₀.get? p.1 = none := fun p hp hpd => ⟨(hs.2 p.1 hpd).trans (N p hp).1, (N p hp).2⟩
  refine h h' o' (F.change hs (N _ (hsub _ hm)).2.1 (N.fresh (hsub _ hm))) ?_ ⟨lo, o', es', ep', storedH xs ks a v, .head _, hc', hd', he', hn', fun x hx => ?_, by rw [kvsOf_storedH]; exact hf.stored (same_encTuple PyProof.V.same_int) ks hv⟩
  · intro p hp
    rcases List.mem_cons.mp hp with e | hp
    · rw [e]; exact ⟨ho', (N _ (hsub _ hm)).2⟩
    · rcases List.mem_cons.mp hp with e | hp
      · rw [e]; exact keepN _ hka (hcls hka tk)
      · rcases List.mem_append.mp hp with hp | hp
        · exact keepN p (hrest p hp) (hne p hp)
        · exact keepN p (hsub p (.tail _ hp)) (hkd p hp)
  · rcases mem_storedH hx with ⟨y, hy, e1, e2⟩ | ⟨e1, e2⟩
    · obtain ⟨oky, hmk, t⟩ := hk y hy
      have := hcls (hsub _ hmk) t
      rcases List.mem_cons.mp hmk with q | q
      · exact absurd (congrArg Prod.fst q) this
      · exact ⟨oky, by rw [e2]; exact .tail _ (.tail _ q), by rw [e1]; exact t⟩
    · exact ⟨ok, by rw [e2]; exact .tail _ (.head _), by rw [e1]; exact tk⟩
end

theorem putD_length (k v : PyData) (D : List (PyData × PyData)) : (putD k v D).length ≤ D.length + 1 := by
  unfold putD
  split
  · simp
  · simp

/-- what the table holds when n steps are done -/
noncomputable def Filled (a b : List Nat) (n : Nat) (D : List (PyData × PyData)) : Prop :=
  D.length ≤ n ∧ ∀ p k : Int, lookup (encTuple PyData.int [p, k]) D = if -2 ≤ k ∧ k ≤ 2 ∧ 5 * p + (k + 2) < n then (reach a b p k).map PyData.int else none
theorem Filled.zero (a b : List Nat) : Filled a b 0 [] := by
  refine ⟨Nat.le_refl _, fun p k => ?_⟩
  by_cases c : -2 ≤ k ∧ k ≤ 2 ∧ 5 * p + (k + 2) < ((0 : Nat) : Int)
  · rw [if_pos c]
    have : reach a b p k = none := by unfold reach; rw [if_neg]; omega
    rw [this]; rfl
  · rw [if_neg c]; rfl
theorem Filled.get {a b : List Nat} {n : Nat} {D : List (PyData × PyData)} (h : Filled a b n D) {p k p' k' : Int} (hn : (n : Int) = 5 * p + (k + 2)) (h3 : -2 ≤ k) (h4 : k ≤ 2) (hp4 : p ≤ 4) (hp : p' < p) (hk : k - 1 ≤ k') (hk2 : k' ≤ k + 1) (hq : p' = p - 2 ∨ k' = k) :
    lookup (encTuple PyData.int [p', k']) D = (reach a b p' k').map PyData.int := by
  rw [h.2]
  by_cases c : -2 ≤ k' ∧ k' ≤ 2
  · rw [if_pos ⟨c.1, c.2, by omega⟩]
  · rw [if_neg (by omega)]
    have : reach a b p' k' = none := by unfold reach; rw [if_neg]; omega
    rw [this]; rfl
theorem Filled.skip {a b : List Nat} {n : Nat} {D : List (PyData × PyData)} (h : Filled a b n D) {p k : Int} (hn : (n : Int) = 5 * p + (k + 2)) (h3 : -2 ≤ k) (h4 : k ≤ 2) (hr : reach a b p k = none) : Filled a b (n + 1) D := by
  refine ⟨Nat.le_succ_of_le h.1, fun p' k' => ?_⟩
  rw [h.2]
  by_cases c : -2 ≤ k' ∧ k' ≤ 2 ∧ 5 * p' + (k' + 2) < (n : Int)
  · rw [if_pos c, if_pos (by omega)]
  · rw [if_neg c]
    by_cases c2 : -2 ≤ k' ∧ k' ≤ 2 ∧ 5 * p' + (k' + 2) < ((n + 1 : Nat) : Int)
    · obtain ⟨rfl, rfl⟩ : p' = p ∧ k' = k := by omega
      rw [if_pos c2, hr]; rfl
    · rw [if_neg c2]
theorem Filled.put {a b : List Nat} {n : Nat} {D : List (PyData × PyData)} (h : Filled a b n D) {p k r : Int} (hn : (n : Int) = 5 * p + (k + 2)) (h3 : -2 ≤ k) (h4 : k ≤ 2) (hr : reach a b p k = some r) : Filled a b (n + 1) (putD (encTuple PyData.int [p, k]) (.int r) D) := by
  refine ⟨Nat.le_trans (putD_length _ _ _) (Nat.succ_le_succ h.1), fun p' k' => ?_⟩
  rw [lookup_putK (keyEnc_tuple keyEnc_int)]
  by_cases e : [p', k'] = [p, k]
  · obtain ⟨rfl, rfl⟩ : p' = p ∧ k' = k := by simpa using e
    rw [if_pos rfl, if_pos (by omega), hr]; rfl
  · rw [if_neg e, h.2]
    have e' : ¬ (p' = p ∧ k' = k) := fun q => e (by rw [q.1, q.2])
    by_cases c : -2 ≤ k' ∧ k' ≤ 2 ∧ 5 * p' + (k' + 2) < (n : Int)
    · rw [if_pos c, if_pos (by omega)]
    · rw [if_neg c, if_neg (by omega)]
end Mine
end

section
open PySem PySem.W PyProof.Rows PySem.Calls PyProof PySem.Spec PyProof.V
set_option Elab.async false
set_option autoImplicit false
set_option maxHeartbeats 1000000
set_option linter.unusedVariables false
namespace Mine
section
variable {prog : Program} {w : World} {A : Around} {Q : Flow → Shared → Prop} {s s₁ : Shared} {env : Env} {h₀ : Heap} {L : Addr}
noncomputable abbrev tupIt (T : Addr) (i : Nat) : Obj := { cls := .type "tuple_iterator", data := .fields #[.ref T, .int i 0] }

/-- what a loop over a written tuple needs -/
structure LoopTup (prog : Program) (w : World) (A : Around) (Q : Flow → Shared → Prop) (s : Shared) (h₀ : Heap) (L : Addr) (env : Env) (target : Expr) (body : List Stmt) (σ : Type) (T : Addr) (ot : Obj) (n : Nat) (vs : List Value) (ps : σ → List (Str × Value)) (news : σ → List (Addr × Obj)) (P : Nat → σ → Prop) : Prop where
  cls : ot.cls = .type "tuple"
  data : ot.data = .seq vs.toArray n
  mem : ∀ c, (T, ot) ∈ news c
  turn : ∀ i c it oi h tk m v, vs[i]? = some v → P i c → oi.cls = .type "tuple_iterator" → Fr h₀ L h (over (ps c) m) → News h₀ L h ((it, oi) :: news c) → (((it, oi) :: news c).map (·.1)).Nodup →
      wpAny (model prog w) A (assign target env v) (fun _ s₂ => wpAny (model prog w) A (execs body env) (fun f s₃ => match f with
          | .next => Cut (∃ c', P (i + 1) c' ∧ At s h₀ L (ps c') ((it, oi) :: news c') s₃)
          | .cont => Cut (∃ c', P (i + 1) c' ∧ At s h₀ L (ps c') ((it, oi) :: news c') s₃)
          | .brk => Q .next s₃
          | .ret v => Q (.ret v) s₃) NoE s₂) NoE { s with heap := h, toks := tk }
  done : ∀ c h tk m, P vs.length c → Fr h₀ L h (over (ps c) m) → News h₀ L h (news c) → ((news c).map (·.1)).Nodup → Q .next { s with heap := h, toks := tk }

theorem for_tup {σ : Type} {target iter : Expr} {body : List Stmt} {pos : Pos} (R : Value → Shared → Prop) (hh : A.handled = none)
    (hiter : wpAny (model prog w) A (eval iter env) (fun v s₂ => Cut (R v s₂)) NoE s₁)
    (go : ∀ v s₂, R v s₂ → ∃ T ot n vs ps news P c₀, v = .ref T ∧ P 0 c₀ ∧ At s h₀ L (ps c₀) (news c₀) s₂ ∧ LoopTup prog w A Q s h₀ L env target body σ T ot n vs ps news P)
    (hs : ∀ x, foldedSetIterable iter env x = pure x := by intro _; rfl) :
    wpAny (model prog w) A (exec (.For target iter body [] pos) env) Q NoE s₁ := by
  refine wpAny_For (wpAny_mono hiter ?_ fun _ _ x => x) hs
  rintro v s₂ hR
  obtain ⟨T, ot, n, vs, ps, news, P, c₀, rfl, hP, ⟨h, tk, m, rfl, F, N, nd⟩, G⟩ := go v s₂ hR.out
  have isT : ∀ {h : Heap} {c : σ}, News h₀ L h (news c) → h.IsTuple T vs.toArray := fun N => ⟨ot, (N _ (G.mem _)).1, G.cls, n, G.data⟩
  refine wpAny_pyIter_tuple (isT N) ?_
  refine codeAny_forLoop_any (fun k s' => ∃ i c oi, i ≤ vs.length ∧ k = vs.length - i ∧ P i c ∧ oi.cls = .type "tuple_iterator" ∧ oi.data = .fields #[.ref T, .int i 0] ∧ At s h₀ L (ps c) ((h.objs.size, oi) :: news c) s') ?_ vs.length ?_
  · rintro k s' ⟨i, c, oi, hi, rfl, hPi, hoc, hod, h', tk', m', rfl, F', N', nd'⟩
    have hit : h'.IsTupleIter h.objs.size T i := ⟨_, (N' _ (List.mem_cons_self ..)).1, hoc, hod⟩
    have hneL : h.objs.size ≠ L := (N' _ (List.mem_cons_self ..)).2.1
    have hfree : h₀.get? h.objs.size = none := (N' _ (List.mem_cons_self ..)).2.2
    have N0 : News h₀ L h' (news c) := fun p hp => N' p (List.mem_cons_of_mem _ hp)
    have off : ∀ p ∈ news c, p.1 ≠ h.objs.size := fun p hp q => (List.nodup_cons.mp nd').1 (List.mem_map.mpr ⟨p, hp, q⟩)
    by_cases hin : i < vs.length
    · refine wpAny_pyNext_tuple_item hit (isT N0) (x := vs[i]) (by simp [hin]) fun h₃ hit₃ sb => ?_
      refine letGo_tupleiter hit₃ ?_
      have F₃ : Fr h₀ L h₃ (over (ps c) m') := ⟨F'.ns.sameBut sb (Ne.symm hneL), fun b o e => (sb.2 b (fun q => by rw [q, hfree] at e; cases e)).trans (F'.keep b o e), F'.above⟩
      obtain ⟨o₃, ho₃, hc₃, hd₃⟩ := hit₃
      have N₃ : News h₀ L h₃ ((h.objs.size, o₃) :: news c) := by
        intro p hp
        rcases List.mem_cons.mp hp with rfl | hp
        · exact ⟨ho₃, hneL, hfree⟩
        · exact ⟨(sb.2 _ (off p hp)).trans (N0 p hp).1, (N0 p hp).2⟩
      refine wpAny_mono (G.turn i c h.objs.size o₃ h₃ _ m' vs[i] (by simp [hin]) hPi hc₃ F₃ N₃ (by simpa using nd')) (fun _ s₃ hq => wpAny_mono hq (fun f s₄ h₄ => ?_) (fun _ _ x => False.elim x)) (fun _ _ x => False.elim x)
      cases f with
      | next => obtain ⟨c', hP', hA⟩ := h₄.out; exact ⟨vs.length - (i + 1), by omega, i + 1, c', o₃, by omega, rfl, hP', hc₃, hd₃, hA⟩
      | cont => obtain ⟨c', hP', hA⟩ := h₄.out; exact ⟨vs.length - (i + 1), by omega, i + 1, c', o₃, by omega, rfl, hP', hc₃, hd₃, hA⟩
      | brk => exact h₄
      | ret v => exact h₄
    · obtain rfl : i = vs.length := by omega
      refine wpAny_pyNext_tuple_end hh hit (isT N0) (by simp) fun h₃ ext => ?_
      refine wpAny_execs_nil ?_
      exact G.done c h₃ tk' m' hPi ⟨F'.ns.extBut ext (Ne.symm hneL), fun b o e => ext b o (fun q => by rw [q, hfree] at e; cases e) (F'.keep b o e), F'.above⟩ (fun p hp => ⟨ext _ _ (off p hp) (N0 p hp).1, (N0 p hp).2⟩) (List.nodup_cons.mp nd').2
  · refine ⟨0, c₀, tupIt T 0, Nat.zero_le _, rfl, hP, rfl, rfl, _, _, m, rfl, F.push _, N.push F (tupIt T 0), ?_⟩
    refine List.nodup_cons.mpr ⟨fun hm => ?_, nd⟩
    obtain ⟨p, hp, e⟩ := List.mem_map.mp hm
    have := Heap.lt_size (N p hp).1
    exact absurd this (by rw [e]; exact Nat.lt_irrefl _)
end
theorem offN_of_lt {d : Addr} : ∀ {l : List (Addr × Obj)}, AllLt d l → OffN d l
  | [], _ => trivial
  | _ :: _, h => ⟨⟨Nat.ne_of_lt h.1⟩, offN_of_lt h.2⟩
end Mine
end

section
open PySem PySem.W PyProof.Rows PySem.Calls PyProof PySem.Spec PyProof.V
set_option Elab.async false
set_option maxRecDepth 100000
set_option maxHeartbeats 8000000
set_option linter.unusedSimpArgs false
set_option linter.unusedVariables false
namespace Mine
example : True := by
  w_top off
  exact True.intro
example : (PySem.Challenge.rw_pe0171_01 = PySem.Challenge.rw_pe0171_01) ∧ hd.heap_1 = hd.heap_1 := by
  k_fill
  exact ⟨rfl, rfl⟩

set_option pp.deepTerms false
set_option pp.maxSteps 1000
local macro_rules | `(tactic| tb_rel) => `(tactic| (repeat' (first | exact List.forall_mem_nil _ | (refine List.forall_mem_cons.mpr ⟨by k_mem, ?_⟩) | (intro q hq; (repeat (first | exact hq | refine List.Mem.tail _ ?_))))))
local macro_rules | `(tactic| units_room) => `(tactic| (simp only [units_in1, units_deeper, cLine_is]; omega))
local macro_rules | `(tactic| ktr_unf) => `(tactic| ((repeat' apply And.intro) <;> first | k_ne | (exact NeF.mk (by k_ne))))
local macro_rules | `(tactic| k_all) => `(tactic| first | exact AllLt.ne (by assumption) | exact OffN.ne (by assumption))

theorem ndk {x : Addr × Obj} {l : List (Addr × Obj)} (h : ((x :: l).map (·.1)).Nodup) : OffN x.1 l ∧ (l.map (·.1)).Nodup := by
  rw [List.map_cons, List.nodup_cons] at h
  exact ⟨offN_intro fun p hp q => h.1 (by rw [← q]; exact List.mem_map_of_mem hp), h.2⟩
theorem ndk_intro {x : Addr × Obj} {l : List (Addr × Obj)} (h : OffN x.1 l) (h2 : (l.map (·.1)).Nodup) : ((x :: l).map (·.1)).Nodup := by
  rw [List.map_cons, List.nodup_cons]
  refine ⟨fun q => ?_, h2⟩
  obtain ⟨p, hp, e⟩ := List.mem_map.mp q
  exact OffN.ne h p hp e
/-- the steps into a shift at a price -/
noncomputable def stepsL (a b : List Nat) (p k : Int) (n : Nat) : List Int :=
  [plo k] ++ (if 0 < n then ((reach a b (p - 2) k).map (· + 1)).toList else []) ++ (if 1 < n then (reach a b (p - 2) (k - 1)).toList else []) ++ (if 2 < n then ((reach a b (p - 2) (k + 1)).map (· + 1)).toList else [])
theorem stepsL_len (a b : List Nat) (p k : Int) (n : Nat) : (stepsL a b p k n).length ≤ 4 := by
  have h : ∀ o : Option Int, o.toList.length ≤ 1 := fun o => by cases o <;> simp
  have h1 : ∀ (c : Prop) [Decidable c] (o : Option Int), (if c then o.toList else []).length ≤ 1 := fun c _ o => by split; exact h o; simp
  unfold stepsL
  simp only [List.length_append, List.length_cons, List.length_nil]
  have := h1 (0 < n) ((reach a b (p - 2) k).map (· + 1))
  have := h1 (1 < n) (reach a b (p - 2) (k - 1))
  have := h1 (2 < n) ((reach a b (p - 2) (k + 1)).map (· + 1))
  omega
theorem stepsL_pos (a b : List Nat) (p k : Int) (n : Nat) : 0 < (stepsL a b p k n).length := by
  unfold stepsL
  simp only [List.length_append, List.length_cons, List.length_nil]
  omega
theorem stepsL_0 (a b : List Nat) (p k : Int) : stepsL a b p k 0 = [plo k] := by simp [stepsL]
theorem stepsL_1 (a b : List Nat) (p k : Int) : stepsL a b p k 1 = stepsL a b p k 0 ++ ((reach a b (p - 2) k).map (· + 1)).toList := by simp [stepsL]
theorem stepsL_2 (a b : List Nat) (p k : Int) : stepsL a b p k 2 = stepsL a b p k 1 ++ (reach a b (p - 2) (k - 1)).toList := by simp [stepsL]
theorem stepsL_3 (a b : List Nat) (p k : Int) : stepsL a b p k 3 = stepsL a b p k 2 ++ ((reach a b (p - 2) (k + 1)).map (· + 1)).toList := by simp [stepsL]
theorem OffN.at {d : Addr} {l : List (Addr × Obj)} {p : Addr × Obj} (h : OffN d l) (hm : p ∈ l) : NeF p.1 d := ⟨OffN.ne h p hm⟩
noncomputable abbrev tupOf (vs : Array Value) : Obj := { cls := .type "tuple", data := .seq vs }
/-- where the steps come to -/
noncomputable def Came (a b : List Nat) (p k i : Int) : Prop := plo k ≤ i ∧ i ≤ lastP a b k ∧ GI a b i (i + k) ≤ p ∧
  (∀ f, reach a b (p - 2) k = some f → min (f + 1) (lastP a b k) ≤ i) ∧ (∀ f, reach a b (p - 2) (k - 1) = some f → min f (lastP a b k) ≤ i) ∧ (∀ f, reach a b (p - 2) (k + 1) = some f → min (f + 1) (lastP a b k) ≤ i)
theorem came_of {a b : List Nat} {p k M : Int} (h1 : a.length ≤ 4) (h2 : b.length ≤ 4) (h3 : -2 ≤ k) (h4 : k ≤ 2) (hp4 : p ≤ 4) (hp : 2 * (k.natAbs : Int) ≤ p) (hl : 0 < plen a.length b.length k) (hM : M ∈ stepsL a b p k 3) (hmax : ∀ x, x ∈ stepsL a b p k 3 → x ≤ M) :
    Came a b p k (if lastP a b k < M then lastP a b k else M) := by
  have e : (if lastP a b k < M then lastP a b k else M) = min M (lastP a b k) := by split <;> omega
  have m0 : plo k ∈ stepsL a b p k 3 := by simp [stepsL]
  have m1 : ∀ f, reach a b (p - 2) k = some f → f + 1 ∈ stepsL a b p k 3 := fun f hf => by simp [stepsL, hf]
  have m2 : ∀ f, reach a b (p - 2) (k - 1) = some f → f ∈ stepsL a b p k 3 := fun f hf => by simp [stepsL, hf]
  have m3 : ∀ f, reach a b (p - 2) (k + 1) = some f → f + 1 ∈ stepsL a b p k 3 := fun f hf => by simp [stepsL, hf]
  have hx : M = plo k ∨ (∃ f, reach a b (p - 2) k = some f ∧ M = f + 1) ∨ (∃ f, reach a b (p - 2) (k - 1) = some f ∧ M = f) ∨ (∃ f, reach a b (p - 2) (k + 1) = some f ∧ M = f + 1) := by
    simp only [stepsL, List.mem_append, List.mem_singleton, Option.mem_toList, Option.mem_def] at hM
    rcases hM with ((hM | hM) | hM) | hM
    · exact .inl hM
    · simp at hM; obtain ⟨f, hf, rfl⟩ := hM; exact .inr (.inl ⟨f, hf, rfl⟩)
    · simp at hM; exact .inr (.inr (.inl ⟨M, hM, rfl⟩))
    · simp at hM; obtain ⟨f, hf, rfl⟩ := hM; exact .inr (.inr (.inr ⟨f, hf, rfl⟩))
  obtain ⟨z1, z2, z3⟩ := step_sound h1 h2 h3 h4 hp4 hp hl hx (hmax _ m0)
  rw [e]
  clear hx
  refine ⟨z1, z2, z3, fun f hf => ?_, fun f hf => ?_, fun f hf => ?_⟩
  · have := hmax _ (m1 f hf); omega
  · have := hmax _ (m2 f hf); omega
  · have := hmax _ (m3 f hf); omega
theorem came_on {a b : List Nat} {p k i : Int} (h1 : a.length ≤ 4) (h2 : b.length ≤ 4) (h3 : -2 ≤ k) (h4 : k ≤ 2) (hc : Came a b p k i) (hi : i < lastP a b k) (hs : sameB a b i k ((reach a b (p - 1) k).getD (-1)) = true) : Came a b p k (i + 1) := by
  obtain ⟨c1, c2, c3, c4, c5, c6⟩ := hc
  refine ⟨by omega, by omega, slide_on h1 h2 h3 h4 c1 hi c3 hs, fun f hf => ?_, fun f hf => ?_, fun f hf => ?_⟩
  · have := c4 f hf; omega
  · have := c5 f hf; omega
  · have := c6 f hf; omega
theorem came_stop {a b : List Nat} {p k i : Int} (h1 : a.length ≤ 4) (h2 : b.length ≤ 4) (h3 : -2 ≤ k) (h4 : k ≤ 2) (hp4 : p ≤ 4) (hp : 2 * (k.natAbs : Int) ≤ p) (hc : Came a b p k i) (hi : i < lastP a b k) (hs : sameB a b i k ((reach a b (p - 1) k).getD (-1)) = false) : reach a b p k = some i ∧ (cnt a b p k : Int) = i - plo k + 1 := by
  obtain ⟨c1, c2, c3, c4, c5, c6⟩ := hc
  exact slide_end h1 h2 h3 h4 hp c1 c2 c3 (.inr (slide_stop h1 h2 h3 h4 hp4 c1 hi c4 c5 c6 hs))
theorem came_end {a b : List Nat} {p k i : Int} (h1 : a.length ≤ 4) (h2 : b.length ≤ 4) (h3 : -2 ≤ k) (h4 : k ≤ 2) (hp : 2 * (k.natAbs : Int) ≤ p) (hc : Came a b p k i) (hi : ¬ i < lastP a b k) : reach a b p k = some i ∧ (cnt a b p k : Int) = i - plo k + 1 := by
  obtain ⟨c1, c2, c3, c4, c5, c6⟩ := hc
  exact slide_end h1 h2 h3 h4 hp c1 c2 c3 (.inl (by omega))
theorem due0a {a b : List Nat} {p k : Int} (h1 : a.length ≤ 4) (h2 : b.length ≤ 4) (h3 : -2 ≤ k) (h4 : k ≤ 2) (hp : p < 2 * if k < 0 then -k else k) : cnt a b p k = 0 ∧ reach a b p k = none := by
  have hp' : p < 2 * (k.natAbs : Int) := by split at hp <;> omega
  refine ⟨cnt_low h1 h2 h3 h4 hp', ?_⟩
  unfold reach; rw [if_neg]; omega
theorem due0b {a b : List Nat} {p k : Int} (h1 : a.length ≤ 4) (h2 : b.length ≤ 4) (h3 : -2 ≤ k) (h4 : k ≤ 2) (hp : decide (places a.length b.length k = []) = true) : cnt a b p k = 0 ∧ reach a b p k = none := by
  have hp' : plen a.length b.length k = 0 := by rw [← places_len h1 h2 h3 h4, of_decide_eq_true hp]; rfl
  have := cnt_le h1 h2 h3 h4 (p := p)
  refine ⟨by omega, ?_⟩
  unfold reach; rw [if_neg]; omega
theorem due1 {a b : List Nat} {p k : Int} (h1 : a.length ≤ 4) (h2 : b.length ≤ 4) (h3 : -2 ≤ k) (h4 : k ≤ 2) (hp : ¬ p < 2 * if k < 0 then -k else k) (hq : decide (places a.length b.length k = []) = false) : 2 * (k.natAbs : Int) ≤ p ∧ 0 < plen a.length b.length k := by
  have hp' : 2 * (k.natAbs : Int) ≤ p := by split at hp <;> omega
  refine ⟨hp', ?_⟩
  rw [← places_len h1 h2 h3 h4]
  exact List.length_pos_iff.mpr (of_decide_eq_false hq)
theorem isSome_of {o : Option PyData} {v : PyData} (h : o = some v) : o.isSome = true := by rw [h]; rfl
theorem isNone_of {o : Option PyData} (h : o = none) : o.isSome = false := by rw [h]; rfl
local macro_rules | `(tactic| walk_at "compareOp In ref ref") => `(tactic| ((with_reducible show wpAny _ _ (compareOp CmpOp.In (Value.ref _) (Value.ref _)) _ _ _); k_dflt (first
  | (refine in_tupTab_eq (b := true) (knd := intKind _ _) (enc := PyData.int) same_int (by units_room) (by k_asm) (PairTab.mono (by assumption) (by tb_rel)) (by k_mem) (TupKeyObj.made (by tuptab_items_int)) (isSome_of (by assumption)) ?_)
  | (refine in_tupTab_eq (b := false) (knd := intKind _ _) (enc := PyData.int) same_int (by units_room) (by k_asm) (PairTab.mono (by assumption) (by tb_rel)) (by k_mem) (TupKeyObj.made (by tuptab_items_int)) (isNone_of (by assumption)) ?_))))
local macro_rules | `(tactic| walk_at "subscriptTail") => `(tactic| ((with_reducible show wpAny _ _ (subscriptTail _ _ (Value.ref _) (Value.ref _)) _ _ _); k_dflt (refine item_tupTab (knd := intKind _ _) (enc := PyData.int) same_int (by units_room) (by k_asm) (PairTab.mono (by assumption) (by tb_rel)) (by k_mem) (TupKeyObj.made (by tuptab_items_int)) (by assumption) ?_); intro _ hv'; dict_open hv'))
local macro_rules | `(tactic| walk_at "getMethod ref") => `(tactic| k_dflt (refine getMethod_tupTab_get (by k_asm) (PairTab.mono (by assumption) (by tb_rel)) ?_))
local macro_rules | `(tactic| walk_at "call builtin:dict.get") => `(tactic| ((with_reducible show wpAny _ _ (call (Value.builtin "dict.get") [Value.ref _, Value.ref _, _]) _ _ _); k_dflt (refine call_get2_tupTab_eq (knd := intKind _ _) (enc := PyData.int) same_int (by units_room) (by k_asm) (PairTab.mono (by assumption) (by tb_rel)) (by k_mem) (TupKeyObj.made (by tuptab_items_int)) (PyProof.V.Flat.int _ _) (by assumption) ?_); intro _ hv'; dict_open hv'))
local macro_rules | `(tactic| walk_at "call ref") => `(tactic| ((with_reducible show wpAny _ _ (PySem.call (Value.ref 138) _) _ _ _); k_dflt (refine same_call (by k_asm) (by k_asm) (by k_asm) (by k_asm) (by simp only [depth_deeper]; omega) (by omega) (by omega) (by omega) (by omega) (by omega) (by omega) ?_); intro h' tk' F' N'; (try dsimp only)))
structure DueS where
  vs : List Value
  ep : Nat
  od : Obj
  keys : List (Addr × Obj)
  D : List (PyData × PyData)

local macro_rules | `(tactic| walk_at "call ref") => `(tactic| ((with_reducible show wpAny _ _ (PySem.call (Value.ref 110) _) _ _ _); k_dflt (refine plc_callN (by k_asm) (by k_asm) (by k_asm) (by k_asm) (by simp only [depth_deeper]; omega) (by omega) (by omega) (by omega) (by omega) ?_); intro l' vs' ep' h' tk' F' N' off' hi'; (try simp only [OffN] at off'); obtain ⟨_, _, _, _, _⟩ := off'; (try dsimp only)))

theorem due_spec {w : World} {dp un : Nat} {fr : Option (List Env)} {gd : Option (List Code)} {s : Shared} {p : Program} {loose : List Str} {mean : ExcName → Option Value} {mg mb : Str → Option Value} {a b : List Nat} {t1 t2 : Tok} {Q E : Value → Shared → Prop}
   (X : (hd.heap_1 w.params).In s.heap) (T : Top p loose mean mg mb s.heap) (hroom : dp + 4 < recursionLimit) (hun : un + 200 < 9900) (h1 : a.length ≤ 4) (h2 : b.length ≤ 4)
   (hQ : ∀ (l : Addr) (vs : List Value) (ep : Nat) (h' : Heap) (tk' : Nat), Keeps s.heap h' → s.heap.get? l = none → h'.get? l = some (listOf vs.toArray ep) → IntsAre vs (ansTo a b 25) → Q (.ref l) { s with heap := h', toks := tk' }) :
   wpAny (model theProg w) (Ar dp un fr gd) (PySem.call (.ref 145) [.str (ofL a) t1, .str (ofL b) t2]) Q E s := by
  k_dflt (refine' enter_raw X T.nolimit ?ho ?hcd (show dp < recursionLimit by omega) (BindsTo.of_eq (binds := [(Str.ofString "one", .str (ofL a) t1), (Str.ofString "other", .str (ofL b) t2)]) ?hbind)  (locs ?hloc) ?_ ?h1 ?h2 ?h3 ?hcell)
  case ho => k_is
  case hcd => k_is
  case hbind => exact rfl
  case hcell => decide
  case hloc => exact rfl
  case h1 => exact rfl
  case h2 => exact rfl
  case h3 => exact rfl
  k_dflt (intro L h₁ F' N')
  refine cut_at 2 (R := fun s' => ∃ ans ep d od, PairTab w [(d, od)] d [] ∧ At s s.heap L [(Str.ofString "far", .ref d), (Str.ofString "answers", .ref ans), (Str.ofString "one", .str (ofL a) t1), (Str.ofString "other", .str (ofL b) t2)] [(ans, listOf #[] ep), (d, od)] s') ?_ ?_
  · refine hide fun Qc1 Hc1 => ?_
    simp only [List.take_succ_cons, List.take_zero]
    k_steps
    all_goals (repeat (first | refine Hc1.out _ _ ?_))
    all_goals (try ((try dsimp only); (with_reducible refine wpAny_execs_nil ?_); (repeat (first | refine Hc1.out _ _ ?_))))
    refine ⟨_, _, _, _, TupTab.ofEmpty (.head _) (by assumption) (by assumption), at_intro (by k_asm) (by k_asm) (by tb_start) (by tb_rel) ?_⟩
    exact nodup2 (by dsimp only; omega)
  clear F' N' h₁
  rintro s' ⟨ans, ep, d, od, hT, hAt⟩
  simp only [List.drop_succ_cons, List.drop_zero]
  generalize hH : s.heap = H at *
  refine cut_at 1 (R := fun s' => ∃ (vs : List Value) (ep : Nat), IntsAre vs (ansTo a b 25) ∧ At s H L [(Str.ofString "answers", .ref ans)] [(ans, listOf vs.toArray ep)] s') ?_ ?_
  · refine hide fun Qc2 Hc2 => ?_
    simp only [List.take_succ_cons, List.take_zero]
    refine wpAny_execs_cons ?_
    refine for_range (s := s) (h₀ := H) (L := L) (σ := DueS) 0 5
      (fun c => [(Str.ofString "far", .ref d), (Str.ofString "answers", .ref ans), (Str.ofString "one", .str (ofL a) t1), (Str.ofString "other", .str (ofL b) t2)])
      (fun c => (ans, listOf c.vs.toArray c.ep) :: (d, c.od) :: c.keys)
      (fun i c => IntsAre c.vs (ansTo a b (5 * i)) ∧ PairTab w ((d, c.od) :: c.keys) d c.D ∧ Filled a b (5 * i) c.D)
      rfl rfl rfl rfl ?_ ?_ ?_
    · obtain ⟨h, tk, m, rfl, F, N, nd⟩ := hAt
      k_steps
      all_goals (repeat (first | refine Hc2.out _ _ ?_ | refine Hc1.out _ _ ?_))
      all_goals (try ((try dsimp only); (with_reducible refine wpAny_execs_nil ?_); (repeat (first | refine Hc2.out _ _ ?_ | refine Hc1.out _ _ ?_))))
      refine ⟨_, _, _, _, _, rfl, by assumption, small_of (by omega) (by omega) (by omega) (by omega) (by omega) (by omega), rfl, ⟨[], ep, od, [], []⟩, ⟨.nil, hT, Filled.zero a b⟩, at_intro (by k_asm) (by k_asm) (by tb_start) (fun q hq => hq) nd⟩
    · clear hAt hT ep od s'
      rintro i ⟨vs, ep, od, keys, D⟩ it1 h tk m t hi ⟨hv, hT, hF⟩ F N nd
      dsimp only at hv hT hF F N nd ⊢
      refine hide fun Qt3 Ht3 => ?_
      refine wpAny_execs_cons ?_
      refine for_range (s := s) (h₀ := H) (L := L) (σ := DueS) (-2) 5
        (fun c => [(Str.ofString "price", .int (0 + (i : Int)) t), (Str.ofString "far", .ref d), (Str.ofString "answers", .ref ans), (Str.ofString "one", .str (ofL a) t1), (Str.ofString "other", .str (ofL b) t2)])
        (fun c => (it1, rangeIt (0 + (i : Int) + 1) ((5 : Nat) - (i : Int) - 1) 1) :: (ans, listOf c.vs.toArray c.ep) :: (d, c.od) :: c.keys)
        (fun j c => IntsAre c.vs (ansTo a b (5 * i + j)) ∧ PairTab w ((d, c.od) :: c.keys) d c.D ∧ Filled a b (5 * i + j) c.D)
        rfl rfl rfl rfl ?_ ?_ ?_
      · k_steps
        all_goals (repeat (first | refine Ht3.out _ _ ?_ | refine Hc2.out _ _ ?_ | refine Hc1.out _ _ ?_))
        all_goals (try ((try dsimp only); (with_reducible refine wpAny_execs_nil ?_); (repeat (first | refine Ht3.out _ _ ?_ | refine Hc2.out _ _ ?_ | refine Hc1.out _ _ ?_))))
        refine ⟨_, _, _, _, _, rfl, by assumption, small_of (by omega) (by omega) (by omega) (by omega) (by omega) (by omega), rfl, ⟨vs, ep, od, keys, D⟩, ⟨hv, hT, hF⟩, at_intro (by k_asm) (by k_asm) (by tb_start) (fun q hq => hq) nd⟩
      · clear F N nd hv hT hF vs ep od keys D h tk m
        rintro j ⟨vs, ep, od, keys, D⟩ it2 h tk m tj hj ⟨hv, hT, hF⟩ F N nd
        dsimp only at hv hT hF F N nd ⊢
        refine hide fun Qt4 Ht4 => ?_
        have hn0 := nd
        obtain ⟨o1, nd1⟩ := ndk nd
        obtain ⟨o2, nd2⟩ := ndk nd1
        obtain ⟨o3, nd3⟩ := ndk nd2
        obtain ⟨o4, nd4⟩ := ndk nd3
        clear nd nd1 nd2 nd3
        simp only [OffN] at o1 o2 o3
        obtain ⟨x1, x2, x3, x4⟩ := o1
        obtain ⟨x5, x6, x7⟩ := o2
        obtain ⟨x8, x9⟩ := o3
        have hlenA := IntsAre.length hv
        have hlenB : (ansTo a b (5 * i + j)).length = 5 * i + j := by simp [ansTo]
        have e1 : (0 + (i : Int)) = i := by omega
        have e2 : (-2 + (j : Int)) = (j : Int) - 2 := by omega
        refine cut_at 2 (R := fun s' => ∃ pl vp ep0, IntsAre vp (places a.length b.length (-2 + (j : Int))) ∧ 2 * ((-2 + (j : Int)).natAbs : Int) ≤ i ∧ 0 < plen a.length b.length (-2 + (j : Int)) ∧
            At s H L [(Str.ofString "places", .ref pl), (Str.ofString "shift", .int (-2 + (j : Int)) tj), (Str.ofString "price", .int (0 + (i : Int)) t), (Str.ofString "far", .ref d), (Str.ofString "answers", .ref ans), (Str.ofString "one", .str (ofL a) t1), (Str.ofString "other", .str (ofL b) t2)]
              ((pl, listOf vp.toArray ep0) :: (it2, rangeIt (-2 + (j : Int) + 1) ((5 : Nat) - (j : Int) - 1) 1) :: (it1, rangeIt (0 + (i : Int) + 1) ((5 : Nat) - (i : Int) - 1) 1) :: (ans, listOf vs.toArray ep) :: (d, od) :: keys) s') ?_ ?_
        · refine hide fun Qc5 Hc5 => ?_
          simp only [List.take_succ_cons, List.take_zero]
          k_steps
          all_goals (repeat (first | refine Hc5.out _ _ ?_ | refine Ht4.out _ _ ?_ | refine Ht3.out _ _ ?_ | refine Hc2.out _ _ ?_ | refine Hc1.out _ _ ?_))
          all_goals (try ((try dsimp only); (with_reducible refine wpAny_execs_nil ?_); (repeat (first | refine Hc5.out _ _ ?_ | refine Ht4.out _ _ ?_ | refine Ht3.out _ _ ?_ | refine Hc2.out _ _ ?_ | refine Hc1.out _ _ ?_))))
          · obtain ⟨z1, z2⟩ := due0a (p := 0 + (i : Int)) (k := -2 + (j : Int)) h1 h2 (by omega) (by omega) (by assumption)
            simp only [List.push_toArray] at *
            refine ⟨⟨vs ++ [.int 0 _], _, od, keys, D⟩, ⟨?_, hT, hF.skip (p := 0 + (i : Int)) (k := -2 + (j : Int)) (by omega) (by omega) (by omega) z2⟩, at_intro (by k_asm) (by k_asm) (by tb_start) (by tb_rel) hn0⟩
            rw [← Nat.add_assoc, ansTo_succ a b hj, ← e1, ← e2, z1]; exact IntsAre.snoc hv _ _
          · obtain ⟨z1, z2⟩ := due0b (p := 0 + (i : Int)) (k := -2 + (j : Int)) h1 h2 (by omega) (by omega) (by assumption)
            simp only [List.push_toArray] at *
            refine ⟨⟨vs ++ [.int 0 _], _, od, keys, D⟩, ⟨?_, hT, hF.skip (p := 0 + (i : Int)) (k := -2 + (j : Int)) (by omega) (by omega) (by omega) z2⟩, at_intro (by k_asm) (by k_asm) (by tb_start) (by tb_rel) hn0⟩
            rw [← Nat.add_assoc, ansTo_succ a b hj, ← e1, ← e2, z1]; exact IntsAre.snoc hv _ _
          · obtain ⟨z1, z2⟩ := due1 (p := 0 + (i : Int)) (k := -2 + (j : Int)) h1 h2 (by omega) (by omega) (by assumption) (by assumption)
            refine ⟨_, _, _, by assumption, by omega, z2, at_intro (by k_asm) (by k_asm) (by tb_start) (by tb_rel) (ndk_intro ?_ hn0)⟩
            simp only [OffN]
            refine ⟨by assumption, by assumption, by assumption, by assumption, by assumption⟩
        have hlp := places_len h1 h2 (show -2 ≤ -2 + (j : Int) by omega) (show -2 + (j : Int) ≤ 2 by omega)
        clear F N hn0 h tk m x1 x2 x3 x4 x5 x6 x7 x8 x9 o4
        clear nd4
        rintro s' ⟨pl, vp, ep0, hpl, hz1, hz2, h, tk, m, rfl, F, N, nd⟩
        simp only [List.drop_succ_cons, List.drop_zero]
        have hn0 := nd
        obtain ⟨o0, nd0⟩ := ndk nd
        obtain ⟨o1, nd1⟩ := ndk nd0
        obtain ⟨o2, nd2⟩ := ndk nd1
        obtain ⟨o3, nd3⟩ := ndk nd2
        obtain ⟨o4, nd4⟩ := ndk nd3
        clear nd nd0 nd1 nd2 nd3
        simp only [OffN] at o0 o1 o2 o3
        dsimp only at o4
        obtain ⟨y1, y2, y3, y4, y5⟩ := o0
        obtain ⟨x1, x2, x3, x4⟩ := o1
        obtain ⟨x5, x6, x7⟩ := o2
        obtain ⟨x8, x9⟩ := o3
        have q1 := hF.get (p := 0 + (i : Int)) (k := -2 + (j : Int)) (p' := 0 + (i : Int) - 2) (k' := -2 + (j : Int)) (by omega) (by omega) (by omega) (by omega) (by omega) (by omega) (by omega) (by omega)
        have q2 := hF.get (p := 0 + (i : Int)) (k := -2 + (j : Int)) (p' := 0 + (i : Int) - 2) (k' := -2 + (j : Int) - 1) (by omega) (by omega) (by omega) (by omega) (by omega) (by omega) (by omega) (by omega)
        have q3 := hF.get (p := 0 + (i : Int)) (k := -2 + (j : Int)) (p' := 0 + (i : Int) - 2) (k' := -2 + (j : Int) + 1) (by omega) (by omega) (by omega) (by omega) (by omega) (by omega) (by omega) (by omega)
        have hpl0 : (places a.length b.length (-2 + (j : Int))).getD 0 0 = plo (-2 + (j : Int)) := by rw [places_get h1 h2 (by omega) (by omega) hz2]; simp
        refine cut_at 1 (R := fun s' => ∃ st vst eps, IntsAre vst [plo (-2 + (j : Int))] ∧
            At s H L [(Str.ofString "steps", .ref st), (Str.ofString "places", .ref pl), (Str.ofString "shift", .int (-2 + (j : Int)) tj), (Str.ofString "price", .int (0 + (i : Int)) t), (Str.ofString "far", .ref d), (Str.ofString "answers", .ref ans), (Str.ofString "one", .str (ofL a) t1), (Str.ofString "other", .str (ofL b) t2)]
              ((st, listOf vst.toArray eps) :: (pl, listOf vp.toArray ep0) :: (it2, rangeIt (-2 + (j : Int) + 1) ((5 : Nat) - (j : Int) - 1) 1) :: (it1, rangeIt (0 + (i : Int) + 1) ((5 : Nat) - (i : Int) - 1) 1) :: (ans, listOf vs.toArray ep) :: (d, od) :: keys) s') ?_ ?_
        · refine hide fun Qc6 Hc6 => ?_
          simp only [List.take_succ_cons, List.take_zero]
          k_steps
          all_goals (repeat (first | refine Hc6.out _ _ ?_ | refine Hc5.out _ _ ?_ | refine Ht4.out _ _ ?_ | refine Ht3.out _ _ ?_ | refine Hc2.out _ _ ?_ | refine Hc1.out _ _ ?_))
          all_goals (try ((try dsimp only); (with_reducible refine wpAny_execs_nil ?_); (repeat (first | refine Hc6.out _ _ ?_ | refine Hc5.out _ _ ?_ | refine Ht4.out _ _ ?_ | refine Ht3.out _ _ ?_ | refine Hc2.out _ _ ?_ | refine Hc1.out _ _ ?_))))
          refine ⟨_, [_], _, ?_, at_intro (by k_asm) (by k_asm) (by tb_start) (by tb_rel) (ndk_intro (offN_of_lt (by assumption)) hn0)⟩
          rw [← hpl0]; exact .cons _ _ .nil
        clear F N h tk m
        rintro s' ⟨st, vst, eps, hst, hAt⟩
        simp only [List.drop_succ_cons, List.drop_zero]
        refine cut_at 1 (R := fun s' => ∃ vst eps, IntsAre vst (stepsL a b (0 + (i : Int)) (-2 + (j : Int)) 3) ∧
            At s H L [(Str.ofString "steps", .ref st), (Str.ofString "places", .ref pl), (Str.ofString "shift", .int (-2 + (j : Int)) tj), (Str.ofString "price", .int (0 + (i : Int)) t), (Str.ofString "far", .ref d), (Str.ofString "answers", .ref ans), (Str.ofString "one", .str (ofL a) t1), (Str.ofString "other", .str (ofL b) t2)]
              ((st, listOf vst.toArray eps) :: (pl, listOf vp.toArray ep0) :: (it2, rangeIt (-2 + (j : Int) + 1) ((5 : Nat) - (j : Int) - 1) 1) :: (it1, rangeIt (0 + (i : Int) + 1) ((5 : Nat) - (i : Int) - 1) 1) :: (ans, listOf vs.toArray ep) :: (d, od) :: keys) s') ?_ ?_
        · refine hide fun Qc7 Hc7 => ?_
          simp only [List.take_succ_cons, List.take_zero]
          refine wpAny_execs_cons ?_
          refine for_tup (s := s) (h₀ := H) (L := L) (σ := List Value × Nat) (R := fun v s' => ∃ T p3 k3 p2 k2 p1 k1 u1 u2 u3 u4 u5 u6 u7 u8 u9, v = .ref T ∧
            At s H L [(Str.ofString "steps", .ref st), (Str.ofString "places", .ref pl), (Str.ofString "shift", .int (-2 + (j : Int)) tj), (Str.ofString "price", .int (0 + (i : Int)) t), (Str.ofString "far", .ref d), (Str.ofString "answers", .ref ans), (Str.ofString "one", .str (ofL a) t1), (Str.ofString "other", .str (ofL b) t2)]
              ((T, tupOf #[.ref p1, .ref p2, .ref p3]) :: (p3, tupOf #[.ref k3, .int 1 u3]) :: (k3, tupOf #[.int (0 + (i : Int) - 2) u8, .int (-2 + (j : Int) + 1) u9]) :: (p2, tupOf #[.ref k2, .int 0 u2]) :: (k2, tupOf #[.int (0 + (i : Int) - 2) u6, .int (-2 + (j : Int) - 1) u7]) :: (p1, tupOf #[.ref k1, .int 1 u1]) :: (k1, tupOf #[.int (0 + (i : Int) - 2) u4, .int (-2 + (j : Int)) u5]) :: (st, listOf vst.toArray eps) :: (pl, listOf vp.toArray ep0) :: (it2, rangeIt (-2 + (j : Int) + 1) ((5 : Nat) - (j : Int) - 1) 1) :: (it1, rangeIt (0 + (i : Int) + 1) ((5 : Nat) - (i : Int) - 1) 1) :: (ans, listOf vs.toArray ep) :: (d, od) :: keys) s') rfl ?_ ?_
          · obtain ⟨h, tk, m, rfl, F, N, nd⟩ := hAt
            k_steps
            all_goals (repeat (first | refine Hc7.out _ _ ?_ | refine Hc6.out _ _ ?_ | refine Hc5.out _ _ ?_ | refine Ht4.out _ _ ?_ | refine Ht3.out _ _ ?_ | refine Hc2.out _ _ ?_ | refine Hc1.out _ _ ?_))
            all_goals (try ((try dsimp only); (with_reducible refine wpAny_execs_nil ?_); (repeat (first | refine Hc7.out _ _ ?_ | refine Hc6.out _ _ ?_ | refine Hc5.out _ _ ?_ | refine Ht4.out _ _ ?_ | refine Ht3.out _ _ ?_ | refine Hc2.out _ _ ?_ | refine Hc1.out _ _ ?_))))
            refine ⟨_, _, _, _, _, _, _, _, _, _, _, _, _, _, _, _, rfl, at_intro (by k_asm) (by k_asm) (by tb_start) (by tb_rel) ?_⟩
            repeat refine ndk_intro (offN_of_lt (by assumption)) ?_
            exact nd
          · clear hAt
            rintro v s₂ ⟨T, p3, k3, p2, k2, p1, k1, u1, u2, u3, u4, u5, u6, u7, u8, u9, rfl, hAt⟩
            refine ⟨T, _, 0, [.ref p1, .ref p2, .ref p3], fun c => [(Str.ofString "steps", .ref st), (Str.ofString "places", .ref pl), (Str.ofString "shift", .int (-2 + (j : Int)) tj), (Str.ofString "price", .int (0 + (i : Int)) t), (Str.ofString "far", .ref d), (Str.ofString "answers", .ref ans), (Str.ofString "one", .str (ofL a) t1), (Str.ofString "other", .str (ofL b) t2)], fun c => ((T, tupOf #[.ref p1, .ref p2, .ref p3]) :: (p3, tupOf #[.ref k3, .int 1 u3]) :: (k3, tupOf #[.int (0 + (i : Int) - 2) u8, .int (-2 + (j : Int) + 1) u9]) :: (p2, tupOf #[.ref k2, .int 0 u2]) :: (k2, tupOf #[.int (0 + (i : Int) - 2) u6, .int (-2 + (j : Int) - 1) u7]) :: (p1, tupOf #[.ref k1, .int 1 u1]) :: (k1, tupOf #[.int (0 + (i : Int) - 2) u4, .int (-2 + (j : Int)) u5]) :: (st, listOf c.1.toArray c.2) :: (pl, listOf vp.toArray ep0) :: (it2, rangeIt (-2 + (j : Int) + 1) ((5 : Nat) - (j : Int) - 1) 1) :: (it1, rangeIt (0 + (i : Int) + 1) ((5 : Nat) - (i : Int) - 1) 1) :: (ans, listOf vs.toArray ep) :: (d, od) :: keys), fun n c => IntsAre c.1 (stepsL a b (0 + (i : Int)) (-2 + (j : Int)) n), (vst, eps), rfl, ?hst0, hAt, rfl, rfl, fun c => List.mem_cons_self .., ?turn, ?done⟩
            case hst0 => dsimp only; rw [stepsL_0]; exact hst
            case done =>
              rintro ⟨vst, eps⟩ h tk m hP F N nd
              refine wpAny_execs_nil ?_
              all_goals (repeat (first | refine Hc7.out _ _ ?_ | refine Hc6.out _ _ ?_ | refine Hc5.out _ _ ?_ | refine Ht4.out _ _ ?_ | refine Ht3.out _ _ ?_ | refine Hc2.out _ _ ?_ | refine Hc1.out _ _ ?_))
              all_goals (try ((try dsimp only); (with_reducible refine wpAny_execs_nil ?_); (repeat (first | refine Hc7.out _ _ ?_ | refine Hc6.out _ _ ?_ | refine Hc5.out _ _ ?_ | refine Ht4.out _ _ ?_ | refine Ht3.out _ _ ?_ | refine Hc2.out _ _ ?_ | refine Hc1.out _ _ ?_))))
              exact ⟨vst, eps, hP, at_intro (by k_asm) (by k_asm) (by tb_start) (by tb_rel) (ndk (ndk (ndk (ndk (ndk (ndk (ndk nd).2).2).2).2).2).2).2⟩
            case turn =>
              clear hAt hst
              rintro n ⟨vst, eps⟩ it oi h tk m v hv hP hoc F N nd
              dsimp only at hP F N nd ⊢
              obtain ⟨w1, nn⟩ := ndk nd
              obtain ⟨w2, nn⟩ := ndk nn
              obtain ⟨w3, nn⟩ := ndk nn
              obtain ⟨w4, nn⟩ := ndk nn
              obtain ⟨w5, nn⟩ := ndk nn
              obtain ⟨w6, nn⟩ := ndk nn
              obtain ⟨w7, nn⟩ := ndk nn
              obtain ⟨w8, nn⟩ := ndk nn
              obtain ⟨w9, nn⟩ := ndk nn
              replace w1 := w1.at (p := (st, listOf vst.toArray eps)) (by k_mem)
              replace w2 := w2.at (p := (st, listOf vst.toArray eps)) (by k_mem)
              replace w3 := w3.at (p := (st, listOf vst.toArray eps)) (by k_mem)
              replace w4 := w4.at (p := (st, listOf vst.toArray eps)) (by k_mem)
              replace w5 := w5.at (p := (st, listOf vst.toArray eps)) (by k_mem)
              replace w6 := w6.at (p := (st, listOf vst.toArray eps)) (by k_mem)
              replace w7 := w7.at (p := (st, listOf vst.toArray eps)) (by k_mem)
              replace w8 := w8.at (p := (st, listOf vst.toArray eps)) (by k_mem)
              clear nn
              simp only [OffN] at w9
              obtain ⟨z1, z2, z3, z4, z5, z6⟩ := w9
              have hvl := IntsAre.length hP
              have hvm := stepsL_len a b (0 + (i : Int)) (-2 + (j : Int)) n
              rcases n with _ | _ | _ | n
              · obtain rfl : Value.ref p1 = v := Option.some.inj hv
                rcases r1 : reach a b (0 + (i : Int) - 2) (-2 + (j : Int)) with _ | f1
                · rw [r1] at q1
                  simp only [Option.map_none] at q1
                  k_steps
                  all_goals (repeat (first | refine Hc7.out _ _ ?_ | refine Hc6.out _ _ ?_ | refine Hc5.out _ _ ?_ | refine Ht4.out _ _ ?_ | refine Ht3.out _ _ ?_ | refine Hc2.out _ _ ?_ | refine Hc1.out _ _ ?_))
                  all_goals (try ((try dsimp only); (with_reducible refine wpAny_execs_nil ?_); (repeat (first | refine Hc7.out _ _ ?_ | refine Hc6.out _ _ ?_ | refine Hc5.out _ _ ?_ | refine Ht4.out _ _ ?_ | refine Ht3.out _ _ ?_ | refine Hc2.out _ _ ?_ | refine Hc1.out _ _ ?_))))
                  refine ⟨(vst, eps), ?_, at_intro (by k_asm) (by k_asm) (by tb_start) (by tb_rel) nd⟩
                  rw [stepsL_1, r1]; simpa using hP
                · rw [r1] at q1
                  simp only [Option.map_some] at q1
                  k_steps
                  all_goals (repeat (first | refine Hc7.out _ _ ?_ | refine Hc6.out _ _ ?_ | refine Hc5.out _ _ ?_ | refine Ht4.out _ _ ?_ | refine Ht3.out _ _ ?_ | refine Hc2.out _ _ ?_ | refine Hc1.out _ _ ?_))
                  all_goals (try ((try dsimp only); (with_reducible refine wpAny_execs_nil ?_); (repeat (first | refine Hc7.out _ _ ?_ | refine Hc6.out _ _ ?_ | refine Hc5.out _ _ ?_ | refine Ht4.out _ _ ?_ | refine Ht3.out _ _ ?_ | refine Hc2.out _ _ ?_ | refine Hc1.out _ _ ?_))))
                  simp only [List.push_toArray] at *
                  refine ⟨(vst ++ [.int _ _], _), ?_, at_intro (by k_asm) (by k_asm) (by tb_start) (by tb_rel) nd⟩
                  rw [stepsL_1, r1]; exact IntsAre.snoc hP _ _
              · obtain rfl : Value.ref p2 = v := Option.some.inj hv
                rcases r1 : reach a b (0 + (i : Int) - 2) (-2 + (j : Int) - 1) with _ | f1
                · rw [r1] at q2
                  simp only [Option.map_none] at q2
                  k_steps
                  all_goals (repeat (first | refine Hc7.out _ _ ?_ | refine Hc6.out _ _ ?_ | refine Hc5.out _ _ ?_ | refine Ht4.out _ _ ?_ | refine Ht3.out _ _ ?_ | refine Hc2.out _ _ ?_ | refine Hc1.out _ _ ?_))
                  all_goals (try ((try dsimp only); (with_reducible refine wpAny_execs_nil ?_); (repeat (first | refine Hc7.out _ _ ?_ | refine Hc6.out _ _ ?_ | refine Hc5.out _ _ ?_ | refine Ht4.out _ _ ?_ | refine Ht3.out _ _ ?_ | refine Hc2.out _ _ ?_ | refine Hc1.out _ _ ?_))))
                  refine ⟨(vst, eps), ?_, at_intro (by k_asm) (by k_asm) (by tb_start) (by tb_rel) nd⟩
                  rw [stepsL_2, r1]; simpa using hP
                · rw [r1] at q2
                  simp only [Option.map_some] at q2
                  k_steps
                  all_goals (repeat (first | refine Hc7.out _ _ ?_ | refine Hc6.out _ _ ?_ | refine Hc5.out _ _ ?_ | refine Ht4.out _ _ ?_ | refine Ht3.out _ _ ?_ | refine Hc2.out _ _ ?_ | refine Hc1.out _ _ ?_))
                  all_goals (try ((try dsimp only); (with_reducible refine wpAny_execs_nil ?_); (repeat (first | refine Hc7.out _ _ ?_ | refine Hc6.out _ _ ?_ | refine Hc5.out _ _ ?_ | refine Ht4.out _ _ ?_ | refine Ht3.out _ _ ?_ | refine Hc2.out _ _ ?_ | refine Hc1.out _ _ ?_))))
                  simp only [List.push_toArray] at *
                  refine ⟨(vst ++ [.int _ _], _), ?_, at_intro (by k_asm) (by k_asm) (by tb_start) (by tb_rel) nd⟩
                  rw [stepsL_2, r1]; rw [Int.add_zero]; exact IntsAre.snoc hP _ _
              · obtain rfl : Value.ref p3 = v := Option.some.inj hv
                rcases r1 : reach a b (0 + (i : Int) - 2) (-2 + (j : Int) + 1) with _ | f1
                · rw [r1] at q3
                  simp only [Option.map_none] at q3
                  k_steps
                  all_goals (repeat (first | refine Hc7.out _ _ ?_ | refine Hc6.out _ _ ?_ | refine Hc5.out _ _ ?_ | refine Ht4.out _ _ ?_ | refine Ht3.out _ _ ?_ | refine Hc2.out _ _ ?_ | refine Hc1.out _ _ ?_))
                  all_goals (try ((try dsimp only); (with_reducible refine wpAny_execs_nil ?_); (repeat (first | refine Hc7.out _ _ ?_ | refine Hc6.out _ _ ?_ | refine Hc5.out _ _ ?_ | refine Ht4.out _ _ ?_ | refine Ht3.out _ _ ?_ | refine Hc2.out _ _ ?_ | refine Hc1.out _ _ ?_))))
                  refine ⟨(vst, eps), ?_, at_intro (by k_asm) (by k_asm) (by tb_start) (by tb_rel) nd⟩
                  rw [stepsL_3, r1]; simpa using hP
                · rw [r1] at q3
                  simp only [Option.map_some] at q3
                  k_steps
                  all_goals (repeat (first | refine Hc7.out _ _ ?_ | refine Hc6.out _ _ ?_ | refine Hc5.out _ _ ?_ | refine Ht4.out _ _ ?_ | refine Ht3.out _ _ ?_ | refine Hc2.out _ _ ?_ | refine Hc1.out _ _ ?_))
                  all_goals (try ((try dsimp only); (with_reducible refine wpAny_execs_nil ?_); (repeat (first | refine Hc7.out _ _ ?_ | refine Hc6.out _ _ ?_ | refine Hc5.out _ _ ?_ | refine Ht4.out _ _ ?_ | refine Ht3.out _ _ ?_ | refine Hc2.out _ _ ?_ | refine Hc1.out _ _ ?_))))
                  simp only [List.push_toArray] at *
                  refine ⟨(vst ++ [.int _ _], _), ?_, at_intro (by k_asm) (by k_asm) (by tb_start) (by tb_rel) nd⟩
                  rw [stepsL_3, r1]; exact IntsAre.snoc hP _ _
              · simp at hv
        clear hst hAt vst eps
        rintro s' ⟨vst, eps, hst, h, tk, m, rfl, F, N, nd⟩
        simp only [List.drop_succ_cons, List.drop_zero]
        have hlast : (places a.length b.length (-2 + (j : Int))).getD (-1 + ((places a.length b.length (-2 + (j : Int))).length : Int)).toNat 0 = lastP a b (-2 + (j : Int)) := by
          rw [hlp, places_get h1 h2 (by omega) (by omega) (by omega)]; unfold lastP; omega
        have hsp := stepsL_pos a b (0 + (i : Int)) (-2 + (j : Int)) 3
        refine cut_at 1 (R := fun s' => ∃ pc u, Came a b (0 + (i : Int)) (-2 + (j : Int)) pc ∧
            At s H L [(Str.ofString "place", .int pc u), (Str.ofString "places", .ref pl), (Str.ofString "shift", .int (-2 + (j : Int)) tj), (Str.ofString "price", .int (0 + (i : Int)) t), (Str.ofString "far", .ref d), (Str.ofString "answers", .ref ans), (Str.ofString "one", .str (ofL a) t1), (Str.ofString "other", .str (ofL b) t2)]
              ((pl, listOf vp.toArray ep0) :: (it2, rangeIt (-2 + (j : Int) + 1) ((5 : Nat) - (j : Int) - 1) 1) :: (it1, rangeIt (0 + (i : Int) + 1) ((5 : Nat) - (i : Int) - 1) 1) :: (ans, listOf vs.toArray ep) :: (d, od) :: keys) s') ?_ ?_
        · refine hide fun Qc8 Hc8 => ?_
          simp only [List.take_succ_cons, List.take_zero]
          k_steps
          all_goals (repeat (first | refine Hc8.out _ _ ?_ | refine Hc7.out _ _ ?_ | refine Hc6.out _ _ ?_ | refine Hc5.out _ _ ?_ | refine Ht4.out _ _ ?_ | refine Ht3.out _ _ ?_ | refine Hc2.out _ _ ?_ | refine Hc1.out _ _ ?_))
          all_goals (try ((try dsimp only); (with_reducible refine wpAny_execs_nil ?_); (repeat (first | refine Hc8.out _ _ ?_ | refine Hc7.out _ _ ?_ | refine Hc6.out _ _ ?_ | refine Hc5.out _ _ ?_ | refine Ht4.out _ _ ?_ | refine Ht3.out _ _ ?_ | refine Hc2.out _ _ ?_ | refine Hc1.out _ _ ?_))))
          simp only [hlast] at *
          refine ⟨_, _, came_of h1 h2 (by omega) (by omega) (by omega) (by omega) hz2 (by assumption) (by assumption), at_intro (by k_asm) (by k_asm) (by tb_start) (by tb_rel) hn0⟩
        clear F N h tk m hst hsp nd st
        rintro s' ⟨pc, u, hcm, hAt⟩
        simp only [List.drop_succ_cons, List.drop_zero]
        have q4 := hF.get (p := 0 + (i : Int)) (k := -2 + (j : Int)) (p' := 0 + (i : Int) - 1) (k' := -2 + (j : Int)) (by omega) (by omega) (by omega) (by omega) (by omega) (by omega) (by omega) (by omega)
        have q5 : (Spec.lookup (encTuple PyData.int [0 + (i : Int) - 1, -2 + (j : Int)]) D).getD (PyData.int (-1)) = PyData.int ((reach a b (0 + (i : Int) - 1) (-2 + (j : Int))).getD (-1)) := by
          rw [q4]; cases reach a b (0 + (i : Int) - 1) (-2 + (j : Int)) <;> rfl
        have hL := lastP_eq h1 h2 hz2
        have hk : plo (-2 + (j : Int)) = max 0 (-(-2 + (j : Int))) := rfl
        clear q1 q2 q3 q4
        refine cut_at 1 (R := fun s' => ∃ pc u, (reach a b (0 + (i : Int)) (-2 + (j : Int)) = some pc ∧ (cnt a b (0 + (i : Int)) (-2 + (j : Int)) : Int) = pc - plo (-2 + (j : Int)) + 1) ∧
            At s H L [(Str.ofString "place", .int pc u), (Str.ofString "places", .ref pl), (Str.ofString "shift", .int (-2 + (j : Int)) tj), (Str.ofString "price", .int (0 + (i : Int)) t), (Str.ofString "far", .ref d), (Str.ofString "answers", .ref ans), (Str.ofString "one", .str (ofL a) t1), (Str.ofString "other", .str (ofL b) t2)]
              ((pl, listOf vp.toArray ep0) :: (it2, rangeIt (-2 + (j : Int) + 1) ((5 : Nat) - (j : Int) - 1) 1) :: (it1, rangeIt (0 + (i : Int) + 1) ((5 : Nat) - (i : Int) - 1) 1) :: (ans, listOf vs.toArray ep) :: (d, od) :: keys) s') ?_ ?_
        · refine hide fun Qc9 Hc9 => ?_
          simp only [List.take_succ_cons, List.take_zero]
          refine wpAny_execs_cons ?_
          refine while_hd (s := s) (h₀ := H) (L := L) (σ := Int × Tok) (fun c => (lastP a b (-2 + (j : Int)) - c.1).toNat) (fun c => [(Str.ofString "place", .int c.1 c.2), (Str.ofString "places", .ref pl), (Str.ofString "shift", .int (-2 + (j : Int)) tj), (Str.ofString "price", .int (0 + (i : Int)) t), (Str.ofString "far", .ref d), (Str.ofString "answers", .ref ans), (Str.ofString "one", .str (ofL a) t1), (Str.ofString "other", .str (ofL b) t2)]) (fun c => ((pl, listOf vp.toArray ep0) :: (it2, rangeIt (-2 + (j : Int) + 1) ((5 : Nat) - (j : Int) - 1) 1) :: (it1, rangeIt (0 + (i : Int) + 1) ((5 : Nat) - (i : Int) - 1) 1) :: (ans, listOf vs.toArray ep) :: (d, od) :: keys)) (fun c => Came a b (0 + (i : Int)) (-2 + (j : Int)) c.1) (pc, u) hcm hAt ?_
          clear hAt hcm pc u
          rintro ⟨pc, u⟩ h tk m hcm F N nd Qt10 Ht10
          dsimp only at hcm F N nd ⊢
          have c1 := hcm.1
          have c2 := hcm.2.1
          k_steps
          all_goals (repeat (first | refine Ht10.out _ _ ?_ | refine Hc9.out _ _ ?_ | refine Hc8.out _ _ ?_ | refine Hc7.out _ _ ?_ | refine Hc6.out _ _ ?_ | refine Hc5.out _ _ ?_ | refine Ht4.out _ _ ?_ | refine Ht3.out _ _ ?_ | refine Hc2.out _ _ ?_ | refine Hc1.out _ _ ?_))
          all_goals (try ((try dsimp only); (with_reducible refine wpAny_execs_nil ?_); (repeat (first | refine Ht10.out _ _ ?_ | refine Hc9.out _ _ ?_ | refine Hc8.out _ _ ?_ | refine Hc7.out _ _ ?_ | refine Hc6.out _ _ ?_ | refine Hc5.out _ _ ?_ | refine Ht4.out _ _ ?_ | refine Ht3.out _ _ ?_ | refine Hc2.out _ _ ?_ | refine Hc1.out _ _ ?_))))
          all_goals simp only [hlast] at *
          · refine ⟨(pc + 1, _), ?_, came_on h1 h2 (by omega) (by omega) hcm (by assumption) (by assumption), at_intro (by k_asm) (by k_asm) (by tb_start) (by tb_rel) nd⟩
            dsimp only; omega
          · refine ⟨pc, _, came_stop h1 h2 (by omega) (by omega) (by omega) (by omega) hcm (by assumption) (by assumption), at_intro (by k_asm) (by k_asm) (by tb_start) (by tb_rel) nd⟩
          · refine ⟨pc, _, came_end h1 h2 (by omega) (by omega) (by omega) hcm (by assumption), at_intro (by k_asm) (by k_asm) (by tb_start) (by tb_rel) nd⟩
        clear hAt hcm q5
        rintro s' ⟨pc, u, ⟨hr, hcn⟩, h, tk, m, rfl, F, N, nd⟩
        simp only [List.drop_succ_cons, List.drop_zero]
        have hDl : D.length ≤ sizeLine := Nat.le_trans hF.1 (by simp only [PySem.sizeLine]; omega)
        k_steps
        all_goals (repeat (first | refine Ht10.out _ _ ?_ | refine Hc9.out _ _ ?_ | refine Hc8.out _ _ ?_ | refine Hc7.out _ _ ?_ | refine Hc6.out _ _ ?_ | refine Hc5.out _ _ ?_ | refine Ht4.out _ _ ?_ | refine Ht3.out _ _ ?_ | refine Hc2.out _ _ ?_ | refine Hc1.out _ _ ?_))
        all_goals (try ((try dsimp only); (with_reducible refine wpAny_execs_nil ?_); (repeat (first | refine Ht10.out _ _ ?_ | refine Hc9.out _ _ ?_ | refine Hc8.out _ _ ?_ | refine Hc7.out _ _ ?_ | refine Hc6.out _ _ ?_ | refine Hc5.out _ _ ?_ | refine Ht4.out _ _ ?_ | refine Ht3.out _ _ ?_ | refine Hc2.out _ _ ?_ | refine Hc1.out _ _ ?_))))
        rename _ ∧ _ => l1
        obtain ⟨v1, v2, v3, v4, v5, v6⟩ := l1
        k_dflt (refine setItem_keys (by units_room) (PyProof.V.Flat.int _ _) (by k_asm) (by k_asm) (by assumption) (by tb_rel) (by k_mem) (TupKeyObj.made (by tuptab_items_int)) (rest := [(pl, listOf vp.toArray ep0), (it2, rangeIt (-2 + (j : Int) + 1) ((5 : Nat) - (j : Int) - 1) 1), (it1, rangeIt (0 + (i : Int) + 1) ((5 : Nat) - (i : Int) - 1) 1), (ans, listOf vs.toArray ep)]) (by tb_rel) ?hne ?hkd hDl ?_)
        case hne => exact OffN.ne (d := d) ⟨⟨y4.out.symm⟩, ⟨x3.out.symm⟩, ⟨x6.out.symm⟩, ⟨x8.out.symm⟩, trivial⟩
        case hkd => exact OffN.ne o4
        intro h' o' F' N' T'
        simp only [List.cons_append, List.nil_append] at N'
        dsimp only
        k_steps
        all_goals (repeat (first | refine Ht10.out _ _ ?_ | refine Hc9.out _ _ ?_ | refine Hc8.out _ _ ?_ | refine Hc7.out _ _ ?_ | refine Hc6.out _ _ ?_ | refine Hc5.out _ _ ?_ | refine Ht4.out _ _ ?_ | refine Ht3.out _ _ ?_ | refine Hc2.out _ _ ?_ | refine Hc1.out _ _ ?_))
        all_goals (try ((try dsimp only); (with_reducible refine wpAny_execs_nil ?_); (repeat (first | refine Ht10.out _ _ ?_ | refine Hc9.out _ _ ?_ | refine Hc8.out _ _ ?_ | refine Hc7.out _ _ ?_ | refine Hc6.out _ _ ?_ | refine Hc5.out _ _ ?_ | refine Ht4.out _ _ ?_ | refine Ht3.out _ _ ?_ | refine Hc2.out _ _ ?_ | refine Hc1.out _ _ ?_))))
        simp only [List.push_toArray, Int.toNat_zero, hpl0] at *
        refine ⟨⟨vs ++ [.int _ _], _, o', (_, tupOf #[.int (0 + (i : Int)) t, .int (-2 + (j : Int)) tj]) :: keys, _⟩, ⟨?_, T', hF.put (p := 0 + (i : Int)) (k := -2 + (j : Int)) (by omega) (by omega) (by omega) hr⟩, at_intro (by k_asm) (by k_asm) (by tb_start) (by tb_rel) ?_⟩
        · rw [← Nat.add_assoc, ansTo_succ a b hj, ← e1, ← e2, hcn]; exact IntsAre.snoc hv _ _
        · exact ndk_intro ⟨x1, x2, x3, ⟨Nat.ne_of_gt v2⟩, x4⟩ (ndk_intro ⟨x5, x6, ⟨Nat.ne_of_gt v3⟩, x7⟩ (ndk_intro ⟨x8, ⟨Nat.ne_of_gt v4⟩, x9⟩ (ndk_intro ⟨⟨Nat.ne_of_gt v5⟩, o4⟩ (ndk_intro (offN_of_lt v6) nd4))))
      · clear F N nd hv hT hF vs ep od keys D h tk m
        rintro ⟨vs, ep, od, keys, D⟩ h tk m ⟨hv, hT, hF⟩ F N nd
        dsimp only at hv hT hF F N nd ⊢
        refine wpAny_execs_nil ?_
        all_goals (repeat (first | refine Ht10.out _ _ ?_ | refine Hc9.out _ _ ?_ | refine Hc8.out _ _ ?_ | refine Hc7.out _ _ ?_ | refine Hc6.out _ _ ?_ | refine Hc5.out _ _ ?_ | refine Ht4.out _ _ ?_ | refine Ht3.out _ _ ?_ | refine Hc2.out _ _ ?_ | refine Hc1.out _ _ ?_))
        all_goals (try ((try dsimp only); (with_reducible refine wpAny_execs_nil ?_); (repeat (first | refine Ht10.out _ _ ?_ | refine Hc9.out _ _ ?_ | refine Hc8.out _ _ ?_ | refine Hc7.out _ _ ?_ | refine Hc6.out _ _ ?_ | refine Hc5.out _ _ ?_ | refine Ht4.out _ _ ?_ | refine Ht3.out _ _ ?_ | refine Hc2.out _ _ ?_ | refine Hc1.out _ _ ?_))))
        exact ⟨⟨vs, ep, od, keys, D⟩, ⟨by rw [show 5 * (i + 1) = 5 * i + 5 from by omega]; exact hv, hT, by rw [show 5 * (i + 1) = 5 * i + 5 from by omega]; exact hF⟩, at_intro (by k_asm) (by k_asm) (by tb_start) (fun q hq => hq) nd⟩
    · rintro ⟨vs, ep, od, keys, D⟩ h tk m ⟨hv, hT, hF⟩ F N nd
      dsimp only at hv hT hF F N nd ⊢
      refine wpAny_execs_nil ?_
      all_goals (repeat (first | refine Ht10.out _ _ ?_ | refine Hc9.out _ _ ?_ | refine Hc8.out _ _ ?_ | refine Hc7.out _ _ ?_ | refine Hc6.out _ _ ?_ | refine Hc5.out _ _ ?_ | refine Ht4.out _ _ ?_ | refine Ht3.out _ _ ?_ | refine Hc2.out _ _ ?_ | refine Hc1.out _ _ ?_))
      all_goals (try ((try dsimp only); (with_reducible refine wpAny_execs_nil ?_); (repeat (first | refine Ht10.out _ _ ?_ | refine Hc9.out _ _ ?_ | refine Hc8.out _ _ ?_ | refine Hc7.out _ _ ?_ | refine Hc6.out _ _ ?_ | refine Hc5.out _ _ ?_ | refine Ht4.out _ _ ?_ | refine Ht3.out _ _ ?_ | refine Hc2.out _ _ ?_ | refine Hc1.out _ _ ?_))))
      exact ⟨vs, ep, hv, at_intro (by k_asm) (by k_asm) (by tb_start) (by tb_rel) nodup1⟩
  clear hAt
  rintro s' ⟨vs, ep, hv, h, tk, m, rfl, F, N, nd⟩
  simp only [List.drop_succ_cons, List.drop_zero]
  k_steps
  all_goals (repeat (first | refine Ht10.out _ _ ?_ | refine Hc9.out _ _ ?_ | refine Hc8.out _ _ ?_ | refine Hc7.out _ _ ?_ | refine Hc6.out _ _ ?_ | refine Hc5.out _ _ ?_ | refine Ht4.out _ _ ?_ | refine Ht3.out _ _ ?_ | refine Hc2.out _ _ ?_ | refine Hc1.out _ _ ?_))
  all_goals (try ((try dsimp only); (with_reducible refine wpAny_execs_nil ?_); (repeat (first | refine Ht10.out _ _ ?_ | refine Hc9.out _ _ ?_ | refine Hc8.out _ _ ?_ | refine Hc7.out _ _ ?_ | refine Hc6.out _ _ ?_ | refine Hc5.out _ _ ?_ | refine Ht4.out _ _ ?_ | refine Ht3.out _ _ ?_ | refine Hc2.out _ _ ?_ | refine Hc1.out _ _ ?_))))
  have hA := N (ans, listOf vs.toArray ep) (by simp)
  exact hQ ans vs ep _ _ F.keep hA.2.2 hA.1 hv
end Mine
end

section
open PySem PySem.W PyProof.Rows PySem.Calls PyProof
set_option Elab.async false
set_option maxRecDepth 100000
set_option maxHeartbeats 8000000
set_option linter.unusedSimpArgs false
set_option linter.unusedVariables false
namespace Mine
example : True := by
  w_top off
  exact True.intro
example : (PySem.Challenge.rw_pe0171_01 = PySem.Challenge.rw_pe0171_01) ∧ hd.heap_1 = hd.heap_1 := by
  k_fill
  exact ⟨rfl, rfl⟩

set_option pp.deepTerms false
set_option pp.maxSteps 2000

/-- an entry of the object's dict -/
noncomputable abbrev ent (w : World) (nm : String) (t : Tok) (v : Value) : DictEntry := { hash := PyData.keyHash w.params (Str.ofString nm), key := .str (Str.ofString nm) t, val := v }
/-- the dict of a lexer, as __init__ leaves it -/
noncomputable abbrev lexD (w : World) (t1 t2 t3 t4 : Tok) (n : Int) (u1 : Tok) (v : Value) (u3 : Tok) (pb : Addr) : Obj :=
  dictOf [ent w "lineno" t1 (.int n u1), ent w "instream" t2 v, ent w "whitespace" t3 (.str (Str.ofString "\n\t\r ") u3), ent w "pushback" t4 (.ref pb)] 4
theorem init_code {w : World} {dp un : Nat} {fr : Option (List Env)} {gd : Option (List Code)} {s : Shared} {g : Heap} {p : Program} {loose : List Str} {mean : ExcName → Option Value} {mg mb : Str → Option Value} {x dx : Addr} {v : Value} {R : Result → Shared → Prop}
   (X : (hd.heap_1 w.params).In g) (T : Top p loose mean mg mb g) (kg : Keeps g s.heap) (hx : s.heap.get? x = some (instObj 70 dx)) (hdx : s.heap.get? dx = some (dictOf [] 0)) (gx : g.get? x = none) (gdx : g.get? dx = none) (hne : dx < x) (hroom : dp + 1 < recursionLimit)
   (hR : ∀ (pb : Addr) (t1 t2 t3 t4 u1 u3 : Tok) (h' : Heap) (tk' : Nat), Keeps (hideAll s.heap [dx]) h' → s.heap.get? pb = none → h'.get? pb = some (listOf #[] 0) → h'.get? dx = some (lexD w t1 t2 t3 t4 1 u1 v u3 pb) → R (.ok (.ret .none)) { s with heap := h', toks := tk' }) :
   codeAny (model theProg w) (Ar dp un fr gd) (.call (.ref 46) ⟨[.ref x, v], []⟩) R s := by
  k_dflt (refine' call_raw (X.keeps kg) (T.keeps kg).nolimit ?ho ?hcd (show dp < recursionLimit by omega) (BindsTo.of_eq (binds := [(Str.ofString "self", .ref x), (Str.ofString "fp", v)]) ?hbind) (locs ?hloc) ?_ ?h1 ?h2 ?h3 ?hcell)
  case ho => k_is
  case hcd => k_is
  case hbind => exact rfl
  case hcell => decide
  case hloc => exact rfl
  case h1 => exact rfl
  case h2 => exact rfl
  case h3 => exact rfl
  k_dflt (intro L h₁ F' N')
  have kg2 : Keeps g (hideAll s.heap [x, dx]) := keeps_hide kg (by simpa using ⟨gx, gdx⟩)
  have X2 := X.keeps kg2
  have T2 := T.keeps kg2
  obtain ⟨F, N⟩ := rebase [(x, instObj 70 dx), (dx, dictOf [] 0)] F' N' (by simpa using ⟨hx, hdx⟩)
  have xL := ltN (Nat.lt_of_lt_of_le (Heap.lt_size hx) F'.above)
  simp only [List.nil_append, List.map_cons, List.map_nil] at F N
  have hne := ltN hne
  clear F' N'
  k_steps
  rename Fr _ _ _ _ => F2
  rename News _ _ _ _ => N2
  rename _ ∧ _ => l1
  have hA := N2 _ (List.mem_cons_self ..)
  have hX := N2 _ (List.mem_cons_of_mem _ (List.mem_cons_self ..))
  have hD := N2 _ (List.mem_cons_of_mem _ (List.mem_cons_of_mem _ (List.mem_cons_self ..)))
  refine hR _ _ _ _ _ _ _ _ _ ?_ ?_ hA.1 hD.1
  · intro b o e
    have e' := of_hideAll _ e
    have hb : b ≠ dx := fun q => by rw [q, hideAll_none [dx] (by simp)] at e; cases e
    by_cases q : b = x
    · subst q; rw [hx] at e'; cases e'; exact hX.1
    · exact F2.keep b o (hideAll_get _ e' (by simpa using ⟨q, hb⟩))
  · cases e : s.heap.get? _ with
    | none => rfl
    | some o =>
      have := hA.2.2
      rw [hideAll_get _ e (by simpa using ⟨Nat.ne_of_gt l1.1, Nat.ne_of_gt l1.2⟩)] at this
      cases this

theorem make_call {w : World} {dp un : Nat} {fr : Option (List Env)} {gd : Option (List Code)} {s : Shared} {p : Program} {loose : List Str} {mean : ExcName → Option Value} {mg mb : Str → Option Value} {h₀ : Heap} {L : Addr} {m : Str → Option Value} {news : List (Addr × Obj)} {v : Value} {Q E : Value → Shared → Prop}
   (F : Fr h₀ L s.heap m) (N : News h₀ L s.heap news) (X : (hd.heap_1 w.params).In h₀) (T : Top p loose mean mg mb h₀) (hroom : dp + 2 < recursionLimit)
   (hQ : ∀ (x dx pb : Addr) (t1 t2 t3 t4 u1 u3 : Tok) (h' : Heap) (tk' : Nat), Fr h₀ L h' m → News h₀ L h' ((x, instObj 70 dx) :: (dx, lexD w t1 t2 t3 t4 1 u1 v u3 pb) :: (pb, listOf #[] 0) :: news) → AllLt dx news → @LT.lt Nat _ dx x → OffN pb ((x, instObj 70 dx) :: (dx, dictOf [] 0) :: news) → Q (.ref x) { s with heap := h', toks := tk' }) :
   wpAny (model theProg w) (Ar dp un fr gd) (PySem.call (.ref 70) [v]) Q E s := by
  k_dflt (refine' call_cls F X N ?k4 ?k5 ?k6 ?_)
  case k4 => k_is
  case k5 => k_is
  case k6 => k_is
  intro x dx h' F' N' l1 l2
  have hx := N' _ (List.mem_cons_self ..)
  have hdx := N' _ (List.mem_cons_of_mem _ (List.mem_cons_self ..))
  k_dflt (refine init_code (g := h₀) (s := { s with heap := h' }) X T F'.keep hx.1 hdx.1 hx.2.2 hdx.2.2 l2 (show dp + 1 + 1 < recursionLimit from hroom) ?_)
  intro pb t1 t2 t3 t4 u1 u3 h2 tk2 kp hn hpb hd2
  have hxd : x ≠ dx := Nat.ne_of_gt l2
  have F2 : Fr h₀ L h2 m := ⟨F'.ns.at' fun o e => kp _ _ (hideAll_get [dx] e (by simpa using Ne.symm hdx.2.1)), fun b o e => kp _ _ (hideAll_get [dx] (F'.keep b o e) (by simp; intro q; rw [q, hdx.2.2] at e; cases e)), F'.above⟩
  have pbN : pb ≠ L ∧ h₀.get? pb = none := by
    refine ⟨fun ql => ?_, ?_⟩
    · refine small fun Gx hGx => ?_
      obtain ⟨oL, _, _, hL, _⟩ := F'.ns
      refine hGx ?_
      clear hGx Gx
      simp only at hn
      rw [ql, hL] at hn; cases hn
    · cases e : h₀.get? pb with
      | none => rfl
      | some o => have := F'.keep _ _ e; simp only at hn; rw [hn] at this; cases this
  refine ⟨rfl, hQ x dx pb t1 t2 t3 t4 u1 u3 h2 tk2 F2 ?_ (allLt_of l1) l2 (offN_of (off_new N' hn))⟩
  intro q hq
  simp only [List.mem_cons] at hq
  rcases hq with e | e | e | e
  · rw [e]; exact ⟨kp _ _ (hideAll_get [dx] hx.1 (by simpa using hxd)), hx.2⟩
  · rw [e]; exact ⟨hd2, hdx.2⟩
  · rw [e]; exact ⟨hpb, pbN⟩
  · have := N' q (List.mem_cons_of_mem _ (List.mem_cons_of_mem _ e))
    exact ⟨kp _ _ (hideAll_get [dx] this.1 (by simpa using Nat.ne_of_lt (l1 q e))), this.2⟩
end Mine
end

section
open PySem PySem.W PyProof.Rows PySem.Calls PyProof
set_option Elab.async false
set_option maxRecDepth 100000
set_option maxHeartbeats 4000000
set_option linter.unusedVariables false
set_option linter.unusedSimpArgs false
namespace Mine
/-- entering a def that a def has made -/
theorem enter_fn {prog : Program} {w : World} {A : Around} {s : Shared} {Q E : Value → Shared → Prop} {name qual : Str} {params : Arguments} {body : List Stmt} {scope : Scope} {cl : List (Str × Addr)} {doc pm ctv : Value} {c' : Addr} {f : Addr} {pos : List Value} {binds : List (Str × Value)}
    (ho : s.heap.get? f = some (fnMade name qual params body scope cl doc pm c' ctv)) (hcd : s.heap.CodeRec (.ref c') qual) (hlim : s.heap.NoLimit) (hroom : A.depth < recursionLimit)
    (hbind : BindsTo s (fnX name qual params body scope cl .none .none doc pm none (.ref c') ctv) ⟨pos, []⟩ binds) (hloc : ∀ y ∈ binds, scope.names.lookup y.1 = some .local)
    (h : ∀ L' h₁, Fr s.heap L' h₁ (fun y => binds.reverse.lookup y) → News s.heap L' h₁ [] →
      wpAny (model prog w) (A.deeper (envX qual scope L' f (.ref c') cl)) (execs body (envX qual scope L' f (.ref c') cl)) (fun fl s' => Q (match fl with | .ret v => v | _ => .none) s') NoE { s with heap := h₁, toks := s.toks + binds.length })
    (hco : scope.isCoroutine = false) (hgen : scope.isGenerator = false) (hk : scope.kind = .function)
    (hcell : ∀ x ∈ scope.names, x.2 ≠ .cell) : wpAny (model prog w) A (PySem.call (.ref f) pos) Q E s := by
  refine wpAny_call ?_
  refine codeAny_call_def (fd := fnX name qual params body scope cl .none .none doc pm none (.ref c') ctv) (body := body) (binds := binds) hroom ho rfl hlim hcd rfl hbind hcell hloc (fun h₁ hns hk₁ => ?_) hco hgen hk
  exact wpAny_mono (E := NoE) (h _ _ ⟨hns, hk₁, Nat.le_refl _⟩ News.nil) (fun _ _ x => x) (fun _ _ x => False.elim x)

/-- a list of signs: one text of one sign each -/
inductive CharsAre : List Value → List Nat → Prop
  | nil : CharsAre [] []
  | cons (c : Nat) (t : Tok) {vs : List Value} {l : List Nat} (h : CharsAre vs l) : CharsAre (.str (ofL [c]) t :: vs) (c :: l)
theorem CharsAre.length {vs : List Value} {l : List Nat} (h : CharsAre vs l) : vs.length = l.length := by
  induction h with
  | nil => rfl
  | cons c t h ih => simp [ih]
theorem charsAre_of {vs : List Value} {l : List Nat} (hl : vs.length = l.length) (h : ∀ (i : Nat) (v : Value), vs[i]? = some v → ∃ t, v = .str (ofL [l.getD i 0]) t) : CharsAre vs l := by
  induction vs generalizing l with
  | nil => cases l with
    | nil => exact .nil
    | cons => simp at hl
  | cons v vs ih => cases l with
    | nil => simp at hl
    | cons n ns =>
      obtain ⟨t, e⟩ := h 0 v rfl
      simp only [List.getD_cons_zero] at e
      subst e
      refine .cons n t (ih (by simpa using hl) fun i w hw => ?_)
      have := h (i + 1) w (by simpa using hw)
      simpa using this

theorem list_str_K {prog : Program} {w : World} {A : Around} {E : Value → Shared → Prop} {s : Shared} {h₀ : Heap} {L : Addr} {m : Str → Option Value} {Q : Value → Shared → Prop}
    {x : List Nat} {t : Tok} {news : List (Addr × Obj)} (hh : A.handled = none) (F : Fr h₀ L s.heap m) (N : News h₀ L s.heap news) (hlen : x.length ≤ 2 ^ 24)
    (hQ : ∀ l h' tk (vs : List Value) ep, Fr h₀ L h' m → News h₀ L h' ((l, listOf vs.toArray ep) :: news) → AllLt l news → CharsAre vs x → Q (.ref l) { s with heap := h', toks := tk }) :
    wpAny (model prog w) A (call (.type "list") [.str (ofL x) t]) Q E s := by
  refine call_list_str hh (ofL x) t (hn := by show x.toArray.size ≤ _; simpa [sizeLine] using hlen) fun h' tk acc' c' hk hS' hacc => ?_
  have hfree : h₀.get? s.heap.objs.size = none := by
    cases e : h₀.get? s.heap.objs.size with
    | none => rfl
    | some o => exact absurd (Heap.lt_size (F.keep _ _ e)) (Nat.lt_irrefl _)
  refine hQ _ h' tk acc'.toList c' (fr_on F hk) (fun p hp => ?_) (allLt_of (fun p hp => Heap.lt_size (N p hp).1)) (charsAre_of (by simp [hacc.1, ofL]) fun i v hv => ?_)
  · rcases List.mem_cons.mp hp with rfl | hp
    · exact ⟨by simpa using hS', Nat.ne_of_gt F.ns.lt, hfree⟩
    · exact ⟨hk _ _ (N p hp).1, (N p hp).2⟩
  · obtain ⟨c, u, hc, rfl⟩ := hacc.2 i v (by simpa using hv)
    have hc' : x[i]? = some c := by simpa [ofL] using hc
    exact ⟨u, by simp [ofL, List.getD, hc']⟩

/-- what the stream's read does: it hands out the first sign -/
structure HandSem (w : World) (g : Heap) (f : Addr) (own : List (Addr × Obj)) (sg : Addr) : Prop where
  fn : ∃ o fd, (f, o) ∈ own ∧ o.data = .func fd
  call : ∀ (dp un : Nat) (fr : Option (List Env)) (gd : Option (List Code)) (t : Tok) (s : Shared) (vs : List Value) (ep : Nat) (l : List Nat) (Q E : Value → Shared → Prop), dp + 2 < recursionLimit → l.length ≤ 100 → CharsAre vs l → Keeps g s.heap → g.get? sg = none → (∀ p ∈ own, s.heap.get? p.1 = some p.2) → s.heap.get? sg = some (listOf vs.toArray ep) →
    (∀ (t : Tok) (ep' : Nat) (h' : Heap) (tk' : Nat), Keeps (hideAll s.heap [sg]) h' → h'.get? sg = some (listOf (vs.drop 1).toArray ep') → Q (.str (ofL (l.take 1)) t) { s with heap := h', toks := tk' }) →
    wpAny (model theProg w) (Ar dp un fr gd) (PySem.call (.ref f) [.int 1 t]) Q E s

/-- the dict of the stream: a lexer's own, and read -/
noncomputable abbrev strD (w : World) (t1 t2 t3 t4 t5 : Tok) (u1 : Tok) (u3 : Tok) (pb hf : Addr) : Obj :=
  dictOf [ent w "lineno" t1 (.int 1 u1), ent w "instream" t2 .none, ent w "whitespace" t3 (.str (Str.ofString "\n\t\r ") u3), ent w "pushback" t4 (.ref pb), ent w "read" t5 (.ref hf)] 5
/-- the addresses of a lexer and of what it reads from -/
structure LexA where
  (lx dlx pb st dst hf cc cl sg pbs : Addr) (t1 t2 t3 t4 u3 d1 d2 d3 d4 d5 e1 e3 : Tok) (oh oc ocl : Obj)
noncomputable abbrev LexA.addrs (a : LexA) : List Addr := [a.lx, a.dlx, a.pb, a.st, a.dst, a.hf, a.cc, a.cl, a.sg]
noncomputable abbrev LexA.objs (w : World) (a : LexA) (n : Int) (u : Tok) (pbv : List Value) (pbe : Nat) (vs : List Value) (ep : Nat) : List (Addr × Obj) :=
  [(a.lx, instObj 70 a.dlx), (a.dlx, lexD w a.t1 a.t2 a.t3 a.t4 n u (.ref a.st) a.u3 a.pb), (a.pb, listOf pbv.toArray pbe), (a.st, instObj 70 a.dst), (a.dst, strD w a.d1 a.d2 a.d3 a.d4 a.d5 a.e1 a.e3 a.pbs a.hf), (a.hf, a.oh), (a.cc, a.oc), (a.cl, a.ocl), (a.sg, listOf vs.toArray ep)]
structure LexOk (w : World) (g : Heap) (a : LexA) : Prop where
  hand : HandSem w g a.hf [(a.hf, a.oh), (a.cc, a.oc), (a.cl, a.ocl)] a.sg
  free : ∀ x ∈ a.addrs, g.get? x = none
  apart : a.addrs.Nodup
end Mine
end

section
open PySem PySem.W PyProof.Rows PySem.Calls PyProof
set_option Elab.async false
set_option maxRecDepth 100000
set_option maxHeartbeats 4000000
set_option linter.unusedVariables false
set_option linter.unusedSimpArgs false
namespace Mine
noncomputable def selB (start stop step : Int) (i : Nat) : Bool :=
  if step > 0 then start ≤ i && i < stop && (i - start) % step == 0
  else stop < i && i ≤ start && (start - i) % (-step) == 0
theorem sel_rest (b : Int) (hb : b ≤ 1) : ∀ (l : List Value) (k : Nat), 1 ≤ k → (l.zipIdx k).filterMap (fun (x : Value × Nat) => if selB 0 b 1 x.2 then none else some x.1) = l
  | [], _, _ => rfl
  | v :: l, k, hk => by
    rw [List.zipIdx_cons, List.filterMap_cons]
    have : selB 0 b 1 k = false := by
      simp [selB]; omega
    simp only [this, Bool.false_eq_true, if_false]
    rw [sel_rest b hb l (k + 1) (by omega)]
theorem sel_first (l : List Value) : (l.zipIdx.filterMap (fun (x : Value × Nat) => if selB 0 (max 0 (min 1 (l.length : Int))) 1 x.2 then none else some x.1)) = l.drop 1 := by
  cases l with
  | nil => rfl
  | cons v l =>
    rw [List.zipIdx_cons, List.filterMap_cons]
    have e : (max 0 (min 1 (((v :: l).length : Nat) : Int))) = 1 := by simp; omega
    rw [e]
    have : selB 0 1 1 0 = true := by decide
    simp only [this, if_true]
    exact sel_rest 1 (by decide) l 1 (Nat.le_refl _)
theorem del_first {prog : Program} {w : World} {A : Around} {E : Value → Shared → Prop} {s : Shared} {l sl : Addr} {vs : List Value} {ep : Nat} {t : Tok} {Q : Unit → Shared → Prop}
    (hl : s.heap.get? l = some (listOf vs.toArray ep)) (hs : s.heap.IsSliceOf sl .none (.int 1 t) .none) (hz : vs.length ≤ sizeLine)
    (h : ∀ h' ep', h'.get? l = some (listOf (vs.drop 1).toArray ep') → Heap.SameBut l s.heap h' → Q () { s with heap := h' }) : wpAny (model prog w) A (delItem (.ref l) (.ref sl)) Q E s := by
  obtain ⟨os, hos, hcs, hds⟩ := id hs
  have hTs : s.TypeIs (.ref sl) "slice" := ⟨os, hos, hcs⟩
  have hTl : s.TypeIs (.ref l) "list" := ⟨_, hl, rfl⟩
  refine wpAny_delItem_slot hTl (by decide) F.slot_list_delitem (wpAny_call_entry F.slot_list_delitem hTl F.entry_list_delitem ?_ (F.args_list_delitem_2 _ _))
  show wpAny _ _ (Builtin.List.listSubscript? (.ref sl) >>= _) _ _ s
  refine wpAny_bind ?_
  unfold Builtin.List.listSubscript?
  refine wpAny_bind (wpAny_specialOf hTs slice_no_index ?_)
  simp only [Option.isNone_none, if_true]
  refine wpAny_pure ?_
  show wpAny _ _ (typeOf (.ref sl) >>= _) _ _ s
  refine wpAny_bind (wpAny_typeOf hTs ?_)
  rw [if_neg (by decide)]
  rw [listSliceParts_eq]
  refine wpAny_bind (wpAny_bind (wpAny_field hos hds (x := .none) rfl (wpAny_bind (wpAny_listPart .none ?_))))
  rw [if_neg (show ¬ ((rawPart none == rawInt 0) = true) from Bool.false_ne_true)]
  refine wpAny_bind (wpAny_field hos hds (x := .none) rfl (wpAny_bind (wpAny_listPart .none ?_)))
  refine wpAny_bind (wpAny_field hos hds (x := .int 1 t) rfl (wpAny_bind (wpAny_listPart (.int 1 t) (wpAny_pure ?_))))
  refine wpAny_bind (m := Builtin.List.listItems (.ref l)) ?_
  unfold Builtin.List.listItems
  refine wpAny_bind (wpAny_seqItems hl rfl (wpAny_pure ?_))
  refine wpAny_bind (wpAny_of_eq (sliceIndices_raw none (some 1) none _ (by simp)) ?_)
  dsimp only
  refine wpAny_bind (wpAny_rule ?_)
  have e : ∀ n : Nat, sliceBounds none (some 1) none n = (0, max 0 (min 1 (n : Int)), 1) := fun n => rfl
  rw [e]
  show wpAny _ _ (updateSeq l _ >>= _) _ _ _
  have hlen : (listOf vs.toArray ep).data = .seq vs.toArray ep := rfl
  have key := sel_first vs
  refine wpAny_bind (wpAny_updateSeq hl rfl ?_ (hz := by simpa using hz) (_hz' := ?_))
  · refine wpAny_bind (wpAny_letGo ?_)
    refine wpAny_pure ⟨_, rfl, h _ (if (vs.drop 1).toArray.size == vs.toArray.size then ep else ep + 1) ?_ (Heap.SameBut.update ..)⟩
    refine (IsL.update hl _).trans ?_
    exact congrArg (fun x : Array Value => some (listOf x (if x.size == vs.toArray.size then ep else ep + 1))) (congrArg List.toArray key)
  · refine Nat.le_trans (Nat.le_of_eq (congrArg Array.size (show _ = (vs.drop 1).toArray from congrArg List.toArray key))) ?_
    simp only [List.size_toArray, List.length_drop]
    omega

theorem CharsAre.strs {vs : List Value} {l : List Nat} (h : CharsAre vs l) : StrsAre vs (l.map fun c => ofL [c]) := by
  induction h with
  | nil => exact .nil
  | cons c t h ih => exact .cons _ t ih
theorem CharsAre.take {vs : List Value} {l : List Nat} (h : CharsAre vs l) (n : Nat) : CharsAre (vs.take n) (l.take n) := by
  induction h generalizing n with
  | nil => simp; exact .nil
  | cons c t h ih => cases n with
    | zero => exact .nil
    | succ n => exact .cons c t (ih n)
theorem CharsAre.drop {vs : List Value} {l : List Nat} (h : CharsAre vs l) (n : Nat) : CharsAre (vs.drop n) (l.drop n) := by
  induction h generalizing n with
  | nil => simp; exact .nil
  | cons c t h ih => cases n with
    | zero => exact .cons c t h
    | succ n => exact ih n
theorem joinS_ofL : ∀ ls : List (List Nat), Str.join (Str.ofString "") (ls.map ofL) = ofL ls.flatten
  | [] => rfl
  | [x] => by simp [Str.join]
  | x :: y :: r => by
    have ih := joinS_ofL (y :: r)
    have e : Str.join (Str.ofString "") ((x :: y :: r).map ofL) = ofL x ++ Str.ofString "" ++ Str.join (Str.ofString "") ((y :: r).map ofL) := rfl
    rw [e, ih, show Str.ofString "" = ofL [] from rfl, ofL_append, ofL_append]
    simp
theorem join_ofL (ls : List (List Nat)) : Txt.join (Str.ofString "") (ls.map ofL) = ofL ls.flatten := by
  rw [show Txt.join (Str.ofString "") (ls.map ofL) = Str.join (Str.ofString "") (ls.map ofL) from StrLaws.glued_eq_join _ _, joinS_ofL]
theorem join_signs (l : List Nat) : Txt.join (Str.ofString "") (l.map fun c => ofL [c]) = ofL l := by
  have := join_ofL (l.map fun c => [c])
  rw [List.map_map] at this
  rw [show (l.map fun c => ofL [c]) = l.map (ofL ∘ fun c => [c]) from rfl, this]
  clear this
  congr 1
  induction l with
  | nil => rfl
  | cons c l ih => simp [ih]
theorem sum_ones (l : List Nat) : ((l.map fun c => ofL [c]).map (·.length)).sum = l.length := by
  induction l with
  | nil => rfl
  | cons c l ih => simp only [List.map_cons, List.sum_cons, ih, ofL_length, List.length_cons, List.length_nil]; omega
theorem join_first {prog : Program} {w : World} {A : Around} {E : Value → Shared → Prop} {s : Shared} {h₀ : Heap} {L D : Addr} {news : List (Addr × Obj)} {vs : List Value} {l : List Nat} {t0 : Tok} {Q : Value → Shared → Prop}
    (N : News h₀ L s.heap news) (hm : (D, listOf (slicePick vs.toArray none (some 1) none) 0) ∈ news) (hc : CharsAre vs l) (h : ∀ t k, Q (.str (ofL (l.take 1)) t) { s with toks := k }) :
    wpAny (model prog w) A (PySem.call (.builtin "str.join") [.str (Str.ofString "") t0, .ref D]) Q E s := by
  have e : slicePick vs.toArray none (some 1) none = (vs.take 1).toArray := slicePick_upto' vs.toArray 1
  rw [e] at hm
  refine join_listW (items := (vs.take 1).toArray) (ys := (l.take 1).map fun c => ofL [c]) ⟨_, (N _ hm).1, rfl, _, rfl⟩ (by simpa using (hc.take 1).strs) (by decide) ?_ ?_
  · rw [sum_ones, List.length_map]
    have : (l.take 1).length ≤ 1 := by simp [List.length_take]; omega
    omega
  · rw [join_signs]; exact h
theorem del_K {prog : Program} {w : World} {A : Around} {E : Value → Shared → Prop} {s : Shared} {h₀ : Heap} {L l : Addr} {m : Str → Option Value} {news : List (Addr × Obj)} {vs : List Value} {ep : Nat} {t : Tok} {Q : Unit → Shared → Prop} (rest : List (Addr × Obj))
    (F : Fr h₀ L s.heap m) (N : News h₀ L s.heap news) (hm : (l, listOf vs.toArray ep) ∈ news) (hr : ∀ q ∈ rest, q ∈ news) (hne : ∀ q ∈ rest, q.1 ≠ l) (hz : vs.length ≤ 2 ^ 24)
    (h : ∀ h' ep', Fr h₀ L h' m → News h₀ L h' ((l, listOf (vs.drop 1).toArray ep') :: rest) → Q () { s with heap := h' }) :
    wpAny (model prog w) A (delItem (.ref l) (.ref s.heap.objs.size)) Q E { s with heap := s.heap.push { cls := .type "slice", data := .fields #[.none, .int 1 t, .none] } } := by
  have hl := N _ hm
  refine del_first (Heap.get?_push_of_some _ hl.1) (Heap.IsSliceOf.new ..) (by simpa [sizeLine] using hz) fun h' ep' e sb => ?_
  have kp : ∀ b o, b ≠ l → s.heap.get? b = some o → h'.get? b = some o := fun b o hb e => (sb.2 b hb).trans (Heap.get?_push_of_some _ e)
  refine h h' ep' ⟨F.ns.at' fun o e => kp _ _ (Ne.symm hl.2.1) e, fun b o e => kp b o (fun q => by rw [q, hl.2.2] at e; cases e) (F.keep b o e), F.above⟩ ?_
  intro q hq
  rcases List.mem_cons.mp hq with rfl | hq
  · exact ⟨e, hl.2⟩
  · have := N q (hr q hq)
    exact ⟨kp _ _ (hne q hq) this.1, this.2⟩
end Mine
end

section
open PySem PySem.W PyProof.Rows PySem.Calls PyProof
set_option Elab.async false
set_option maxRecDepth 100000
set_option maxHeartbeats 8000000
set_option linter.unusedSimpArgs false
set_option linter.unusedVariables false
namespace Mine
example : True := by
  w_top off
  exact True.intro
example : (PySem.Challenge.rw_pe0171_01 = PySem.Challenge.rw_pe0171_01) ∧ hd.heap_1 = hd.heap_1 := by
  k_fill
  exact ⟨rfl, rfl⟩

set_option pp.deepTerms false
set_option pp.maxSteps 1000

local macro_rules | `(tactic| walk_at "call type:list") => `(tactic| ((with_reducible show wpAny _ _ (PySem.call (Value.type "list") [Value.str _ _]) _ _ _); k_dflt (refine list_str_K rfl (by k_asm) (by k_asm) (by omega) ?_); intro l' h' tk' vs' ep' F' N' l1' hc'; (try simp only [AllLt, and_true] at l1'); (try dsimp only)))
local macro_rules | `(tactic| walk_at "call ref") => `(tactic| ((with_reducible show wpAny _ _ (PySem.call (Value.ref 70) _) _ _ _); k_dflt (refine make_call (by k_asm) (by k_asm) (by k_asm) (by k_asm) (by simp only [depth_deeper]; omega) ?_); intro x' dx' pb' t1' t2' t3' t4' u1' u3' h' tk' F' N' l1' l2' off'; (try simp only [AllLt, and_true] at l1'); (try simp only [OffN, and_true] at off'); (repeat (obtain ⟨_, off'⟩ := off')); (try dsimp only)))
local macro_rules | `(tactic| walk_at "call builtin:str.join") => `(tactic| ((with_reducible show wpAny _ _ (PySem.call (Value.builtin "str.join") [Value.str _ _, Value.ref _]) _ _ _); k_dflt (refine join_first (by k_asm) (by k_mem) (by assumption) ?_); intro t' k'; (try dsimp only)))
theorem lexer_spec {w : World} {dp un : Nat} {fr : Option (List Env)} {gd : Option (List Code)} {s : Shared} {g : Heap} {p : Program} {loose : List Str} {mean : ExcName → Option Value} {mg mb : Str → Option Value} {tx : List Nat} {t1 : Tok} {Q E : Value → Shared → Prop}
   (X : (hd.heap_1 w.params).In g) (T : Top p loose mean mg mb g) (C : CodeHd g 94 90) (hg : g.get? 90 = none) (kg : Keeps g s.heap) (e0 : s.heap.get? 90 = some (tabObj #[])) (hroom : dp + 5 < recursionLimit)
   (hlen : tx.length ≤ 100)
   (hQ : ∀ (a : LexA) (tp : Addr) (vs : List Value) (ep : Nat) (u : Tok) (h' : Heap) (tk' : Nat), Keeps (hideAll s.heap [90]) h' → (∀ x ∈ tp :: a.addrs, s.heap.get? x = none) → h'.get? tp = some { cls := .type "tuple", data := .seq #[.ref a.lx, .ref a.sg] } → (∃ ps, h'.get? 90 = some (tabObj ps)) → (∀ q ∈ a.objs w 1 u [] 0 vs ep, h'.get? q.1 = some q.2) → CharsAre vs tx → LexOk w g a → (tp :: a.addrs).Nodup → Q (.ref tp) { s with heap := h', toks := tk' }) :
   wpAny (model theProg w) (Ar dp un fr gd) (PySem.call (.ref 95) [.str (ofL tx) t1]) Q E s := by
  k_dflt (refine' enter_rawC (X.keeps kg) (T.keeps kg).nolimit ?ho ?hcd (show dp < recursionLimit by omega) (BindsTo.of_eq (binds := [(Str.ofString "text", .str (ofL tx) t1)]) ?hbind) ?hkind ?hnd ?_ ?h1 ?h2 ?h3)
  case ho => k_is
  case hcd => k_is
  case hbind => exact rfl
  case hkind => exact rfl
  case hnd => decide +kernel
  case h1 => exact rfl
  case h2 => exact rfl
  case h3 => exact rfl
  k_dflt (intro L h₁ tk cells' F' N' Y')
  refine small fun Gx hGx => ?_
  obtain ⟨o1, hE, d1⟩ := CellsAre.one Y'
  refine hGx ?_
  clear hGx Gx
  subst hE
  clear Y'
  have kg2 : Keeps g (hideAll s.heap [90]) := keeps_hide kg (by simpa using hg)
  have X2 := X.keeps kg2
  have T2 := T.keeps kg2
  have C2 := C.keeps kg2
  have key : ∀ ps, s.heap.get? 90 = some (tabObj ps) → Fr (hideAll s.heap [90]) L h₁ _ ∧ News (hideAll s.heap [90]) L h₁ _ := fun ps e => rebase [(90, tabObj ps)] F' N' (by simpa using e)
  have hL : ∀ o, s.heap.get? 90 = some o → 90 < L := fun o e => Nat.lt_of_lt_of_le (Heap.lt_size e) F'.above
  obtain ⟨F, N⟩ := key _ e0
  simp only [List.cons_append, List.nil_append] at N
  clear F' N' key
  have hL' := ltN (hL _ e0)
  have lX := ofL_length tx
  k_steps
  rename_i sg h6 tk2 vs ep hc l1a h5 ocl dcl tk0 hf cc oc cvs ct0 ctv dcv h4 tk1 d1' d2' l1b l2b h3 st dst pbs s1 s2 s3 s4 su1 su3 h2 tk' l2c l1c n1 n2 n3 n4 n5 n6 n7 h1 h0' lx dlx pb t1 t2 t3 t4 u1 u3 h00 tk00 l2d l1d m1 m2 m3 m4 m5 m6 m7 m8 m9 m10 tp h' F2 N2 dD
  have gn : ∀ b, (hideAll s.heap [90]).get? b = none → g.get? b = none := fun b e => by
    cases q : g.get? b with
    | none => rfl
    | some o => have := kg2 b o q; rw [e] at this; cases this
  have sn : ∀ b, (hideAll s.heap [90]).get? b = none → b ≠ 90 → s.heap.get? b = none := fun b e hb => by
    cases q : s.heap.get? b with
    | none => rfl
    | some o => have := hideAll_get [90] q (by simpa using hb); rw [e] at this; cases this
  have hF := N2.get (a := hf) (by k_mem)
  have nd : [tp, lx, dlx, pb, st, dst, hf, cc, L + 1, sg, 90].Nodup := by
    simp only [List.nodup_cons, List.mem_cons, List.not_mem_nil, not_or, or_false, not_false_eq_true, List.nodup_nil, and_true]
    repeat' apply And.intro
    all_goals first
      | exact NeF.out (by assumption)
      | exact Ne.symm (NeF.out (by assumption))
      | (clear n1 n2 n3 n4 n5 n6 n7 m1 m2 m3 m4 m5 m6 m7 m8 m9 m10; exact neN (by omega))
  have main : ∀ oh, h'.get? hf = some oh → HandSem w g hf [(hf, oh), (cc, oc), (L + 1, ocl)] sg → Q (.ref tp) { s with heap := h', toks := tk00 } := by
    intro oh ho HS
    have nd2 : [tp, lx, dlx, pb, st, dst, hf, cc, L + 1, sg].Nodup := by
      have : [tp, lx, dlx, pb, st, dst, hf, cc, L + 1, sg].Sublist [tp, lx, dlx, pb, st, dst, hf, cc, L + 1, sg, 90] := by
        simp
      exact List.Nodup.sublist this nd
    have n90 : ∀ x ∈ [tp, lx, dlx, pb, st, dst, hf, cc, L + 1, sg], x ≠ 90 := by
      intro x hx q
      subst q
      have := List.nodup_append.mp (show ([tp, lx, dlx, pb, st, dst, hf, cc, L + 1, sg] ++ [90]).Nodup from nd)
      exact absurd rfl (this.2.2 90 hx 90 (by simp))
    have free : ∀ x ∈ [tp, lx, dlx, pb, st, dst, hf, cc, L + 1, sg], (hideAll s.heap [90]).get? x = none := by
      intro x hx
      simp only [List.mem_cons, List.not_mem_nil, or_false] at hx
      rcases hx with h | h | h | h | h | h | h | h | h | h
      all_goals (rw [h]; first | exact (N2.free (by k_mem)) | exact (N2 (_, _) (by k_mem)).2.2)
    refine hQ ⟨lx, dlx, pb, st, dst, hf, cc, L + 1, sg, pbs, t1, t2, t3, t4, u3, s1, s2, s3, s4, tk + 1, su1, su3, oh, oc, ocl⟩ tp vs ep u1 h' tk00 F2.keep (fun x hx => sn x (free x hx) (n90 x hx)) (N2.get (by k_mem)) ⟨_, N2.get (a := 90) (by k_mem)⟩ ?_ hc ⟨HS, fun x hx => gn x (free x (List.mem_cons_of_mem _ hx)), (List.nodup_cons.mp nd2).2⟩ nd2
    intro q hq
    simp only [LexA.objs, List.mem_cons, List.not_mem_nil, or_false] at hq
    rcases hq with h | h | h | h | h | h | h | h | h
    all_goals (rw [h]; first | exact ho | exact (N2.get (by k_mem)))
  refine main _ hF ⟨⟨_, _, List.mem_cons_self .., rfl⟩, ?_⟩
  intro dp un fr gd t s₂ vs2 ep2 l Q E hr hl2 hc2 kg3 hgs kp hsg hQ'
  k_dflt (refine' enter_fn (kp _ (List.mem_cons_self ..)) ?hcd (T.keeps kg3).nolimit (show dp < recursionLimit by omega) (BindsTo.of_eq (binds := [(Str.ofString "size", .int 1 t)]) ?hb) (locs ?hloc) ?_ ?h1 ?h2 ?h3 ?hcell)
  case hcd => exact ⟨cc, oc, cvs, ct0, rfl, kp (cc, oc) (by simp), d1', d2'⟩
  case hb => exact rfl
  case hloc => exact rfl
  case h1 => exact rfl
  case h2 => exact rfl
  case h3 => exact rfl
  case hcell => decide
  k_dflt (intro L3 h3 F3 N3)
  have own : ∀ p ∈ [(L + 1, ocl), (sg, listOf vs2.toArray ep2)], s₂.heap.get? p.1 = some p.2 ∧ g.get? p.1 = none := by
    intro p hp
    simp only [List.mem_cons, List.not_mem_nil, or_false] at hp
    rcases hp with h | h
    · rw [h]; exact ⟨kp _ (by simp), gn _ (N2 (L + 1, ocl) (by k_mem)).2.2⟩
    · rw [h]; exact ⟨hsg, hgs⟩
  obtain ⟨F4, N4⟩ := rebase _ F3 N3 fun p hp => (own p hp).1
  have kg4 := keeps_hide (as := [(L + 1, ocl), (sg, listOf vs2.toArray ep2)].map (·.1)) kg3 (by intro a ha; obtain ⟨p, hp, rfl⟩ := List.mem_map.mp ha; exact (own p hp).2)
  have X4 := X.keeps kg4
  have T4 := T.keeps kg4
  have lsg : @LT.lt Nat _ (L + 1) sg := l1a.1
  have hne9 : NeF (L + 1) sg := ⟨Nat.ne_of_lt lsg⟩
  clear F3 N3 F2 X2 T2 N2 nd main hF dD l1d n1 n2 n3 n4 n5 n6 n7 m1 m2 m3 m4 m5 m6 m7 m8 m9 m10 l2d l1c l2c l1b l2b l1a d1
  simp only [List.cons_append, List.nil_append] at N4
  have hlc := hc2.length
  k_steps
  rename Fr _ _ _ _ => F5
  rename News _ _ _ _ => N5
  k_dflt (refine del_K [(L + 1, ocl)] F5 N5 (by k_mem) (by tb_rel) (by intro q hq; rw [List.mem_singleton.mp hq]; exact hne9.out) (by omega) ?_)
  clear F5 N5
  intro h' ep' F5 N5
  k_steps
  refine hQ' _ ep' h' _ ?_ (N5 _ (List.mem_cons_self ..)).1
  intro b o e
  have e' := of_hideAll _ e
  have hb : b ≠ sg := fun q => by rw [q, hideAll_none [sg] (by simp)] at e; cases e
  by_cases q : b = L + 1
  · subst q
    have := (own _ (List.mem_cons_self ..)).1
    rw [e'] at this
    cases this
    exact (N5 _ (List.mem_cons_of_mem _ (List.mem_cons_self ..))).1
  · exact F5.keep b o (hideAll_get _ e' (by simpa using ⟨q, hb⟩))
end Mine
end

section
open PySem PySem.W PyProof.Rows PySem.Calls PyProof
set_option Elab.async false
set_option maxRecDepth 100000
set_option maxHeartbeats 4000000
set_option linter.unusedVariables false
set_option linter.unusedSimpArgs false
namespace Mine
/-- the iterator that iter(f, sentinel) makes -/
noncomputable abbrev callIt (f sent : Value) (ended : Bool) : Obj := { cls := .type "callable_iterator", data := .fields #[f, sent, .bool ended] }
theorem owner_ci : Manifest.owners.lookup (String.ofList ['r', 'o', 't', 'a', 'r', 'e', 't', 'i', '_', 'e', 'l', 'b', 'a', 'l', 'l', 'a', 'c'].reverse) = some Manifest.sig_callable_iterator := by kernel_rfl
theorem slot_ci_next : Slot "callable_iterator" "__next__" "callable_iterator.__next__" :=
  .of (owner := "callable_iterator") (n := "__next__") (by rw [typeLookup_type, builtinLookup_eq_fast]; kernel_rfl) (by decide +kernel) (by decide +kernel) (by decide +kernel)
    (by first | exact .inl (by decide +kernel) | exact .inr (by decide +kernel)) (by rw [isSubtype_type]; kernel_rfl)
theorem entry_ci_next : entryFor table "callable_iterator.__next__" = some Builtin.«callable_iterator.__next__» := entryFor_of_tree (by kernel_rfl)
theorem args_ci_next_1 (a : Value) : argsOk "callable_iterator.__next__" ⟨[a], []⟩ := by
  unfold argsOk; rw [signature?_of (id := "callable_iterator.__next__") (n := ['_', '_', 't', 'x', 'e', 'n', '_', '_']) (o := ['r', 'o', 't', 'a', 'r', 'e', 't', 'i', '_', 'e', 'l', 'b', 'a', 'l', 'l', 'a', 'c']) (by kernel_rfl) owner_ci]; kernel_rfl
theorem slot_ci_iter : Slot "callable_iterator" "__iter__" "callable_iterator.__iter__" :=
  .of (owner := "callable_iterator") (n := "__iter__") (by rw [typeLookup_type, builtinLookup_eq_fast]; kernel_rfl) (by decide +kernel) (by decide +kernel) (by decide +kernel)
    (by first | exact .inl (by decide +kernel) | exact .inr (by decide +kernel)) (by rw [isSubtype_type]; kernel_rfl)
theorem args_ci_iter_1 (a : Value) : argsOk "callable_iterator.__iter__" ⟨[a], []⟩ := by
  unfold argsOk; rw [signature?_of (id := "callable_iterator.__iter__") (n := ['_', '_', 'r', 'e', 't', 'i', '_', '_']) (o := ['r', 'o', 't', 'a', 'r', 'e', 't', 'i', '_', 'e', 'l', 'b', 'a', 'l', 'l', 'a', 'c']) (by kernel_rfl) owner_ci]; kernel_rfl
theorem entry_ci_iter : entryFor table "callable_iterator.__iter__" = some Builtin.«dict_keyiterator.__iter__» :=
  entryFor_alias (id' := "dict_keyiterator.__iter__") (by kernel_rfl) (by first | rfl | decide +kernel | (unfold String.splitOn; simp +decide [String.splitOnAux])) (by decide +kernel) (by kernel_rfl)
theorem lookup_method_call : ∃ r, typeLookup (.type "method") "__call__" = pure (some r) := ⟨.builtin "method.__call__", by rw [typeLookup_type, builtinLookup_eq_fast]; kernel_rfl⟩
theorem args_iter2 (a b : Value) : argsOk "iter" ⟨[a, b], []⟩ := by unfold argsOk; kernel_rfl

section
variable {prog : Program} {w : World} {A : Around} {E : Value → Shared → Prop} {s : Shared}
theorem callIt_type {it : Addr} {f sent : Value} {b : Bool} (h : s.heap.get? it = some (callIt f sent b)) : s.TypeIs (.ref it) "callable_iterator" := ⟨_, h, rfl⟩

theorem call_iter2 {b : Addr} {f self sent : Value} {Q : Value → Shared → Prop} (hb : s.heap.get? b = some (methodObj f self))
    (h : Q (.ref s.heap.objs.size) { s with heap := s.heap.push (callIt (.ref b) sent false) }) : wpAny (model prog w) A (PySem.call (.builtin "iter") [.ref b, sent]) Q E s := by
  refine call_function_entry (by decide +kernel) (by decide +kernel) kdk_entry_iter (args_iter2 _ _) ?_
  unfold Builtin.«iter»
  refine wpAny_bind (m := someArgs "iter" 1 2 _) (wpAny_of_eq (a := [Value.ref b, sent]) (by first | rfl | kernel_rfl!) ?_)
  dsimp only
  obtain ⟨r, hr⟩ := lookup_method_call
  refine wpAny_bind (wpAny_specialOf (T := "method") (r := some r) ⟨_, hb, rfl⟩ hr ?_)
  dsimp only [Option.isNone_some]
  rw [if_neg (by decide)]
  refine wpAny_bind (wpAny_rule ?_)
  exact wpAny_bind (wpAny_newObj_type (wpAny_pure ⟨_, rfl, h⟩))

theorem pyIter_ci {it : Addr} {f sent : Value} {b : Bool} {Q : Value → Shared → Prop} (hit : s.heap.get? it = some (callIt f sent b)) (h : Q (.ref it) s) : wpAny (model prog w) A (pyIter (.ref it)) Q E s := by
  refine wpAny_pyIter_slot (callIt_type hit) slot_ci_iter (wpAny_call_entry slot_ci_iter (callIt_type hit) entry_ci_iter ?_ (args_ci_iter_1 _))
  show wpAny _ _ (ret (.ref it)) _ _ s
  exact wpAny_pure ⟨_, rfl, "callable_iterator", _, callIt_type hit, slot_ci_next.lookup, h⟩

theorem wpAny_callBorrowed {f : Value} {pos : List Value} {Q : Value → Shared → Prop}
    (hc : wpAny (model prog w) A (PySem.call f pos) Q E s) : wpAny (model prog w) A (callBorrowed f pos) Q E s := fun Γ p hΓ => by
  have := hc Γ p hΓ
  rw [Sem.wp_cmd_call] at this
  unfold callBorrowed
  rw [Sem.wp_call]
  refine wpCode_mono (fun r s' h' => ?_) this
  cases r with
  | error e => exact h'
  | ok f => cases f <;> exact h'

theorem borrows_method {b g : Addr} {self : Value} {og : Obj} {fd : FuncData} {Q : Bool → Shared → Prop} (hb : s.heap.get? b = some (methodObj (.ref g) self)) (hg : s.heap.get? g = some og) (hd : og.data = .func fd) (h : Q true s) :
    wpAny (model prog w) A (borrowsExactly (.ref b)) Q E s := by
  unfold borrowsExactly
  refine wpAny_bind (wpAny_load hb ?_)
  dsimp only
  rw [if_pos (by rfl)]
  show wpAny _ _ (load g >>= _) _ _ _
  refine wpAny_bind (wpAny_load hg ?_)
  rw [hd]
  exact wpAny_pure h

theorem pyNext_ci {it b g : Addr} {self : Value} {og : Obj} {fd : FuncData} {sent : Str} {ts : Tok} {Q : Option Value → Shared → Prop} (hh : A.handled = none)
    (hit : s.heap.get? it = some (callIt (.ref b) (.str sent ts) false)) (hb : s.heap.get? b = some (methodObj (.ref g) self)) (hg : s.heap.get? g = some og) (hd : og.data = .func fd)
    (hc : codeAny (model prog w) A.in1 (.call (.ref g) ⟨[self], []⟩) (fun r s' => ∃ c t, r = .ok (.ret (.str c t)) ∧ s'.heap.get? it = some (callIt (.ref b) (.str sent ts) false) ∧ s'.heap.get? b = some (methodObj (.ref g) self) ∧ s'.heap.get? g = some og ∧
      (c ≠ sent → Q (some (.str c t)) s') ∧ (c = sent → ∀ h', Heap.ExtBut it s'.heap h' → Q none { s' with heap := h' })) s) :
    wpAny (model prog w) A (pyNext (.ref it)) Q E s := by
  unfold pyNext
  refine wpAny_bind (wpAny_attempt (wpAny_callSpecial?_slot (name := Str.ofString "__next__") (callIt_type hit) slot_ci_next
    (wpAny_call_entry slot_ci_next (callIt_type hit) entry_ci_next ?_ (args_ci_next_1 _))))
  unfold Builtin.«callable_iterator.__next__»
  refine wpAny_bind (wpAny_of_eq (a := (Value.ref it, [])) rfl ?_)
  dsimp only
  refine wpAny_bind (wpAny_field hit rfl (x := .bool false) rfl ?_)
  rw [if_neg (show ¬ ((Value.bool false == Value.bool true) = true) by decide)]
  refine wpAny_bind (wpAny_field hit rfl (x := .ref b) rfl ?_)
  refine wpAny_bind (wpAny_attempt ?_)
  unfold callOutOfASlot
  refine wpAny_bind (borrows_method hb hg hd ?_)
  rw [if_pos rfl]
  refine wpAny_callBorrowed (wpAny_call (method_call hb ?_))
  refine codeAny_mono hc ?_
  rintro r s' ⟨c, t, rfl, hit', hb', hg', q1, q2⟩
  dsimp only
  refine wpAny_bind (wpAny_field hit' rfl (x := .bool false) rfl ?_)
  rw [if_neg (show ¬ ((Value.bool false == Value.bool true) = true) by decide)]
  refine wpAny_bind (wpAny_field hit' rfl (x := .str sent ts) rfl ?_)
  refine wpAny_bind (wpAny_holding (wpAny_eqBool_str ?_))
  by_cases e : c = sent
  · subst e
    rw [decide_eq_true rfl]
    rw [if_neg (show ¬ ((!true) = true) by decide)]
    refine wpAny_bind (wpAny_rule ?_)
    refine wpAny_bind ?_
    show wpAny _ _ (field (Value.ref it) 0 >>= _) _ _ _
    refine wpAny_bind (wpAny_field hit' rfl (x := .ref b) rfl ?_)
    refine wpAny_bind (m := slotLetsGo _ _ _) ?_
    unfold slotLetsGo
    refine wpAny_bind (borrows_method hb' hg' hd ?_)
    rw [if_pos rfl]
    refine wpAny_pure ?_
    refine wpAny_bind (wpAny_setField_rec hit' (by simp) fun h1 e1 b1 => ?_)
    refine wpAny_bind (wpAny_setField_rec e1 (by simp) fun h2 e2 b2 => ?_)
    refine wpAny_setField_rec e2 (by simp) fun h3 e3 b3 => ?_
    show wpAny _ _ (newExc (.type "StopIteration") [] >>= _) _ _ _
    refine wpAny_bind ?_
    simp only [newExc, newTuple]
    refine wpAny_bind (wpAny_newObj_type ?_ (by size_fits))
    refine wpAny_bind (m := firstArgMember _ _) (wpAny_of_eq (a := Value.none) (by first | rfl | (simp only [firstArgMember]; rfl)) ?_)
    refine wpAny_newObj_type ?_ (by size_fits)
    simp only [raiseNew]
    refine wpAny_bind (wpAny_handled ?_)
    rw [show A.in1.handled = none from hh]
    refine wpAny_bind (wpAny_pure (wpAny_throw ?_))
    refine wpAny_bind (wpAny_isInstance (T := "StopIteration") (b := true) ⟨_, Heap.get?_push_size _ rfl, rfl⟩ isSubtype_stop ?_)
    refine wpAny_pure (q2 rfl _ ?_)
    refine Heap.ExtBut.push (Heap.ExtBut.push ?_ _) _
    intro b o hn ho
    exact (b3.2 b hn).trans ((b2.2 b hn).trans ((b1.2 b hn).trans ho))
  · rw [decide_eq_false (fun q => e q.symm)]
    rw [if_pos (show (!false) = true from rfl)]
    exact wpAny_pure ⟨_, rfl, wpAny_pure (q1 e)⟩
end
end Mine
end

section
open PySem PySem.W PyProof.Rows PySem.Calls PyProof
set_option Elab.async false
set_option maxRecDepth 100000
set_option maxHeartbeats 4000000
set_option linter.unusedVariables false
set_option linter.unusedSimpArgs false
namespace Mine
/-- a call that writes over objects of the caller's ledger -/
theorem own_back {h₀ h h' : Heap} {L : Addr} {m : Str → Option Value} {own own' rest : List (Addr × Obj)} (F : Fr h₀ L h m) (N : News h₀ L h (own ++ rest)) (hk : own'.map (·.1) = own.map (·.1))
    (kp : Keeps (hideAll h (own.map (·.1))) h') (ho : ∀ q ∈ own', h'.get? q.1 = some q.2) (off : ∀ r ∈ rest, r.1 ∉ own.map (·.1)) : Fr h₀ L h' m ∧ News h₀ L h' (own' ++ rest) := by
  have nL : L ∉ own.map (·.1) := fun q => by
    obtain ⟨p, hp, e⟩ := List.mem_map.mp q
    exact (N p (List.mem_append.mpr (.inl hp))).2.1 e
  refine ⟨⟨F.ns.at' fun o e => kp _ _ (hideAll_get _ e nL), fun b o e => kp _ _ (hideAll_get _ (F.keep b o e) fun q => ?_), F.above⟩, fun p hp => ?_⟩
  · obtain ⟨p, hp, e'⟩ := List.mem_map.mp q
    have := (N p (List.mem_append.mpr (.inl hp))).2.2
    rw [e', e] at this; cases this
  · rcases List.mem_append.mp hp with hp | hp
    · refine ⟨ho p hp, ?_⟩
      have : p.1 ∈ own.map (·.1) := hk ▸ List.mem_map_of_mem hp
      obtain ⟨q, hq, e⟩ := List.mem_map.mp this
      have := (N q (List.mem_append.mpr (.inl hq))).2
      rw [e] at this
      exact this
    · have := N p (List.mem_append.mpr (.inr hp))
      exact ⟨kp _ _ (hideAll_get _ this.1 (off p hp)), this.2⟩

structure LexN (a : LexA) : Prop where
  lx : NeF a.lx a.dlx ∧ NeF a.lx a.pb ∧ NeF a.lx a.st ∧ NeF a.lx a.dst ∧ NeF a.lx a.hf ∧ NeF a.lx a.cc ∧ NeF a.lx a.cl ∧ NeF a.lx a.sg
  dlx : NeF a.dlx a.pb ∧ NeF a.dlx a.st ∧ NeF a.dlx a.dst ∧ NeF a.dlx a.hf ∧ NeF a.dlx a.cc ∧ NeF a.dlx a.cl ∧ NeF a.dlx a.sg
  pb : NeF a.pb a.st ∧ NeF a.pb a.dst ∧ NeF a.pb a.hf ∧ NeF a.pb a.cc ∧ NeF a.pb a.cl ∧ NeF a.pb a.sg
  sg : NeF a.st a.sg ∧ NeF a.dst a.sg ∧ NeF a.hf a.sg ∧ NeF a.cc a.sg ∧ NeF a.cl a.sg
theorem neF_of {l : List Addr} (h : l.Nodup) {x y : Addr} (i j : Nat) (hi : l[i]? = some x) (hj : l[j]? = some y) (hij : i < j) : NeF x y := by
  obtain ⟨h1, e1⟩ := List.getElem?_eq_some_iff.mp hi
  obtain ⟨h2, e2⟩ := List.getElem?_eq_some_iff.mp hj
  have := List.pairwise_iff_getElem.mp h i j h1 h2 hij
  exact ⟨fun q => this (by rw [e1, e2]; exact q)⟩
theorem lexN {a : LexA} (h : a.addrs.Nodup) : LexN a :=
  ⟨⟨neF_of h 0 1 rfl rfl (by decide), neF_of h 0 2 rfl rfl (by decide), neF_of h 0 3 rfl rfl (by decide), neF_of h 0 4 rfl rfl (by decide), neF_of h 0 5 rfl rfl (by decide), neF_of h 0 6 rfl rfl (by decide), neF_of h 0 7 rfl rfl (by decide), neF_of h 0 8 rfl rfl (by decide)⟩,
   ⟨neF_of h 1 2 rfl rfl (by decide), neF_of h 1 3 rfl rfl (by decide), neF_of h 1 4 rfl rfl (by decide), neF_of h 1 5 rfl rfl (by decide), neF_of h 1 6 rfl rfl (by decide), neF_of h 1 7 rfl rfl (by decide), neF_of h 1 8 rfl rfl (by decide)⟩,
   ⟨neF_of h 2 3 rfl rfl (by decide), neF_of h 2 4 rfl rfl (by decide), neF_of h 2 5 rfl rfl (by decide), neF_of h 2 6 rfl rfl (by decide), neF_of h 2 7 rfl rfl (by decide), neF_of h 2 8 rfl rfl (by decide)⟩,
   ⟨neF_of h 3 8 rfl rfl (by decide), neF_of h 4 8 rfl rfl (by decide), neF_of h 5 8 rfl rfl (by decide), neF_of h 6 8 rfl rfl (by decide), neF_of h 7 8 rfl rfl (by decide)⟩⟩

theorem callWith_N {M : Model} {A : Around} {E : Value → Shared → Prop} {s : Shared} {f : Addr} {o : Obj} {fd : FuncData} {env : Env} {pos : Pos} {first : List Value} {Q : Value → Shared → Prop} {e : Expr} {rest : List Expr} (hd : o.data = .func fd)
    (h : wpAny M A (spliced (backTo pos (starEach (e :: rest) env))) (fun vs s₁ => Cut ((s₁.heap.get? f = some o) ∧ wpAny M A (PySem.call (.ref f) (first ++ vs)) Q E s₁)) E s)
    (he : starEach (e :: rest) env = (false, eval e env) :: starEach rest env := by rfl) (hplain : (backTo pos (starEach rest env)).any (·.1) = false := by rfl) :
    wpAny M A (callWith pos (.ref f) first (backTo pos (starEach (e :: rest) env)) []) Q E s := by
  rw [he] at h ⊢
  refine callWith_function (o := o) (fd := fd) (evalArgs_plain (wpAny_mono h (fun vs s₁ q => ?_) fun _ _ x => x))
  exact ⟨⟨q.out.1, hd⟩, q.out.2⟩

/-- the call of hand, on a ledger -/
theorem hand_call {w : World} {dp un : Nat} {fr : Option (List Env)} {gd : Option (List Code)} {s : Shared} {g h₀ : Heap} {L : Addr} {m : Str → Option Value} {news : List (Addr × Obj)} {f : Addr} {own : List (Addr × Obj)} {sg : Addr} {t : Tok} {vs : List Value} {ep : Nat} {l : List Nat} {Q E : Value → Shared → Prop} (rest : List (Addr × Obj))
    (H : HandSem w g f own sg) (kg : Keeps g h₀) (hg : g.get? sg = none) (F : Fr h₀ L s.heap m) (N : News h₀ L s.heap news) (hroom : dp + 2 < recursionLimit) (hl : l.length ≤ 100) (hc : CharsAre vs l) (ho : ∀ q ∈ own, q ∈ news) (hm : (sg, listOf vs.toArray ep) ∈ news) (hr : ∀ q ∈ rest, q ∈ news) (hne : ∀ q ∈ rest, q.1 ≠ sg)
    (hQ : ∀ (t : Tok) (ep' : Nat) (h' : Heap) (tk' : Nat), Fr h₀ L h' m → News h₀ L h' ((sg, listOf (vs.drop 1).toArray ep') :: rest) → Q (.str (ofL (l.take 1)) t) { s with heap := h', toks := tk' }) :
    wpAny (model theProg w) (Ar dp un fr gd) (PySem.call (.ref f) [.int 1 t]) Q E s := by
  refine H.call dp un fr gd t s vs ep l Q E hroom hl hc (fun b o e => F.keep b o (kg b o e)) hg (fun q hq => (N q (ho q hq)).1) (N _ hm).1 fun t' ep' h' tk' kp e' => ?_
  obtain ⟨F', N'⟩ := own_back (own := [(sg, listOf vs.toArray ep)]) (own' := [(sg, listOf (vs.drop 1).toArray ep')]) (rest := rest) F
    (fun q hq => by rcases List.mem_cons.mp hq with e | hq; · rw [e]; exact N _ hm
                    · exact N q (hr q hq)) rfl kp (by simpa using e') (fun q hq => by simpa using hne q hq)
  exact hQ t' ep' h' tk' F' N'
end Mine
end

section
open PySem PySem.W PyProof.Rows PySem.Calls PyProof
set_option Elab.async false
set_option maxRecDepth 100000
set_option maxHeartbeats 8000000
set_option linter.unusedSimpArgs false
set_option linter.unusedVariables false
namespace Mine
example : True := by
  w_top off
  exact True.intro
example : (PySem.Challenge.rw_pe0171_01 = PySem.Challenge.rw_pe0171_01) ∧ hd.heap_1 = hd.heap_1 := by
  k_fill
  exact ⟨rfl, rfl⟩

set_option pp.deepTerms false
set_option pp.maxSteps 3000

theorem nl_head {l : List Nat} (h : (ofL (l.take 1) == Str.ofString "\n") = true) : l.head? = some 10 := by
  rw [show Str.ofString "\n" = ofL [10] from rfl, ofL_beq] at h
  cases l with
  | nil => simp at h
  | cons c r => simp at h; simp [h]
theorem nl_not {l : List Nat} (h : (ofL (l.take 1) == Str.ofString "\n") = false) : ¬ l.head? = some 10 := by
  rw [show Str.ofString "\n" = ofL [10] from rfl, ofL_beq] at h
  cases l with
  | nil => simp
  | cons c r => simp at h; simp [h]
theorem read_code {w : World} {dp un : Nat} {fr : Option (List Env)} {gd : Option (List Code)} {s : Shared} {g : Heap} {p : Program} {loose : List Str} {mean : ExcName → Option Value} {mg mb : Str → Option Value} {a : LexA} {n : Int} {u : Tok} {pbv : List Value} {pbe : Nat} {vs : List Value} {ep : Nat} {l : List Nat} {R : Result → Shared → Prop}
   (X : (hd.heap_1 w.params).In g) (T : Top p loose mean mg mb g) (kg : Keeps g s.heap) (ok : LexOk w g a) (hin : ∀ q ∈ a.objs w n u pbv pbe vs ep, s.heap.get? q.1 = some q.2) (hc : CharsAre vs l) (hl : l.length ≤ 100) (hn0 : 0 ≤ n) (hn1 : n ≤ 1000) (hroom : dp + 4 < recursionLimit)
   (hR : ∀ (t : Tok) (u' : Tok) (ep' : Nat) (h' : Heap) (tk' : Nat), Keeps (hideAll s.heap a.addrs) h' → (∀ q ∈ a.objs w (n + if l.head? = some 10 then 1 else 0) u' pbv pbe (vs.drop 1) ep', h'.get? q.1 = some q.2) → R (.ok (.ret (.str (ofL (l.take 1)) t))) { s with heap := h', toks := tk' }) :
   codeAny (model theProg w) (Ar dp un fr gd) (.call (.ref 53) ⟨[.ref a.lx], []⟩) R s := by
  k_dflt (refine' call_raw (X.keeps kg) (T.keeps kg).nolimit ?ho ?hcd (show dp < recursionLimit by omega) (BindsTo.of_eq (binds := [(Str.ofString "self", .ref a.lx)]) ?hbind) (locs ?hloc) ?_ ?h1 ?h2 ?h3 ?hcell)
  case ho => k_is
  case hcd => k_is
  case hbind => exact rfl
  case hcell => decide
  case hloc => exact rfl
  case h1 => exact rfl
  case h2 => exact rfl
  case h3 => exact rfl
  k_dflt (intro L h₁ F' N')
  have kg2 : Keeps g (hideAll s.heap a.addrs) := keeps_hide kg ok.free
  have X2 := X.keeps kg2
  have T2 := T.keeps kg2
  obtain ⟨F, N⟩ := rebase _ F' N' hin
  have eA : (a.objs w n u pbv pbe vs ep).map (·.1) = a.addrs := rfl
  rw [eA] at F N
  clear F' N'
  have gsg : g.get? a.sg = none := ok.free _ (by simp [LexA.addrs])
  have HS := ok.hand
  have w1 : NeF a.hf a.cc := neF_of ok.apart 5 6 rfl rfl (by decide)
  have w2 : NeF a.hf a.cl := neF_of ok.apart 5 7 rfl rfl (by decide)
  have nd := lexN ok.apart
  refine small fun Gx hGx => ?_
  obtain ⟨⟨x1, x2, x3, x4, x5, x6, x7, x8⟩, ⟨y1, y2, y3, y4, y5, y6, y7⟩, ⟨z1, z2, z3, z4, z5, z6⟩, ⟨v1, v2, v3, v4, v5⟩⟩ := nd
  refine hGx ?_
  clear hGx Gx
  have hR' := hR
  clear hR
  clear ok eA hin
  refine small fun Gx hGx => ?_
  obtain ⟨lx, dlx, pb, st, dst, hf, cc, cl, sg, pbs, t1, t2, t3, t4, u3, d1, d2, d3, d4, d5, e1, e3, oh, oc, ocl⟩ := a
  refine hGx ?_
  clear hGx Gx
  simp only [LexA.objs, LexA.addrs, List.nil_append] at *
  refine small fun Gx hGx => ?_
  obtain ⟨ofx, fdx, hofx, hfd⟩ := HS.fn
  refine hGx ?_
  clear hGx Gx
  have hfd : oh.data = .func fdx := by
    simp only [List.mem_cons, List.not_mem_nil, or_false, Prod.mk.injEq] at hofx
    rcases hofx with ⟨_, e⟩ | ⟨e, _⟩ | ⟨e, _⟩
    · rw [← e]; exact hfd
    · exact absurd e w1.out
    · exact absurd e w2.out
  clear hofx w1 w2
  k_steps
  dsimp only
  k_dflt (refine callWith_N hfd ?_)
  k_steps
  refine ⟨N.get (by k_mem), ?_⟩
  try dsimp only [List.nil_append, List.cons_append]
  k_dflt (refine hand_call [(lx, instObj 70 dlx), (dlx, lexD w t1 t2 t3 t4 n u (Value.ref st) u3 pb), (pb, W.listOf pbv.toArray pbe), (st, instObj 70 dst), (dst, strD w d1 d2 d3 d4 d5 e1 e3 pbs hf), (hf, oh), (cc, oc), (cl, ocl)] HS kg2 gsg (by k_asm) (by k_asm) (show dp + 1 + 2 < recursionLimit by omega) hl hc (by tb_rel) (by k_mem) (by tb_rel) (by k_all) ?_)
  intro tc ep' h' tk' F' N'
  try dsimp only
  clear F N
  have fin : ∀ (n' : Int) (u' : Tok) (h' : Heap) (tk' : Nat) (m' : Str → Option Value), (n + if l.head? = some 10 then 1 else 0) = n' → Fr (hideAll s.heap [lx, dlx, pb, st, dst, hf, cc, cl, sg]) L h' m' →
      (∀ q ∈ [(lx, instObj 70 dlx), (dlx, lexD w t1 t2 t3 t4 n' u' (Value.ref st) u3 pb), (pb, W.listOf pbv.toArray pbe), (st, instObj 70 dst), (dst, strD w d1 d2 d3 d4 d5 e1 e3 pbs hf), (hf, oh), (cc, oc), (cl, ocl), (sg, W.listOf (List.drop 1 vs).toArray ep')], h'.get? q.1 = some q.2) →
      R (Except.ok (Flow.ret (Value.str (ofL (List.take 1 l)) tc))) { s with heap := h', toks := tk' } := by
    intro n' u' h' tk' m' e F2 N2
    subst e
    exact hR' tc u' ep' h' tk' F2.keep N2
  clear hR'
  k_steps
  · dsimp only
    rename Fr _ _ _ _ => F2
    rename News _ _ _ _ => N2
    refine' fin (n + 1) _ _ _ _ ?e F2 ?f
    case e => rw [if_pos (nl_head (by assumption))]
    case f =>
      simp only [List.forall_mem_cons, List.not_mem_nil, false_implies, implies_true, and_true]
      refine ⟨N2.get (by k_mem), N2.get (by k_mem), N2.get (by k_mem), N2.get (by k_mem), N2.get (by k_mem), N2.get (by k_mem), N2.get (by k_mem), N2.get (by k_mem), N2.get (by k_mem)⟩
  · dsimp only
    rename Fr _ _ _ _ => F'
    rename News _ _ _ _ => N'
    refine' fin n _ _ _ _ ?e F' ?f
    case e => rw [if_neg (nl_not (by assumption)), Int.add_zero]
    case f =>
      simp only [List.forall_mem_cons, List.not_mem_nil, false_implies, implies_true, and_true]
      refine ⟨N'.get (by k_mem), N'.get (by k_mem), N'.get (by k_mem), N'.get (by k_mem), N'.get (by k_mem), N'.get (by k_mem), N'.get (by k_mem), N'.get (by k_mem), N'.get (by k_mem)⟩

theorem read_call {w : World} {dp un : Nat} {fr : Option (List Env)} {gd : Option (List Code)} {s : Shared} {g h₀ : Heap} {L : Addr} {m : Str → Option Value} {news : List (Addr × Obj)} {p : Program} {loose : List Str} {mean : ExcName → Option Value} {mg mb : Str → Option Value} {a : LexA} {n : Int} {u : Tok} {pbv : List Value} {pbe : Nat} {vs : List Value} {ep : Nat} {l : List Nat} {Q E : Value → Shared → Prop} (rest : List (Addr × Obj))
   (F : Fr h₀ L s.heap m) (N : News h₀ L s.heap news) (X : (hd.heap_1 w.params).In g) (T : Top p loose mean mg mb g) (kg : Keeps g h₀) (ok : LexOk w g a) (hin : ∀ q ∈ a.objs w n u pbv pbe vs ep, q ∈ news) (hc : CharsAre vs l) (hl : l.length ≤ 100) (hn0 : 0 ≤ n) (hn1 : n ≤ 1000) (hroom : dp + 4 < recursionLimit)
   (hr : ∀ q ∈ rest, q ∈ news) (hoff : ∀ r ∈ rest, r.1 ∉ a.addrs)
   (hQ : ∀ (t : Tok) (u' : Tok) (ep' : Nat) (h' : Heap) (tk' : Nat), Fr h₀ L h' m → News h₀ L h' (a.objs w (n + if l.head? = some 10 then 1 else 0) u' pbv pbe (vs.drop 1) ep' ++ rest) → Q (.str (ofL (l.take 1)) t) { s with heap := h', toks := tk' }) :
   wpAny (model theProg w) (Ar dp un fr gd) (PySem.call (.ref 53) [.ref a.lx]) Q E s := by
  refine wpAny_call (read_code X T (fun b o e => F.keep b o (kg b o e)) ok (fun q hq => (N q (hin q hq)).1) hc hl hn0 hn1 hroom fun t u' ep' h' tk' kp ho => ?_)
  obtain ⟨F', N'⟩ := own_back (own := a.objs w n u pbv pbe vs ep) (own' := a.objs w (n + if l.head? = some 10 then 1 else 0) u' pbv pbe (vs.drop 1) ep') (rest := rest) F (fun q hq => (List.mem_append.mp hq).elim (fun h => N q (hin q h)) (fun h => N q (hr q h))) rfl kp ho hoff
  exact hQ t u' ep' h' tk' F' N'
end Mine
end

section
open PySem PySem.W PyProof.Rows PySem.Calls PyProof
set_option Elab.async false
set_option maxRecDepth 100000
set_option maxHeartbeats 4000000
set_option linter.unusedVariables false
set_option linter.unusedSimpArgs false
namespace Mine
/-- the signs of a word's row -/
noncomputable def esc : List Nat → List Nat
  | [] => []
  | c :: r => (if c = 34 then [92, 34] else [c]) ++ esc r
/-- the rest of a token in quotation marks: what is left, what there is; the token; what is left behind it -/
inductive Quo : List Nat → List Nat → List Nat → List Nat → Prop
  | stop (r tok : List Nat) : Quo (34 :: r) tok tok r
  | esc (r tok tf rf : List Nat) (h : Quo r (tok ++ [34]) tf rf) : Quo (92 :: 34 :: r) tok tf rf
  | on (c : Nat) (r tok tf rf : List Nat) (hc : c = 97 ∨ c = 65) (h : Quo r (tok ++ [c]) tf rf) : Quo (c :: r) tok tf rf
inductive Bare : List Nat → List Nat → List Nat → List Nat → Prop
  | stop (r tok : List Nat) : Bare (10 :: r) tok tok r
  | esc (r tok tf rf : List Nat) (h : Bare r (tok ++ [34]) tf rf) : Bare (92 :: 34 :: r) tok tf rf
  | on (c : Nat) (r tok tf rf : List Nat) (hc : c = 97 ∨ c = 65) (h : Bare r (tok ++ [c]) tf rf) : Bare (c :: r) tok tf rf
inductive Out : List Nat → List Nat → List Nat → Prop
  | nil : Out [] [] []
  | skip (r tf rf : List Nat) (h : Out r tf rf) : Out (10 :: r) tf rf
  | quo (r tf rf : List Nat) (h : Quo r [] tf rf) : Out (34 :: r) tf rf
  | esc (r tf rf : List Nat) (h : Bare r [34] tf rf) : Out (92 :: 34 :: r) tf rf
  | on (c : Nat) (r tf rf : List Nat) (hc : c = 97 ∨ c = 65) (h : Bare r [c] tf rf) : Out (c :: r) tf rf

theorem quo_esc {r : List Nat} : ∀ (w tok : List Nat), (∀ c ∈ w, c = 97 ∨ c = 65 ∨ c = 34) → Quo (esc w ++ 34 :: r) tok (tok ++ w) r
  | [], tok, _ => by simpa [esc] using Quo.stop r tok
  | c :: w, tok, h => by
    have ih := quo_esc w (tok ++ [c]) (r := r) fun d hd => h d (.tail _ hd)
    rw [List.append_assoc, List.singleton_append] at ih
    rcases h c (.head _) with rfl | rfl | rfl
    · simpa [esc] using Quo.on 97 _ _ _ _ (.inl rfl) ih
    · simpa [esc] using Quo.on 65 _ _ _ _ (.inr rfl) ih
    · simpa [esc] using Quo.esc _ _ _ _ ih
theorem bare_esc {r : List Nat} : ∀ (w tok : List Nat), (∀ c ∈ w, c = 97 ∨ c = 65 ∨ c = 34) → Bare (esc w ++ 10 :: r) tok (tok ++ w) r
  | [], tok, _ => by simpa [esc] using Bare.stop r tok
  | c :: w, tok, h => by
    have ih := bare_esc w (tok ++ [c]) (r := r) fun d hd => h d (.tail _ hd)
    rw [List.append_assoc, List.singleton_append] at ih
    rcases h c (.head _) with rfl | rfl | rfl
    · simpa [esc] using Bare.on 97 _ _ _ _ (.inl rfl) ih
    · simpa [esc] using Bare.on 65 _ _ _ _ (.inr rfl) ih
    · simpa [esc] using Bare.esc _ _ _ _ ih
/-- a row: the word in quotation marks, or bare -/
noncomputable def spell (w : List Nat) (q : Bool) : List Nat := if q = true ∨ w = [] then 34 :: (esc w ++ [34]) else esc w
theorem out_spell {w r : List Nat} {q : Bool} (h : ∀ c ∈ w, c = 97 ∨ c = 65 ∨ c = 34) : ∃ rf, Out (spell w q ++ 10 :: r) w rf ∧ (rf = 10 :: r ∨ rf = r) := by
  unfold spell
  by_cases c : q = true ∨ w = []
  · rw [if_pos c]
    refine ⟨10 :: r, ?_, .inl rfl⟩
    have := Out.quo _ _ _ (quo_esc (r := 10 :: r) w [] h)
    simpa using this
  · rw [if_neg c]
    refine ⟨r, ?_, .inr rfl⟩
    cases w with
    | nil => exact absurd (.inr rfl) c
    | cons d w =>
      have ih := bare_esc (r := r) w [d] fun e he => h e (.tail _ he)
      rcases h d (.head _) with rfl | rfl | rfl
      · simpa [esc] using Out.on 97 _ _ _ (.inl rfl) ih
      · simpa [esc] using Out.on 65 _ _ _ (.inr rfl) ih
      · simpa [esc] using Out.esc _ _ _ ih

structure GS where
  (tok l : List Nat) (tu u : Tok) (n : Int) (vs : List Value) (ep : Nat)
noncomputable abbrev GS.ps (a : LexA) (it : Addr) (c : GS) : List (Str × Value) := [(Str.ofString "token", .str (ofL c.tok) c.tu), (Str.ofString "self", .ref a.lx), (Str.ofString "fiter", .ref it)]
noncomputable abbrev GS.own (w : World) (a : LexA) (b it : Addr) (ts : Tok) (pbe : Nat) (c : GS) : List (Addr × Obj) := (it, callIt (.ref b) (.str (Str.ofString "") ts) false) :: (b, methodObj (.ref 53) (.ref a.lx)) :: a.objs w c.n c.u [] pbe c.vs c.ep
/-- the count of lines goes on as the signs are read -/
structure GS.Ok (N : Int) (c : GS) : Prop where
  chars : CharsAre c.vs c.l
  small : c.tok.length + c.l.length ≤ 100
  lines : c.n + (c.l.count 10 : Nat) = N
  low : 0 ≤ c.n
  high : N ≤ 1000
theorem GS.Ok.next {N : Int} {tok l vs tu u u' n ep ep' ch r} (h : GS.Ok N ⟨tok, l, tu, u, n, vs, ep⟩) (e : l = ch :: r) : GS.Ok N ⟨tok, r, tu, u', n + (if l.head? = some 10 then 1 else 0), vs.drop 1, ep'⟩ := by
  obtain ⟨h1, h2, h3, h4, h5⟩ := h
  subst e
  dsimp only at h1 h2 h3 h4
  refine ⟨?_, by dsimp only; simp at h2; omega, ?_, by dsimp only; split <;> omega, h5⟩
  · cases h1 with
    | cons c t h => exact h
  · dsimp only
    rw [List.count_cons] at h3
    by_cases q : ch = 10
    · subst q; simp at h3 ⊢; omega
    · simp [q] at h3 ⊢; omega
end Mine
end

section
open PySem PySem.W PyProof.Rows PySem.Calls PyProof
set_option Elab.async false
set_option maxRecDepth 100000
set_option maxHeartbeats 4000000
set_option linter.unusedVariables false
set_option linter.unusedSimpArgs false
namespace Mine
theorem take1_ne {ch : Nat} {r : List Nat} : ofL ((ch :: r).take 1) ≠ Str.ofString "" := by
  intro q
  have := ofL_inj.mp (show ofL ((ch :: r).take 1) = ofL [] from q)
  simp at this

theorem for_ci {w : World} {A : Around} {Q : Flow → Shared → Prop} {s s₁ : Shared} {env : Env} {g h₀ : Heap} {L : Addr} {p : Program} {loose : List Str} {mean : ExcName → Option Value} {mg mb : Str → Option Value} {x : Str} {px pos : Pos} {iter : Expr} {body : List Stmt} {dp un : Nat} {fr : Option (List Env)} {gd : Option (List Code)} {og : Obj} {fd : FuncData}
    (a : LexA) (it b : Addr) (ts : Tok) (pbe : Nat) (N : Int) (P : GS → Prop) (c₀ : GS)
    (hA : A.in1 = Ar dp un fr gd) (hroom : dp + 4 < recursionLimit) (X : (hd.heap_1 w.params).In g) (T : Top p loose mean mg mb g) (ok : LexOk w g a) (kg : Keeps g h₀) (hg : h₀.get? 53 = some og) (hd : og.data = .func fd) (hnd : (it :: b :: a.addrs).Nodup)
    (hh : A.handled = none) (hx : env.kindOf x = some .local) (hp : (env.scope.kind == .class || (env.scope.kind == .module && env.locals != env.globals)) = false) (hL : env.locals = L)
    (hiter : wpAny (model theProg w) A (eval iter env) (fun v s₂ => Cut (v = .ref it ∧ At s h₀ L (c₀.ps a it) (c₀.own w a b it ts pbe) s₂)) NoE s₁)
    (hP : P c₀) (hok : c₀.Ok N)
    (turn : ∀ (c c' : GS) (ch : Nat) (r : List Nat) (tch : Tok) (h : Heap) (tk : Nat) (m : Str → Option Value), P c → c.Ok N → c.l = ch :: r → c'.l = r → c'.tok = c.tok → c'.tu = c.tu → c'.Ok N →
      Fr h₀ L h (over ((x, .str (ofL [ch]) tch) :: c'.ps a it) m) → News h₀ L h (c'.own w a b it ts pbe) →
      wpAny (model theProg w) A (execs body env) (fun f s₃ => match f with
          | .next => Cut (∃ c2 : GS, c2.l.length < c.l.length ∧ P c2 ∧ c2.Ok N ∧ At s h₀ L (c2.ps a it) (c2.own w a b it ts pbe) s₃)
          | .cont => Cut (∃ c2 : GS, c2.l.length < c.l.length ∧ P c2 ∧ c2.Ok N ∧ At s h₀ L (c2.ps a it) (c2.own w a b it ts pbe) s₃)
          | .brk => Q .next s₃
          | .ret v => Q (.ret v) s₃) NoE { s with heap := h, toks := tk })
    (done : ∀ (c c' : GS) (h : Heap) (tk : Nat) (m : Str → Option Value), P c → c.Ok N → c.l = [] → c'.l = [] → c'.tok = c.tok → c'.tu = c.tu → c'.Ok N → Fr h₀ L h (over (c'.ps a it) m) → News h₀ L h (a.objs w c'.n c'.u [] pbe c'.vs c'.ep) → Q .next { s with heap := h, toks := tk })
    (hs : ∀ x, foldedSetIterable iter env x = pure x := by intro _; rfl) :
    wpAny (model theProg w) A (exec (.For (.Name x px) iter body [] pos) env) Q NoE s₁ := by
  refine wpAny_For (wpAny_mono hiter ?_ fun _ _ x => x) hs
  rintro v s₂ hcut
  obtain ⟨rfl, hAt⟩ := hcut.out
  obtain ⟨h, tk, m, rfl, F, N0, nd⟩ := hAt
  refine pyIter_ci (N0 _ (List.mem_cons_self ..)).1 ?_
  have hit : it ∉ a.addrs := fun q => (List.nodup_cons.mp hnd).1 (.tail _ q)
  have hitb : it ≠ b := fun q => (List.nodup_cons.mp hnd).1 (q ▸ .head _)
  have hb : b ∉ a.addrs := (List.nodup_cons.mp (List.nodup_cons.mp hnd).2).1
  refine codeAny_forLoop (fun k s' => ∃ c : GS, k = c.l.length ∧ P c ∧ c.Ok N ∧ At s h₀ L (c.ps a it) (c.own w a b it ts pbe) s') ?_ c₀.l.length ⟨c₀, rfl, hP, hok, h, tk, m, rfl, F, N0, nd⟩
  rintro k s' ⟨c, rfl, hPc, okc, h', tk', m', rfl, F', N', nd'⟩
  refine pyNext_ci (A := A) hh (N' _ (List.mem_cons_self ..)).1 (N' _ (.tail _ (.head _))).1 (F'.keep _ _ hg) hd ?_
  rw [hA]
  have low := okc.low
  have high := okc.high
  have lines := okc.lines
  refine read_code (n := c.n) (u := c.u) (pbv := []) (pbe := pbe) (vs := c.vs) (ep := c.ep) (l := c.l) X T (fun b o e => F'.keep b o (kg b o e)) ok (fun q hq => (N' q (.tail _ (.tail _ hq))).1) okc.chars (by have := okc.small; omega) low (by omega) hroom ?_
  intro t u' ep' h3 tk3 kp ho
  obtain ⟨F3, N3⟩ := own_back (own := a.objs w c.n c.u [] pbe c.vs c.ep) (own' := a.objs w (c.n + if c.l.head? = some 10 then 1 else 0) u' [] pbe (c.vs.drop 1) ep') (rest := [(it, callIt (.ref b) (.str (Str.ofString "") ts) false), (b, methodObj (.ref 53) (.ref a.lx))]) F'
    (fun q hq => (List.mem_append.mp hq).elim (fun h => N' q (.tail _ (.tail _ h))) (fun h => N' q (by
      simp only [List.mem_cons, List.not_mem_nil, or_false] at h
      rcases h with h | h <;> simp [h, GS.own]))) rfl kp ho (by
      intro q hq
      simp only [List.mem_cons, List.not_mem_nil, or_false] at hq
      rcases hq with e | e
      · rw [e]; exact hit
      · rw [e]; exact hb)
  have i1 := N3 (it, callIt (.ref b) (.str (Str.ofString "") ts) false) (List.mem_append.mpr (.inr (.head _)))
  have i2 := N3 (b, methodObj (.ref 53) (.ref a.lx)) (List.mem_append.mpr (.inr (.tail _ (.head _))))
  refine ⟨_, t, rfl, i1.1, i2.1, F3.keep _ _ hg, fun hne => ?_, fun he h4 ext => ?_⟩
  · obtain ⟨tok, l, tu, u, n, vs, ep⟩ := c
    dsimp only at *
    cases l with
    | nil => exact absurd rfl hne
    | cons ch r =>
      have ok' := okc.next (u' := u') (ep' := ep') rfl
      have e1 : ofL ((ch :: r).take 1) = ofL [ch] := rfl
      refine wpAny_assign_Name (wpAny_storeName_local hx (m := over (GS.ps a it ⟨tok, ch :: r, tu, u, n, vs, ep⟩) m') (by rw [hL]; exact F3.ns) (fun h₄ hn₄ sb₄ => ?_) hp)
      rw [hL] at hn₄ sb₄
      have F₄ := F3.set hn₄ sb₄
      have N₄ := N3.set sb₄
      have em : (fun y => if y = x then some (Value.str (ofL ((ch :: r).take 1)) t) else over (GS.ps a it ⟨tok, ch :: r, tu, u, n, vs, ep⟩) m' y) = over ((x, .str (ofL [ch]) t) :: GS.ps a it ⟨tok, r, tu, u', n + (if (ch :: r).head? = some 10 then 1 else 0), vs.drop 1, ep'⟩) m' := by
        funext y
        by_cases hy : y = x
        · subst hy; simp [over]
        · have : (y == x) = false := by simpa using hy
          simp [over, List.lookup_cons, hy, this]
      rw [em] at F₄
      refine wpAny_mono (turn _ ⟨tok, r, tu, u', n + (if (ch :: r).head? = some 10 then 1 else 0), vs.drop 1, ep'⟩ ch r t h₄ _ m' hPc okc rfl rfl rfl rfl ok' F₄ ?_) (fun f s₃ h₃ => ?_) (fun _ _ x => False.elim x)
      · intro q hq
        rcases List.mem_cons.mp hq with e | hq
        · exact N₄ q (List.mem_append.mpr (.inr (by rw [e]; exact .head _)))
        · rcases List.mem_cons.mp hq with e | hq
          · exact N₄ q (List.mem_append.mpr (.inr (by rw [e]; exact .tail _ (.head _))))
          · exact N₄ q (List.mem_append.mpr (.inl hq))
      · cases f with
        | next => obtain ⟨c2, q1, q2, q3, q4⟩ := h₃.out; exact ⟨_, q1, c2, rfl, q2, q3, q4⟩
        | cont => obtain ⟨c2, q1, q2, q3, q4⟩ := h₃.out; exact ⟨_, q1, c2, rfl, q2, q3, q4⟩
        | brk => exact h₃
        | ret v => exact h₃
  · obtain ⟨tok, l, tu, u, n, vs, ep⟩ := c
    dsimp only at *
    cases l with
    | cons ch r => exact absurd he take1_ne
    | nil =>
      refine wpAny_execs_nil ?_
      have hc := okc.chars
      cases hc
      have hne : ∀ q ∈ a.objs w n u [] pbe [] ep, q.1 ≠ it := fun q hq e => hit (e ▸ List.mem_map_of_mem (f := Prod.fst) hq)
      refine done ⟨tok, [], tu, u, n, [], ep⟩ ⟨tok, [], tu, u', n + (if ([] : List Nat).head? = some 10 then 1 else 0), ([] : List Value).drop 1, ep'⟩ h4 tk3 m' hPc okc rfl rfl rfl rfl ?_ ⟨F3.ns.extBut ext (Ne.symm i1.2.1), fun b o e => ext b o (fun q => by rw [q, i1.2.2] at e; cases e) (F3.keep b o e), F3.above⟩ (fun q hq => ?_)
      · exact ⟨.nil, okc.small, by simpa using okc.lines, by simpa using okc.low, okc.high⟩
      · have := N3 q (List.mem_append.mpr (.inl hq))
        refine ⟨ext _ _ ?_ this.1, this.2⟩
        intro e
        exact hit (e ▸ List.mem_map_of_mem (f := Prod.fst) hq)
end Mine
end

section
open PySem PySem.W PyProof.Rows PySem.Calls PyProof
set_option Elab.async false
set_option maxRecDepth 100000
set_option maxHeartbeats 4000000
set_option linter.unusedVariables false
set_option linter.unusedSimpArgs false
namespace Mine
theorem read_callG {w : World} {dp un : Nat} {fr : Option (List Env)} {gd : Option (List Code)} {s : Shared} {g h₀ : Heap} {L : Addr} {m : Str → Option Value} {p : Program} {loose : List Str} {mean : ExcName → Option Value} {mg mb : Str → Option Value} {a : LexA} {N : Int} {tok r : List Nat} {ch : Nat} {tu : Tok} {n : Int} {u : Tok} {it b : Addr} {ts : Tok} {pbe : Nat} {vs : List Value} {ep : Nat} {Q E : Value → Shared → Prop}
   (ok : LexOk w g a) (okc : GS.Ok N ⟨tok, ch :: r, tu, u, n, vs, ep⟩) (X : (hd.heap_1 w.params).In g) (T : Top p loose mean mg mb g) (kg : Keeps g h₀) (hnd : (it :: b :: a.addrs).Nodup)
   (F : Fr h₀ L s.heap m) (N0 : News h₀ L s.heap ((it, callIt (.ref b) (.str (Str.ofString "") ts) false) :: (b, methodObj (.ref 53) (.ref a.lx)) :: a.objs w n u [] pbe vs ep)) (hroom : dp + 4 < recursionLimit)
   (hQ : ∀ (t : Tok) (n' : Int) (u' : Tok) (vs' : List Value) (ep' : Nat) (h' : Heap) (tk' : Nat), GS.Ok N ⟨tok, r, tu, u', n', vs', ep'⟩ → Fr h₀ L h' m → News h₀ L h' ((it, callIt (.ref b) (.str (Str.ofString "") ts) false) :: (b, methodObj (.ref 53) (.ref a.lx)) :: a.objs w n' u' [] pbe vs' ep') → Q (.str (ofL [ch]) t) { s with heap := h', toks := tk' }) :
   wpAny (model theProg w) (Ar dp un fr gd) (PySem.call (.ref 53) [.ref a.lx]) Q E s := by
  have hit : it ∉ a.addrs := fun q => (List.nodup_cons.mp hnd).1 (.tail _ q)
  have hb : b ∉ a.addrs := (List.nodup_cons.mp (List.nodup_cons.mp hnd).2).1
  have low := okc.low
  have high := okc.high
  have lines := okc.lines
  have small := okc.small
  dsimp only at low high lines small
  refine read_call (n := n) (u := u) (pbv := []) (pbe := pbe) (vs := vs) (ep := ep) (l := ch :: r) [(it, callIt (.ref b) (.str (Str.ofString "") ts) false), (b, methodObj (.ref 53) (.ref a.lx))] F N0 X T kg ok (fun q hq => .tail _ (.tail _ hq)) okc.chars (by omega) low (by omega) hroom ?_ ?_ ?_
  · intro q hq
    simp only [List.mem_cons, List.not_mem_nil, or_false] at hq
    rcases hq with e | e <;> simp [e]
  · intro q hq
    simp only [List.mem_cons, List.not_mem_nil, or_false] at hq
    rcases hq with e | e
    · rw [e]; exact hit
    · rw [e]; exact hb
  · intro t u' ep' h' tk' F' N'
    refine hQ t _ u' _ ep' h' tk' (okc.next rfl) F' fun q hq => ?_
    rcases List.mem_cons.mp hq with e | hq
    · exact N' q (List.mem_append.mpr (.inr (by rw [e]; exact .head _)))
    · rcases List.mem_cons.mp hq with e | hq
      · exact N' q (List.mem_append.mpr (.inr (by rw [e]; exact .tail _ (.head _))))
      · exact N' q (List.mem_append.mpr (.inl hq))

/-- within a turn: the sign at hand -/
noncomputable abbrev TurnR (s : Shared) (H : Heap) (L : Addr) (w : World) (a : LexA) (it b : Addr) (ts : Tok) (pbe : Nat) (ch : Nat) (tch : Tok) (c : GS) : Shared → Prop :=
  At s H L ((Str.ofString "ch", .str (ofL [ch]) tch) :: c.ps a it) (c.own w a b it ts pbe)
theorem out_cases {ch : Nat} {r tf rf : List Nat} (h : Out (ch :: r) tf rf) : (ch = 10 ∧ Out r tf rf) ∨ (ch = 34 ∧ Quo r [] tf rf) ∨ ∃ d r', Bare r' [d] tf rf ∧ ((ch = 92 ∧ r = 34 :: r' ∧ d = 34) ∨ (ch = 97 ∧ r = r' ∧ d = 97) ∨ (ch = 65 ∧ r = r' ∧ d = 65)) := by
  cases h with
  | skip _ _ _ h => exact .inl ⟨rfl, h⟩
  | quo _ _ _ h => exact .inr (.inl ⟨rfl, h⟩)
  | esc r' _ _ h => exact .inr (.inr ⟨34, r', h, .inl ⟨rfl, rfl, rfl⟩⟩)
  | on _ _ _ _ hc h =>
    rcases hc with rfl | rfl
    · exact .inr (.inr ⟨97, r, h, .inr (.inl ⟨rfl, rfl, rfl⟩)⟩)
    · exact .inr (.inr ⟨65, r, h, .inr (.inr ⟨rfl, rfl, rfl⟩)⟩)
theorem quo_cases {ch : Nat} {r tok tf rf : List Nat} (h : Quo (ch :: r) tok tf rf) : (ch = 34 ∧ tok = tf ∧ r = rf) ∨ ∃ d r', Quo r' (tok ++ [d]) tf rf ∧ ((ch = 92 ∧ r = 34 :: r' ∧ d = 34) ∨ (ch = 97 ∧ r = r' ∧ d = 97) ∨ (ch = 65 ∧ r = r' ∧ d = 65)) := by
  cases h with
  | stop => exact .inl ⟨rfl, rfl, rfl⟩
  | esc r' _ _ _ h => exact .inr ⟨34, r', h, .inl ⟨rfl, rfl, rfl⟩⟩
  | on _ _ _ _ _ hc h =>
    rcases hc with rfl | rfl
    · exact .inr ⟨97, r, h, .inr (.inl ⟨rfl, rfl, rfl⟩)⟩
    · exact .inr ⟨65, r, h, .inr (.inr ⟨rfl, rfl, rfl⟩)⟩
theorem bare_cases {ch : Nat} {r tok tf rf : List Nat} (h : Bare (ch :: r) tok tf rf) : (ch = 10 ∧ tok = tf ∧ r = rf) ∨ ∃ d r', Bare r' (tok ++ [d]) tf rf ∧ ((ch = 92 ∧ r = 34 :: r' ∧ d = 34) ∨ (ch = 97 ∧ r = r' ∧ d = 97) ∨ (ch = 65 ∧ r = r' ∧ d = 65)) := by
  cases h with
  | stop => exact .inl ⟨rfl, rfl, rfl⟩
  | esc r' _ _ _ h => exact .inr ⟨34, r', h, .inl ⟨rfl, rfl, rfl⟩⟩
  | on _ _ _ _ _ hc h =>
    rcases hc with rfl | rfl
    · exact .inr ⟨97, r, h, .inr (.inl ⟨rfl, rfl, rfl⟩)⟩
    · exact .inr ⟨65, r, h, .inr (.inr ⟨rfl, rfl, rfl⟩)⟩
theorem GS.Ok.add {N : Int} {tok l vs tu tu2 u n ep d} (h : GS.Ok N ⟨tok, l, tu, u, n, vs, ep⟩) (hs : tok.length + 1 + l.length ≤ 100) : GS.Ok N ⟨tok ++ [d], l, tu2, u, n, vs, ep⟩ :=
  ⟨h.chars, by simpa using hs, h.lines, h.low, h.high⟩
theorem nin9 {x a b c d e f g h i : Nat} (q : a < x ∧ b < x ∧ c < x ∧ d < x ∧ e < x ∧ f < x ∧ g < x ∧ h < x ∧ i < x) : x ∉ [a, b, c, d, e, f, g, h, i] := by
  simp only [List.mem_cons, List.not_mem_nil, or_false]; omega
theorem nin10 {x y a b c d e f g h i : Nat} (q : y < x ∧ a < x ∧ b < x ∧ c < x ∧ d < x ∧ e < x ∧ f < x ∧ g < x ∧ h < x ∧ i < x) : x ∉ [y, a, b, c, d, e, f, g, h, i] := by
  simp only [List.mem_cons, List.not_mem_nil, or_false]; omega
theorem iter2_K {prog : Program} {w : World} {A : Around} {E : Value → Shared → Prop} {s : Shared} {h₀ : Heap} {L b : Addr} {m : Str → Option Value} {news : List (Addr × Obj)} {f self sent : Value} {Q : Value → Shared → Prop} (F : Fr h₀ L s.heap m) (N : News h₀ L s.heap news) (hm : (b, methodObj f self) ∈ news)
    (h : ∀ it h', Fr h₀ L h' m → News h₀ L h' ((it, callIt (.ref b) sent false) :: news) → AllLt it news → Q (.ref it) { s with heap := h' }) :
    wpAny (model prog w) A (PySem.call (.builtin "iter") [.ref b, sent]) Q E s := by
  refine call_iter2 (N _ hm).1 (h _ _ (F.push _) (N.push F _) (allLt_of (fun p hp => Heap.lt_size (N p hp).1)))
end Mine
end

section
open PySem PySem.W PyProof.Rows PySem.Calls PyProof
set_option Elab.async false
set_option maxRecDepth 100000
set_option maxHeartbeats 8000000
set_option linter.unusedSimpArgs false
set_option linter.unusedVariables false
namespace Mine
example : True := by
  w_top off
  exact True.intro
example : (PySem.Challenge.rw_pe0171_01 = PySem.Challenge.rw_pe0171_01) ∧ hd.heap_1 = hd.heap_1 := by
  k_fill
  exact ⟨rfl, rfl⟩

set_option pp.deepTerms false
set_option pp.maxSteps 3000
local macro_rules | `(tactic| walk_at "call builtin:iter") => `(tactic| ((with_reducible show wpAny _ _ (PySem.call (Value.builtin "iter") [Value.ref _, Value.str _ _]) _ _ _); k_dflt (refine iter2_K (by k_asm) (by k_asm) (by k_mem) ?_); intro it' h' F' N' l1'; (try simp only [AllLt, and_true] at l1'); (try dsimp only)))

local macro_rules | `(tactic| walk_at "call ref") => `(tactic| ((dsimp only [List.cons_append, List.nil_append]); (with_reducible show wpAny _ _ (PySem.call (Value.ref 53) _) _ _ _); k_dflt (refine read_callG (by with_reducible assumption) (by with_reducible assumption) (by with_reducible assumption) (by with_reducible assumption) (by with_reducible assumption) (by with_reducible assumption) (by k_asm) (by assumption) (by simp only [depth_deeper]; omega) ?_); intro t' n' u' vs' ep' h' tk' okc' F' N'; (try dsimp only)))

theorem gtok_spec {w : World} {dp un : Nat} {fr : Option (List Env)} {gd : Option (List Code)} {s : Shared} {g : Heap} {p : Program} {loose : List Str} {mean : ExcName → Option Value} {mg mb : Str → Option Value} {a : LexA} {n : Int} {u : Tok} {pbe : Nat} {vs : List Value} {ep : Nat} {l tf rf : List Nat} {Q E : Value → Shared → Prop}
   (X : (hd.heap_1 w.params).In g) (T : Top p loose mean mg mb g) (kg : Keeps g s.heap) (ok : LexOk w g a) (hin : ∀ q ∈ a.objs w n u [] pbe vs ep, s.heap.get? q.1 = some q.2) (hc : CharsAre vs l) (hl : l.length ≤ 100) (hn0 : 0 ≤ n) (hn1 : n + (l.count 10 : Nat) ≤ 1000) (hout : Out l tf rf) (hroom : dp + 6 < recursionLimit)
   (hQ : ∀ (t : Tok) (n' : Int) (u' : Tok) (vs' : List Value) (ep' : Nat) (h' : Heap) (tk' : Nat), Keeps (hideAll s.heap a.addrs) h' → (∀ q ∈ a.objs w n' u' [] pbe vs' ep', h'.get? q.1 = some q.2) → CharsAre vs' rf → n' + (rf.count 10 : Nat) = n + (l.count 10 : Nat) → 0 ≤ n' → Q (.str (ofL tf) t) { s with heap := h', toks := tk' }) :
   wpAny (model theProg w) (Ar dp un fr gd) (PySem.call (.ref 60) [.ref a.lx]) Q E s := by
  k_dflt (refine' enter_raw (X.keeps kg) (T.keeps kg).nolimit ?ho ?hcd (show dp < recursionLimit by omega) (BindsTo.of_eq (binds := [(Str.ofString "self", .ref a.lx)]) ?hbind) (locs ?hloc) ?_ ?h1 ?h2 ?h3 ?hcell)
  case ho => k_is
  case hcd => k_is
  case hbind => exact rfl
  case hcell => decide
  case hloc => exact rfl
  case h1 => exact rfl
  case h2 => exact rfl
  case h3 => exact rfl
  k_dflt (intro L h₁ F' N')
  have kg2 : Keeps g (hideAll s.heap a.addrs) := keeps_hide kg ok.free
  have X2 := X.keeps kg2
  have T2 := T.keeps kg2
  have hltL : ∀ q ∈ a.addrs, @LT.lt Nat _ q L := by
    intro q hq
    obtain ⟨r, hr, e⟩ := List.mem_map.mp (show q ∈ (a.objs w n u [] pbe vs ep).map (·.1) from hq)
    rw [← e]
    exact Nat.lt_of_lt_of_le (Heap.lt_size (hin r hr)) F'.above
  obtain ⟨F, N⟩ := rebase _ F' N' hin
  rw [show (a.objs w n u [] pbe vs ep).map (·.1) = a.addrs from rfl] at F N
  clear F' N'
  generalize hH : hideAll s.heap a.addrs = H at *
  try dsimp only
  refine cut_at 3 (R := fun s' => ∃ it b ts tu, (it :: b :: a.addrs).Nodup ∧ At s H L [(Str.ofString "token", .str (ofL []) tu), (Str.ofString "self", .ref a.lx), (Str.ofString "fiter", .ref it)] ((it, callIt (.ref b) (.str (Str.ofString "") ts) false) :: (b, methodObj (.ref 53) (.ref a.lx)) :: a.objs w n u [] pbe vs ep) s') ?_ ?_
  · refine hide fun Qc Hc => ?_
    simp only [List.take_succ_cons, List.take_zero]
    simp only [LexA.objs, LexA.addrs, List.nil_append] at *
    k_steps
    rename_i lb it h5 lit h6 F2 N2
    exact Hc.out _ _ ⟨_, _, _, _, List.nodup_cons.mpr ⟨nin10 lit, List.nodup_cons.mpr ⟨nin9 lb, ok.apart⟩⟩, at_intro F2 N2 (by tb_start) (by tb_rel) (List.nodup_cons.mpr ⟨nin10 lit, List.nodup_cons.mpr ⟨nin9 lb, ok.apart⟩⟩)⟩
  clear F N h₁
  rintro s' ⟨it, b, ts, tu, hnd, hAt⟩
  simp only [List.drop_succ_cons, List.drop_zero]
  have hg53 : ∃ og fd, H.get? 53 = some og ∧ og.data = .func fd := ⟨_, _, X2 53 _ (by k_is), rfl⟩
  obtain ⟨og, fd, hg, hd⟩ := hg53
  have fin : ∀ (t : Tok) (c : GS) (h : Heap) (tk : Nat) (m : Str → Option Value), c.l = rf → c.Ok (n + (l.count 10 : Nat)) → Fr H L h m → (∀ q ∈ a.objs w c.n c.u [] pbe c.vs c.ep, h.get? q.1 = some q.2) → Q (.str (ofL tf) t) { s with heap := h, toks := tk } := by
    rintro t ⟨tok, l0, tu, u, n0, vs, ep⟩ h tk m e1 okc F N
    dsimp only at e1 N
    subst e1
    exact hQ t n0 u vs ep h tk F.keep N okc.chars okc.lines okc.low
  refine cut_at 1 (R := fun s' => ∃ c : GS, c.tok = tf ∧ c.l = rf ∧ c.Ok (n + (l.count 10 : Nat)) ∧ At s H L [(Str.ofString "token", .str (ofL tf) c.tu)] (a.objs w c.n c.u [] pbe c.vs c.ep) s') ?_ ?_
  · refine hide fun Qc Hc => ?_
    simp only [List.take_succ_cons, List.take_zero]
    refine wpAny_execs_cons ?_
    k_dflt (refine for_ci (s := s) (h₀ := H) (L := L) a it b ts pbe (n + (l.count 10 : Nat)) (fun c => c.tok = [] ∧ Out c.l tf rf) ⟨[], l, tu, u, n, vs, ep⟩ rfl (show dp + 1 + 4 < recursionLimit by omega) X T ok kg2 hg hd hnd rfl rfl rfl rfl ?iter ⟨rfl, hout⟩ ⟨hc, by simpa using hl, rfl, hn0, hn1⟩ ?turn ?done)
    case iter =>
      obtain ⟨h, tk, m, rfl, F, N, nd⟩ := hAt
      refine hide fun Qi Hi => ?_
      k_steps
      exact Hi.out _ _ ⟨rfl, h, _, m, rfl, F, N, nd⟩
    case done =>
      rintro ⟨tok, l, tu, u, n', vs, ep⟩ ⟨tok', l', tu', u', n', vs', ep'⟩ h tk m ⟨htok, ho⟩ okc el el' et etu ok' F N
      dsimp only at *
      subst htok el el' et etu
      cases ho
      refine wpAny_execs_nil ?_
      exact Hc.out _ _ ⟨⟨_, rfl, rfl, ok', at_intro F N (by tb_start) (by tb_rel) (List.nodup_cons.mp (List.nodup_cons.mp hnd).2).2⟩⟩
    case turn =>
      clear hAt hout hc hn0 hn1 hl tu
      rintro ⟨tok, l0, tu, u, n0, vs, ep⟩ ⟨tok', l1, tu', u', n1, vs', ep'⟩ ch r tch h tk m ⟨htok, ho⟩ okc el el' et etu ok' F N0
      dsimp only at htok ho el el' et etu F N0 ⊢
      subst htok el el' et etu
      refine hide fun Qt Ht => ?_
      rcases out_cases ho with ⟨rfl, ho2⟩ | ⟨rfl, ho2⟩ | ⟨d, r', ho2, hcs⟩
      all_goals clear ho
      ·
        refine wpAny_execs_cons ?_
        refine if_then (R := TurnR s H L w a it b ts pbe 10 tch ⟨[], l1, tu', u', n1, vs', ep'⟩) ?_ ?_
        · refine hide fun Qs Hs => ?_
          rw [show ofL [10] = Str.ofString "\n" from rfl] at F
          simp only [GS.own, LexA.objs, LexA.addrs, List.nil_append] at *
          k_steps
          exact Hs.out _ _ ⟨by decide +kernel, at_intro F N0 (by tb_start) (by tb_rel) hnd⟩
        · rintro s' ⟨h, tk, m, rfl, F, N0, -⟩
          k_steps
          exact Ht.out _ _ ⟨⟨_, by simp, ⟨rfl, ho2⟩, ok', at_intro F N0 (by tb_start) (fun q hq => hq) hnd⟩⟩
      ·
        refine wpAny_execs_cons ?_
        refine if_else (R := TurnR s H L w a it b ts pbe 34 tch ⟨[], l1, tu', u', n1, vs', ep'⟩) ?_ ?_
        · refine hide fun Qs Hs => ?_
          rw [show ofL [34] = Str.ofString "\"" from rfl] at F
          simp only [GS.own, LexA.objs, LexA.addrs, List.nil_append] at *
          k_steps
          exact Hs.out _ _ ⟨by decide +kernel, at_intro F N0 (by tb_start) (by tb_rel) hnd⟩
        clear F N0
        rintro s' ⟨h, tk, m, rfl, F, N0, -⟩
        refine wpAny_execs_nil ?_
        dsimp only
        refine wpAny_execs_cons ?_
        refine if_then (R := TurnR s H L w a it b ts pbe 34 tch ⟨[], l1, tu', u', n1, vs', ep'⟩) ?_ ?_
        · refine hide fun Qs Hs => ?_
          rw [show ofL [34] = Str.ofString "\"" from rfl] at F
          k_steps
          exact Hs.out _ _ ⟨by decide +kernel, at_intro F N0 (by tb_start) (fun q hq => hq) hnd⟩
        clear F N0
        rintro s' hAt
        refine wpAny_execs_cons ?_
        k_dflt (refine for_ci (s := s) (h₀ := H) (L := L) a it b ts pbe (n + (l.count 10 : Nat)) (fun c => Quo c.l c.tok tf rf) ⟨[], l1, tu', u', n1, vs', ep'⟩ rfl (show dp + 1 + 4 < recursionLimit by omega) X T ok kg2 hg hd hnd rfl rfl rfl rfl ?iter ho2 ok' ?turn ?done)
        case iter =>
          obtain ⟨h, tk, m, rfl, F, N, nd⟩ := hAt
          refine hide fun Qi Hi => ?_
          k_steps
          exact Hi.out _ _ ⟨rfl, at_intro F N (by tb_start) (fun q hq => hq) nd⟩
        case done =>
          rintro ⟨tok, l, tu, u, n', vs, ep⟩ c' h tk m ho3 okc el
          dsimp only at ho3 el
          subst el
          cases ho3
        case turn =>
          clear hAt ho2 ok' okc
          rintro ⟨tok, l0, tu, u, n0, vs, ep⟩ ⟨tok', l2, tu2, u2, n2, vs2, ep2⟩ ch r tch h tk m ho okc el el' et etu ok' F N0
          dsimp only at ho el el' et etu F N0 ⊢
          subst el el' et etu
          have hsm := okc.small
          simp only [List.length_cons] at hsm
          clear okc
          refine hide fun Qu Hu => ?_
          rcases quo_cases ho with ⟨rfl, e1, e2⟩ | ⟨d, r', ho2, hcs⟩
          all_goals clear ho
          · refine wpAny_execs_cons ?_
            refine if_then (R := TurnR s H L w a it b ts pbe 34 tch ⟨tok', l2, tu2, u2, n2, vs2, ep2⟩) ?_ ?_
            · refine hide fun Qs Hs => ?_
              rw [show ofL [34] = Str.ofString "\"" from rfl] at F
              k_steps
              exact Hs.out _ _ ⟨by decide +kernel, at_intro F N0 (by tb_start) (fun q hq => hq) hnd⟩
            clear F N0
            rintro s' ⟨h, tk, m, rfl, F, N0, -⟩
            k_steps
            refine Hu.out _ _ (Ht.out _ _ (Hc.out _ _ ?_))
            dsimp only
            have := fin tu2 ⟨tok', l2, tu2, u2, n2, vs2, ep2⟩ h tk _ e2 ok' F (fun q hq => (N0 q (.tail _ (.tail _ hq))).1)
            rw [← e1] at this
            exact this
          · rcases hcs with ⟨rfl, rfl, rfl⟩ | ⟨rfl, rfl, rfl⟩ | ⟨rfl, rfl, rfl⟩
            · refine wpAny_execs_cons ?_
              refine if_else (R := TurnR s H L w a it b ts pbe 92 tch ⟨tok', 34 :: r', tu2, u2, n2, vs2, ep2⟩) ?_ ?_
              · refine hide fun Qs Hs => ?_
                rw [show ofL [92] = Str.ofString "\\" from rfl] at F
                k_steps
                exact Hs.out _ _ ⟨by decide +kernel, at_intro F N0 (by tb_start) (fun q hq => hq) hnd⟩
              clear F N0
              rintro s' ⟨h, tk, m, rfl, F, N0, -⟩
              refine wpAny_execs_cons ?_
              refine if_then (R := TurnR s H L w a it b ts pbe 92 tch ⟨tok', 34 :: r', tu2, u2, n2, vs2, ep2⟩) ?_ ?_
              · refine hide fun Qs Hs => ?_
                rw [show ofL [92] = Str.ofString "\\" from rfl] at F
                k_steps
                exact Hs.out _ _ ⟨by decide +kernel, at_intro F N0 (by tb_start) (fun q hq => hq) hnd⟩
              clear F N0
              rintro s' ⟨h, tk, m, rfl, F, N0, -⟩
              have lt := ofL_length tok'
              have lt1 := ofL_length [34]
              k_steps
              rename Fr _ _ _ _ => F2
              rename News _ _ _ _ => N2
              rename GS.Ok _ _ => ok3
              simp only [ofL_append] at F2
              simp only [List.length_cons] at hsm
              exact Hu.out _ _ ⟨⟨tok' ++ [34], r', _, _, _, _, _⟩, by simp only [List.length_cons]; omega, ho2, ok3.add (by omega), at_intro F2 N2 (by tb_start) (fun q hq => hq) hnd⟩
            · refine wpAny_execs_cons ?_
              refine if_else (R := TurnR s H L w a it b ts pbe 97 tch ⟨tok', l2, tu2, u2, n2, vs2, ep2⟩) ?_ ?_
              · refine hide fun Qs Hs => ?_
                rw [show ofL [97] = Str.ofString "a" from rfl] at F
                k_steps
                exact Hs.out _ _ ⟨by decide +kernel, at_intro F N0 (by tb_start) (fun q hq => hq) hnd⟩
              clear F N0
              rintro s' ⟨h, tk, m, rfl, F, N0, -⟩
              refine wpAny_execs_cons ?_
              refine if_else (R := TurnR s H L w a it b ts pbe 97 tch ⟨tok', l2, tu2, u2, n2, vs2, ep2⟩) ?_ ?_
              · refine hide fun Qs Hs => ?_
                rw [show ofL [97] = Str.ofString "a" from rfl] at F
                k_steps
                exact Hs.out _ _ ⟨by decide +kernel, at_intro F N0 (by tb_start) (fun q hq => hq) hnd⟩
              clear F N0
              rintro s' ⟨h, tk, m, rfl, F, N0, -⟩
              have lt := ofL_length tok'
              have lt1 := ofL_length [97]
              refine wpAny_execs_nil ?_
              dsimp only
              refine wpAny_execs_nil ?_
              dsimp only
              k_steps
              rename Fr _ _ _ _ => F2
              rename News _ _ _ _ => N2
              simp only [ofL_append] at F2
              exact Hu.out _ _ ⟨⟨tok' ++ [97], l2, _, u2, n2, vs2, ep2⟩, by simp, ho2, ok'.add (by omega), at_intro F2 N2 (by tb_start) (fun q hq => hq) hnd⟩
            · refine wpAny_execs_cons ?_
              refine if_else (R := TurnR s H L w a it b ts pbe 65 tch ⟨tok', l2, tu2, u2, n2, vs2, ep2⟩) ?_ ?_
              · refine hide fun Qs Hs => ?_
                rw [show ofL [65] = Str.ofString "A" from rfl] at F
                k_steps
                exact Hs.out _ _ ⟨by decide +kernel, at_intro F N0 (by tb_start) (fun q hq => hq) hnd⟩
              clear F N0
              rintro s' ⟨h, tk, m, rfl, F, N0, -⟩
              refine wpAny_execs_cons ?_
              refine if_else (R := TurnR s H L w a it b ts pbe 65 tch ⟨tok', l2, tu2, u2, n2, vs2, ep2⟩) ?_ ?_
              · refine hide fun Qs Hs => ?_
                rw [show ofL [65] = Str.ofString "A" from rfl] at F
                k_steps
                exact Hs.out _ _ ⟨by decide +kernel, at_intro F N0 (by tb_start) (fun q hq => hq) hnd⟩
              clear F N0
              rintro s' ⟨h, tk, m, rfl, F, N0, -⟩
              have lt := ofL_length tok'
              have lt1 := ofL_length [65]
              refine wpAny_execs_nil ?_
              dsimp only
              refine wpAny_execs_nil ?_
              dsimp only
              k_steps
              rename Fr _ _ _ _ => F2
              rename News _ _ _ _ => N2
              simp only [ofL_append] at F2
              exact Hu.out _ _ ⟨⟨tok' ++ [65], l2, _, u2, n2, vs2, ep2⟩, by simp, ho2, ok'.add (by omega), at_intro F2 N2 (by tb_start) (fun q hq => hq) hnd⟩
      ·
        refine wpAny_execs_cons ?_
        refine if_else (R := TurnR s H L w a it b ts pbe ch tch ⟨[], l1, tu', u', n1, vs', ep'⟩) ?_ ?_
        · rcases hcs with ⟨rfl, rfl, rfl⟩ | ⟨rfl, rfl, rfl⟩ | ⟨rfl, rfl, rfl⟩
          · refine hide fun Qs Hs => ?_
            rw [show ofL [92] = Str.ofString "\\" from rfl] at F
            simp only [GS.own, LexA.objs, LexA.addrs, List.nil_append] at *
            k_steps
            exact Hs.out _ _ ⟨by decide +kernel, at_intro F N0 (by tb_start) (by tb_rel) hnd⟩
          · refine hide fun Qs Hs => ?_
            rw [show ofL [97] = Str.ofString "a" from rfl] at F
            simp only [GS.own, LexA.objs, LexA.addrs, List.nil_append] at *
            k_steps
            exact Hs.out _ _ ⟨by decide +kernel, at_intro F N0 (by tb_start) (by tb_rel) hnd⟩
          · refine hide fun Qs Hs => ?_
            rw [show ofL [65] = Str.ofString "A" from rfl] at F
            simp only [GS.own, LexA.objs, LexA.addrs, List.nil_append] at *
            k_steps
            exact Hs.out _ _ ⟨by decide +kernel, at_intro F N0 (by tb_start) (by tb_rel) hnd⟩
        clear F N0
        rintro s' ⟨h, tk, m, rfl, F, N0, -⟩
        refine wpAny_execs_nil ?_
        dsimp only
        refine wpAny_execs_cons ?_
        refine if_else (R := TurnR s H L w a it b ts pbe ch tch ⟨[], l1, tu', u', n1, vs', ep'⟩) ?_ ?_
        · rcases hcs with ⟨rfl, rfl, rfl⟩ | ⟨rfl, rfl, rfl⟩ | ⟨rfl, rfl, rfl⟩
          · refine hide fun Qs Hs => ?_
            rw [show ofL [92] = Str.ofString "\\" from rfl] at F
            k_steps
            exact Hs.out _ _ ⟨by decide +kernel, at_intro F N0 (by tb_start) (fun q hq => hq) hnd⟩
          · refine hide fun Qs Hs => ?_
            rw [show ofL [97] = Str.ofString "a" from rfl] at F
            k_steps
            exact Hs.out _ _ ⟨by decide +kernel, at_intro F N0 (by tb_start) (fun q hq => hq) hnd⟩
          · refine hide fun Qs Hs => ?_
            rw [show ofL [65] = Str.ofString "A" from rfl] at F
            k_steps
            exact Hs.out _ _ ⟨by decide +kernel, at_intro F N0 (by tb_start) (fun q hq => hq) hnd⟩
        clear F N0
        have hsm := okc.small
        simp only [List.length_cons, List.length_nil] at hsm
        rintro s' ⟨h, tk, m, rfl, F, N0, -⟩
        refine cut_at 2 (R := fun s' => ∃ c : GS, Bare c.l c.tok tf rf ∧ c.Ok (n + (l.count 10 : Nat)) ∧ At s H L (c.ps a it) (c.own w a b it ts pbe) s') ?_ ?_
        · refine hide fun Qc Hc => ?_
          simp only [List.take_succ_cons, List.take_zero]
          clear okc
          rcases hcs with ⟨rfl, rfl, rfl⟩ | ⟨rfl, rfl, rfl⟩ | ⟨rfl, rfl, rfl⟩
          · refine wpAny_execs_cons ?_
            refine if_then (R := TurnR s H L w a it b ts pbe 92 tch ⟨[], 34 :: r', tu', u', n1, vs', ep'⟩) ?_ ?_
            · refine hide fun Qs Hs => ?_
              rw [show ofL [92] = Str.ofString "\\" from rfl] at F
              k_steps
              exact Hs.out _ _ ⟨by decide +kernel, at_intro F N0 (by tb_start) (fun q hq => hq) hnd⟩
            clear F N0
            rintro s' ⟨h, tk, m, rfl, F, N0, -⟩
            have lt := ofL_length []
            have lt1 := ofL_length [34]
            k_steps
            rename Fr _ _ _ _ => F2
            rename News _ _ _ _ => N2
            rename GS.Ok _ _ => ok3
            simp only [ofL_append] at F2
            simp only [List.length_cons] at hsm
            exact Hc.out _ _ ⟨⟨[] ++ [34], r', _, _, _, _, _⟩, ho2, ok3.add (by simp only [List.length_nil]; omega), at_intro F2 N2 (by tb_start) (fun q hq => hq) hnd⟩
          · refine wpAny_execs_cons ?_
            refine if_else (R := TurnR s H L w a it b ts pbe 97 tch ⟨[], l1, tu', u', n1, vs', ep'⟩) ?_ ?_
            · refine hide fun Qs Hs => ?_
              rw [show ofL [97] = Str.ofString "a" from rfl] at F
              k_steps
              exact Hs.out _ _ ⟨by decide +kernel, at_intro F N0 (by tb_start) (fun q hq => hq) hnd⟩
            clear F N0
            rintro s' ⟨h, tk, m, rfl, F, N0, -⟩
            have lt := ofL_length []
            have lt1 := ofL_length [97]
            refine wpAny_execs_nil ?_
            dsimp only
            k_steps
            rename Fr _ _ _ _ => F2
            rename News _ _ _ _ => N2
            simp only [ofL_append] at F2
            exact Hc.out _ _ ⟨⟨[] ++ [97], l1, _, u', n1, vs', ep'⟩, ho2, ok'.add (by simp only [List.length_nil]; omega), at_intro F2 N2 (by tb_start) (fun q hq => hq) hnd⟩
          · refine wpAny_execs_cons ?_
            refine if_else (R := TurnR s H L w a it b ts pbe 65 tch ⟨[], l1, tu', u', n1, vs', ep'⟩) ?_ ?_
            · refine hide fun Qs Hs => ?_
              rw [show ofL [65] = Str.ofString "A" from rfl] at F
              k_steps
              exact Hs.out _ _ ⟨by decide +kernel, at_intro F N0 (by tb_start) (fun q hq => hq) hnd⟩
            clear F N0
            rintro s' ⟨h, tk, m, rfl, F, N0, -⟩
            have lt := ofL_length []
            have lt1 := ofL_length [65]
            refine wpAny_execs_nil ?_
            dsimp only
            k_steps
            rename Fr _ _ _ _ => F2
            rename News _ _ _ _ => N2
            simp only [ofL_append] at F2
            exact Hc.out _ _ ⟨⟨[] ++ [65], l1, _, u', n1, vs', ep'⟩, ho2, ok'.add (by simp only [List.length_nil]; omega), at_intro F2 N2 (by tb_start) (fun q hq => hq) hnd⟩
        clear F N0 hsm okc
        rintro s' ⟨c0, hb0, okc0, hAt⟩
        simp only [List.drop_succ_cons, List.drop_zero]
        refine wpAny_execs_cons ?_
        k_dflt (refine for_ci (s := s) (h₀ := H) (L := L) a it b ts pbe (n + (l.count 10 : Nat)) (fun c => Bare c.l c.tok tf rf) c0 rfl (show dp + 1 + 4 < recursionLimit by omega) X T ok kg2 hg hd hnd rfl rfl rfl rfl ?iter hb0 okc0 ?turn ?done)
        case iter =>
          obtain ⟨h, tk, m, rfl, F, N, nd⟩ := hAt
          refine hide fun Qi Hi => ?_
          k_steps
          exact Hi.out _ _ ⟨rfl, at_intro F N (by tb_start) (fun q hq => hq) nd⟩
        case done =>
          rintro ⟨tok, l, tu, u, n', vs, ep⟩ c' h tk m ho3 okc el
          dsimp only at ho3 el
          subst el
          cases ho3
        case turn =>
          clear hAt ho2 ok' hcs hb0 okc0 c0
          rintro ⟨tok, l0, tu, u, n0, vs, ep⟩ ⟨tok', l2, tu2, u2, n2, vs2, ep2⟩ ch r tch h tk m ho okc el el' et etu ok' F N0
          dsimp only at ho el el' et etu F N0 ⊢
          subst el el' et etu
          have hsm := okc.small
          simp only [List.length_cons] at hsm
          clear okc
          refine hide fun Qu Hu => ?_
          rcases bare_cases ho with ⟨rfl, e1, e2⟩ | ⟨d, r', ho2, hcs⟩
          all_goals clear ho
          · refine wpAny_execs_cons ?_
            refine if_then (R := TurnR s H L w a it b ts pbe 10 tch ⟨tok', l2, tu2, u2, n2, vs2, ep2⟩) ?_ ?_
            · refine hide fun Qs Hs => ?_
              rw [show ofL [10] = Str.ofString "\n" from rfl] at F
              simp only [GS.own, LexA.objs, LexA.addrs, List.nil_append] at *
              k_steps
              exact Hs.out _ _ ⟨by decide +kernel, at_intro F N0 (by tb_start) (by tb_rel) hnd⟩
            clear F N0
            rintro s' ⟨h, tk, m, rfl, F, N0, -⟩
            k_steps
            refine Hu.out _ _ (Ht.out _ _ (Hc.out _ _ ?_))
            dsimp only
            have := fin tu2 ⟨tok', l2, tu2, u2, n2, vs2, ep2⟩ h tk _ e2 ok' F (fun q hq => (N0 q (.tail _ (.tail _ hq))).1)
            rw [← e1] at this
            exact this
          · rcases hcs with ⟨rfl, rfl, rfl⟩ | ⟨rfl, rfl, rfl⟩ | ⟨rfl, rfl, rfl⟩
            · refine wpAny_execs_cons ?_
              refine if_else (R := TurnR s H L w a it b ts pbe 92 tch ⟨tok', 34 :: r', tu2, u2, n2, vs2, ep2⟩) ?_ ?_
              · refine hide fun Qs Hs => ?_
                rw [show ofL [92] = Str.ofString "\\" from rfl] at F
                simp only [GS.own, LexA.objs, LexA.addrs, List.nil_append] at *
                k_steps
                exact Hs.out _ _ ⟨by decide +kernel, at_intro F N0 (by tb_start) (by tb_rel) hnd⟩
              clear F N0
              rintro s' ⟨h, tk, m, rfl, F, N0, -⟩
              refine wpAny_execs_cons ?_
              refine if_then (R := TurnR s H L w a it b ts pbe 92 tch ⟨tok', 34 :: r', tu2, u2, n2, vs2, ep2⟩) ?_ ?_
              · refine hide fun Qs Hs => ?_
                rw [show ofL [92] = Str.ofString "\\" from rfl] at F
                k_steps
                exact Hs.out _ _ ⟨by decide +kernel, at_intro F N0 (by tb_start) (fun q hq => hq) hnd⟩
              clear F N0
              rintro s' ⟨h, tk, m, rfl, F, N0, -⟩
              have lt := ofL_length tok'
              have lt1 := ofL_length [34]
              k_steps
              rename Fr _ _ _ _ => F2
              rename News _ _ _ _ => N2
              rename GS.Ok _ _ => ok3
              simp only [ofL_append] at F2
              simp only [List.length_cons] at hsm
              exact Hu.out _ _ ⟨⟨tok' ++ [34], r', _, _, _, _, _⟩, by simp only [List.length_cons]; omega, ho2, ok3.add (by omega), at_intro F2 N2 (by tb_start) (fun q hq => hq) hnd⟩
            · refine wpAny_execs_cons ?_
              refine if_else (R := TurnR s H L w a it b ts pbe 97 tch ⟨tok', l2, tu2, u2, n2, vs2, ep2⟩) ?_ ?_
              · refine hide fun Qs Hs => ?_
                rw [show ofL [97] = Str.ofString "a" from rfl] at F
                simp only [GS.own, LexA.objs, LexA.addrs, List.nil_append] at *
                k_steps
                exact Hs.out _ _ ⟨by decide +kernel, at_intro F N0 (by tb_start) (by tb_rel) hnd⟩
              clear F N0
              rintro s' ⟨h, tk, m, rfl, F, N0, -⟩
              refine wpAny_execs_cons ?_
              refine if_else (R := TurnR s H L w a it b ts pbe 97 tch ⟨tok', l2, tu2, u2, n2, vs2, ep2⟩) ?_ ?_
              · refine hide fun Qs Hs => ?_
                rw [show ofL [97] = Str.ofString "a" from rfl] at F
                k_steps
                exact Hs.out _ _ ⟨by decide +kernel, at_intro F N0 (by tb_start) (fun q hq => hq) hnd⟩
              clear F N0
              rintro s' ⟨h, tk, m, rfl, F, N0, -⟩
              have lt := ofL_length tok'
              have lt1 := ofL_length [97]
              refine wpAny_execs_nil ?_
              dsimp only
              refine wpAny_execs_nil ?_
              dsimp only
              k_steps
              rename Fr _ _ _ _ => F2
              rename News _ _ _ _ => N2
              simp only [ofL_append] at F2
              exact Hu.out _ _ ⟨⟨tok' ++ [97], l2, _, u2, n2, vs2, ep2⟩, by simp, ho2, ok'.add (by omega), at_intro F2 N2 (by tb_start) (fun q hq => hq) hnd⟩
            · refine wpAny_execs_cons ?_
              refine if_else (R := TurnR s H L w a it b ts pbe 65 tch ⟨tok', l2, tu2, u2, n2, vs2, ep2⟩) ?_ ?_
              · refine hide fun Qs Hs => ?_
                rw [show ofL [65] = Str.ofString "A" from rfl] at F
                simp only [GS.own, LexA.objs, LexA.addrs, List.nil_append] at *
                k_steps
                exact Hs.out _ _ ⟨by decide +kernel, at_intro F N0 (by tb_start) (by tb_rel) hnd⟩
              clear F N0
              rintro s' ⟨h, tk, m, rfl, F, N0, -⟩
              refine wpAny_execs_cons ?_
              refine if_else (R := TurnR s H L w a it b ts pbe 65 tch ⟨tok', l2, tu2, u2, n2, vs2, ep2⟩) ?_ ?_
              · refine hide fun Qs Hs => ?_
                rw [show ofL [65] = Str.ofString "A" from rfl] at F
                k_steps
                exact Hs.out _ _ ⟨by decide +kernel, at_intro F N0 (by tb_start) (fun q hq => hq) hnd⟩
              clear F N0
              rintro s' ⟨h, tk, m, rfl, F, N0, -⟩
              have lt := ofL_length tok'
              have lt1 := ofL_length [65]
              refine wpAny_execs_nil ?_
              dsimp only
              refine wpAny_execs_nil ?_
              dsimp only
              k_steps
              rename Fr _ _ _ _ => F2
              rename News _ _ _ _ => N2
              simp only [ofL_append] at F2
              exact Hu.out _ _ ⟨⟨tok' ++ [65], l2, _, u2, n2, vs2, ep2⟩, by simp, ho2, ok'.add (by omega), at_intro F2 N2 (by tb_start) (fun q hq => hq) hnd⟩
  rintro s' ⟨c, e1, e2, okc, hAt⟩
  simp only [List.drop_succ_cons, List.drop_zero]
  obtain ⟨h, tk, m, rfl, F, N, nd⟩ := hAt
  k_steps
  dsimp only
  exact fin _ c h tk _ e2 okc F (fun q hq => (N q hq).1)
end Mine
end

section
open PySem PySem.W PyProof.Rows PySem.Calls PyProof
set_option Elab.async false
set_option maxRecDepth 100000
set_option maxHeartbeats 8000000
set_option linter.unusedSimpArgs false
set_option linter.unusedVariables false
namespace Mine
example : True := by
  w_top off
  exact True.intro
example : (PySem.Challenge.rw_pe0171_01 = PySem.Challenge.rw_pe0171_01) ∧ hd.heap_1 = hd.heap_1 := by
  k_fill
  exact ⟨rfl, rfl⟩

set_option pp.deepTerms false
set_option pp.maxSteps 3000

theorem push_spec {w : World} {dp un : Nat} {fr : Option (List Env)} {gd : Option (List Code)} {s : Shared} {g : Heap} {p : Program} {loose : List Str} {mean : ExcName → Option Value} {mg mb : Str → Option Value} {a : LexA} {n : Int} {u : Tok} {pbe : Nat} {vs : List Value} {ep : Nat} {v : Value} {Q E : Value → Shared → Prop}
   (X : (hd.heap_1 w.params).In g) (T : Top p loose mean mg mb g) (kg : Keeps g s.heap) (ok : LexOk w g a) (hin : ∀ q ∈ a.objs w n u [] pbe vs ep, s.heap.get? q.1 = some q.2) (hroom : dp + 2 < recursionLimit)
   (hQ : ∀ (pbe' : Nat) (h' : Heap) (tk' : Nat), Keeps (hideAll s.heap a.addrs) h' → (∀ q ∈ a.objs w n u [v] pbe' vs ep, h'.get? q.1 = some q.2) → Q .none { s with heap := h', toks := tk' }) :
   wpAny (model theProg w) (Ar dp un fr gd) (PySem.call (.ref 67) [.ref a.lx, v]) Q E s := by
  k_dflt (refine' enter_raw (X.keeps kg) (T.keeps kg).nolimit ?ho ?hcd (show dp < recursionLimit by omega) (BindsTo.of_eq (binds := [(Str.ofString "self", .ref a.lx), (Str.ofString "token", v)]) ?hbind) (locs ?hloc) ?_ ?h1 ?h2 ?h3 ?hcell)
  case ho => k_is
  case hcd => k_is
  case hbind => exact rfl
  case hcell => decide
  case hloc => exact rfl
  case h1 => exact rfl
  case h2 => exact rfl
  case h3 => exact rfl
  k_dflt (intro L h₁ F' N')
  have kg2 : Keeps g (hideAll s.heap a.addrs) := keeps_hide kg ok.free
  have X2 := X.keeps kg2
  have T2 := T.keeps kg2
  obtain ⟨F, N⟩ := rebase _ F' N' hin
  rw [show (a.objs w n u [] pbe vs ep).map (·.1) = a.addrs from rfl] at F N
  clear F' N'
  refine small fun Gx hGx => ?_
  obtain ⟨⟨x1, x2, x3, x4, x5, x6, x7, x8⟩, ⟨y1, y2, y3, y4, y5, y6, y7⟩, ⟨z1, z2, z3, z4, z5, z6⟩, ⟨v1, v2, v3, v4, v5⟩⟩ := lexN ok.apart
  refine hGx ?_
  clear hGx Gx
  generalize hH : hideAll s.heap a.addrs = H at *
  simp only [LexA.objs, LexA.addrs, List.nil_append] at *
  k_steps
  rename Fr _ _ _ _ => F2
  rename News _ _ _ _ => N2
  exact hQ _ _ _ F2.keep (fun q hq => (N2 q hq).1)

theorem gpop_spec {w : World} {dp un : Nat} {fr : Option (List Env)} {gd : Option (List Code)} {s : Shared} {g : Heap} {p : Program} {loose : List Str} {mean : ExcName → Option Value} {mg mb : Str → Option Value} {a : LexA} {n : Int} {u : Tok} {pbe : Nat} {vs : List Value} {ep : Nat} {x : Str} {t : Tok} {Q E : Value → Shared → Prop}
   (X : (hd.heap_1 w.params).In g) (T : Top p loose mean mg mb g) (kg : Keeps g s.heap) (ok : LexOk w g a) (hin : ∀ q ∈ a.objs w n u [.str x t] pbe vs ep, s.heap.get? q.1 = some q.2) (hroom : dp + 2 < recursionLimit)
   (hQ : ∀ (pbe' : Nat) (h' : Heap) (tk' : Nat), Keeps (hideAll s.heap a.addrs) h' → (∀ q ∈ a.objs w n u [] pbe' vs ep, h'.get? q.1 = some q.2) → Q (.str x t) { s with heap := h', toks := tk' }) :
   wpAny (model theProg w) (Ar dp un fr gd) (PySem.call (.ref 60) [.ref a.lx]) Q E s := by
  k_dflt (refine' enter_raw (X.keeps kg) (T.keeps kg).nolimit ?ho ?hcd (show dp < recursionLimit by omega) (BindsTo.of_eq (binds := [(Str.ofString "self", .ref a.lx)]) ?hbind) (locs ?hloc) ?_ ?h1 ?h2 ?h3 ?hcell)
  case ho => k_is
  case hcd => k_is
  case hbind => exact rfl
  case hcell => decide
  case hloc => exact rfl
  case h1 => exact rfl
  case h2 => exact rfl
  case h3 => exact rfl
  k_dflt (intro L h₁ F' N')
  have kg2 : Keeps g (hideAll s.heap a.addrs) := keeps_hide kg ok.free
  have X2 := X.keeps kg2
  have T2 := T.keeps kg2
  obtain ⟨F, N⟩ := rebase _ F' N' hin
  rw [show (a.objs w n u [.str x t] pbe vs ep).map (·.1) = a.addrs from rfl] at F N
  clear F' N'
  refine small fun Gx hGx => ?_
  obtain ⟨⟨x1, x2, x3, x4, x5, x6, x7, x8⟩, ⟨y1, y2, y3, y4, y5, y6, y7⟩, ⟨z1, z2, z3, z4, z5, z6⟩, ⟨v1, v2, v3, v4, v5⟩⟩ := lexN ok.apart
  refine hGx ?_
  clear hGx Gx
  generalize hH : hideAll s.heap a.addrs = H at *
  simp only [LexA.objs, LexA.addrs, List.nil_append] at *
  k_steps
  rename Fr _ _ _ _ => F2
  rename News _ _ _ _ => N2
  exact hQ _ _ _ F2.keep (fun q hq => (N2 q hq).1)
end Mine
end

section
open PySem PySem.W PyProof.Rows PySem.Calls PyProof
set_option Elab.async false
set_option maxRecDepth 100000
set_option maxHeartbeats 4000000
set_option linter.unusedVariables false
set_option linter.unusedSimpArgs false
namespace Mine
section
variable {w : World} {dp un : Nat} {fr : Option (List Env)} {gd : Option (List Code)} {s : Shared} {g h₀ : Heap} {L : Addr} {m : Str → Option Value} {news : List (Addr × Obj)} {p : Program} {loose : List Str} {mean : ExcName → Option Value} {mg mb : Str → Option Value} {a : LexA} {n : Int} {u : Tok} {pbe : Nat} {vs : List Value} {ep : Nat} {Q E : Value → Shared → Prop}
theorem gtok_call {l tf rf : List Nat} (rest : List (Addr × Obj)) (ok : LexOk w g a) (X : (hd.heap_1 w.params).In g) (T : Top p loose mean mg mb g) (kg : Keeps g h₀) (F : Fr h₀ L s.heap m) (N : News h₀ L s.heap news) (hin : ∀ q ∈ a.objs w n u [] pbe vs ep, q ∈ news) (hr : ∀ q ∈ rest, q ∈ news) (hoff : ∀ r ∈ rest, r.1 ∉ a.addrs)
   (hc : CharsAre vs l) (hl : l.length ≤ 100) (hn0 : 0 ≤ n) (hn1 : n + (l.count 10 : Nat) ≤ 1000) (hout : Out l tf rf) (hroom : dp + 6 < recursionLimit)
   (hQ : ∀ (t : Tok) (n' : Int) (u' : Tok) (vs' : List Value) (ep' : Nat) (h' : Heap) (tk' : Nat), Fr h₀ L h' m → News h₀ L h' (a.objs w n' u' [] pbe vs' ep' ++ rest) → CharsAre vs' rf → n' + (rf.count 10 : Nat) = n + (l.count 10 : Nat) → 0 ≤ n' → Q (.str (ofL tf) t) { s with heap := h', toks := tk' }) :
   wpAny (model theProg w) (Ar dp un fr gd) (PySem.call (.ref 60) [.ref a.lx]) Q E s := by
  refine gtok_spec X T (fun b o e => F.keep b o (kg b o e)) ok (fun q hq => (N q (hin q hq)).1) hc hl hn0 hn1 hout hroom fun t n' u' vs' ep' h' tk' kp ho hc' hn' h0' => ?_
  obtain ⟨F', N'⟩ := own_back (own := a.objs w n u [] pbe vs ep) (own' := a.objs w n' u' [] pbe vs' ep') (rest := rest) F (fun q hq => (List.mem_append.mp hq).elim (fun h => N q (hin q h)) (fun h => N q (hr q h))) rfl kp ho hoff
  exact hQ t n' u' vs' ep' h' tk' F' N' hc' hn' h0'
theorem push_call {v : Value} (rest : List (Addr × Obj)) (ok : LexOk w g a) (X : (hd.heap_1 w.params).In g) (T : Top p loose mean mg mb g) (kg : Keeps g h₀) (F : Fr h₀ L s.heap m) (N : News h₀ L s.heap news) (hin : ∀ q ∈ a.objs w n u [] pbe vs ep, q ∈ news) (hr : ∀ q ∈ rest, q ∈ news) (hoff : ∀ r ∈ rest, r.1 ∉ a.addrs) (hroom : dp + 2 < recursionLimit)
   (hQ : ∀ (pbe' : Nat) (h' : Heap) (tk' : Nat), Fr h₀ L h' m → News h₀ L h' (a.objs w n u [v] pbe' vs ep ++ rest) → Q .none { s with heap := h', toks := tk' }) :
   wpAny (model theProg w) (Ar dp un fr gd) (PySem.call (.ref 67) [.ref a.lx, v]) Q E s := by
  refine push_spec X T (fun b o e => F.keep b o (kg b o e)) ok (fun q hq => (N q (hin q hq)).1) hroom fun pbe' h' tk' kp ho => ?_
  obtain ⟨F', N'⟩ := own_back (own := a.objs w n u [] pbe vs ep) (own' := a.objs w n u [v] pbe' vs ep) (rest := rest) F (fun q hq => (List.mem_append.mp hq).elim (fun h => N q (hin q h)) (fun h => N q (hr q h))) rfl kp ho hoff
  exact hQ pbe' h' tk' F' N'
theorem gpop_call {x : Str} {t : Tok} (rest : List (Addr × Obj)) (ok : LexOk w g a) (X : (hd.heap_1 w.params).In g) (T : Top p loose mean mg mb g) (kg : Keeps g h₀) (F : Fr h₀ L s.heap m) (N : News h₀ L s.heap news) (hin : ∀ q ∈ a.objs w n u [.str x t] pbe vs ep, q ∈ news) (hr : ∀ q ∈ rest, q ∈ news) (hoff : ∀ r ∈ rest, r.1 ∉ a.addrs) (hroom : dp + 2 < recursionLimit)
   (hQ : ∀ (pbe' : Nat) (h' : Heap) (tk' : Nat), Fr h₀ L h' m → News h₀ L h' (a.objs w n u [] pbe' vs ep ++ rest) → Q (.str x t) { s with heap := h', toks := tk' }) :
   wpAny (model theProg w) (Ar dp un fr gd) (PySem.call (.ref 60) [.ref a.lx]) Q E s := by
  refine gpop_spec X T (fun b o e => F.keep b o (kg b o e)) ok (fun q hq => (N q (hin q hq)).1) hroom fun pbe' h' tk' kp ho => ?_
  obtain ⟨F', N'⟩ := own_back (own := a.objs w n u [.str x t] pbe vs ep) (own' := a.objs w n u [] pbe' vs ep) (rest := rest) F (fun q hq => (List.mem_append.mp hq).elim (fun h => N q (hin q h)) (fun h => N q (hr q h))) rfl kp ho hoff
  exact hQ pbe' h' tk' F' N'

theorem ask_call {x y : List Nat} {t1 t2 : Tok} {tl0 : List (Addr × Obj)} (rest : List (Addr × Obj)) (X : (hd.heap_1 w.params).In h₀) (T : Top p loose mean mg mb h₀) (C : CodeHd h₀ 116 112) (F : Fr h₀ L s.heap m) (N : News h₀ L s.heap news) (htl : TabL tl0) (hin : ∀ q ∈ tl0, q ∈ news) (hm112 : ∃ o, (112, o) ∈ tl0) (hr : ∀ q ∈ rest, q ∈ news) (hne : ∀ q ∈ rest, q.1 ≠ 112)
   (hroom : dp + 4 < recursionLimit) (h1 : x.length ≤ 4) (h2 : y.length ≤ 4)
   (hQ : ∀ (l : Addr) (vs : List Value) (ep : Nat) (c : Addr) (oc : Obj) (h' : Heap) (tk' : Nat), Fr h₀ L h' m → News h₀ L h' ((l, listOf vs.toArray ep) :: (112, tabF c) :: (c, oc) :: rest) → CodeF oc → NeF 112 c → (s.heap.get? c = none ∨ (c, oc) ∈ tl0) → s.heap.get? l = none → IntsAre vs (ansTo x y 25) → Q (.ref l) { s with heap := h', toks := tk' }) :
   wpAny (model theProg w) (Ar dp un fr gd) (PySem.call (.ref 124) [.str (ofL x) t1, .str (ofL y) t2]) Q E s := by
  refine ask_spec X T C F.keep htl (fun q hq => ⟨(N q (hin q hq)).1, (N q (hin q hq)).2.2⟩) hroom h1 h2 fun l vs ep c oc h' tk' kp ht hc hcf hne' hco hl hl' hv => ?_
  obtain ⟨o, ho⟩ := hm112
  have hT := N _ (hin _ ho)
  have F' := fr_hide F hT.2.2 (Ne.symm hT.2.1) kp
  have mk : ∀ q : Addr × Obj, h'.get? q.1 = some q.2 → s.heap.get? q.1 = none → h'.get? q.1 = some q.2 ∧ q.1 ≠ L ∧ h₀.get? q.1 = none := by
    intro q e en
    refine ⟨e, fun ql => ?_, ?_⟩
    · obtain ⟨oL, _, _, hL, _⟩ := F.ns
      rw [ql, hL] at en; cases en
    · cases e' : h₀.get? q.1 with
      | none => rfl
      | some o' => have := F.keep _ _ e'; rw [en] at this; cases this
  refine hQ l vs ep c oc h' tk' F' ?_ hcf ⟨hne'⟩ hco hl hv
  intro q hq
  simp only [List.mem_cons] at hq
  rcases hq with h | h | h | h
  · rw [h]; exact mk (l, listOf vs.toArray ep) hl' hl
  · rw [h]; exact ⟨ht, hT.2⟩
  · rw [h]
    rcases hco with q | q
    · exact mk (c, oc) hc q
    · exact ⟨hc, (N _ (hin _ q)).2⟩
  · have := N q (hr q h)
    exact ⟨kp _ _ (hideAll_get [112] this.1 (by simpa using hne q h)), this.2⟩
end
end Mine
end

section
open PySem PySem.W PyProof.Rows PySem.Calls PyProof
set_option Elab.async false
set_option maxRecDepth 100000
set_option maxHeartbeats 4000000
set_option linter.unusedVariables false
set_option linter.unusedSimpArgs false
namespace Mine
section
variable {prog : Program} {w : World} {A : Around} {E : Value → Shared → Prop} {s : Shared} {h₀ : Heap} {L : Addr} {m : Str → Option Value} {env : Env}
/-- a comprehension over a text's signs -/
theorem ListComp_S {elt iter : Expr} {x : Str} {px : Pos} {scope : Scope} {cl : List (Str × Addr)} {pos : Pos} {Q : Value → Shared → Prop} (tx : List Nat) (hasc : tx.all (fun c => c < 128) = true) (hsz : tx.length ≤ sizeLine)
    (F₀ : Fr h₀ L s.heap m) (hh : A.handled = none) (hclos : closureFor scope env = pure cl) (hcell : ∀ y ∈ scope.names, y.2 ≠ .cell) (hkind : scope.kind = .function)
    (hnames : ∀ y ∈ scope.names, y.2 = .local → scope.names.lookup y.1 = some .local) (hx : scope.names.lookup x = some .local)
    (h : wpAny (model prog w) A (eval iter env) (fun xv s₁ => Cut (∃ t news, xv = .str (ofL tx) t ∧ Fr h₀ L s₁.heap m ∧ News h₀ L s₁.heap news ∧
      ∀ s₂ : Shared, (∃ h, s₂ = { s₁ with heap := h }) → LCg.CompRest prog w A h₀ L m env elt x scope cl s₂ (fun _ => True) (SignAt (ofL tx)) (LCg.FinE h₀ L m s₂ Q) tx.length 0 [] news)) E s)
    (hs : ∀ x, foldedSetIterable iter env x = pure x := by intro _; rfl) :
    wpAny (model prog w) A (eval (.ListComp elt [⟨.Name x px, iter, [], 0⟩] scope pos) env) Q E s := by
  rw [eval_ListComp]
  refine wpAny_comprehension_free (use := none) rfl hs hclos hkind hnames (wpAny_mono h (fun xv s₁ hc => ?_) fun _ _ e => e)
  obtain ⟨t, news, rfl, F, N, R⟩ := hc.out
  have ha : (ofL tx).cps.all (· < 128) = true := by simpa [ofL] using hasc
  refine wpAny_pyIter_ascii ha ?_
  refine LCg.block_U (S := fun _ => True) (Walks.strAscii hh s₁.heap.objs.size (ofL tx) t) hsz (fun i h st => let ⟨o, e, _⟩ := st; ⟨o, e⟩)
    (fun i h h' o nw st e e' _ _ _ => by obtain ⟨o', q, r⟩ := st; rw [e] at q; cases q; exact ⟨o, e', r⟩) hcell hkind hx ⟨_, Heap.get?_push_size _ rfl, rfl, rfl⟩ (fun b hb => ?_)
    (F.keeps fun _ _ e => Heap.get?_push_of_some _ e) (N.grown fun _ _ e => Heap.get?_push_of_some _ e) (Nat.ne_of_lt F.ns.lt) (next_is_new F) (fun p hp => Nat.ne_of_lt (Heap.lt_size (N p hp).1)) trivial (R _ ⟨_, rfl⟩) ?_
  · rw [List.mem_singleton.mp hb]
    show s₁.heap.objs.size < (s₁.heap.push _).objs.size
    rw [Heap.size_push]; exact Nat.lt_succ_self _
  · intro D C h tk m' ys news' F' N' o1 hn hC₀ hD₀ hCL hDL hCD offC fin
    refine ⟨m', hn, fun h'' hs'' => fin D h'' tk (F'.change hs'' hCL hC₀) (fun p hp => ?_) o1⟩
    refine ⟨hs''.extBut _ _ ?_ (N' p hp).1, (N' p hp).2⟩
    rcases List.mem_cons.mp hp with rfl | hp
    · exact Ne.symm hCD
    · exact offC p hp
end
theorem StrsAre.snoc {vs : List Value} {ns : List Str} (h : StrsAre vs ns) (n : Str) (t : Tok) : StrsAre (vs ++ [.str n t]) (ns ++ [n]) := by
  induction h with
  | nil => exact .cons n t .nil
  | cons a u _ ih => exact .cons a u ih
end Mine
end

section
open PySem PySem.W PyProof.Rows PySem.Calls PyProof
set_option Elab.async false
set_option maxRecDepth 100000
set_option maxHeartbeats 8000000
set_option linter.unusedSimpArgs false
set_option linter.unusedVariables false
namespace Mine
example : True := by
  w_top off
  exact True.intro
example : (PySem.Challenge.rw_pe0171_01 = PySem.Challenge.rw_pe0171_01) ∧ hd.heap_1 = hd.heap_1 := by
  k_fill
  exact ⟨rfl, rfl⟩

set_option pp.deepTerms false
set_option pp.maxSteps 3000

local macro_rules | `(tactic| walk_at "eval ListComp") => `(tactic| (refine Cut.out ?_))
local macro_rules | `(tactic| walk_at "call builtin:str.join") => `(tactic| (refine Cut.out ?_))
noncomputable def escC (c : Nat) : List Nat := if c = 34 then [92, 34] else [c]
theorem esc_flat : ∀ w : List Nat, esc w = (w.map escC).flatten
  | [] => rfl
  | c :: r => by simp [esc, escC, esc_flat r]
theorem esc_len : ∀ w : List Nat, (esc w).length ≤ 2 * w.length
  | [] => by simp [esc]
  | c :: r => by
    have := esc_len r
    simp only [esc, List.length_append, List.length_cons]
    split <;> simp <;> omega
theorem sum_lens : ∀ ls : List (List Nat), ((ls.map ofL).map (·.length)).sum = ls.flatten.length
  | [] => rfl
  | x :: r => by simp [ofL_length]; simpa using sum_lens r
theorem join_all {prog : Program} {w : World} {A : Around} {E : Value → Shared → Prop} {s : Shared} {h₀ : Heap} {L D : Addr} {news : List (Addr × Obj)} {ys : List Value} {ls : List (List Nat)} {t0 : Tok} {Q : Value → Shared → Prop}
    (N : News h₀ L s.heap news) (hm : (D, LCg.lst ys) ∈ news) (hc : StrsAre ys (ls.map ofL)) (hl : ls.length ≤ 10) (hz : ls.flatten.length ≤ 100) (h : ∀ t k, Q (.str (ofL ls.flatten) t) { s with toks := k }) :
    wpAny (model prog w) A (PySem.call (.builtin "str.join") [.str (Str.ofString "") t0, .ref D]) Q E s := by
  refine join_listW (items := ys.toArray) (ys := ls.map ofL) ⟨_, (N _ hm).1, rfl, _, rfl⟩ (by simpa using hc) (by decide) ?_ ?_
  · rw [sum_lens, List.length_map]
    omega
  · rw [join_ofL]; exact h
noncomputable def Word (w : List Nat) : Prop := w.length ≤ 4 ∧ ∀ c ∈ w, c = 97 ∨ c = 65 ∨ c = 34

theorem sp_spec {w : World} {dp un : Nat} {fr : Option (List Env)} {gd : Option (List Code)} {s : Shared} {p : Program} {loose : List Str} {mean : ExcName → Option Value} {mg mb : Str → Option Value} {wd : List Nat} {q : Bool} {t1 : Tok} {Q E : Value → Shared → Prop}
   (X : (hd.heap_1 w.params).In s.heap) (T : Top p loose mean mg mb s.heap) (hroom : dp + 1 < recursionLimit) (hw : Word wd)
   (hQ : ∀ (t : Tok) (h' : Heap) (tk' : Nat), Keeps s.heap h' → Q (.str (ofL (spell wd q)) t) { s with heap := h', toks := tk' }) :
   wpAny (model theProg w) (Ar dp un fr gd) (PySem.call (.ref 100) [.str (ofL wd) t1, .bool q]) Q E s := by
  k_dflt (refine' enter_raw X T.nolimit ?ho ?hcd (show dp < recursionLimit by omega) (BindsTo.of_eq (binds := [(Str.ofString "word", .str (ofL wd) t1), (Str.ofString "quoted", .bool q)]) ?hbind) (locs ?hloc) ?_ ?h1 ?h2 ?h3 ?hcell)
  case ho => k_is
  case hcd => k_is
  case hbind => exact rfl
  case hcell => decide
  case hloc => exact rfl
  case h1 => exact rfl
  case h2 => exact rfl
  case h3 => exact rfl
  k_dflt (intro L h₁ F' N')
  try dsimp only
  refine cut_at 1 (R := fun s' => ∃ t, At s s.heap L [(Str.ofString "word", .str (ofL wd) t1), (Str.ofString "quoted", .bool q), (Str.ofString "body", .str (ofL (esc wd)) t)] [] s') ?_ ?_
  · simp only [List.take_succ_cons, List.take_zero]
    k_steps
    refine ⟨?_⟩
    k_dflt (refine ListComp_S wd ?asc ?sz (by k_asm) rfl (by with_unfolding_all rfl) (by decide) (by rfl) (by decide) (by rfl) ?_)
    case asc => rw [List.all_eq_true]; intro c hc; rcases hw.2 c hc with e | e | e <;> simp [e]
    case sz => exact Nat.le_trans hw.1 (by decide)
    k_steps
    refine ⟨_, _, rfl, F', N', ?_⟩
    rintro s₂ ⟨g, rfl⟩
    refine comp_ind wd.length (fun i ys => StrsAre ys ((wd.take i).map fun c => ofL (escC c))) .nil ?_ ?_
    · rintro i ys hi hys v I oI C oC D m₂ h tk E' ⟨c, u, hcu, rfl⟩ hC hx F N off ne
      have hcu' : wd[i]? = some c := by simpa [ofL] using hcu
      have hcm : c ∈ wd := List.mem_of_getElem? hcu'
      have htk : wd.take (i + 1) = wd.take i ++ [c] := by rw [List.take_add_one, hcu']; rfl
      have step : ∀ (t : Tok), StrsAre (ys ++ [.str (ofL (escC c)) t]) ((wd.take (i + 1)).map fun c => ofL (escC c)) := by
        intro t; rw [htk, List.map_append]; exact StrsAre.snoc hys _ _
      rcases hw.2 c hcm with rfl | rfl | rfl
      · rw [show (⟨#[97]⟩ : Str) = Str.ofString "a" from rfl] at hx
        k_steps
        · exact step u
        · rename _ = false => hb
          exact absurd hb (by decide +kernel)
      · rw [show (⟨#[65]⟩ : Str) = Str.ofString "A" from rfl] at hx
        k_steps
        · exact step u
        · rename _ = false => hb
          exact absurd hb (by decide +kernel)
      · rw [show (⟨#[34]⟩ : Str) = Str.ofString "\"" from rfl] at hx
        k_steps
        · rename _ = true => hb
          exact absurd hb (by decide +kernel)
        · exact step _
    · intro ys hys
      rw [List.take_length] at hys
      unfold LCg.FinE
      intro D h tk F N off
      dsimp only
      k_steps
      refine ⟨?_⟩
      k_dflt (refine join_all (ls := wd.map escC) N (List.mem_cons_self ..) (by rw [List.map_map]; exact hys) ?_ ?_ ?_)
      · rw [List.length_map]; exact Nat.le_trans hw.1 (by decide)
      · rw [← esc_flat]; exact Nat.le_trans (esc_len wd) (by have := hw.1; omega)
      rw [← esc_flat]
      intro t k
      k_steps
      rename Fr _ _ _ _ => F2
      rename News _ _ _ _ => N2
      exact ⟨_, at_intro F2 N2 (by tb_start) (by tb_rel) (by simp)⟩
  · clear F' N'
    intro s' hs9
    refine small fun Gx hGx => ?_
    obtain ⟨t, h, tk, m, rfl, F, N, -⟩ := hs9
    refine hGx ?_
    clear hGx Gx
    simp only [List.drop_succ_cons, List.drop_zero]
    have lw := ofL_length wd
    have le := ofL_length (esc wd)
    have le2 := esc_len wd
    have le3 := hw.1
    have eq : ∀ t k, spell wd q = 34 :: (esc wd ++ [34]) → Q (.str (Str.ofString "\"" ++ ofL (esc wd) ++ Str.ofString "\"") t) { s with heap := h, toks := k } := by
      intro t k e
      have := hQ t h k F.keep
      rw [e] at this
      rw [show Str.ofString "\"" = ofL [34] from rfl, ofL_append, ofL_append]
      simpa using this
    have eq2 : ∀ t k, spell wd q = esc wd → Q (.str (ofL (esc wd)) t) { s with heap := h, toks := k } := by
      intro t k e
      have := hQ t h k F.keep
      rw [e] at this
      exact this
    clear hQ
    have sp1 : q = true → spell wd q = 34 :: (esc wd ++ [34]) := fun e => by unfold spell; rw [if_pos (.inl e)]
    have sp2 : (ofL wd == Str.ofString "") = true → spell wd q = 34 :: (esc wd ++ [34]) := fun e => by
      rw [show Str.ofString "" = ofL [] from rfl, ofL_beq] at e
      unfold spell; rw [if_pos (.inr (by simpa using e))]
    have sp3 : q = false → (ofL wd == Str.ofString "") = false → spell wd q = esc wd := fun e e2 => by
      rw [show Str.ofString "" = ofL [] from rfl, ofL_beq] at e2
      unfold spell; rw [if_neg]; rintro (q | q)
      · rw [e] at q; cases q
      · simp [q] at e2
    k_steps
    · exact eq _ _ (sp1 (by assumption))
    · exact eq _ _ (sp2 (by assumption))
    · exact eq2 _ _ (sp3 (by assumption) (by assumption))
theorem sp_call {w : World} {dp un : Nat} {fr : Option (List Env)} {gd : Option (List Code)} {s : Shared} {p : Program} {loose : List Str} {mean : ExcName → Option Value} {mg mb : Str → Option Value} {h₀ : Heap} {L : Addr} {m : Str → Option Value} {news : List (Addr × Obj)} {wd : List Nat} {q : Bool} {t1 : Tok} {Q E : Value → Shared → Prop}
   (F : Fr h₀ L s.heap m) (N : News h₀ L s.heap news) (X : (hd.heap_1 w.params).In h₀) (T : Top p loose mean mg mb h₀) (hroom : dp + 1 < recursionLimit) (hw : Word wd)
   (hQ : ∀ (t : Tok) (h' : Heap) (tk' : Nat), Fr h₀ L h' m → News h₀ L h' news → Q (.str (ofL (spell wd q)) t) { s with heap := h', toks := tk' }) :
   wpAny (model theProg w) (Ar dp un fr gd) (PySem.call (.ref 100) [.str (ofL wd) t1, .bool q]) Q E s :=
  sp_spec (X.keeps F.keep) (T.keeps F.keep) hroom hw fun t h' tk kp => hQ t h' tk (fr_on F kp) (news_on N kp)
end Mine
end

section
open PySem PySem.W PyProof.Rows PySem.Calls PyProof
set_option Elab.async false
set_option maxRecDepth 100000
set_option maxHeartbeats 4000000
set_option linter.unusedVariables false
set_option linter.unusedSimpArgs false
namespace Mine
/-- the rows of a file -/
noncomputable def rows : List (List Nat × Bool) → List Nat
  | [] => []
  | p :: r => spell p.1 p.2 ++ 10 :: rows r
theorem rows_snoc : ∀ (l : List (List Nat × Bool)) (p : List Nat × Bool), rows (l ++ [p]) = rows l ++ (spell p.1 p.2 ++ [10])
  | [], p => by simp [rows]
  | q :: r, p => by simp [rows, rows_snoc r p]
theorem spell_len {w : List Nat} {q : Bool} (h : Word w) : (spell w q).length ≤ 10 := by
  have := esc_len w
  have := h.1
  unfold spell
  split
  · simp; omega
  · omega
theorem rows_len : ∀ {l : List (List Nat × Bool)}, (∀ p ∈ l, Word p.1) → (rows l).length ≤ 11 * l.length
  | [], _ => by simp [rows]
  | p :: r, h => by
    have h1 := spell_len (q := p.2) (h p (.head _))
    have h2 := rows_len fun q hq => h q (.tail _ hq)
    simp only [rows, List.length_append, List.length_cons]
    omega
noncomputable def SrcTup (ax : Addr) (its : Array Value) (nw : List (Addr × Obj)) : Prop := False ∨ ∃ o, (ax, o) ∈ nw ∧ o.cls = .type "tuple" ∧ ∃ n, o.data = .seq its n
theorem SrcTup.tup {h₀ h : Heap} {L ax : Addr} {its : Array Value} {nw : List (Addr × Obj)} (x : SrcTup ax its nw) (N : News h₀ L h nw) : h.IsTuple ax its := by
  rcases x with x | ⟨o, hm, hc, r⟩
  · exact x.elim
  · exact ⟨o, (N _ hm).1, hc, r⟩
section
variable {prog : Program} {w : World} {A : Around} {E : Value → Shared → Prop} {s : Shared} {h₀ : Heap} {L : Addr} {m : Str → Option Value} {env : Env}
/-- a comprehension with one test over a tuple on the ledger -/
theorem ListComp_TT {ct elt iter : Expr} {x : Str} {px : Pos} {scope : Scope} {cl : List (Str × Addr)} {pos : Pos} {Q : Value → Shared → Prop} (F₀ : Fr h₀ L s.heap m) (hh : A.handled = none)
    (hclos : closureFor scope env = pure cl) (hcell : ∀ y ∈ scope.names, y.2 ≠ .cell) (hkind : scope.kind = .function)
    (hnames : ∀ y ∈ scope.names, y.2 = .local → scope.names.lookup y.1 = some .local) (hx : scope.names.lookup x = some .local)
    (h : wpAny (model prog w) A (eval iter env) (fun xv s₁ => Cut (∃ ax its news, xv = .ref ax ∧ Fr h₀ L s₁.heap m ∧ News h₀ L s₁.heap news ∧ SrcTup ax its news ∧ its.size ≤ sizeLine ∧
      ∀ s₂ : Shared, (∃ h, s₂ = { s₁ with heap := h }) → LCt.CompRestT prog w A h₀ L m env ct elt x scope cl s₂ (SrcTup ax its) (fun i v => its[i]? = some v) (LCg.FinE h₀ L m s₂ Q) its.size 0 [] news)) E s)
    (hs : ∀ x, foldedSetIterable iter env x = pure x := by intro _; rfl) :
    wpAny (model prog w) A (eval (.ListComp elt [⟨.Name x px, iter, [ct], 0⟩] scope pos) env) Q E s := by
  rw [eval_ListComp]
  refine wpAny_comprehension_free (use := none) rfl hs hclos hkind hnames (wpAny_mono h (fun xv s₁ hc => ?_) fun _ _ e => e)
  obtain ⟨ax, its, news, rfl, F, N, S, hsz, R⟩ := hc.out
  have hl := S.tup N
  have hlt : ax < s₁.heap.objs.size := by obtain ⟨_, e, _⟩ := hl; exact Heap.lt_size e
  refine wpAny_pyIter_tuple hl ?_
  refine LCt.block_T (S := SrcTup ax its) (Walks.tuple hh s₁.heap.objs.size ax (Nat.ne_of_lt hlt) its) hsz (fun i h st => by obtain ⟨o, e, _⟩ := st.1; exact ⟨o, e⟩)
    (fun i h h' o nw st e e' _ N' S' => ⟨by obtain ⟨o', q, r⟩ := st.1; rw [e] at q; cases q; exact ⟨o, e', r⟩, S'.tup N'⟩) hcell hkind hx
    ⟨⟨_, Heap.get?_push_size _ rfl, rfl, rfl⟩, by obtain ⟨o, e, r⟩ := hl; exact ⟨o, Heap.get?_push_of_some _ e, r⟩⟩ (fun b hb => ?_)
    (F.keeps fun _ _ e => Heap.get?_push_of_some _ e) (N.grown fun _ _ e => Heap.get?_push_of_some _ e) (Nat.ne_of_lt F.ns.lt) (next_is_new F) (fun p hp => Nat.ne_of_lt (Heap.lt_size (N p hp).1)) S (R _ ⟨_, rfl⟩) ?_
  · show b < (s₁.heap.push _).objs.size
    rw [Heap.size_push]
    rcases List.mem_cons.mp hb with rfl | hb
    · exact Nat.lt_succ_self _
    · rw [List.mem_singleton.mp hb]; exact Nat.lt_succ_of_lt hlt
  · intro D C h tk m' ys news' F' N' o1 hn hC₀ hD₀ hCL hDL hCD offC fin
    refine ⟨m', hn, fun h'' hs'' => fin D h'' tk (F'.change hs'' hCL hC₀) (fun p hp => ?_) o1⟩
    refine ⟨hs''.extBut _ _ ?_ (N' p hp).1, (N' p hp).2⟩
    rcases List.mem_cons.mp hp with rfl | hp
    · exact Ne.symm hCD
    · exact offC p hp
end
theorem sum_call {prog : Program} {w : World} {A : Around} {E : Value → Shared → Prop} {s : Shared} {h₀ : Heap} {L l : Addr} {m : Str → Option Value} {news : List (Addr × Obj)} {arr : Array Value} {ep : Nat} {ns : List Int} {Q : Value → Shared → Prop} (hh : A.handled = none) (F : Fr h₀ L s.heap m) (N : News h₀ L s.heap news) (hm : (l, listOf arr ep) ∈ news) (hi : IntsAre arr.toList ns)
    (h : ∀ h' tk t', Fr h₀ L h' m → News h₀ L h' news → Q (.int ns.sum t') { s with heap := h', toks := tk }) :
    wpAny (model prog w) A (call (.builtin "sum") [.ref l]) Q E s :=
  sumK (vs := arr.toList) hh F N (N.isList hm) hi h
theorem num_ok (x : Int) : 0 ≤ x.fmod (10 ^ Int.toNat 6) ∧ x.fmod (10 ^ Int.toNat 6) < 1000000 := by
  have e : (10 : Int) ^ Int.toNat 6 = 1000000 := by decide
  rw [e, Int.fmod_eq_emod_of_nonneg _ (by decide)]
  omega
theorem flat_one : ∀ l : List Nat, (l.map fun c => [c]).flatten = l
  | [] => rfl
  | c :: r => by simpa using flat_one r
theorem item_letter {x : Int} (h0 : 0 ≤ x) (h1 : x < 3) : ∃ c, (c = 97 ∨ c = 65 ∨ c = 34) ∧ Txt.item (Str.ofString "aA\"") x = ofL [c] := by
  have e : Txt.item (Str.ofString "aA\"") x = ofL [[97, 65, 34].getD x.toNat 0] := item_at0 (l := [97, 65, 34]) h0 (by simpa using h1)
  refine ⟨_, ?_, e⟩
  rcases (show x = 0 ∨ x = 1 ∨ x = 2 by omega) with rfl | rfl | rfl <;> decide
/-- a list of letters, sign by sign -/
structure Lets (i : Nat) (ys : List Value) : Prop where
  out : ∃ l : List Nat, l.length = i ∧ (∀ c ∈ l, c = 97 ∨ c = 65 ∨ c = 34) ∧ StrsAre ys ((l.map fun c => [c]).map ofL)
theorem Lets.nil : Lets 0 [] := ⟨[], rfl, (fun _ h => nomatch h), .nil⟩
theorem Lets.snoc {i : Nat} {ys : List Value} (h : Lets i ys) (x : Int) (u : Tok) : Lets (i + 1) (ys ++ [.str (Txt.item (Str.ofString "aA\"") (x.fmod 3)) u]) := by
  obtain ⟨l, hl1, hl2, hys⟩ := h.out
  have q3 : 0 ≤ x.fmod 3 ∧ x.fmod 3 < 3 := by rw [Int.fmod_eq_emod_of_nonneg _ (by decide)]; omega
  obtain ⟨c, hc1, hc2⟩ := item_letter q3.1 q3.2
  refine ⟨l ++ [c], by simp [hl1], ?_, ?_⟩
  · intro d hd
    rcases List.mem_append.mp hd with hd | hd
    · exact hl2 d hd
    · rw [List.mem_singleton.mp hd]; exact hc1
  · rw [hc2, List.map_append, List.map_append]; exact StrsAre.snoc hys _ _
theorem which_ok (x : Int) : 0 ≤ x.fmod 121 ∧ x.fmod 121 < 121 := by
  rw [Int.fmod_eq_emod_of_nonneg _ (by decide)]
  omega
theorem off_nef {I C D : Addr} : ∀ {news : List (Addr × Obj)}, LCg.Off3 I C D news → OffN I news ∧ OffN C news ∧ OffN D news
  | [], _ => ⟨trivial, trivial, trivial⟩
  | _ :: _, h => ⟨⟨⟨h.1.1⟩, (off_nef h.2).1⟩, ⟨⟨h.1.2.1⟩, (off_nef h.2).2.1⟩, ⟨⟨h.1.2.2⟩, (off_nef h.2).2.2⟩⟩
theorem ne_nef {I C D : Addr} (h : (@Ne Nat I C) ∧ (@Ne Nat I D) ∧ (@Ne Nat C D)) : NeF I C ∧ NeF I D ∧ NeF C D := ⟨⟨h.1⟩, ⟨h.2.1⟩, ⟨h.2.2⟩⟩
structure DrS where
  ps : List (List Nat × Bool)
  vs : List Value
  ep : Nat
  t : Tok
  oc : Obj
end Mine
end

section
open PySem PySem.W PyProof.Rows PySem.Calls PyProof
set_option Elab.async false
set_option maxRecDepth 100000
set_option maxHeartbeats 8000000
set_option linter.unusedSimpArgs false
set_option linter.unusedVariables false
namespace Mine
example : True := by
  w_top off
  exact True.intro
example : (PySem.Challenge.rw_pe0171_01 = PySem.Challenge.rw_pe0171_01) ∧ hd.heap_1 = hd.heap_1 := by
  k_fill
  exact ⟨rfl, rfl⟩

set_option pp.deepTerms false
set_option pp.maxSteps 3000
local macro_rules | `(tactic| walk_at "call builtin:sum") => `(tactic| (refine Cut.out ?_))
local macro_rules | `(tactic| walk_at "call builtin:str.join") => `(tactic| (refine Cut.out ?_))
local macro_rules | `(tactic| walk_at "eval ListComp") => `(tactic| (refine Cut.out ?_))
local macro_rules | `(tactic| walk_at "CompSrc") => `(tactic| (refine Cut.out ?_))
local macro_rules | `(tactic| walk_at "call ref") => `(tactic| (refine Cut.out ?_))

theorem draw_spec {w : World} {dp un : Nat} {fr : Option (List Env)} {gd : Option (List Code)} {s : Shared} {p : Program} {loose : List Str} {mean : ExcName → Option Value} {mg mb : Str → Option Value} {sc : Addr} {vs : List Value} {ns : List Int} {Q E : Value → Shared → Prop}
   (X : (hd.heap_1 w.params).In s.heap) (T : Top p loose mean mg mb s.heap) (hroom : dp + 3 < recursionLimit) (hS : s.heap.IsList sc vs.toArray) (hI : IntsAre vs ns) (hlen : ns.length ≤ 63)
   (hQ : ∀ (tp l : Addr) (wv : List Value) (ep : Nat) (ps : List (List Nat × Bool)) (t : Tok) (h' : Heap) (tk' : Nat), Keeps s.heap h' → s.heap.get? tp = none → s.heap.get? l = none → tp ≠ l → h'.get? tp = some { cls := .type "tuple", data := .seq #[.ref l, .str (ofL (rows ps)) t] } → h'.get? l = some (listOf wv.toArray ep) → StrsAre wv (ps.map fun p => ofL p.1) → ps.length = 3 → (∀ p ∈ ps, Word p.1) → Q (.ref tp) { s with heap := h', toks := tk' }) :
   wpAny (model theProg w) (Ar dp un fr gd) (PySem.call (.ref 105) [.ref sc]) Q E s := by
  k_dflt (refine' enter_rawC X T.nolimit ?ho ?hcd (show dp < recursionLimit by omega) (BindsTo.of_eq (binds := [(Str.ofString "script", .ref sc)]) ?hbind) ?hkind ?hnd ?_ ?h1 ?h2 ?h3)
  case ho => k_is
  case hcd => k_is
  case hbind => exact rfl
  case hkind => exact rfl
  case hnd => decide +kernel
  case h1 => exact rfl
  case h2 => exact rfl
  case h3 => exact rfl
  k_dflt (intro L h₁ tk cells' F' N' Y')
  refine small fun Gx hGx => ?_
  obtain ⟨o1, hE, d1⟩ := CellsAre.one Y'
  refine hGx ?_
  clear hGx Gx
  subst hE
  clear Y'
  have d1 : o1.data = .cell none := d1
  try dsimp only
  refine cut_at 2 (R := fun s' => ∃ wl ep t, At s s.heap L [(Str.ofString "words", .ref wl), (Str.ofString "text", .str (ofL []) t), (Str.ofString "script", .ref sc)] [(wl, listOf #[] ep), (L + 1, o1)] s') ?_ ?_
  · refine hide fun Qc1 Hc1 => ?_
    simp only [List.take_succ_cons, List.take_zero]
    k_steps
    all_goals (repeat (first | refine Hc1.out _ _ ?_))
    all_goals (try ((try dsimp only); (with_reducible refine wpAny_execs_nil ?_); (repeat (first | refine Hc1.out _ _ ?_))))
    exact ⟨_, _, _, at_intro (by k_asm) (by k_asm) (by tb_start) (by tb_rel) (nodup2 (by dsimp only; omega))⟩
  clear F' N' h₁
  intro s' hs9
  refine small fun Gx hGx => ?_
  obtain ⟨wl, ep, t, hAt⟩ := hs9
  refine hGx ?_
  clear hGx Gx
  simp only [List.drop_succ_cons, List.drop_zero]
  refine cut_at 1 (R := fun s' => ∃ (c : DrS), c.ps.length = 3 ∧ (∀ p ∈ c.ps, Word p.1) ∧ StrsAre c.vs (c.ps.map fun p => ofL p.1) ∧ At s s.heap L [(Str.ofString "words", .ref wl), (Str.ofString "text", .str (ofL (rows c.ps)) c.t)] [(wl, listOf c.vs.toArray c.ep)] s') ?_ ?_
  · refine hide fun Qc2 Hc2 => ?_
    simp only [List.take_succ_cons, List.take_zero]
    refine wpAny_execs_cons ?_
    refine for_range (s := s) (h₀ := s.heap) (L := L) (σ := DrS) 0 3
      (fun c => [(Str.ofString "words", .ref wl), (Str.ofString "text", .str (ofL (rows c.ps)) c.t), (Str.ofString "script", .ref sc)])
      (fun c => [(wl, listOf c.vs.toArray c.ep), (L + 1, c.oc)])
      (fun i c => (∃ cv, c.oc.data = .cell cv) ∧ c.ps.length = i ∧ (∀ p ∈ c.ps, Word p.1) ∧ StrsAre c.vs (c.ps.map fun p => ofL p.1))
      rfl rfl rfl rfl ?_ ?_ ?_
    · refine small fun Gx hGx => ?_
      obtain ⟨h, tk, m, rfl, F, N, nd⟩ := hAt
      refine hGx ?_
      clear hGx Gx
      k_steps
      all_goals (repeat (first | refine Hc2.out _ _ ?_ | refine Hc1.out _ _ ?_))
      all_goals (try ((try dsimp only); (with_reducible refine wpAny_execs_nil ?_); (repeat (first | refine Hc2.out _ _ ?_ | refine Hc1.out _ _ ?_))))
      refine ⟨_, _, _, _, _, rfl, by assumption, small_of (by omega) (by omega) (by omega) (by omega) (by omega) (by omega), rfl, ⟨[], [], ep, t, o1⟩, ⟨⟨_, d1⟩, rfl, (fun _ h => nomatch h), .nil⟩, at_intro (by k_asm) (by k_asm) (by tb_start) (fun q hq => hq) nd⟩
    · clear hAt s' ep t
      rintro i ⟨ps, wv, ep, t, oc⟩ it h tk m ti hi hp9 F N nd
      refine small fun Gx hGx => ?_
      obtain ⟨⟨cv, dcv⟩, hpl, hpw, hwv⟩ := hp9
      refine hGx ?_
      clear hGx Gx
      dsimp only at dcv hpl hpw hwv F N nd ⊢
      refine hide fun Qt3 Ht3 => ?_
      refine cut_at 1 (R := fun s' => ∃ (nu : Int) (tn : Tok), 0 ≤ nu ∧ nu < 1000000 ∧ At s s.heap L [(Str.ofString "number", .int nu tn), (Str.ofString "words", .ref wl), (Str.ofString "text", .str (ofL (rows ps)) t), (Str.ofString "script", .ref sc), (Str.ofString "k", .int (0 + (i : Int)) ti)] [(it, rangeIt (0 + (i : Int) + 1) ((3 : Nat) - (i : Int) - 1) 1), (wl, listOf wv.toArray ep), (L + 1, oc)] s') ?_ ?_
      · refine hide fun Qc4 Hc4 => ?_
        simp only [List.take_succ_cons, List.take_zero]
        have hlv := hI.length
        have hi3 : i = 0 ∨ i = 1 ∨ i = 2 := by omega
        rcases hi3 with rfl | rfl | rfl
        · simp only [Int.natCast_zero, Int.natCast_one, Int.cast_ofNat_Int, Int.add_zero, Int.zero_add] at F N nd ⊢
          k_steps
          all_goals (repeat (first | refine Hc4.out _ _ ?_ | refine Ht3.out _ _ ?_ | refine Hc2.out _ _ ?_ | refine Hc1.out _ _ ?_))
          all_goals (try ((try dsimp only); (with_reducible refine wpAny_execs_nil ?_); (repeat (first | refine Hc4.out _ _ ?_ | refine Ht3.out _ _ ?_ | refine Hc2.out _ _ ?_ | refine Hc1.out _ _ ?_))))
          refine ⟨?_⟩
          k_dflt (refine sum_call rfl (by k_asm) (by k_asm) (by k_mem) (hI.pick _ _ _) ?_)
          intro h2 tk2 t2 F2 N2
          k_steps
          all_goals (repeat (first | refine Hc4.out _ _ ?_ | refine Ht3.out _ _ ?_ | refine Hc2.out _ _ ?_ | refine Hc1.out _ _ ?_))
          all_goals (try ((try dsimp only); (with_reducible refine wpAny_execs_nil ?_); (repeat (first | refine Hc4.out _ _ ?_ | refine Ht3.out _ _ ?_ | refine Hc2.out _ _ ?_ | refine Hc1.out _ _ ?_))))
          rename Fr _ _ _ _ => F3
          rename News _ _ _ _ => N3
          exact ⟨_, _, (num_ok _).1, (num_ok _).2, at_intro F3 N3 (by tb_start) (by tb_rel) nd⟩
        · simp only [Int.natCast_zero, Int.natCast_one, Int.cast_ofNat_Int, Int.add_zero, Int.zero_add] at F N nd ⊢
          k_steps
          all_goals (repeat (first | refine Hc4.out _ _ ?_ | refine Ht3.out _ _ ?_ | refine Hc2.out _ _ ?_ | refine Hc1.out _ _ ?_))
          all_goals (try ((try dsimp only); (with_reducible refine wpAny_execs_nil ?_); (repeat (first | refine Hc4.out _ _ ?_ | refine Ht3.out _ _ ?_ | refine Hc2.out _ _ ?_ | refine Hc1.out _ _ ?_))))
          refine ⟨?_⟩
          k_dflt (refine sum_call rfl (by k_asm) (by k_asm) (by k_mem) (hI.pick _ _ _) ?_)
          intro h2 tk2 t2 F2 N2
          k_steps
          all_goals (repeat (first | refine Hc4.out _ _ ?_ | refine Ht3.out _ _ ?_ | refine Hc2.out _ _ ?_ | refine Hc1.out _ _ ?_))
          all_goals (try ((try dsimp only); (with_reducible refine wpAny_execs_nil ?_); (repeat (first | refine Hc4.out _ _ ?_ | refine Ht3.out _ _ ?_ | refine Hc2.out _ _ ?_ | refine Hc1.out _ _ ?_))))
          rename Fr _ _ _ _ => F3
          rename News _ _ _ _ => N3
          exact ⟨_, _, (num_ok _).1, (num_ok _).2, at_intro F3 N3 (by tb_start) (by tb_rel) nd⟩
        · simp only [Int.natCast_zero, Int.natCast_one, Int.cast_ofNat_Int, Int.add_zero, Int.zero_add] at F N nd ⊢
          k_steps
          all_goals (repeat (first | refine Hc4.out _ _ ?_ | refine Ht3.out _ _ ?_ | refine Hc2.out _ _ ?_ | refine Hc1.out _ _ ?_))
          all_goals (try ((try dsimp only); (with_reducible refine wpAny_execs_nil ?_); (repeat (first | refine Hc4.out _ _ ?_ | refine Ht3.out _ _ ?_ | refine Hc2.out _ _ ?_ | refine Hc1.out _ _ ?_))))
          refine ⟨?_⟩
          k_dflt (refine sum_call rfl (by k_asm) (by k_asm) (by k_mem) (hI.pick _ _ _) ?_)
          intro h2 tk2 t2 F2 N2
          k_steps
          all_goals (repeat (first | refine Hc4.out _ _ ?_ | refine Ht3.out _ _ ?_ | refine Hc2.out _ _ ?_ | refine Hc1.out _ _ ?_))
          all_goals (try ((try dsimp only); (with_reducible refine wpAny_execs_nil ?_); (repeat (first | refine Hc4.out _ _ ?_ | refine Ht3.out _ _ ?_ | refine Hc2.out _ _ ?_ | refine Hc1.out _ _ ?_))))
          rename Fr _ _ _ _ => F3
          rename News _ _ _ _ => N3
          exact ⟨_, _, (num_ok _).1, (num_ok _).2, at_intro F3 N3 (by tb_start) (by tb_rel) nd⟩
      clear F N nd h tk m
      intro s' hs9
      refine small fun Gx hGx => ?_
      obtain ⟨nu, tn, hn0, hn1, h, tk, m, rfl, F, N, nd⟩ := hs9
      refine hGx ?_
      clear hGx Gx
      simp only [List.drop_succ_cons, List.drop_zero]
      refine cut_at 1 (R := fun s' => ∃ (wh : Int) (tw : Tok) (oc : Obj), 0 ≤ wh ∧ wh < 121 ∧ oc.data = .cell (some (.int wh tw)) ∧ At s s.heap L [(Str.ofString "number", .int nu tn), (Str.ofString "words", .ref wl), (Str.ofString "text", .str (ofL (rows ps)) t), (Str.ofString "script", .ref sc), (Str.ofString "k", .int (0 + (i : Int)) ti)] [(it, rangeIt (0 + (i : Int) + 1) ((3 : Nat) - (i : Int) - 1) 1), (wl, listOf wv.toArray ep), (L + 1, oc)] s') ?_ ?_
      · refine hide fun Qc5 Hc5 => ?_
        simp only [List.take_succ_cons, List.take_zero]
        k_steps
        all_goals (repeat (first | refine Hc5.out _ _ ?_ | refine Hc4.out _ _ ?_ | refine Ht3.out _ _ ?_ | refine Hc2.out _ _ ?_ | refine Hc1.out _ _ ?_))
        all_goals (try ((try dsimp only); (with_reducible refine wpAny_execs_nil ?_); (repeat (first | refine Hc5.out _ _ ?_ | refine Hc4.out _ _ ?_ | refine Ht3.out _ _ ?_ | refine Hc2.out _ _ ?_ | refine Hc1.out _ _ ?_))))
        rename Fr _ _ _ _ => F3
        rename News _ _ _ _ => N3
        simp only [List.cons_append, List.nil_append] at N3
        exact ⟨_, _, _, (which_ok _).1, (which_ok _).2, by assumption, at_intro F3 N3 (by tb_start) (by tb_rel) (by exact nd)⟩
      clear F N nd h tk m dcv cv oc
      intro s' hs9
      refine small fun Gx hGx => ?_
      obtain ⟨wh, tw, oc, hw0, hw1, dcv, h, tk, m, rfl, F, N, nd⟩ := hs9
      refine hGx ?_
      clear hGx Gx
      simp only [List.drop_succ_cons, List.drop_zero]
      refine cut_at 1 (R := fun s' => ∃ (sz : Nat) (tz : Tok), sz ≤ 4 ∧ At s s.heap L [(Str.ofString "size", .int sz tz), (Str.ofString "number", .int nu tn), (Str.ofString "words", .ref wl), (Str.ofString "text", .str (ofL (rows ps)) t), (Str.ofString "script", .ref sc), (Str.ofString "k", .int (0 + (i : Int)) ti)] [(it, rangeIt (0 + (i : Int) + 1) ((3 : Nat) - (i : Int) - 1) 1), (wl, listOf wv.toArray ep), (L + 1, oc)] s') ?_ ?_
      · refine hide fun Qc6 Hc6 => ?_
        simp only [List.take_succ_cons, List.take_zero]
        k_steps
        all_goals (repeat (first | refine Hc6.out _ _ ?_ | refine Hc5.out _ _ ?_ | refine Hc4.out _ _ ?_ | refine Ht3.out _ _ ?_ | refine Hc2.out _ _ ?_ | refine Hc1.out _ _ ?_))
        all_goals (try ((try dsimp only); (with_reducible refine wpAny_execs_nil ?_); (repeat (first | refine Hc6.out _ _ ?_ | refine Hc5.out _ _ ?_ | refine Hc4.out _ _ ?_ | refine Ht3.out _ _ ?_ | refine Hc2.out _ _ ?_ | refine Hc1.out _ _ ?_))))
        refine ⟨?_⟩
        k_dflt (refine ListComp_TT (by k_asm) rfl (by with_unfolding_all rfl) (by decide) (by rfl) (by decide) (by rfl) ?_)
        k_steps
        all_goals (repeat (first | refine Hc6.out _ _ ?_ | refine Hc5.out _ _ ?_ | refine Hc4.out _ _ ?_ | refine Ht3.out _ _ ?_ | refine Hc2.out _ _ ?_ | refine Hc1.out _ _ ?_))
        all_goals (try ((try dsimp only); (with_reducible refine wpAny_execs_nil ?_); (repeat (first | refine Hc6.out _ _ ?_ | refine Hc5.out _ _ ?_ | refine Hc4.out _ _ ?_ | refine Ht3.out _ _ ?_ | refine Hc2.out _ _ ?_ | refine Hc1.out _ _ ?_))))
        rename Fr _ _ _ _ => F3
        rename News _ _ _ _ => N3
        refine ⟨_, _, _, rfl, F3, N3, .inr ⟨_, List.mem_cons_self .., rfl, _, rfl⟩, (show 4 ≤ sizeLine by decide), ?_⟩
        rintro s₂ ⟨g, rfl⟩
        refine compT_ind 4 (fun i ys => ys.length ≤ i) (Nat.le_refl _) ?_ ?_
        · clear F3 N3
          rintro i ys hi4 hys v I oI C oC D m₂ h tk E' hv hC hx F N off ne
          replace off := off_nef off
          simp only [OffN, and_true] at off
          refine small fun Gx hGx => ?_
          obtain ⟨⟨u1, u2, u3, u4⟩, ⟨v1, v2, v3, v4⟩, ⟨y1, y2, y3, y4⟩⟩ := off
          refine hGx ?_
          clear hGx Gx
          refine small fun Gx hGx => ?_
          obtain ⟨z1, z2, z3⟩ := ne_nef ne
          refine hGx ?_
          clear hGx Gx
          clear ne
          have hvv : ∃ (z : Int) (tz : Tok), v = .int z tz := by
            rcases (show i = 0 ∨ i = 1 ∨ i = 2 ∨ i = 3 by omega) with rfl | rfl | rfl | rfl <;> exact ⟨_, _, (Option.some.inj hv).symm⟩
          refine small fun Gx hGx => ?_
          obtain ⟨z, tz, rfl⟩ := hvv
          refine hGx ?_
          clear hGx Gx
          k_steps
          all_goals (repeat (first | refine Hc6.out _ _ ?_ | refine Hc5.out _ _ ?_ | refine Hc4.out _ _ ?_ | refine Ht3.out _ _ ?_ | refine Hc2.out _ _ ?_ | refine Hc1.out _ _ ?_))
          all_goals (try ((try dsimp only); (with_reducible refine wpAny_execs_nil ?_); (repeat (first | refine Hc6.out _ _ ?_ | refine Hc5.out _ _ ?_ | refine Hc4.out _ _ ?_ | refine Ht3.out _ _ ?_ | refine Hc2.out _ _ ?_ | refine Hc1.out _ _ ?_))))
          all_goals first
            | omega
            | (simp only [List.length_append, List.length_cons, List.length_nil]; omega)
        · intro ys hys
          unfold LCg.FinE
          intro D h tk F N off
          dsimp only
          k_steps
          all_goals (repeat (first | refine Hc6.out _ _ ?_ | refine Hc5.out _ _ ?_ | refine Hc4.out _ _ ?_ | refine Ht3.out _ _ ?_ | refine Hc2.out _ _ ?_ | refine Hc1.out _ _ ?_))
          all_goals (try ((try dsimp only); (with_reducible refine wpAny_execs_nil ?_); (repeat (first | refine Hc6.out _ _ ?_ | refine Hc5.out _ _ ?_ | refine Hc4.out _ _ ?_ | refine Ht3.out _ _ ?_ | refine Hc2.out _ _ ?_ | refine Hc1.out _ _ ?_))))
          k_dflt (refine PyProof.Rows.len_list (items := ys.toArray) (N.isList (List.mem_cons_self ..)) (by simp only [List.size_toArray]; omega) ?_)
          k_steps
          all_goals (repeat (first | refine Hc6.out _ _ ?_ | refine Hc5.out _ _ ?_ | refine Hc4.out _ _ ?_ | refine Ht3.out _ _ ?_ | refine Hc2.out _ _ ?_ | refine Hc1.out _ _ ?_))
          all_goals (try ((try dsimp only); (with_reducible refine wpAny_execs_nil ?_); (repeat (first | refine Hc6.out _ _ ?_ | refine Hc5.out _ _ ?_ | refine Hc4.out _ _ ?_ | refine Ht3.out _ _ ?_ | refine Hc2.out _ _ ?_ | refine Hc1.out _ _ ?_))))
          rename Fr _ _ _ _ => F4
          rename News _ _ _ _ => N4
          exact ⟨ys.toArray.size, _, by simpa using hys, at_intro F4 N4 (by tb_start) (by tb_rel) (by exact nd)⟩
      clear F N nd h tk m
      intro s' hs9
      refine small fun Gx hGx => ?_
      obtain ⟨sz, tz, hsz, h, tk, m, rfl, F, N, nd⟩ := hs9
      refine hGx ?_
      clear hGx Gx
      simp only [List.drop_succ_cons, List.drop_zero]
      refine cut_at 1 (R := fun s' => ∃ (wh : Int) (tw : Tok) (oc : Obj), -40 ≤ wh ∧ wh ≤ 121 ∧ oc.data = .cell (some (.int wh tw)) ∧ At s s.heap L [(Str.ofString "size", .int sz tz), (Str.ofString "number", .int nu tn), (Str.ofString "words", .ref wl), (Str.ofString "text", .str (ofL (rows ps)) t), (Str.ofString "script", .ref sc), (Str.ofString "k", .int (0 + (i : Int)) ti)] [(it, rangeIt (0 + (i : Int) + 1) ((3 : Nat) - (i : Int) - 1) 1), (wl, listOf wv.toArray ep), (L + 1, oc)] s') ?_ ?_
      · refine hide fun Qc7 Hc7 => ?_
        simp only [List.take_succ_cons, List.take_zero]
        have hsz5 : sz = 0 ∨ sz = 1 ∨ sz = 2 ∨ sz = 3 ∨ sz = 4 := by omega
        have hg : 0 ≤ ([0, 1, 4, 13, 40] : List Int).getD ((sz : Int)).toNat 0 ∧ ([0, 1, 4, 13, 40] : List Int).getD ((sz : Int)).toNat 0 ≤ 40 := by
          rcases hsz5 with rfl | rfl | rfl | rfl | rfl <;> decide
        k_steps
        all_goals (repeat (first | refine Hc7.out _ _ ?_ | refine Hc6.out _ _ ?_ | refine Hc5.out _ _ ?_ | refine Hc4.out _ _ ?_ | refine Ht3.out _ _ ?_ | refine Hc2.out _ _ ?_ | refine Hc1.out _ _ ?_))
        all_goals (try ((try dsimp only); (with_reducible refine wpAny_execs_nil ?_); (repeat (first | refine Hc7.out _ _ ?_ | refine Hc6.out _ _ ?_ | refine Hc5.out _ _ ?_ | refine Hc4.out _ _ ?_ | refine Ht3.out _ _ ?_ | refine Hc2.out _ _ ?_ | refine Hc1.out _ _ ?_))))
        rename Fr _ _ _ _ => F3
        rename News _ _ _ _ => N3
        simp only [List.cons_append, List.nil_append] at N3
        exact ⟨wh - ([0, 1, 4, 13, 40] : List Int).getD ((sz : Int)).toNat 0, _, _, by omega, by omega, by assumption, at_intro F3 N3 (by tb_start) (by tb_rel) (by exact nd)⟩
      clear F N nd h tk m dcv oc hw0 hw1 wh
      intro s' hs9
      refine small fun Gx hGx => ?_
      obtain ⟨wh, tw2, oc, hw0, hw1, dcv, h, tk, m, rfl, F, N, nd⟩ := hs9
      refine hGx ?_
      clear hGx Gx
      simp only [List.drop_succ_cons, List.drop_zero]
      refine cut_at 1 (R := fun s' => ∃ (wd : List Nat) (tx : Tok), Word wd ∧ At s s.heap L [(Str.ofString "word", .str (ofL wd) tx), (Str.ofString "number", .int nu tn), (Str.ofString "words", .ref wl), (Str.ofString "text", .str (ofL (rows ps)) t), (Str.ofString "script", .ref sc), (Str.ofString "k", .int (0 + (i : Int)) ti)] [(it, rangeIt (0 + (i : Int) + 1) ((3 : Nat) - (i : Int) - 1) 1), (wl, listOf wv.toArray ep), (L + 1, oc)] s') ?_ ?_
      · refine hide fun Qc8 Hc8 => ?_
        simp only [List.take_succ_cons, List.take_zero]
        k_steps
        all_goals (repeat (first | refine Hc8.out _ _ ?_ | refine Hc7.out _ _ ?_ | refine Hc6.out _ _ ?_ | refine Hc5.out _ _ ?_ | refine Hc4.out _ _ ?_ | refine Ht3.out _ _ ?_ | refine Hc2.out _ _ ?_ | refine Hc1.out _ _ ?_))
        all_goals (try ((try dsimp only); (with_reducible refine wpAny_execs_nil ?_); (repeat (first | refine Hc8.out _ _ ?_ | refine Hc7.out _ _ ?_ | refine Hc6.out _ _ ?_ | refine Hc5.out _ _ ?_ | refine Hc4.out _ _ ?_ | refine Ht3.out _ _ ?_ | refine Hc2.out _ _ ?_ | refine Hc1.out _ _ ?_))))
        refine ⟨?_⟩
        k_dflt (refine LCg.ListComp_U (F₀ := by k_asm) (by with_unfolding_all rfl) (by decide) (by rfl) (by decide) (by rfl) ?_)
        k_steps
        all_goals (repeat (first | refine Hc8.out _ _ ?_ | refine Hc7.out _ _ ?_ | refine Hc6.out _ _ ?_ | refine Hc5.out _ _ ?_ | refine Hc4.out _ _ ?_ | refine Ht3.out _ _ ?_ | refine Hc2.out _ _ ?_ | refine Hc1.out _ _ ?_))
        all_goals (try ((try dsimp only); (with_reducible refine wpAny_execs_nil ?_); (repeat (first | refine Hc8.out _ _ ?_ | refine Hc7.out _ _ ?_ | refine Hc6.out _ _ ?_ | refine Hc5.out _ _ ?_ | refine Hc4.out _ _ ?_ | refine Ht3.out _ _ ?_ | refine Hc2.out _ _ ?_ | refine Hc1.out _ _ ?_))))
        refine ⟨?_⟩
        rename_i a1 F3 N3 k1
        rename IsRange _ _ _ _ _ _ _ _ => hr
        k_dflt (refine LCg.CompSrc.range (n := sz) rfl F3 N3 hr (small_of (by omega) (by omega) (by omega) (by omega) (by omega) (by omega)) ?szz (Nat.le_trans hsz (by decide)) ?_)
        case szz => exact_mod_cast size_one (n := sz)
        intro g
        refine comp_ind sz Lets Lets.nil ?_ ?_
        · clear F3 N3
          rintro i ys hi4 hys v I oI C oC D m₂ h tk E' ⟨tv, rfl⟩ hC hx F N off ne
          replace off := off_nef off
          simp only [OffN, and_true] at off
          refine small fun Gx hGx => ?_
          obtain ⟨⟨u1, u2, u3⟩, ⟨v1, v2, v3⟩, ⟨y1, y2, y3⟩⟩ := off
          refine hGx ?_
          clear hGx Gx
          refine small fun Gx hGx => ?_
          obtain ⟨z1, z2, z3⟩ := ne_nef ne
          refine hGx ?_
          clear hGx Gx
          clear ne
          have i4 : i = 0 ∨ i = 1 ∨ i = 2 ∨ i = 3 := by omega
          rcases i4 with rfl | rfl | rfl | rfl
          all_goals simp only [Int.natCast_zero, Int.natCast_one, Int.cast_ofNat_Int, Int.add_zero, Int.zero_add] at hx
          · k_steps
            all_goals (repeat (first | refine Hc8.out _ _ ?_ | refine Hc7.out _ _ ?_ | refine Hc6.out _ _ ?_ | refine Hc5.out _ _ ?_ | refine Hc4.out _ _ ?_ | refine Ht3.out _ _ ?_ | refine Hc2.out _ _ ?_ | refine Hc1.out _ _ ?_))
            all_goals (try ((try dsimp only); (with_reducible refine wpAny_execs_nil ?_); (repeat (first | refine Hc8.out _ _ ?_ | refine Hc7.out _ _ ?_ | refine Hc6.out _ _ ?_ | refine Hc5.out _ _ ?_ | refine Hc4.out _ _ ?_ | refine Ht3.out _ _ ?_ | refine Hc2.out _ _ ?_ | refine Hc1.out _ _ ?_))))
            exact hys.snoc _ _
          · k_steps
            all_goals (repeat (first | refine Hc8.out _ _ ?_ | refine Hc7.out _ _ ?_ | refine Hc6.out _ _ ?_ | refine Hc5.out _ _ ?_ | refine Hc4.out _ _ ?_ | refine Ht3.out _ _ ?_ | refine Hc2.out _ _ ?_ | refine Hc1.out _ _ ?_))
            all_goals (try ((try dsimp only); (with_reducible refine wpAny_execs_nil ?_); (repeat (first | refine Hc8.out _ _ ?_ | refine Hc7.out _ _ ?_ | refine Hc6.out _ _ ?_ | refine Hc5.out _ _ ?_ | refine Hc4.out _ _ ?_ | refine Ht3.out _ _ ?_ | refine Hc2.out _ _ ?_ | refine Hc1.out _ _ ?_))))
            exact hys.snoc _ _
          · k_steps
            all_goals (repeat (first | refine Hc8.out _ _ ?_ | refine Hc7.out _ _ ?_ | refine Hc6.out _ _ ?_ | refine Hc5.out _ _ ?_ | refine Hc4.out _ _ ?_ | refine Ht3.out _ _ ?_ | refine Hc2.out _ _ ?_ | refine Hc1.out _ _ ?_))
            all_goals (try ((try dsimp only); (with_reducible refine wpAny_execs_nil ?_); (repeat (first | refine Hc8.out _ _ ?_ | refine Hc7.out _ _ ?_ | refine Hc6.out _ _ ?_ | refine Hc5.out _ _ ?_ | refine Hc4.out _ _ ?_ | refine Ht3.out _ _ ?_ | refine Hc2.out _ _ ?_ | refine Hc1.out _ _ ?_))))
            exact hys.snoc _ _
          · k_steps
            all_goals (repeat (first | refine Hc8.out _ _ ?_ | refine Hc7.out _ _ ?_ | refine Hc6.out _ _ ?_ | refine Hc5.out _ _ ?_ | refine Hc4.out _ _ ?_ | refine Ht3.out _ _ ?_ | refine Hc2.out _ _ ?_ | refine Hc1.out _ _ ?_))
            all_goals (try ((try dsimp only); (with_reducible refine wpAny_execs_nil ?_); (repeat (first | refine Hc8.out _ _ ?_ | refine Hc7.out _ _ ?_ | refine Hc6.out _ _ ?_ | refine Hc5.out _ _ ?_ | refine Hc4.out _ _ ?_ | refine Ht3.out _ _ ?_ | refine Hc2.out _ _ ?_ | refine Hc1.out _ _ ?_))))
            exact hys.snoc _ _
        · rintro ys hL
          refine small fun Gx hGx => ?_
          obtain ⟨l, hl1, hl2, hys⟩ := hL.out
          refine hGx ?_
          clear hGx Gx
          unfold LCg.FinE
          intro D h tk F N off
          dsimp only
          k_steps
          all_goals (repeat (first | refine Hc8.out _ _ ?_ | refine Hc7.out _ _ ?_ | refine Hc6.out _ _ ?_ | refine Hc5.out _ _ ?_ | refine Hc4.out _ _ ?_ | refine Ht3.out _ _ ?_ | refine Hc2.out _ _ ?_ | refine Hc1.out _ _ ?_))
          all_goals (try ((try dsimp only); (with_reducible refine wpAny_execs_nil ?_); (repeat (first | refine Hc8.out _ _ ?_ | refine Hc7.out _ _ ?_ | refine Hc6.out _ _ ?_ | refine Hc5.out _ _ ?_ | refine Hc4.out _ _ ?_ | refine Ht3.out _ _ ?_ | refine Hc2.out _ _ ?_ | refine Hc1.out _ _ ?_))))
          refine ⟨?_⟩
          k_dflt (refine join_all N (List.mem_cons_self ..) hys (by rw [List.length_map]; omega) (by rw [flat_one]; omega) ?_)
          rw [flat_one]
          intro t k
          k_steps
          all_goals (repeat (first | refine Hc8.out _ _ ?_ | refine Hc7.out _ _ ?_ | refine Hc6.out _ _ ?_ | refine Hc5.out _ _ ?_ | refine Hc4.out _ _ ?_ | refine Ht3.out _ _ ?_ | refine Hc2.out _ _ ?_ | refine Hc1.out _ _ ?_))
          all_goals (try ((try dsimp only); (with_reducible refine wpAny_execs_nil ?_); (repeat (first | refine Hc8.out _ _ ?_ | refine Hc7.out _ _ ?_ | refine Hc6.out _ _ ?_ | refine Hc5.out _ _ ?_ | refine Hc4.out _ _ ?_ | refine Ht3.out _ _ ?_ | refine Hc2.out _ _ ?_ | refine Hc1.out _ _ ?_))))
          rename Fr _ _ _ _ => F4
          rename News _ _ _ _ => N4
          exact ⟨l, _, ⟨by omega, hl2⟩, at_intro F4 N4 (by tb_start) (by tb_rel) (by exact nd)⟩
      clear F N nd h tk m
      intro s' hs9
      refine small fun Gx hGx => ?_
      obtain ⟨wd, tx, hwd, h, tk, m, rfl, F, N, nd⟩ := hs9
      refine hGx ?_
      clear hGx Gx
      simp only [List.drop_succ_cons, List.drop_zero]
      refine small fun Gx hGx => ?_
      obtain ⟨⟨x1, x2⟩, x3⟩ := nodup3' nd
      refine hGx ?_
      clear hGx Gx
      have hlw : wv.length = i := by rw [hwv.len_eq, List.length_map, hpl]
      have lR := ofL_length (rows ps)
      have lR2 := rows_len hpw
      k_steps
      all_goals (repeat (first | refine Hc8.out _ _ ?_ | refine Hc7.out _ _ ?_ | refine Hc6.out _ _ ?_ | refine Hc5.out _ _ ?_ | refine Hc4.out _ _ ?_ | refine Ht3.out _ _ ?_ | refine Hc2.out _ _ ?_ | refine Hc1.out _ _ ?_))
      all_goals (try ((try dsimp only); (with_reducible refine wpAny_execs_nil ?_); (repeat (first | refine Hc8.out _ _ ?_ | refine Hc7.out _ _ ?_ | refine Hc6.out _ _ ?_ | refine Hc5.out _ _ ?_ | refine Hc4.out _ _ ?_ | refine Ht3.out _ _ ?_ | refine Hc2.out _ _ ?_ | refine Hc1.out _ _ ?_))))
      refine ⟨?_⟩
      k_dflt (refine sp_call (by k_asm) (by k_asm) (by k_asm) (by k_asm) (show dp + 1 + 1 < recursionLimit by omega) hwd ?_)
      intro t2 h2 tk2 F2 N2
      generalize ((nu.fdiv 121).fmod 2 == 1) = q
      have lW := ofL_length (spell wd q)
      have lW2 := spell_len (q := q) hwd
      have lW3 := ofL_length [10]
      have e : ofL (rows ps) ++ (ofL (spell wd q) ++ Str.ofString "\n") = ofL (rows (ps ++ [(wd, q)])) := by
        rw [show Str.ofString "\n" = ofL [10] from rfl, ofL_append, ofL_append, rows_snoc]
      k_steps
      all_goals (repeat (first | refine Hc8.out _ _ ?_ | refine Hc7.out _ _ ?_ | refine Hc6.out _ _ ?_ | refine Hc5.out _ _ ?_ | refine Hc4.out _ _ ?_ | refine Ht3.out _ _ ?_ | refine Hc2.out _ _ ?_ | refine Hc1.out _ _ ?_))
      all_goals (try ((try dsimp only); (with_reducible refine wpAny_execs_nil ?_); (repeat (first | refine Hc8.out _ _ ?_ | refine Hc7.out _ _ ?_ | refine Hc6.out _ _ ?_ | refine Hc5.out _ _ ?_ | refine Hc4.out _ _ ?_ | refine Ht3.out _ _ ?_ | refine Hc2.out _ _ ?_ | refine Hc1.out _ _ ?_))))
      rename Fr _ _ _ _ => F3
      rename News _ _ _ _ => N3
      simp only [e] at F3
      simp only [List.push_toArray] at N3
      refine ⟨⟨ps ++ [(wd, q)], wv ++ [.str (ofL wd) tx], _, _, oc⟩, ⟨⟨_, dcv⟩, by simp [hpl], ?_, ?_⟩, at_intro F3 N3 (by tb_start) (by tb_rel) (by exact nd)⟩
      · intro p hp
        rcases List.mem_append.mp hp with hp | hp
        · exact hpw p hp
        · rw [List.mem_singleton.mp hp]; exact hwd
      · simp only [List.map_append, List.map_cons, List.map_nil]; exact StrsAre.snoc hwv _ _
    · rintro c h tk m hp9 F N nd
      refine small fun Gx hGx => ?_
      obtain ⟨-, hpl, hpw, hwv⟩ := hp9
      refine hGx ?_
      clear hGx Gx
      refine wpAny_execs_nil ?_
      all_goals (repeat (first | refine Hc8.out _ _ ?_ | refine Hc7.out _ _ ?_ | refine Hc6.out _ _ ?_ | refine Hc5.out _ _ ?_ | refine Hc4.out _ _ ?_ | refine Ht3.out _ _ ?_ | refine Hc2.out _ _ ?_ | refine Hc1.out _ _ ?_))
      all_goals (try ((try dsimp only); (with_reducible refine wpAny_execs_nil ?_); (repeat (first | refine Hc8.out _ _ ?_ | refine Hc7.out _ _ ?_ | refine Hc6.out _ _ ?_ | refine Hc5.out _ _ ?_ | refine Hc4.out _ _ ?_ | refine Ht3.out _ _ ?_ | refine Hc2.out _ _ ?_ | refine Hc1.out _ _ ?_))))
      exact ⟨c, hpl, hpw, hwv, at_intro F N (by tb_start) (by tb_rel) (by simp)⟩
  · intro s' hs9
    refine small fun Gx hGx => ?_
    obtain ⟨⟨ps, wv, ep, t, oc⟩, hpl, hpw, hwv, h, tk, m, rfl, F, N, nd⟩ := hs9
    refine hGx ?_
    clear hGx Gx
    simp only [List.drop_succ_cons, List.drop_zero]
    dsimp only at hpl hpw hwv F N
    k_steps
    all_goals (repeat (first | refine Hc8.out _ _ ?_ | refine Hc7.out _ _ ?_ | refine Hc6.out _ _ ?_ | refine Hc5.out _ _ ?_ | refine Hc4.out _ _ ?_ | refine Ht3.out _ _ ?_ | refine Hc2.out _ _ ?_ | refine Hc1.out _ _ ?_))
    all_goals (try ((try dsimp only); (with_reducible refine wpAny_execs_nil ?_); (repeat (first | refine Hc8.out _ _ ?_ | refine Hc7.out _ _ ?_ | refine Hc6.out _ _ ?_ | refine Hc5.out _ _ ?_ | refine Hc4.out _ _ ?_ | refine Ht3.out _ _ ?_ | refine Hc2.out _ _ ?_ | refine Hc1.out _ _ ?_))))
    rename Fr _ _ _ _ => F3
    rename News _ _ _ _ => N3
    rename _ < _ => l1
    have hD := N3 _ (List.mem_cons_self ..)
    have hW := N3 _ (.tail _ (.head _))
    exact hQ _ wl wv ep ps t _ _ F3.keep hD.2.2 hW.2.2 (Nat.ne_of_gt l1) hD.1 hW.1 hwv hpl hpw
end Mine
end

section
open PySem PySem.W PyProof.Rows PySem.Calls PyProof
set_option Elab.async false
set_option maxRecDepth 100000
set_option maxHeartbeats 8000000
set_option linter.unusedSimpArgs false
set_option linter.unusedVariables false
namespace Mine
example : True := by
  w_top off
  exact True.intro
example : (PySem.Challenge.rw_pe0171_01 = PySem.Challenge.rw_pe0171_01) ∧ hd.heap_1 = hd.heap_1 := by
  k_fill
  exact ⟨rfl, rfl⟩

set_option pp.deepTerms false
set_option pp.maxSteps 3000
local macro_rules | `(tactic| walk_at "call ref") => `(tactic| (refine Cut.out ?_))

theorem quo_len {l tok tf rf : List Nat} (h : Quo l tok tf rf) : rf.length ≤ l.length := by
  induction h with
  | stop => simp
  | esc _ _ _ _ _ ih => simp; omega
  | on _ _ _ _ _ _ _ ih => simp; omega
theorem bare_len {l tok tf rf : List Nat} (h : Bare l tok tf rf) : rf.length ≤ l.length := by
  induction h with
  | stop => simp
  | esc _ _ _ _ _ ih => simp; omega
  | on _ _ _ _ _ _ _ ih => simp; omega
theorem out_len {l tf rf : List Nat} (h : Out l tf rf) : rf.length ≤ l.length := by
  induction h with
  | nil => simp
  | skip _ _ _ _ ih => simp; omega
  | quo _ _ _ h => have := quo_len h; simp; omega
  | esc _ _ _ h => have := bare_len h; simp; omega
  | on _ _ _ _ _ h => have := bare_len h; simp; omega

theorem run_spec {w : World} {dp un : Nat} {fr : Option (List Env)} {gd : Option (List Code)} {s : Shared} {g : Heap} {p : Program} {loose : List Str} {mean : ExcName → Option Value} {mg mb : Str → Option Value} {a : LexA} {n : Int} {u : Tok} {pbe : Nat} {vs : List Value} {ep : Nat} {l w0 w1 w2 r1 r2 r3 : List Nat} {Q E : Value → Shared → Prop}
   (X : (hd.heap_1 w.params).In g) (T : Top p loose mean mg mb g) (C : CodeHd g 116 112) (kg : Keeps g s.heap) (g112 : g.get? 112 = none) (e112 : s.heap.get? 112 = some (tabObj #[])) (ok : LexOk w g a) (n112 : 112 ∉ a.addrs) (hin : ∀ q ∈ a.objs w n u [] pbe vs ep, s.heap.get? q.1 = some q.2) (hc : CharsAre vs l) (hl : l.length ≤ 100) (hn0 : 0 ≤ n) (hn1 : n + (l.count 10 : Nat) ≤ 1000)
   (o1 : Out l w0 r1) (o2 : Out r1 w1 r2) (o3 : Out r2 w2 r3) (l0 : w0.length ≤ 4) (l1 : w1.length ≤ 4) (l2 : w2.length ≤ 4) (hroom : dp + 8 < recursionLimit)
   (hQ : ∀ (tp rl al : Addr) (ta tb tc td : Tok) (re : Nat) (av : List Value) (ae pbe' : Nat) (n' : Int) (u' : Tok) (vs' : List Value) (ep' : Nat) (h' : Heap) (tk' : Nat), Keeps (hideAll s.heap (112 :: a.addrs)) h' → (∀ x ∈ [tp, rl, al], s.heap.get? x = none) → h'.get? tp = some { cls := .type "tuple", data := .seq #[.ref rl, .ref al] } →
      h'.get? rl = some (listOf #[.str (ofL w0) ta, .str (ofL w1) tb, .str (ofL w1) tc, .str (ofL w2) td] re) → h'.get? al = some (listOf av.toArray ae) → IntsAre av (ansTo w0 w1 25 ++ ansTo w1 w2 25) → (∀ q ∈ a.objs w n' u' [] pbe' vs' ep', h'.get? q.1 = some q.2) → CharsAre vs' r3 → n' + (r3.count 10 : Nat) = n + (l.count 10 : Nat) → 0 ≤ n' → tp ≠ rl → tp ≠ al → rl ≠ al → (∃ ps, h'.get? 112 = some (tabObj ps)) → Q (.ref tp) { s with heap := h', toks := tk' }) :
   wpAny (model theProg w) (Ar dp un fr gd) (PySem.call (.ref 131) [.ref a.lx]) Q E s := by
  k_dflt (refine' enter_raw (X.keeps kg) (T.keeps kg).nolimit ?ho ?hcd (show dp < recursionLimit by omega) (BindsTo.of_eq (binds := [(Str.ofString "lexer", .ref a.lx)]) ?hbind) (locs ?hloc) ?_ ?h1 ?h2 ?h3 ?hcell)
  case ho => k_is
  case hcd => k_is
  case hbind => exact rfl
  case hcell => decide
  case hloc => exact rfl
  case h1 => exact rfl
  case h2 => exact rfl
  case h3 => exact rfl
  k_dflt (intro L h₁ F' N')
  have kg2 : Keeps g (hideAll s.heap (112 :: a.addrs)) := keeps_hide kg (by
    intro x hx
    rcases List.mem_cons.mp hx with rfl | hx
    · exact g112
    · exact ok.free x hx)
  have X2 := X.keeps kg2
  have T2 := T.keeps kg2
  have C2 := C.keeps kg2
  obtain ⟨F, N⟩ := rebase ((112, tabObj #[]) :: a.objs w n u [] pbe vs ep) F' N' (by
    intro q hq
    rcases List.mem_cons.mp hq with rfl | hq
    · exact e112
    · exact hin q hq)
  rw [show ((112, tabObj #[]) :: a.objs w n u [] pbe vs ep).map (·.1) = 112 :: a.addrs from rfl] at F N
  clear F' N'
  have hq1 := out_len o1
  have hq2 := out_len o2
  generalize hH : hideAll s.heap (112 :: a.addrs) = H at *
  rw [List.nil_append] at N
  try dsimp only
  k_steps
  refine ⟨?_⟩
  dsimp only [List.cons_append, List.nil_append]
  k_dflt (refine gtok_call [(112, tabObj #[])] ok X T kg2 (by k_asm) (by k_asm) (fun q hq => .tail _ hq) (fun q hq => by rw [List.mem_singleton.mp hq]; exact .head _) (fun q hq => by rw [List.mem_singleton.mp hq]; exact n112) hc hl hn0 hn1 o1 (show dp + 1 + 6 < recursionLimit by omega) ?_)
  intro ta n1 u1 vs1 ep1 h1 tk1 F1 N1 hc1 hn1' h01
  clear F N
  have off1 : ∀ {o : Obj}, ∀ r ∈ [((112 : Addr), o)], r.1 ∉ a.addrs := fun q hq => by rw [List.mem_singleton.mp hq]; exact n112
  have o112 : ∀ {n u pbv pbe vs ep}, ∀ q ∈ a.objs w n u pbv pbe vs ep, q.1 ≠ 112 := fun q hq e => n112 (e ▸ List.mem_map_of_mem (f := Prod.fst) hq)
  k_steps
  refine ⟨?_⟩
  try dsimp only [List.cons_append, List.nil_append, List.append_nil]
  rename Fr _ _ _ _ => F
  rename News _ _ _ _ => N
  k_dflt (refine gtok_call [(112, tabObj #[])] ok X T kg2 F N (fun q hq => List.mem_append.mpr (.inl hq)) (fun q hq => List.mem_append.mpr (.inr hq)) off1 hc1 (Nat.le_trans hq1 hl) h01 (by omega) o2 (show dp + 1 + 6 < recursionLimit by omega) ?_)
  clear F N
  intro tb n2 u2 vs2 ep2 h2 tk2 F2 N2 hc2 hn2' h02
  k_steps
  refine ⟨?_⟩
  try dsimp only [List.cons_append, List.nil_append, List.append_nil]
  rename Fr _ _ _ _ => F
  rename News _ _ _ _ => N
  k_dflt (refine push_call [(112, tabObj #[])] ok X T kg2 F N (fun q hq => List.mem_append.mpr (.inl hq)) (fun q hq => List.mem_append.mpr (.inr hq)) off1 (show dp + 1 + 2 < recursionLimit by omega) ?_)
  clear F N
  intro pbe2 h3 tk3 F3 N3
  k_steps
  refine ⟨?_⟩
  try dsimp only [List.cons_append, List.nil_append, List.append_nil]
  rename Fr _ _ _ _ => F
  rename News _ _ _ _ => N
  k_dflt (refine ask_call (tl0 := [(112, tabObj #[])]) (a.objs w n2 u2 [.str (ofL w1) tb] pbe2 vs2 ep2) X2 T2 C2 F N (.inl rfl) (fun q hq => List.mem_append.mpr (.inr hq)) ⟨_, .head _⟩ (fun q hq => List.mem_append.mpr (.inl hq)) o112 (show dp + 1 + 4 < recursionLimit by omega) l0 l1 ?_)
  intro al1 av1 ae1 c oc h4 tk4 F4 N4 hcf hne4 hco hal1 hav1
  have nc : c ∉ a.addrs := by
    intro q
    obtain ⟨x, hx, e⟩ := List.mem_map.mp (show c ∈ (a.objs w n2 u2 [.str (ofL w1) tb] pbe2 vs2 ep2).map (·.1) from q)
    rcases hco with hco | hco
    · have := (N x (List.mem_append.mpr (.inl hx))).1
      rw [e, hco] at this; cases this
    · have := congrArg Prod.fst (List.mem_singleton.mp hco)
      exact hne4.out this.symm
  have nal : al1 ∉ a.addrs := by
    intro q
    obtain ⟨x, hx, e⟩ := List.mem_map.mp (show al1 ∈ (a.objs w n2 u2 [.str (ofL w1) tb] pbe2 vs2 ep2).map (·.1) from q)
    have := (N x (List.mem_append.mpr (.inl hx))).1
    rw [e, hal1] at this; cases this
  have nal112 : al1 ≠ 112 := by
    intro q
    have := (N (112, tabObj #[]) (List.mem_append.mpr (.inr (.head _)))).1
    rw [← q, hal1] at this; cases this
  clear F N hco hal1
  have off3 : ∀ r ∈ [(al1, listOf av1.toArray ae1), (112, tabF c), (c, oc)], r.1 ∉ a.addrs := by
    intro q hq
    simp only [List.mem_cons, List.not_mem_nil, or_false] at hq
    rcases hq with e | e | e
    · rw [e]; exact nal
    · rw [e]; exact n112
    · rw [e]; exact nc
  k_steps
  refine ⟨?_⟩
  try dsimp only [List.cons_append, List.nil_append, List.append_nil]
  rename Fr _ _ _ _ => F
  rename News _ _ _ _ => N
  k_dflt (refine gpop_call [(al1, listOf av1.toArray ae1), (112, tabF c), (c, oc)] ok X T kg2 F N (fun q hq => .tail _ (.tail _ (.tail _ hq))) ?hr off3 (show dp + 1 + 2 < recursionLimit by omega) ?_)
  case hr => tb_rel
  clear F N
  intro pbe3 h5 tk5 F5 N5
  k_steps
  refine ⟨?_⟩
  try dsimp only [List.cons_append, List.nil_append, List.append_nil]
  rename Fr _ _ _ _ => F
  rename News _ _ _ _ => N
  k_dflt (refine gtok_call [(al1, listOf av1.toArray ae1), (112, tabF c), (c, oc)] ok X T kg2 F N (fun q hq => List.mem_append.mpr (.inl hq)) (fun q hq => List.mem_append.mpr (.inr hq)) off3 hc2 (Nat.le_trans hq2 (Nat.le_trans hq1 hl)) h02 (by omega) o3 (show dp + 1 + 6 < recursionLimit by omega) ?_)
  clear F N
  intro td n3 u3 vs3 ep3 h6 tk6 F6 N6 hc3 hn3' h03
  simp only [LexA.objs, List.cons_append, List.nil_append] at N6
  k_steps
  refine ⟨?_⟩
  rename_i rl hx7 F N lrl
  have nrl : rl ≠ 112 := Nat.ne_of_gt lrl.2.2.2.2.2.2.2.2.2.2.1
  have nral : rl ≠ al1 := Nat.ne_of_gt lrl.2.2.2.2.2.2.2.2.2.1
  k_dflt (refine ask_call (tl0 := [(112, tabF c), (c, oc)]) ((rl, listOf #[.str (ofL w0) ta, .str (ofL w1) tb, .str (ofL w1) tb, .str (ofL w2) td] 0) :: (al1, listOf av1.toArray ae1) :: a.objs w n3 u3 [] pbe3 vs3 ep3) X2 T2 C2 F N (.inr ⟨c, oc, rfl, hcf, hne4⟩) (by tb_rel) ⟨_, .head _⟩ (by tb_rel) ?hne (show dp + 1 + 4 < recursionLimit by omega) l1 l2 ?_)
  case hne =>
    intro q hq
    rcases List.mem_cons.mp hq with e | hq
    · rw [e]; exact nrl
    · rcases List.mem_cons.mp hq with e | hq
      · rw [e]; exact nal112
      · exact o112 q hq
  clear F N
  intro al2 av2 ae2 c2 oc2 h7 tk7 F N hcf2 hne7 hco2 hal2 hav2
  simp only [LexA.objs, List.cons_append, List.nil_append] at N
  have hlen1 := hav1.length
  have hlen2 := hav2.length
  have hla1 : (ansTo w0 w1 25).length = 25 := by simp [ansTo]
  have hla2 : (ansTo w1 w2 25).length = 25 := by simp [ansTo]
  k_steps
  rename_i la D hD F N lb
  rename IntsAre _ (_ ++ _) => hws
  have sn : ∀ x o, H.get? x = none → x ∉ 112 :: a.addrs → s.heap.get? x = o → o = none := by
    intro x o h1 h2 e
    cases o with
    | none => rfl
    | some o => have := hideAll_get _ e h2; rw [hH, h1] at this; cases this
  refine small fun Gx hGx => ?_
  obtain ⟨p1, p2, p3, p4, p5, p6, p7, p8, p9, p10, p11, p12⟩ := lrl
  refine hGx ?_
  clear hGx Gx
  have hA := N _ (.head _)
  have hB := N _ (.tail _ (.head _))
  have hR := N (rl, listOf #[.str (ofL w0) ta, .str (ofL w1) tb, .str (ofL w1) tb, .str (ofL w2) td] 0) (by k_mem)
  refine hQ D rl _ ta tb tb td 0 _ 0 pbe3 n3 u3 vs3 ep3 _ _ F.keep ?_ hA.1 hR.1 hB.1 hws ?_ hc3 (by omega) h03 (Nat.ne_of_gt lb.2.2.2.2.1) (Nat.ne_of_gt lb.1) (Nat.ne_of_lt la.2.2.2.1) ⟨_, (N (112, tabF c2) (by k_mem)).1⟩
  · intro x hx
    simp only [List.mem_cons, List.not_mem_nil, or_false] at hx
    rcases hx with e | e | e
    · rw [e]; exact sn _ _ hA.2.2 (nin10 ⟨lb.2.2.1, lb.2.2.2.2.2.2⟩) rfl
    · rw [e]; exact sn _ _ hR.2.2 (nin10 ⟨p11, p1, p2, p3, p4, p5, p6, p7, p8, p9⟩) rfl
    · rw [e]; exact sn _ _ hB.2.2 (nin10 ⟨la.2.1, la.2.2.2.2.2⟩) rfl
  · intro q hq
    exact (N q (.tail _ (.tail _ (.tail _ (.tail _ (.tail _ (.tail _ (.tail _ hq)))))))).1
end Mine
end

section
open PySem PySem.W PyProof.Rows PySem.Calls PyProof
set_option Elab.async false
set_option maxRecDepth 100000
set_option maxHeartbeats 4000000
set_option linter.unusedVariables false
set_option linter.unusedSimpArgs false
namespace Mine
section
variable {w : World} {dp un : Nat} {fr : Option (List Env)} {gd : Option (List Code)} {s : Shared} {h₀ : Heap} {L : Addr} {m : Str → Option Value} {news : List (Addr × Obj)} {p : Program} {loose : List Str} {mean : ExcName → Option Value} {mg mb : Str → Option Value} {Q E : Value → Shared → Prop}
theorem mk_new (F : Fr h₀ L s.heap m) {h' : Heap} {x : Addr} {o : Obj} (e : h'.get? x = some o) (en : s.heap.get? x = none) : h'.get? x = some o ∧ x ≠ L ∧ h₀.get? x = none := by
  refine ⟨e, fun ql => ?_, ?_⟩
  · obtain ⟨oL, _, _, hL, _⟩ := F.ns
    rw [ql, hL] at en; cases en
  · cases e' : h₀.get? x with
    | none => rfl
    | some o' => have := F.keep _ _ e'; rw [en] at this; cases this
theorem ne_old (N : News h₀ L s.heap news) {x : Addr} (en : s.heap.get? x = none) : ∀ q ∈ news, q.1 ≠ x := fun q hq e => by
  have := (N q hq).1
  rw [e, en] at this; cases this
theorem draw_call {sc : Addr} {vs : List Value} {ns : List Int} (F : Fr h₀ L s.heap m) (N : News h₀ L s.heap news) (X : (hd.heap_1 w.params).In h₀) (T : Top p loose mean mg mb h₀) (hroom : dp + 3 < recursionLimit) (hS : h₀.IsList sc vs.toArray) (hI : IntsAre vs ns) (hlen : ns.length ≤ 63)
   (hQ : ∀ (tp l : Addr) (wv : List Value) (ep : Nat) (ps : List (List Nat × Bool)) (t : Tok) (h' : Heap) (tk' : Nat), Fr h₀ L h' m → News h₀ L h' ((tp, { cls := .type "tuple", data := .seq #[.ref l, .str (ofL (rows ps)) t] }) :: (l, listOf wv.toArray ep) :: news) → tp ≠ l → (∀ q ∈ news, q.1 ≠ tp) → (∀ q ∈ news, q.1 ≠ l) → StrsAre wv (ps.map fun p => ofL p.1) → ps.length = 3 → (∀ p ∈ ps, Word p.1) → Q (.ref tp) { s with heap := h', toks := tk' }) :
   wpAny (model theProg w) (Ar dp un fr gd) (PySem.call (.ref 105) [.ref sc]) Q E s := by
  refine draw_spec (X.keeps F.keep) (T.keeps F.keep) hroom (hS.at fun o e => F.keep _ _ e) hI hlen fun tp l wv ep ps t h' tk' kp n1 n2 hne e1 e2 hw hp hW => ?_
  refine hQ tp l wv ep ps t h' tk' (fr_on F kp) ?_ hne (ne_old N n1) (ne_old N n2) hw hp hW
  intro q hq
  rcases List.mem_cons.mp hq with h | hq
  · rw [h]; exact mk_new F e1 n1
  · rcases List.mem_cons.mp hq with h | hq
    · rw [h]; exact mk_new F e2 n2
    · exact news_on N kp q hq
theorem lexer_call {tx : List Nat} {t1 : Tok} (rest : List (Addr × Obj)) (F : Fr h₀ L s.heap m) (N : News h₀ L s.heap news) (X : (hd.heap_1 w.params).In h₀) (T : Top p loose mean mg mb h₀) (C : CodeHd h₀ 94 90) (hm : (90, tabObj #[]) ∈ news) (hr : ∀ q ∈ rest, q ∈ news) (hne : ∀ q ∈ rest, q.1 ≠ 90) (hroom : dp + 5 < recursionLimit) (hlen : tx.length ≤ 100)
   (hQ : ∀ (a : LexA) (tp : Addr) (vs : List Value) (ep : Nat) (u : Tok) (ps90 : Array Value) (h' : Heap) (tk' : Nat), Fr h₀ L h' m → News h₀ L h' ((tp, { cls := .type "tuple", data := .seq #[.ref a.lx, .ref a.sg] }) :: (90, tabObj ps90) :: (a.objs w 1 u [] 0 vs ep ++ rest)) → CharsAre vs tx → LexOk w h₀ a → tp ∉ a.addrs → 90 ∉ a.addrs → (∀ q ∈ rest, q.1 ∉ a.addrs) → Q (.ref tp) { s with heap := h', toks := tk' }) :
   wpAny (model theProg w) (Ar dp un fr gd) (PySem.call (.ref 95) [.str (ofL tx) t1]) Q E s := by
  have hT := N _ hm
  refine lexer_spec X T C hT.2.2 F.keep hT.1 hroom hlen fun a tp vs ep u h' tk' kp fresh e1 ⟨ps90, e90⟩ e2 hc ok nd => ?_
  have Nr : News h₀ L s.heap rest := fun q hq => N q (hr q hq)
  refine hQ a tp vs ep u ps90 h' tk' ⟨F.ns.at' fun o e => kp _ _ (hideAll_get [90] e (by simpa using Ne.symm hT.2.1)), fun b o e => kp _ _ (hideAll_get [90] (F.keep b o e) (by simp; intro q; rw [q, hT.2.2] at e; cases e)), F.above⟩ ?_ hc ok (List.nodup_cons.mp nd).1 (fun hx => by have := fresh _ (.tail _ hx); rw [hT.1] at this; cases this) (fun q hq hx => ne_old Nr (fresh _ (.tail _ hx)) q hq rfl)
  intro q hq
  rcases List.mem_cons.mp hq with h | hq
  · rw [h]; exact mk_new F e1 (fresh _ (.head _))
  · rcases List.mem_cons.mp hq with h | hq
    · rw [h]; exact ⟨e90, hT.2⟩
    · rcases List.mem_append.mp hq with h | hq
      · exact mk_new F (e2 q h) (fresh _ (.tail _ (List.mem_map_of_mem (f := Prod.fst) (show q ∈ a.objs w 1 u [] 0 vs ep from h))))
      · exact ⟨kp _ _ (hideAll_get [90] (Nr q hq).1 (by simpa using hne q hq)), (Nr q hq).2⟩
theorem run_call {a : LexA} {n : Int} {u : Tok} {pbe : Nat} {vs : List Value} {ep : Nat} {l w0 w1 w2 r1 r2 r3 : List Nat} (rest : List (Addr × Obj)) (F : Fr h₀ L s.heap m) (N : News h₀ L s.heap news) (X : (hd.heap_1 w.params).In h₀) (T : Top p loose mean mg mb h₀) (C : CodeHd h₀ 116 112) (ok : LexOk w h₀ a) (n112 : 112 ∉ a.addrs) (hm : (112, tabObj #[]) ∈ news) (hin : ∀ q ∈ a.objs w n u [] pbe vs ep, q ∈ news) (hr : ∀ q ∈ rest, q ∈ news) (hne : ∀ q ∈ rest, q.1 ∉ 112 :: a.addrs)
   (hc : CharsAre vs l) (hl : l.length ≤ 100) (hn0 : 0 ≤ n) (hn1 : n + (l.count 10 : Nat) ≤ 1000) (o1 : Out l w0 r1) (o2 : Out r1 w1 r2) (o3 : Out r2 w2 r3) (l0 : w0.length ≤ 4) (l1 : w1.length ≤ 4) (l2 : w2.length ≤ 4) (hroom : dp + 8 < recursionLimit)
   (hQ : ∀ (tp rl al : Addr) (ta tb tc td : Tok) (re : Nat) (av : List Value) (ae pbe' : Nat) (n' : Int) (u' : Tok) (vs' : List Value) (ep' : Nat) (ps112 : Array Value) (h' : Heap) (tk' : Nat), Fr h₀ L h' m →
      News h₀ L h' ((112, tabObj ps112) :: (tp, { cls := .type "tuple", data := .seq #[.ref rl, .ref al] }) :: (rl, listOf #[.str (ofL w0) ta, .str (ofL w1) tb, .str (ofL w1) tc, .str (ofL w2) td] re) :: (al, listOf av.toArray ae) :: (a.objs w n' u' [] pbe' vs' ep' ++ rest)) →
      IntsAre av (ansTo w0 w1 25 ++ ansTo w1 w2 25) → CharsAre vs' r3 → n' + (r3.count 10 : Nat) = n + (l.count 10 : Nat) → 0 ≤ n' → tp ≠ rl → tp ≠ al → rl ≠ al → tp ∉ a.addrs → rl ∉ a.addrs → al ∉ a.addrs → Q (.ref tp) { s with heap := h', toks := tk' }) :
   wpAny (model theProg w) (Ar dp un fr gd) (PySem.call (.ref 131) [.ref a.lx]) Q E s := by
  have hT := N _ hm
  refine run_spec X T C F.keep hT.2.2 hT.1 ok n112 (fun q hq => (N q (hin q hq)).1) hc hl hn0 hn1 o1 o2 o3 l0 l1 l2 hroom fun tp rl al ta tb tc td re av ae pbe' n' u' vs' ep' h' tk' kp fresh e1 e2 e3 hv ho hc' hn' h0' d1 d2 d3 ⟨ps112, e112⟩ => ?_
  have offA : ∀ x, s.heap.get? x = none → x ∉ a.addrs := fun x hx hm => by
    obtain ⟨q, hq, e⟩ := List.mem_map.mp (show x ∈ (a.objs w n u [] pbe vs ep).map (·.1) from hm)
    have := (N q (hin q hq)).1
    rw [e, hx] at this; cases this
  have nL : L ∉ 112 :: a.addrs := fun hx => by
    rcases List.mem_cons.mp hx with e | hx
    · exact hT.2.1 e.symm
    · obtain ⟨q, hq, e⟩ := List.mem_map.mp (show L ∈ (a.objs w n u [] pbe vs ep).map (·.1) from hx)
      exact (N q (hin q hq)).2.1 e
  have nh : ∀ b o, h₀.get? b = some o → b ∉ 112 :: a.addrs := fun b o e hx => by
    rcases List.mem_cons.mp hx with e' | hx
    · rw [e', hT.2.2] at e; cases e
    · rw [ok.free b hx] at e; cases e
  refine hQ tp rl al ta tb tc td re av ae pbe' n' u' vs' ep' ps112 h' tk' ⟨F.ns.at' fun o e => kp _ _ (hideAll_get _ e nL), fun b o e => kp _ _ (hideAll_get _ (F.keep b o e) (nh b o e)), F.above⟩ ?_ hv hc' hn' h0' d1 d2 d3 (offA _ (fresh _ (.head _))) (offA _ (fresh _ (.tail _ (.head _)))) (offA _ (fresh _ (.tail _ (.tail _ (.head _)))))
  intro q hq
  simp only [List.mem_cons] at hq
  rcases hq with h | h | h | h | h
  · rw [h]; exact ⟨e112, hT.2⟩
  · rw [h]; exact mk_new F e1 (fresh _ (.head _))
  · rw [h]; exact mk_new F e2 (fresh _ (.tail _ (.head _)))
  · rw [h]; exact mk_new F e3 (fresh _ (.tail _ (.tail _ (.head _))))
  · rcases List.mem_append.mp h with h | h
    · refine ⟨ho q h, ?_⟩
      have hx : q.1 ∈ a.addrs := List.mem_map_of_mem (f := Prod.fst) (show q ∈ a.objs w n' u' [] pbe' vs' ep' from h)
      obtain ⟨q2, hq2, e⟩ := List.mem_map.mp (show q.1 ∈ (a.objs w n u [] pbe vs ep).map (·.1) from hx)
      have := (N q2 (hin q2 hq2)).2
      rw [e] at this
      exact this
    · exact ⟨kp _ _ (hideAll_get _ (N q (hr q h)).1 (hne q h)), (N q (hr q h)).2⟩
theorem due_call {x y : List Nat} {t1 t2 : Tok} (F : Fr h₀ L s.heap m) (N : News h₀ L s.heap news) (X : (hd.heap_1 w.params).In h₀) (T : Top p loose mean mg mb h₀) (hroom : dp + 4 < recursionLimit) (hun : un + 200 < 9900) (h1 : x.length ≤ 4) (h2 : y.length ≤ 4)
   (hQ : ∀ (l : Addr) (vs : List Value) (ep : Nat) (h' : Heap) (tk' : Nat), Fr h₀ L h' m → News h₀ L h' ((l, listOf vs.toArray ep) :: news) → IntsAre vs (ansTo x y 25) → Q (.ref l) { s with heap := h', toks := tk' }) :
   wpAny (model theProg w) (Ar dp un fr gd) (PySem.call (.ref 145) [.str (ofL x) t1, .str (ofL y) t2]) Q E s := by
  refine due_spec (X.keeps F.keep) (T.keeps F.keep) hroom hun h1 h2 fun l vs ep h' tk' kp n1 e1 hv => ?_
  refine hQ l vs ep h' tk' (fr_on F kp) ?_ hv
  intro q hq
  rcases List.mem_cons.mp hq with h | hq
  · rw [h]; exact mk_new F e1 n1
  · exact news_on N kp q hq
end

theorem strOk_word {w : List Nat} (h : Word w) : PyData.strOk (ofL w) = true := by
  unfold PyData.strOk
  rw [Array.all_eq_true']
  intro c hc
  have hc' : c ∈ w := by simpa [ofL] using hc
  rcases h.2 c hc' with e | e | e <;> simp [e]
theorem shaped4 {a b c d : List Nat} (ha : Word a) (hb : Word b) (hc : Word c) (hd : Word d) : SeqAt.shaped (.list [.str (ofL a), .str (ofL b), .str (ofL c), .str (ofL d)]) = true := by
  simp [SeqAt.shaped, PyData.canLay0, PyData.canLayAll0, PyData.depth, PyData.depthAll, strOk_word ha, strOk_word hb, strOk_word hc, strOk_word hd]
theorem ints_at {vs : List Value} {ns : List Int} (h : IntsAre vs ns) {i : Nat} {v : Value} (e : vs.toArray[i]? = some v) : ∃ z t, v = .int z t := by
  have e' : vs[i]? = some v := by simpa using e
  clear e
  induction h generalizing i with
  | nil => simp at e'
  | cons n t _ ih =>
    cases i with
    | zero => simp at e'; exact ⟨n, t, e'.symm⟩
    | succ i => exact ih (i := i) (by simpa using e')
/-- three rows -/
theorem spell_count {w : List Nat} {q : Bool} (h : Word w) : (spell w q).count 10 = 0 := by
  have key : ∀ w : List Nat, (∀ c ∈ w, c = 97 ∨ c = 65 ∨ c = 34) → (esc w).count 10 = 0 := by
    intro w
    induction w with
    | nil => intro _; rfl
    | cons c r ih =>
      intro h
      have h2 := ih fun d hd => h d (.tail _ hd)
      simp only [esc, List.count_append, h2]
      rcases h c (.head _) with rfl | rfl | rfl <;> decide
  have := key w h.2
  unfold spell
  split
  · simp [List.count_cons, List.count_append, this]
  · exact this
theorem rows_count : ∀ {l : List (List Nat × Bool)}, (∀ p ∈ l, Word p.1) → (rows l).count 10 = l.length
  | [], _ => rfl
  | p :: r, h => by
    have h1 := spell_count (q := p.2) (h p (.head _))
    have h2 := rows_count fun q hq => h q (.tail _ hq)
    simp only [rows, List.count_append, List.count_cons, h1, h2, List.length_cons]
    simp
theorem out_row {w r l : List Nat} {q : Bool} (hw : Word w) (hl : l = spell w q ++ 10 :: r ∨ l = 10 :: (spell w q ++ 10 :: r)) : ∃ rf, Out l w rf ∧ (rf = r ∨ rf = 10 :: r) := by
  obtain ⟨rf, ho, hr⟩ := out_spell (w := w) (r := r) (q := q) hw.2
  refine ⟨rf, ?_, hr.symm⟩
  rcases hl with rfl | rfl
  · exact ho
  · exact .skip _ _ _ ho
theorem out_rows {p0 p1 p2 : List Nat × Bool} (h0 : Word p0.1) (h1 : Word p1.1) (h2 : Word p2.1) : ∃ r1 r2 r3, Out (rows [p0, p1, p2]) p0.1 r1 ∧ Out r1 p1.1 r2 ∧ Out r2 p2.1 r3 ∧ Out r3 [] [] ∧ r3.length ≤ 1 := by
  obtain ⟨r1, o1, c1⟩ := out_row (l := rows [p0, p1, p2]) (q := p0.2) h0 (.inl rfl)
  obtain ⟨r2, o2, c2⟩ := out_row (l := r1) (q := p1.2) h1 c1
  obtain ⟨r3, o3, c3⟩ := out_row (l := r2) (q := p2.2) h2 c2
  refine ⟨r1, r2, r3, o1, o2, o3, ?_, ?_⟩
  · rcases c3 with rfl | rfl
    · exact .nil
    · exact .skip _ _ _ .nil
  · rcases c3 with rfl | rfl <;> simp [rows]
end Mine
end

section
open PySem PySem.W PyProof.Rows PySem.Calls PyProof
set_option Elab.async false
set_option maxRecDepth 100000
set_option maxHeartbeats 8000000
set_option linter.unusedSimpArgs false
set_option linter.unusedVariables false
namespace Mine
example : True := by
  w_top off
  exact True.intro
set_option pp.deepTerms false
set_option pp.maxSteps 3000
local macro_rules | `(tactic| walk_at "call ref") => `(tactic| (refine Cut.out ?_))
local macro_rules | `(tactic| walk_at "eval ListComp") => `(tactic| (refine Cut.out ?_))

local macro_rules | `(tactic| walk_at "CompEnd") => `(tactic| (refine Cut.out ?_))
local macro_rules | `(tactic| ke_shaped) => `(tactic| assumption)
theorem law_holds : PySem.Challenge.rw_pe0171_01.Holds := by
  refine hd ?_
  k_go0
  rename IntsAre _ _ => hI
  rename ¬ (_ < _) => hlen
  rename Shared => s₁
  rename World => w
  rename (hd.heap_1 _).In _ => X
  rename Top _ _ _ _ _ (ghostOf _ _) => T
  rename CodeHd _ (Prod.fst (116, 112)) _ => C112
  rename CodeHd _ (Prod.fst (94, 90)) _ => C90
  dsimp only at C112 C90
  rename Heap.IsList (ghostOf _ _) _ _ => hS
  rename Fr _ _ _ _ => F
  rename News _ _ _ _ => N
  rename _ ∧ _ => ltL
  generalize ghostOf _ _ = g at *
  generalize s₁.heap.objs.size = L at *
  refine cut_at 6 (R := fun s' => ∃ (a : LexA) (n3 : Int) (u3 : Tok) (pbe3 : Nat) (vs3 : List Value) (ep3 : Nat) (r3 : List Nat) (ps112 ps90 : Array Value), LexOk w g a ∧ 112 ∉ a.addrs ∧ 90 ∉ a.addrs ∧ CharsAre vs3 r3 ∧ Out r3 [] [] ∧ r3.length ≤ 1 ∧ n3 + (r3.count 10 : Nat) = 4 ∧ 0 ≤ n3 ∧ At0 s₁ g L [(Str.ofString "lexer", .ref a.lx), (Str.ofString "signs", .ref a.sg)] ((112, tabObj ps112) :: (90, tabObj ps90) :: a.objs w n3 u3 [] pbe3 vs3 ep3) s') ?_ ?_
  · refine hideE fun Qc Hc => ?_
    simp only [List.take_succ_cons, List.take_zero]
    k_steps
    refine ⟨?_⟩
    k_dflt (refine draw_call F N X T ?room hS hI (by omega) ?_)
    case room => decide
    intro tp l wv ep ps t h' tk' F1 N1 d1 d2 d3 hwv hps hw
    match ps, hps with
    | [p0, p1, p2], _ =>
    have hw0 : Word p0.1 := hw _ (.head _)
    have hw1 : Word p1.1 := hw _ (.tail _ (.head _))
    have hw2 : Word p2.1 := hw _ (.tail _ (.tail _ (.head _)))
    have hcount := rows_count hw
    have hlenR := rows_len hw
    refine small fun G hG => ?_
    obtain ⟨r1, r2, r3, o1, o2, o3, o4, hr3⟩ := out_rows hw0 hw1 hw2
    refine hG ?_
    clear hG G
    simp only [List.map_cons, List.map_nil] at hwv
    have hwv' : ∃ x0 x1 x2, wv = [.str (ofL p0.1) x0, .str (ofL p1.1) x1, .str (ofL p2.1) x2] := by
      cases hwv with
      | cons a u h =>
        cases h with
        | cons a u h =>
          cases h with
          | cons a u h => cases h; exact ⟨_, _, _, rfl⟩
    obtain ⟨x0, x1, x2, rfl⟩ := hwv'
    clear F N hwv hw
    generalize hrows : rows [p0, p1, p2] = tx at *
    obtain ⟨w0, q0⟩ := p0
    obtain ⟨w1, q1⟩ := p1
    obtain ⟨w2, q2⟩ := p2
    dsimp only at *
    simp only [List.length_cons, List.length_nil] at hcount hlenR
    k_steps
    refine ⟨?_⟩
    rename Fr _ _ _ _ => F
    rename News _ _ _ _ => N
    k_dflt (refine lexer_call (tx := tx) [(112, tabObj #[]), (l, listOf #[Value.str (ofL w0) x0, Value.str (ofL w1) x1, Value.str (ofL w2) x2] ep)] F N X T C90 (by k_mem) (by tb_rel) ?hne ?room (by omega) ?_)
    case hne =>
      intro q hq
      simp only [List.mem_cons, List.not_mem_nil, or_false] at hq
      rcases hq with e | e
      · rw [e]; decide
      · rw [e]; exact (d3 (90, tabObj #[]) (.tail _ (.head _))).symm
    case room => decide
    intro a tp2 vs2 ep2 u2 ps90 h2 tk2 F2 N2 hc ok ntp n90 off2
    have n112 : 112 ∉ a.addrs := off2 (112, tabObj #[]) (.head _)
    have nl : l ∉ a.addrs := off2 _ (.tail _ (.head _))
    have nl112 : l ≠ 112 := (d3 (112, tabObj #[]) (.head _)).symm
    simp only [LexA.objs, List.cons_append, List.nil_append] at N2
    k_steps
    refine ⟨?_⟩
    rename Fr _ _ _ _ => F
    rename News _ _ _ _ => N
    k_dflt (refine run_call (a := a) (n := 1) (u := u2) (pbe := 0) (vs := vs2) (ep := ep2) [(l, listOf #[Value.str (ofL w0) x0, Value.str (ofL w1) x1, Value.str (ofL w2) x2] ep), (90, tabObj ps90)] F N X T C112 ok n112 (by k_mem) (by tb_rel) (by tb_rel) ?hne hc (by omega) (by decide) (by omega) o1 o2 o3 hw0.1 hw1.1 hw2.1 ?room ?_)
    case hne =>
      intro q hq
      simp only [List.mem_cons, List.not_mem_nil, or_false] at hq
      rcases hq with e | e
      · rw [e]; intro hx
        rcases List.mem_cons.mp hx with e | hx
        · exact nl112 e
        · exact nl hx
      · rw [e]; intro hx
        rcases List.mem_cons.mp hx with e | hx
        · exact absurd (show (90 : Nat) = 112 from e) (by decide)
        · exact n90 hx
    case room => decide
    intro tp3 rl al ta tb tc td re av ae pbe3 n3 u3 vs3 ep3 ps112 h3 tk3 F3 N3 hv hc3 hn3 h03 e1 e2 e3 m1 m2 m3
    simp only [LexA.objs, List.cons_append, List.nil_append] at N3
    have sh := shaped4 hw0 hw1 hw1 hw2
    have hlen1 := hv.length
    have hla1 : (ansTo w0 w1 25).length = 25 := by simp [ansTo]
    have hla2 : (ansTo w1 w2 25).length = 25 := by simp [ansTo]
    k_steps
    refine ⟨?_⟩
    clear sh
    rename Fr _ _ _ _ => F
    rename News _ _ _ _ => N
    k_dflt (refine due_call F N X T ?room ?un hw0.1 hw1.1 ?_)
    case room => decide
    case un => decide
    intro dl1 dv1 de1 h4 tk4 F4 N4 hd1
    k_steps
    refine ⟨?_⟩
    rename Fr _ _ _ _ => F
    rename News _ _ _ _ => N
    k_dflt (refine due_call F N X T ?room ?un hw1.1 hw2.1 ?_)
    case room => decide
    case un => decide
    intro dl2 dv2 de2 h5 tk5 F5 N5 hd2
    have hlen3 := hd1.length
    have hlen4 := hd2.length
    k_steps
    refine ⟨?_⟩
    rename Fr _ _ _ _ => F
    rename News _ _ _ _ => N
    have N8 : News g _ _ ((al, listOf av.toArray ae) :: (112, tabObj ps112) :: (90, tabObj ps90) :: a.objs _ n3 u3 [] pbe3 vs3 ep3) := fun q hq => N q (by
      revert q
      tb_rel)
    clear N
    have hal : ∀ q ∈ a.objs w n3 u3 [] pbe3 vs3 ep3, q.1 ≠ al := fun q hq e => m3 (e ▸ List.mem_map_of_mem (f := Prod.fst) hq)
    refine small fun G hG => ?_
    obtain ⟨⟨b1, b2, b3, b4, b5, b6, b7, b8⟩, ⟨c1, c2, c3, c4, c5, c6, c7⟩, ⟨f1, f2, f3, f4, f5, f6⟩, ⟨g1, g2, g3, g4, g5⟩⟩ := lexN ok.apart
    refine hG ?_
    clear hG G
    k_dflt (refine LCt.ListComp_T (F₀ := F) (by with_unfolding_all rfl) (by decide) (by rfl) (by decide) (by rfl) ?_)
    k_steps
    have hav : av.length = 50 := by rw [hlen1, List.length_append, hla1, hla2]
    k_dflt (refine LCt.CompSrcT.ledger rfl F N8 (List.mem_cons_self ..) (Nat.le_trans (show av.toArray.size ≤ 50 from Nat.le_of_eq (by rw [List.size_toArray, hav])) (by decide)) ?_)
    intro g'
    refine compT_ind av.toArray.size (fun _ ys => ys = []) rfl ?_ ?_
    · rintro i ys hi rfl v I oI C oC D m₂ h tk E' hP hC hx F N off ne
      obtain ⟨z, tz, rfl⟩ := ints_at hv hP
      k_steps
      rename Fr _ _ _ _ => F2
      rename News _ _ _ _ => N2
      exact ⟨LCg.CompEnd.intro F2 N2 _ (fun p hp => hp) off (.inr ⟨_, List.mem_cons_self .., rfl, _, rfl⟩) ⟨rfl, rfl⟩⟩
    · rintro ys rfl
      unfold LCg.FinE
      intro D h tk F N off
      dsimp only

      k_steps
      rename Fr _ _ _ _ => F
      rename News _ _ _ _ => N
      try refine wpAny_execs_nil ?_
      refine Hc.out _ _ ?_
      dsimp only
      exact ⟨a, n3, u3, pbe3, vs3, ep3, r3, ps112, ps90, ok, n112, n90, hc3, o4, hr3, by omega, h03, at0_intro F N (by tb_start) (by tb_rel)⟩
  clear F N
  intro s' hs'
  refine small fun G hG => ?_
  obtain ⟨a, n3, u3, pbe3, vs3, ep3, r3, ps112, ps90, ok, n112, n90, hc3, o4, hr3, hn3, h03, h, tk, m, rfl, F, N⟩ := hs'
  refine hG ?_
  clear hG G
  simp only [List.drop_succ_cons, List.drop_zero]
  refine hideE fun Qd Hd => ?_
  have hcl := r3.count_le_length (a := 10)
  k_steps
  refine ⟨?_⟩
  try dsimp only [List.cons_append, List.nil_append, List.append_nil]
  k_dflt (refine gtok_call (a := a) (n := n3) (u := u3) (pbe := pbe3) (vs := vs3) (ep := ep3) (l := r3) (tf := []) (rf := []) [(112, tabObj ps112), (90, tabObj ps90)] ok X T (fun b o e => e) F N (by tb_rel) (by tb_rel) ?hoff hc3 (by omega) h03 (by omega) o4 ?room ?_)
  case room => decide
  case hoff =>
    intro q hq
    simp only [List.mem_cons, List.not_mem_nil, or_false] at hq
    rcases hq with e | e
    · rw [e]; exact n112
    · rw [e]; exact n90
  intro t6 n6 u6 vs6 ep6 h6 tk6 F6 N6 hc6 hn6 h06
  cases hc6
  obtain rfl : n6 = 4 := by simp only [List.count_nil] at hn6; omega
  rw [show (ofL [] : Str) = Str.ofString "" from rfl]
  simp only [LexA.objs, List.cons_append, List.nil_append, List.append_nil] at N6
  clear hn6 h06 hn3 h03 hcl hr3 o4 hc3
  k_steps
  all_goals (try (with_reducible refine wpAny_execs_nil ?_))
  all_goals (refine Hd.out _ _ ?_)
  all_goals (try dsimp only)
  all_goals k_steps
end Mine
end

set_option maxRecDepth 100000 in
theorem PySem.Challenge.cw_pe0171_01_holds : PySem.Challenge.rw_pe0171_01.Holds := by
  exact Mine.law_holds
