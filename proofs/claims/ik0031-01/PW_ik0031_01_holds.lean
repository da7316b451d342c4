import PyProof.Rows.All
import Wide.All
import OpenK.AllK
import Wide.FinOn
import PySem.Challenge.RW_ik0031_01
set_option Elab.async false
section
open PySem PySem.W PyProof.Rows
set_option Elab.async false
set_option maxRecDepth 100000
namespace Mine
/-- every other object of a list -/
def ev : List Obj → List Obj
  | [] => []
  | [a] => [a]
  | a :: _ :: r => a :: ev r
def od : List Obj → List Obj
  | [] => []
  | [_] => []
  | _ :: b :: r => b :: od r
/-- a list of objects as a tree -/
def build : Nat → List Obj → BT
  | 0, _ => .nil
  | _ + 1, [] => .nil
  | n + 1, v :: r => .node v (build n (ev r)) (build n (od r))
theorem ev_at : ∀ (l : List Obj) (i : Nat), (ev l)[i]? = l[2 * i]?
  | [], i => by simp [ev]
  | [a], 0 => by simp [ev]
  | [a], i + 1 => by simp [ev]
  | a :: b :: r, 0 => by simp [ev]
  | a :: b :: r, i + 1 => by
    rw [ev, List.getElem?_cons_succ, ev_at r i, show 2 * (i + 1) = 2 * i + 1 + 1 by omega, List.getElem?_cons_succ, List.getElem?_cons_succ]
theorem od_at : ∀ (l : List Obj) (i : Nat), (od l)[i]? = l[2 * i + 1]?
  | [], i => by simp [od]
  | [a], i => by simp [od]
  | a :: b :: r, 0 => by simp [od]
  | a :: b :: r, i + 1 => by
    rw [od, List.getElem?_cons_succ, od_at r i, show 2 * (i + 1) + 1 = 2 * i + 1 + 1 + 1 by omega, List.getElem?_cons_succ, List.getElem?_cons_succ]
theorem ev_len (l : List Obj) : (ev l).length ≤ l.length := by
  refine Nat.le_of_not_lt fun h => ?_
  have h1 := ev_at l l.length
  rw [List.getElem?_eq_getElem h, List.getElem?_eq_none (by omega)] at h1
  cases h1
theorem od_len (l : List Obj) : (od l).length ≤ l.length := by
  refine Nat.le_of_not_lt fun h => ?_
  have h1 := od_at l l.length
  rw [List.getElem?_eq_getElem h, List.getElem?_eq_none (by omega)] at h1
  cases h1
theorem build_at : ∀ (n : Nat) (l : List Obj) (i : Nat), l.length ≤ n → (build n l).get i = l[i]?
  | 0, l, i, h => by
    have : l = [] := List.length_eq_zero_iff.mp (by omega)
    subst this; simp [build, BT.get]
  | n + 1, [], i, _ => by simp [build, BT.get]
  | n + 1, v :: r, i, h => by
    have hr : r.length ≤ n := by simpa using h
    rw [build, BT.get_node]
    by_cases h0 : i = 0
    · simp [h0]
    · rw [if_neg h0]
      by_cases h1 : i % 2 = 1
      · rw [if_pos h1, build_at n (ev r) _ (Nat.le_trans (ev_len r) hr), ev_at]
        obtain ⟨j, rfl⟩ : ∃ j, i = j + 1 := ⟨i - 1, by omega⟩
        rw [List.getElem?_cons_succ]; congr 1; omega
      · rw [if_neg h1, build_at n (od r) _ (Nat.le_trans (od_len r) hr), od_at]
        obtain ⟨j, rfl⟩ : ∃ j, i = j + 1 := ⟨i - 1, by omega⟩
        rw [List.getElem?_cons_succ]; congr 1; omega
def toT (s : Shared) : SharedT := ⟨build s.heap.objs.size s.heap.objs.toList, s.heap.objs.size, s.heap.life, s.gens, s.drawn, s.toks, s.os⟩
theorem toT_abs (s : Shared) : (toT s).abs = s := by
  obtain ⟨⟨objs, life⟩, gens, drawn, toks, os⟩ := s
  show (⟨absHeap (build objs.size objs.toList) objs.size life, gens, drawn, toks, os⟩ : Shared) = _
  congr 1
  show Heap.mk _ _ = Heap.mk _ _
  congr 1
  show List.toArray _ = _
  rw [← Array.toArray_toList (xs := objs)]
  congr 1
  unfold BT.list
  apply List.ext_getElem?
  intro i
  rw [List.getElem?_map, Array.toArray_toList]
  by_cases h : i < objs.size
  · rw [List.getElem?_range h, Option.map_some, build_at _ _ _ (by simp), Array.getElem?_toList, Array.getElem?_eq_getElem h]; rfl
  · rw [List.getElem?_eq_none (by rw [List.length_range]; omega), Array.getElem?_toList, Array.getElem?_eq_none (by omega)]; rfl
def impEndsT (tb : String → Option Builtin) (p : Program) (w : World) : Nat → SharedT → Thread → Option SharedT
  | 0, _, _ => none
  | n + 1, s, t => match t.atExitBegin with
    | some [] => some s
    | some (_ :: _) => none
    | none => match stepT (denote tb) p w s t with
      | some (s', t') => match Nat.ble s'.toks s'.toks with
        | true => impEndsT tb p w n s' t'
        | false => none
      | none => none
theorem impEnds_of {tb : String → Option Builtin} {p : Program} {w : World} : ∀ {n : Nat} {s s' : SharedT} {t : Thread}, impEndsT tb p w n s t = some s' → importEnds tb p w n s.abs t = some s'.abs
  | 0, _, _, _, h => by cases h
  | n + 1, s, s', t, h => by
    unfold impEndsT at h
    unfold importEnds
    cases he : t.atExitBegin with
    | some l => rw [he] at h; cases l with
      | nil => cases h; rfl
      | cons => cases h
    | none =>
      rw [he] at h
      cases hs : stepT (denote tb) p w s t with
      | none => rw [hs] at h; cases h
      | some r => obtain ⟨s₂, t₂⟩ := r; rw [hs] at h; dsimp only at h ⊢; rw [Nat.ble_self_eq_true] at h; rw [stepT_spec hs]; exact impEnds_of h
def topRunT (tb : String → Option Builtin) (p : Program) (w : World) (n₀ : Nat) (ann : Option Value) : Nat → SharedT → Thread → Option SharedT
  | 0, _, _ => none
  | n + 1, s, t => match through t with
    | true => some s
    | false => match stepOk n₀ ann t with
      | false => none
      | true => match stepT (denote tb) p w s t with
        | some (s', t') => match Nat.ble s'.toks s'.toks with
          | true => topRunT tb p w n₀ ann n s' t'
          | false => none
        | none => none
theorem topRun_of {tb : String → Option Builtin} {p : Program} {w : World} {n₀ : Nat} {ann : Option Value} : ∀ {n : Nat} {s s' : SharedT} {t : Thread}, topRunT tb p w n₀ ann n s t = some s' → topRun tb p w n₀ ann n s.abs t = some s'.abs
  | 0, _, _, _, h => by cases h
  | n + 1, s, s', t, h => by
    unfold topRunT at h
    unfold topRun
    cases he : through t with
    | true => rw [he] at h; cases h; rfl
    | false =>
      rw [he] at h
      cases hk : stepOk n₀ ann t with
      | false => rw [hk] at h; cases h
      | true =>
        rw [hk] at h
        cases hs : stepT (denote tb) p w s t with
        | none => rw [hs] at h; cases h
        | some r => obtain ⟨s₂, t₂⟩ := r; rw [hs] at h; dsimp only at h ⊢; rw [Nat.ble_self_eq_true] at h; rw [stepT_spec hs]; exact topRun_of h
/-- the run of the top, its heap a tree; f looks at its end -/
def leftT {β : Type} (p : Program) (N : Nat) (f : Shared → β) (w : World) : Option β :=
  match impEndsT treeTable (opening p) w N (toT (start (opening p)).1) (start (opening p)).2 with
  | none => none
  | some s => match fenceModules? p s.abs with
    | none => none
    | some s₀ => match s₀.heap.isNs mainGlobals && s₀.gens.size == 0 with
      | false => none
      | true => match topRunT treeTable p w s₀.heap.objs.size (s₀.heap.nsMap mainGlobals "__annotations__") N (toT s₀) (topStub p) with
        | none => none
        | some s₁ => match staticsOk (importedModules p.main.body) s₀.heap s₁.abs.heap && namesBound p s₁.abs.heap && gensDone s₁.abs && laidKept s₀.heap s₁.abs.heap with
          | true => some (f s₁.abs)
          | false => none
theorem leftT_of {β : Type} {p : Program} {N : Nat} {f : Shared → β} {w : World} {r : β} (h : leftT p N f w = some r) : (openEnds treeTable p w N).map f = some r := by
  unfold leftT at h
  cases e1 : impEndsT treeTable (opening p) w N (toT (start (opening p)).1) (start (opening p)).2 with
  | none => rw [e1] at h; cases h
  | some s =>
    rw [e1] at h
    dsimp only at h
    have i1 := impEnds_of e1
    rw [toT_abs] at i1
    cases e2 : fenceModules? p s.abs with
    | none => rw [e2] at h; cases h
    | some s₀ =>
      rw [e2] at h
      dsimp only at h
      cases e3 : (s₀.heap.isNs mainGlobals && s₀.gens.size == 0) with
      | false => rw [e3] at h; cases h
      | true =>
        rw [e3] at h
        dsimp only at h
        cases e4 : topRunT treeTable p w s₀.heap.objs.size (s₀.heap.nsMap mainGlobals "__annotations__") N (toT s₀) (topStub p) with
        | none => rw [e4] at h; cases h
        | some s₁ =>
          rw [e4] at h
          dsimp only at h
          have i2 := topRun_of e4
          rw [toT_abs] at i2
          cases e5 : (staticsOk (importedModules p.main.body) s₀.heap s₁.abs.heap && namesBound p s₁.abs.heap && gensDone s₁.abs && laidKept s₀.heap s₁.abs.heap) with
          | false => rw [e5] at h; cases h
          | true =>
            rw [e5] at h
            cases h
            have t : topFrom treeTable p w N s₀ = some s₁.abs := by
              unfold topFrom
              rw [e3]
              dsimp only
              rw [i2, Option.bind_some, e5]
            have g : fencedOpening treeTable p w N = some s₀ := by
              unfold fencedOpening
              rw [i1, Option.bind_some, e2]
            unfold openEnds
            rw [g, Option.bind_some, t]
            rfl
theorem left_rows {p q : Program} {loose : List Str} {Xt : Shared → Bool} {α : Type} {Yf : Shared → α} {Ya : World → α} {N : Nat} (r1 r2 : String)
    (h00 : ∀ w : World, leftT p N (fun s => (openSeen q loose (importedModules p.main.body) Xt true s, Yf s)) ((w.withFollow r2 false).withFollow r1 false) = some (openGood q loose, Ya ((w.withFollow r2 false).withFollow r1 false)))
    (h01 : ∀ w : World, leftT p N (fun s => (openSeen q loose (importedModules p.main.body) Xt true s, Yf s)) ((w.withFollow r2 true).withFollow r1 false) = some (openGood q loose, Ya ((w.withFollow r2 true).withFollow r1 false)))
    (h10 : ∀ w : World, leftT p N (fun s => (openSeen q loose (importedModules p.main.body) Xt true s, Yf s)) ((w.withFollow r2 false).withFollow r1 true) = some (openGood q loose, Ya ((w.withFollow r2 false).withFollow r1 true)))
    (h11 : ∀ w : World, leftT p N (fun s => (openSeen q loose (importedModules p.main.body) Xt true s, Yf s)) ((w.withFollow r2 true).withFollow r1 true) = some (openGood q loose, Ya ((w.withFollow r2 true).withFollow r1 true))) : LeftO p q loose Xt Yf Ya N := fun w =>
  byRow2 (P := fun w => (openEnds treeTable p w N).map (fun s => (openSeen q loose (importedModules p.main.body) Xt true s, Yf s)) = some (openGood q loose, Ya w)) r1
    (fun w => byRow2 (P := fun w => (openEnds treeTable p (w.withFollow r1 false) N).map (fun s => (openSeen q loose (importedModules p.main.body) Xt true s, Yf s)) = some (openGood q loose, Ya (w.withFollow r1 false))) r2 (fun w => leftT_of (h00 w)) (fun w => leftT_of (h01 w)) w)
    (fun w => byRow2 (P := fun w => (openEnds treeTable p (w.withFollow r1 true) N).map (fun s => (openSeen q loose (importedModules p.main.body) Xt true s, Yf s)) = some (openGood q loose, Ya (w.withFollow r1 true))) r2 (fun w => leftT_of (h10 w)) (fun w => leftT_of (h11 w)) w) w
/-- the statements of the top that a view keeps: the first, and the law -/
def topView : Program := PySem.W.view PySem.Challenge.rw_ik0031_01.prog [0, 40]
def topLoose : List Str := [Str.ofString "filterfalse", Str.ofString "_filter", Str.ofString "_twin_re_1", Str.ofString "_special_chars_map", Str.ofString "escape", Str.ofString "_translate", Str.ofString "S_IFMT", Str.ofString "S_IFDIR", Str.ofString "S_IFCHR", Str.ofString "S_IFBLK", Str.ofString "S_IFREG", Str.ofString "S_IFIFO", Str.ofString "S_IFLNK", Str.ofString "S_IFSOCK", Str.ofString "S_ISUID", Str.ofString "S_ISGID", Str.ofString "S_ISVTX", Str.ofString "S_IRUSR", Str.ofString "S_IWUSR", Str.ofString "S_IXUSR", Str.ofString "S_IRGRP", Str.ofString "S_IWGRP", Str.ofString "S_IXGRP", Str.ofString "S_IROTH", Str.ofString "S_IWOTH", Str.ofString "S_IXOTH", Str.ofString "_filemode_table", Str.ofString "filemode", Str.ofString "_law_modes", Str.ofString "_law_taken", Str.ofString "_law_sieved", Str.ofString "_law_row", Str.ofString "_law_left"]
abbrev topX : Shared → Bool := fun s => xlAt topView [] s && recOk (RowW.records (OpenRow.toRowW (OpenLaw.row PySem.Challenge.rw_ik0031_01))) s
theorem view_ok : (chainsOk topView && opensWell (OpenLaw.row PySem.Challenge.rw_ik0031_01).prog && (frees (OpenLaw.row PySem.Challenge.rw_ik0031_01).toRowW && (OpenLaw.row PySem.Challenge.rw_ik0031_01).within.isEmpty)) = true := by decide +kernel
theorem prog_bare : (OpenLaw.row PySem.Challenge.rw_ik0031_01).prog.bare := ⟨rfl, rfl, rfl, rfl, rfl, by decide +kernel⟩
theorem holds_pair {H : Hook} {d : DefRec} {kwd : List (Str × Expr)} (hdef : defOf topView (OpenLaw.row PySem.Challenge.rw_ik0031_01).name = some (d, kwd)) (hp : (OpenLaw.row PySem.Challenge.rw_ik0031_01).prog.theDef (OpenLaw.row PySem.Challenge.rw_ik0031_01).name = some (d.params, d.body, d.scope)) (hk : kwWritten? d.params.kwonlyargs d.params.kw_defaults = some kwd)
    (k1 : (OpenLaw.row PySem.Challenge.rw_ik0031_01).wellSaid = true) (hw : (OpenLaw.row PySem.Challenge.rw_ik0031_01).toRowW.promised)
    (h : LeftO (OpenLaw.row PySem.Challenge.rw_ik0031_01).prog topView topLoose topX (Hook.obs H) (Hook.val H) 4864 ∧ WalkO topView topLoose (XL topView []) (Hook.says H) (OpenLaw.row PySem.Challenge.rw_ik0031_01).toRowW d kwd fun f vs => PySem.call f vs) : (OpenLaw.row PySem.Challenge.rw_ik0031_01).Holds :=
  holds_open (q := topView) (loose := topLoose) (Xt := topX) (XP := XL topView []) h.1 (Hook.of H) (Hook.keeps H) (fun s e => xl_of s (Bool.and_eq_true_iff.mp e).1) XL.keeps hdef hp hk (fun s e => recFacts_of (Bool.and_eq_true_iff.mp e).2) (by rfl) k1 view_ok prog_bare hw h.2
theorem law_said : OpenLaw.wellSaid PySem.Challenge.rw_ik0031_01 = true := by kernel_rfl
local macro_rules | `(tactic| o_law) => `(tactic| refine holds_law law_said fun said => ?_)
local macro_rules | `(tactic| o_head $H) => `(tactic| refine holds_pair (H := $H) (by rfl) (by rfl) (by rfl) (by first | assumption | decide +kernel) ?hw ?hc)
set_option maxHeartbeats 8000000 in
open_top hd for PySem.Challenge.rw_ik0031_01
/-- the addresses of the written objects -/
abbrev objsAt : List Addr := [2, 3, 39, 40, 42, 43, 45, 46, 47, 49, 50, 52, 53, 54, 56, 57, 59, 60, 61, 63, 64, 65, 66, 69, 71, 72, 74, 75, 79, 80, 82, 86, 88, 89, 91, 92, 93, 95, 96, 98, 99, 100, 102, 103, 105, 106, 107, 108, 109, 110, 111, 112, 113, 114, 115, 116, 117, 118, 119, 120, 121, 122, 123, 124, 125, 126, 127, 128, 129, 130, 131, 132, 133, 134, 135, 136, 137, 138, 139, 140, 142, 143, 145, 146, 147, 150, 151, 152, 155, 156, 157, 159, 160, 162, 163, 164, 166, 167, 169, 170, 171, 174, 175, 176, 179, 180]
abbrev seenAt (s : Shared) := (objsAt.map s.heap.get?, ([94] : List Addr).map s.heap.get?)
noncomputable abbrev toldAt (w : World) : List (Option Obj) × List (Option Obj) := ((Mine.hd.heap_1 w.params).map fun p => some p.2, ([94] : List Addr).map fun _ => some (tabObj #[]))
theorem left00 : ∀ w : World, leftT (OpenLaw.row PySem.Challenge.rw_ik0031_01).prog 4864 (fun s => (openSeen topView topLoose (importedModules (OpenLaw.row PySem.Challenge.rw_ik0031_01).prog.main.body) topX true s, seenAt s)) ((w.withFollow "special-get-raises" false).withFollow "comprehension-iter-twice" false) = some (openGood topView topLoose, toldAt ((w.withFollow "special-get-raises" false).withFollow "comprehension-iter-twice" false)) := fun w => by kernel_rfl
theorem left01 : ∀ w : World, leftT (OpenLaw.row PySem.Challenge.rw_ik0031_01).prog 4864 (fun s => (openSeen topView topLoose (importedModules (OpenLaw.row PySem.Challenge.rw_ik0031_01).prog.main.body) topX true s, seenAt s)) ((w.withFollow "special-get-raises" true).withFollow "comprehension-iter-twice" false) = some (openGood topView topLoose, toldAt ((w.withFollow "special-get-raises" true).withFollow "comprehension-iter-twice" false)) := fun w => by kernel_rfl
theorem left10 : ∀ w : World, leftT (OpenLaw.row PySem.Challenge.rw_ik0031_01).prog 4864 (fun s => (openSeen topView topLoose (importedModules (OpenLaw.row PySem.Challenge.rw_ik0031_01).prog.main.body) topX true s, seenAt s)) ((w.withFollow "special-get-raises" false).withFollow "comprehension-iter-twice" true) = some (openGood topView topLoose, toldAt ((w.withFollow "special-get-raises" false).withFollow "comprehension-iter-twice" true)) := fun w => by kernel_rfl
theorem left11 : ∀ w : World, leftT (OpenLaw.row PySem.Challenge.rw_ik0031_01).prog 4864 (fun s => (openSeen topView topLoose (importedModules (OpenLaw.row PySem.Challenge.rw_ik0031_01).prog.main.body) topX true s, seenAt s)) ((w.withFollow "special-get-raises" true).withFollow "comprehension-iter-twice" true) = some (openGood topView topLoose, toldAt ((w.withFollow "special-get-raises" true).withFollow "comprehension-iter-twice" true)) := fun w => by kernel_rfl
theorem left_all : LeftO (OpenLaw.row PySem.Challenge.rw_ik0031_01).prog topView topLoose topX seenAt toldAt 4864 := left_rows "comprehension-iter-twice" "special-get-raises" left00 left01 left10 left11
end Mine
end
section
open PySem PySem.W PySem.Spec PySem.Calls PyProof.Rows
set_option Elab.async false
set_option maxRecDepth 100000
namespace Mine

/-- a mark where the walk is to halt -/
def Stop (P : Prop) : Prop := P
theorem Stop.mk {P : Prop} (h : Stop P) : P := h

theorem gen_toks {α : Type} {M : Model} {A : Around} {t : Sem α} {Q : α → Shared → Prop} {E : Value → Shared → Prop} {h : Heap} {g : Array GenState} {d : Drawn} {tk : Nat} {os : OsState}
    (H : ∀ tk', wpAny M A t Q E ⟨h, g, d, tk', os⟩) : wpAny M A t Q E ⟨h, g, d, tk, os⟩ := H tk

section
variable {prog : Program} {w : World} {A : Around} {E : Value → Shared → Prop} {s : Shared} {env : Env} {h₀ : Heap} {target : Expr} {body : List Stmt} {Q : Flow → Shared → Prop}

def EndT (h₀ : Heap) (L : Addr) (s₁ : Shared) (I : Addr) (it : Obj) (rest : (Str → Option Value) → List (Addr × Obj) → Prop) (Q : Flow → Shared → Prop) (f : Flow) (s₂ : Shared) : Prop :=
  match f with
  | .ret v => Q (.ret v) s₂
  | .brk => Q .next s₂
  | _ => ∃ h' tk m' news', s₂ = { s₁ with heap := h', toks := tk } ∧ Fr h₀ L h' m' ∧ News h₀ L h' ((I, it) :: news') ∧ (∀ p ∈ news', p.1 ≠ I) ∧ rest m' news'

theorem EndT.next {L I : Addr} {s₁ : Shared} {it : Obj} {rest : (Str → Option Value) → List (Addr × Obj) → Prop} {h' : Heap} {tk : Nat} {m' : Str → Option Value} {all : List (Addr × Obj)}
    (F : Fr h₀ L h' m') (N : News h₀ L h' all) (news' : List (Addr × Obj)) (sub : ∀ p ∈ (I, it) :: news', p ∈ all) (off : ∀ p ∈ news', p.1 ≠ I) (r : rest m' news') :
    EndT h₀ L s₁ I it rest Q .next { s₁ with heap := h', toks := tk } := ⟨h', tk, m', news', rfl, F, fun p hp => N p (sub p hp), off, r⟩

theorem iter_items {l : Addr} {items : List Value} {m₀ : Str → Option Value} {news : List (Addr × Obj)} (hh : A.handled = none) (F : Fr h₀ env.locals s.heap m₀) (N : News h₀ env.locals s.heap news) (hl : h₀.IsList l items.toArray)
    (J : Nat → (Str → Option Value) → List (Addr × Obj) → Prop) (h0 : J 0 m₀ news)
    (step : ∀ i v m₁ news₁ I it h₁ tk₁, items[i]? = some v → J i m₁ news₁ → it.cls = .type "list_iterator" → (∀ p ∈ news₁, p.1 ≠ I) → Fr h₀ env.locals h₁ m₁ → News h₀ env.locals h₁ ((I, it) :: news₁) →
      wpAny (model prog w) A (assign target env v) (fun _ s₃ => wpAny (model prog w) A (execs body env) (EndT h₀ env.locals s I it (J (i + 1)) Q) E s₃) E { s with heap := h₁, toks := tk₁ })
    (done : ∀ h' tk m' news', Fr h₀ env.locals h' m' → News h₀ env.locals h' news' → J items.length m' news' → Q .next { s with heap := h', toks := tk }) :
    wpAny (model prog w) A (pyIter (.ref l)) (fun it s₂ => TurnsAt prog w A h₀ env target body Q E it s₂) E s := by
  have hls : s.heap.IsList l items.toArray := hl.at fun o e => F.keep l o e
  obtain ⟨ol, hol, _⟩ := id hl
  have hlt : l < h₀.objs.size := Heap.lt_size hol
  have hne : l ≠ s.heap.objs.size := Nat.ne_of_lt (Nat.lt_trans (Nat.lt_of_lt_of_le hlt F.above) F.ns.lt)
  refine wpAny_pyIter_list hls ?_
  have W := KTurns.ofWalks (target := target) (Walks.list (prog := prog) (w := w) hh s.heap.objs.size l hne items.toArray) fun i v s Q E st q => letGo_listiter st.1 q
  have hnew := next_is_new F
  have hsz : items.toArray.size = items.length := by simp
  refine ⟨_, _, _, _, _, _, _, m₀, news, J, rfl, W, ?_, ?_, ?_, ⟨⟨_, Heap.get?_push_size _ rfl, rfl, rfl⟩, hls.at fun o e => Heap.get?_push_of_some _ e⟩, F.push _, (fun p hp => ⟨Heap.get?_push_of_some _ (N p hp).1, (N p hp).2⟩), h0, ?_, ?_⟩
  · intro hm
    rcases List.mem_cons.mp hm with e | hm
    · exact absurd F.ns.lt (e ▸ Nat.lt_irrefl _)
    · exact absurd (Nat.lt_of_lt_of_le hlt F.above) ((List.mem_singleton.mp hm) ▸ Nat.lt_irrefl _)
  · intro b hb
    rw [List.mem_singleton.mp hb]
    exact hnew
  · intro p hp hI
    exact absurd (Heap.lt_size (N p hp).1) ((List.mem_singleton.mp hI) ▸ Nat.lt_irrefl _)
  · intro i v m₁ news₁ h₁ tk₁ own hin hP hJ hoff hown hget hall hst₁ F₁ N₁
    obtain ⟨it, hit, hic, hid⟩ := hst₁.1
    have hP' : items[i]? = some v := by simpa using hP
    have hmemI := hall s.heap.objs.size (List.mem_cons_self ..) hnew _ hit
    have N₂ : News h₀ env.locals h₁ ((s.heap.objs.size, it) :: news₁) := fun p hp => by
      rcases List.mem_cons.mp hp with rfl | hp
      · exact N₁ _ (List.mem_append_left _ hmemI)
      · exact N₁ _ (List.mem_append_right _ hp)
    refine wpAny_mono (step i v m₁ news₁ s.heap.objs.size it h₁ tk₁ hP' hJ hic (fun p hp e => hoff p hp (by rw [e]; exact List.mem_singleton.mpr rfl)) F₁ N₂) (fun _ s₂ h₂ => wpAny_mono h₂ (fun f s₃ p => ?_) fun _ _ e => e) fun _ _ e => e
    have fin : (∃ h' tk m' news', s₃ = { s with heap := h', toks := tk } ∧ Fr h₀ env.locals h' m' ∧ News h₀ env.locals h' ((s.heap.objs.size, it) :: news') ∧ (∀ p ∈ news', p.1 ≠ s.heap.objs.size) ∧ J (i + 1) m' news') →
        LoopStepU h₀ env.locals [s.heap.objs.size] own (J (i + 1)) { s with heap := h₁, toks := tk₁ } .next s₃ := by
      rintro ⟨h', tk, m', news', e, F', N', ho, r⟩
      refine ⟨rfl, h', tk, m', news', e, F', fun p hp => ?_, fun p hp hI => ho p hp (List.mem_singleton.mp hI), r⟩
      rcases List.mem_append.mp hp with hp | hp
      · have h2 : h₁.get? p.1 = some p.2 := hget p hp
        rcases List.mem_cons.mp (hown p hp) with h1 | h1
        · have h3 : p = (s.heap.objs.size, it) := by
            rw [h1, hit] at h2
            exact Prod.ext h1 (Option.some.inj h2).symm
          rw [h3]; exact N' _ (List.mem_cons_self ..)
        · have h4 := (N₁ p (List.mem_append_left _ hp)).2.2
          have h1' : p.1 = l := List.mem_singleton.mp h1
          rw [h1', hol] at h4; cases h4
      · exact N' _ (List.mem_cons_of_mem _ hp)
    cases f with
    | ret v => exact .ret p
    | brk => exact .brk p
    | next => exact .next (fin p)
    | cont => exact .cont (fin p)
  · intro h' tk m' news' F' N' _ hJ
    rw [hsz] at hJ
    exact done h' tk m' news' F' N' hJ
end

/-! the entry of a def with an open base -/
section
variable {prog : Program} {w : World} {A₀ A : Around} {s : Shared} {base h₀ : Heap} {outer : List Env} {L : Addr} {m : Str → Option Value} {env : Env} {hid : List (Addr × Obj)} {K : Frag} {p : Program} {loose : List Str} {mean : ExcName → Option Value} {mg mb : Str → Option Value}
  {Q E : Value → Shared → Prop} {name qual : Str} {params : Arguments} {body : List Stmt} {scope : Scope} {dV kV doc pm cdv ct oc : Value} {an od : Option Addr} {osl : Array (Option Value)} {f : Addr} {vs : List Value} {binds : List (Str × Value)}

abbrev hidG (s : Shared) (hid : List (Addr × Obj)) : Heap := hideAll s.heap (hid.map (·.1))

/-- what is left to show at the end of a callee: its frame and its ledger over the base, and what the caller wants -/
def EndC (g : Heap) (Q : Value → Shared → Prop) (v : Value) (s' : Shared) : Prop :=
  ∃ L' m' news', Fr g L' s'.heap m' ∧ News g L' s'.heap news' ∧ Q v s'

theorem enter_def (B : Below A₀ base outer h₀) (F : Fr h₀ L s.heap m) (X₀ : K.In h₀) (N : News h₀ L s.heap hid) (T : Top p loose mean mg mb h₀) (hA : A.frames = some (env :: outer)) (hf : env.frame = some L) (hke : env.scope.kind = .function)
    (ho : K.lookup f = some ⟨oc, od, .func (fnOf name qual params body scope dV kV doc pm an cdv ct), osl⟩) (hcd : codeIn K cdv qual = true) (hroom : A.depth < recursionLimit)
    (hbind : BindsTo s (fnOf name qual params body scope dV kV doc pm an cdv ct) ⟨vs, []⟩ binds) (hloc : ∀ y ∈ binds, scope.names.lookup y.1 = some .local)
    (h : ∀ L' h₁, Fr (hidG s hid) L' h₁ (fun y => binds.reverse.lookup y) → News (hidG s hid) L' h₁ hid → Below A base (env :: outer) (hidG s hid) → K.In (hidG s hid) → Top p loose mean mg mb (hidG s hid) → (∀ p ∈ hid, p.1 < L') →
      wpAny (model prog w) (A.deeper (envOf qual scope L' f cdv)) (execs body (envOf qual scope L' f cdv))
        (fun fl s' => EndC (hidG s hid) Q (match fl with | .ret v => v | _ => .none) s')
        (fun e s' => wpAny (model prog w) (A.deeper (envOf qual scope L' f cdv)) (leaving (envOf qual scope L' f cdv) e) (fun _ s'' => E e s'') (fun e' s'' => E e' s'') s')
        { s with heap := h₁, toks := s.toks + binds.length })
    (hcell : ∀ x ∈ scope.names, x.2 ≠ .cell) (hco : scope.isCoroutine = false) (hgen : scope.isGenerator = false) (hk : scope.kind = .function) :
    wpAny (model prog w) A (PySem.call (.ref f) vs) Q E s := by
  have X := X₀.keeps F.keep
  refine wpAny_call ?_
  obtain ⟨FG, BG, st, lv⟩ := groundX (R := fun r s' => match r with | .ok (.ret v) => Q v s' | .ok _ => False | .error e => E e s') B F N hA hf hke
  refine codeAny_call_def (fd := fnOf name qual params body scope dV kV doc pm an cdv ct) (body := body) (binds := binds) hroom (X _ _ ho) rfl (T.nolimit.keeps F.keep) (codeRec_of X hcd) rfl hbind hcell hloc (fun h₁ hns hk₁ => ?_) hco hgen hk
  refine wpAny_mono (h s.heap.objs.size h₁ ⟨hns, fun b o e => hk₁ b o (of_hideAll _ e), Nat.le_of_eq (hideAll_size _ _)⟩ (fun p hp => ⟨hk₁ _ _ (N p hp).1, Nat.ne_of_lt (Heap.lt_size (N p hp).1), hideAll_none _ (List.mem_map_of_mem hp)⟩) BG (X₀.keeps st) (T.keeps st) fun p hp => Heap.lt_size (N p hp).1) (fun fl s' hl => ?_) fun _ _ y => y
  obtain ⟨L', m', news', F', N', q⟩ := hl
  exact q

theorem enter_defC (B : Below A₀ base outer h₀) (F : Fr h₀ L s.heap m) (X₀ : K.In h₀) (N : News h₀ L s.heap hid) (T : Top p loose mean mg mb h₀) (hA : A.frames = some (env :: outer)) (hf : env.frame = some L) (hke : env.scope.kind = .function)
    (ho : K.lookup f = some ⟨oc, od, .func (fnOf name qual params body scope dV kV doc pm an cdv ct), osl⟩) (hcd : codeIn K cdv qual = true) (hroom : A.depth < recursionLimit)
    (hbind : BindsTo s (fnOf name qual params body scope dV kV doc pm an cdv ct) ⟨vs, []⟩ binds) (hkind : (binds.all fun y => scope.names.lookup y.1 == some .local || scope.names.lookup y.1 == some .cell) = true)
    (hnd : ((cellsFrom 0 scope.names []).map (·.1)).Nodup)
    (h : ∀ L' h₁ tk cells, Fr (hidG s hid) L' h₁ (bindL (envOfC qual scope L' f cdv).kindOf binds fun _ => none) → News (hidG s hid) L' h₁ (cells ++ hid) → CellsAre (bindC (envOfC qual scope L' f cdv).kindOf binds fun _ => none) (cellsFrom (L' + 1) scope.names []) cells →
      Below A base (env :: outer) (hidG s hid) → K.In (hidG s hid) → Top p loose mean mg mb (hidG s hid) → (∀ p ∈ hid, p.1 < L') →
      wpAny (model prog w) (A.deeper (envOfC qual scope L' f cdv)) (execs body (envOfC qual scope L' f cdv))
        (fun fl s' => EndC (hidG s hid) Q (match fl with | .ret v => v | _ => .none) s')
        (fun e s' => wpAny (model prog w) (A.deeper (envOfC qual scope L' f cdv)) (leaving (envOfC qual scope L' f cdv) e) (fun _ s'' => E e s'') (fun e' s'' => E e' s'') s')
        { s with heap := h₁, toks := tk })
    (hco : scope.isCoroutine = false) (hgen : scope.isGenerator = false) (hk : scope.kind = .function) :
    wpAny (model prog w) A (PySem.call (.ref f) vs) Q E s := by
  have X := X₀.keeps F.keep
  refine wpAny_call ?_
  obtain ⟨FG, BG, st, lv⟩ := groundX (R := fun r s' => match r with | .ok (.ret v) => Q v s' | .ok _ => False | .error e => E e s') B F N hA hf hke
  refine codeAny_call_function hroom (X _ _ ho) rfl hco hgen rfl (codeRec_of X hcd) (hbind _ _ _ _ ?_)
  refine wpAny_newFunctionEnv_cells hk (kindsX hkind _) fun env' he s' x => ?_
  subst he
  refine ⟨(T.nolimit.keeps F.keep).keeps x.toInCall.keep, codeAny_func ?_⟩
  obtain ⟨h₁, tk, rfl, _⟩ := x.done
  have hk₁ := x.toInCall.keep
  obtain ⟨cells, NC, Y⟩ := Cl.news (h₀ := s.heap) (Nat.le_refl _) fun n c hm => ⟨x.cell n c (lookup_of_mem_nodup (cellsFrom_names scope.names 0 (s.heap.objs.size + 1) [] [] rfl ▸ hnd) hm), x.above n c hm⟩
  refine wpAny_mono (h s.heap.objs.size h₁ tk cells ⟨x.toInCall.ns, fun b o e => hk₁ b o (of_hideAll _ e), Nat.le_of_eq (hideAll_size _ _)⟩ (fun p hp => ?_) Y BG (X₀.keeps st) (T.keeps st) (fun p hp => Heap.lt_size (N p hp).1)) (fun fl s' hl => ?_) fun _ _ y => y
  · rcases List.mem_append.mp hp with hp | hp
    · refine ⟨(NC p hp).1, (NC p hp).2.1, ?_⟩
      cases q : (hidG s hid).get? p.1 with
      | none => rfl
      | some o => have := of_hideAll _ q; rw [(NC p hp).2.2] at this; cases this
    · exact ⟨hk₁ _ _ (N p hp).1, Nat.ne_of_lt (Heap.lt_size (N p hp).1), hideAll_none _ (List.mem_map_of_mem hp)⟩
  · obtain ⟨L', m', news', F', N', q⟩ := hl
    exact q

/-- what stands in the caller's heap stands behind a callee's end -/
theorem Keeps.fr {h h' h₀ : Heap} {L : Addr} {m : Str → Option Value} (F : Fr h₀ L h m) (k : ∀ b o, h.get? b = some o → h'.get? b = some o) : Fr h₀ L h' m :=
  ⟨F.ns.keeps k, fun b o e => k b o (F.keep b o e), F.above⟩
theorem Keeps.news {h h' h₀ : Heap} {L : Addr} {news : List (Addr × Obj)} (N : News h₀ L h news) (k : ∀ b o, h.get? b = some o → h'.get? b = some o) : News h₀ L h' news :=
  fun p hp => ⟨k _ _ (N p hp).1, (N p hp).2⟩
end
end Mine
end
section
open PySem PySem.W PySem.Spec PySem.Calls PyProof.Rows
open Sem (wp)
set_option Elab.async false
set_option maxRecDepth 100000
namespace Mine

section
variable {prog : Program} {w : World} {A : Around} {E : Value → Shared → Prop} {s : Shared}

theorem nextOf_tuple_item {it t : Addr} {i : Nat} {items : Array Value} {x : Value} {Q : Value → Shared → Prop} (hit : s.heap.IsTupleIter it t i) (ht : s.heap.IsTuple t items) (hx : items[i]? = some x)
    (hQ : ∀ h', h'.IsTupleIter it t (i + 1) → Heap.SameBut it s.heap h' → Q x { s with heap := h' }) :
    wpAny (model prog w) A (Builtin.SmallTypes.nextOf (.ref it)) Q E s := by
  obtain ⟨o, ho, hc, hd⟩ := id hit
  obtain ⟨ol, hol, _, nl, hdl⟩ := ht
  unfold Builtin.SmallTypes.nextOf
  refine wpAny_bind (wpAny_callSpecial?_slot (name := Str.ofString "__next__") hit.typeIs F.slot_tuple_iterator_next
    (wpAny_call_entry F.slot_tuple_iterator_next hit.typeIs F.entry_tuple_iterator_next ?_ (F.args_tuple_iterator_next_1 _)))
  show wpAny _ _ (field (.ref it) 0 >>= _) _ _ s
  refine wpAny_bind (wpAny_field ho hd (x := .ref t) rfl ?_)
  show wpAny _ _ (if (Value.ref t == Value.none) = true then _ else _) _ _ s
  rw [if_neg (show ¬ ((Value.ref t == Value.none) = true) from Bool.false_ne_true)]
  show wpAny _ _ (field (.ref it) 1 >>= _) _ _ s
  refine wpAny_bind (wpAny_field ho hd (x := .int i 0) rfl ?_)
  show wpAny _ _ (seqItems? (.ref t) >>= _) _ _ s
  refine wpAny_bind (wpAny_seqItems hol hdl ?_)
  simp only [Int.toNat_natCast, hx]
  refine wpAny_bind (wpAny_setField ho hd (by simp) (wpAny_pure ⟨x, rfl, wpAny_pure (hQ _ ?_ (Heap.SameBut.update ..))⟩))
  exact ⟨_, Heap.get?_update_self _ ho (Obj.isFreed_of_fields (Obj.data_mapFields hd _)), (Obj.cls_mapFields ..).trans hc, by
    rw [Obj.data_mapFields hd]; simp [rawInt]⟩

theorem nextOf_tuple_end {it t : Addr} {i : Nat} {items : Array Value} {Q : Value → Shared → Prop} (hh : A.handled = none) (hit : s.heap.IsTupleIter it t i) (ht : s.heap.IsTuple t items) (hx : items[i]? = none)
    (hE : ∀ h' e, Heap.ExtBut it s.heap h' → (∃ o, h'.get? e = some o ∧ o.cls = .type "StopIteration") → E (.ref e) { s with heap := h' }) :
    wpAny (model prog w) A (Builtin.SmallTypes.nextOf (.ref it)) Q E s := by
  obtain ⟨o, ho, hc, hd⟩ := id hit
  obtain ⟨ol, hol, _, nl, hdl⟩ := ht
  unfold Builtin.SmallTypes.nextOf
  refine wpAny_bind (wpAny_callSpecial?_slot (name := Str.ofString "__next__") hit.typeIs F.slot_tuple_iterator_next
    (wpAny_call_entry F.slot_tuple_iterator_next hit.typeIs F.entry_tuple_iterator_next ?_ (F.args_tuple_iterator_next_1 _)))
  show wpAny _ _ (field (.ref it) 0 >>= _) _ _ s
  refine wpAny_bind (wpAny_field ho hd (x := .ref t) rfl ?_)
  show wpAny _ _ (if (Value.ref t == Value.none) = true then _ else _) _ _ s
  rw [if_neg (show ¬ ((Value.ref t == Value.none) = true) from Bool.false_ne_true)]
  show wpAny _ _ (field (.ref it) 1 >>= _) _ _ s
  refine wpAny_bind (wpAny_field ho hd (x := .int i 0) rfl ?_)
  show wpAny _ _ (seqItems? (.ref t) >>= _) _ _ s
  refine wpAny_bind (wpAny_seqItems hol hdl ?_)
  simp only [Int.toNat_natCast, hx]
  refine wpAny_bind (wpAny_rule (wpAny_bind (wpAny_setField ho hd (by simp) ?_)))
  show wpAny _ _ (newExc (.type "StopIteration") [] >>= _) _ _ _
  refine wpAny_bind ?_
  simp only [newExc, newTuple]
  refine wpAny_bind (wpAny_newObj_type ?_ (by size_fits))
  refine wpAny_bind (m := firstArgMember _ _) (wpAny_of_eq (a := Value.none) (by first | rfl | (simp only [firstArgMember]; rfl)) ?_)
  refine wpAny_newObj_type ?_ (by size_fits)
  simp only [raiseNew]
  refine wpAny_bind (wpAny_handled ?_)
  first | rw [show A.in1.handled = none from hh] | rw [hh]
  refine wpAny_bind (wpAny_pure (wpAny_throw ?_))
  exact hE _ _ (((Heap.SameBut.update ..).extBut.push _).push _) ⟨_, Heap.get?_push_size _ rfl, rfl⟩
end

theorem Heap.IsTuple.at' {h h' : Heap} {a : Addr} {items : Array Value} (x : h.IsTuple a items) (k : ∀ o, h.get? a = some o → h'.get? a = some o) : h'.IsTuple a items := let ⟨o, ho, r⟩ := x; ⟨o, k o ho, r⟩
theorem Heap.IsTupleIter.at' {h h' : Heap} {a t : Addr} {i : Nat} (x : h.IsTupleIter a t i) (k : ∀ o, h.get? a = some o → h'.get? a = some o) : h'.IsTupleIter a t i := let ⟨o, ho, r⟩ := x; ⟨o, k o ho, r⟩

theorem drawsTuple {prog : Program} {w : World} {A : Around} (hh : A.handled = none) (it l : Addr) (hne : l ≠ it) (items : Array Value) :
    Draws prog w A it [it, l] items.size (fun i v => items[i]? = some v) (fun i h => h.IsTupleIter it l i ∧ h.IsTuple l items) where
  live := fun _ _ st => let ⟨o, ho, _⟩ := st.1; ⟨o, ho⟩
  frame := fun _ _ _ st hk => ⟨Heap.IsTupleIter.at' st.1 fun o e => hk it (by simp) o e, Heap.IsTuple.at' st.2 fun o e => hk l (by simp) o e⟩
  item := fun i s Q E hi st hQ => by
    refine nextOf_tuple_item st.1 st.2 (x := items[i]) (by simp [hi]) fun h' hit' hs' => ?_
    exact hQ _ h' s.toks (by simp [hi]) ⟨hit', st.2.extBut hs'.extBut hne⟩ hs'
  done := fun s Q E st hE => nextOf_tuple_end hh st.1 st.2 (by simp) hE

open AutoSeq1 (wpAny_loadPart') in
theorem meets_enumerate_newT (l : Addr) (items : Array Value) (n : Nat) (dct : Option Addr) (sl : Array (Option Value)) :
    Meets (Builtin.«enumerate.__new__» ⟨[.type "enumerate", .ref l], []⟩) (fun _ R s => s.heap.get? l = some { cls := .type "tuple", dict := dct, data := .seq items n, slots := sl } ∧
      R (.ok (.ret (.ref (s.heap.push { cls := .type "tuple_iterator", data := .fields #[.ref l, .int 0 0] }).objs.size)))
        { s with heap := (s.heap.push { cls := .type "tuple_iterator", data := .fields #[.ref l, .int 0 0] }).push { cls := .type "enumerate", data := .fields #[.none, .bool false, .ref s.heap.objs.size, rawInt 0, .none, .none] } }) :=
  .of_wp fun prog w A R s h => by
    obtain ⟨hp, g, d, tk, os⟩ := s; obtain ⟨hl, h⟩ := h
    have hsub := sub_enumerate
    have hL : Heap.IsTuple (Shared.heap ⟨hp, g, d, tk, os⟩) l items := ⟨_, hl, rfl, n, rfl⟩
    wp_walk using wpAny_loadPart' hl
    refine wpAny_stack_any fun st => wpAny_pure ?_
    split
    · rename_i c _ _ _ _ _
      cases (c == Value.type "enumerate")
      · wp_walk using wpAny_loadPart' hl, wpAny_pyIter_tuple hL
        exact ⟨_, rfl, h⟩
      · wp_walk using wpAny_loadPart' hl, wpAny_pyIter_tuple hL
        exact ⟨_, rfl, h⟩
    · wp_walk using wpAny_loadPart' hl, wpAny_pyIter_tuple hL
      exact ⟨_, rfl, h⟩

section
variable {prog : Program} {w : World} {A : Around} {E : Value → Shared → Prop} {s : Shared}
theorem call_enumerate_tuple {l : Addr} {items : Array Value} {Q : Value → Shared → Prop} (hL : s.heap.IsTuple l items)
    (h : ∀ h', IsEnum h' (s.heap.objs.size + 1) s.heap.objs.size 0 .none → h'.IsTupleIter s.heap.objs.size l 0 → h'.objs.size = s.heap.objs.size + 2 →
      (∀ b o, s.heap.get? b = some o → h'.get? b = some o) → Q (.ref (s.heap.objs.size + 1)) { s with heap := h' }) :
    wpAny (model prog w) A (PySem.call (.type "enumerate") [.ref l]) Q E s := by
  obtain ⟨⟨c, dct, dt, sl⟩, hl, hc, n, hd⟩ := hL
  replace hc : c = .type "tuple" := hc
  replace hd : dt = .seq items n := hd
  subst hc hd
  refine callType_new F.called_enumerate (by decide) (F.typeCall_enumerate_1 _) (F.newCall_enumerate_1 _) (fun obj => F.args_object_init_2 obj _) F.entry_enumerate_new
    (meets_enumerate_newT l items n dct sl) ⟨hl, ?_⟩
  have hz : (s.heap.push { cls := .type "tuple_iterator", data := .fields #[.ref l, .int 0 0] }).objs.size = s.heap.objs.size + 1 := Heap.size_push ..
  show _ ∧ _
  rw [hz]
  have he : IsEnum ((s.heap.push { cls := .type "tuple_iterator", data := .fields #[.ref l, .int 0 0] }).push
      { cls := .type "enumerate", data := .fields #[.none, .bool false, .ref s.heap.objs.size, rawInt 0, .none, .none] }) (s.heap.objs.size + 1) s.heap.objs.size 0 .none := by
    have := Heap.get?_push_size (s.heap.push { cls := .type "tuple_iterator", data := .fields #[.ref l, .int 0 0] })
      (o := { cls := .type "enumerate", data := .fields #[.none, .bool false, .ref s.heap.objs.size, rawInt 0, .none, .none] }) rfl
    rw [hz] at this; exact this
  refine ⟨⟨_, he, rfl⟩, h _ he ⟨_, Heap.get?_push_of_some _ (Heap.get?_push_size _ rfl), rfl, rfl⟩ (by rw [Heap.size_push, hz]) fun b o x => Heap.get?_push_of_some _ (Heap.get?_push_of_some _ x)⟩
end

section
variable {prog : Program} {w : World} {A : Around} {E : Value → Shared → Prop} {s : Shared} {env : Env} {h₀ : Heap} {target : Expr} {body : List Stmt} {Q : Flow → Shared → Prop}

/-- the end of a turn of a loop over enumerate(a tuple) -/
def EndE (h₀ : Heap) (L : Addr) (s₁ : Shared) (I J : Addr) (it jt : Obj) (rest : (Str → Option Value) → List (Addr × Obj) → Prop) (Q : Flow → Shared → Prop) (f : Flow) (s₂ : Shared) : Prop :=
  match f with
  | .ret v => Q (.ret v) s₂
  | .brk => Q .next s₂
  | _ => ∃ h' tk m' news', s₂ = { s₁ with heap := h', toks := tk } ∧ Fr h₀ L h' m' ∧ News h₀ L h' ((I, it) :: (J, jt) :: news') ∧ (∀ p ∈ news', p.1 ≠ I ∧ p.1 ≠ J) ∧ rest m' news'

theorem EndE.next {L I J : Addr} {s₁ : Shared} {it jt : Obj} {rest : (Str → Option Value) → List (Addr × Obj) → Prop} {h' : Heap} {tk : Nat} {m' : Str → Option Value} {all : List (Addr × Obj)}
    (F : Fr h₀ L h' m') (N : News h₀ L h' all) (news' : List (Addr × Obj)) (sub : ∀ p ∈ (I, it) :: (J, jt) :: news', p ∈ all) (off : ∀ p ∈ news', p.1 ≠ I ∧ p.1 ≠ J) (r : rest m' news') :
    EndE h₀ L s₁ I J it jt rest Q .next { s₁ with heap := h', toks := tk } := ⟨h', tk, m', news', rfl, F, fun p hp => N p (sub p hp), off, r⟩

theorem enum_tup {elts : List Expr} {k : Nat} {pos : Pos} {l : Addr} {items : List Value} {m₀ : Str → Option Value} {news : List (Addr × Obj)} (hh : A.handled = none) (F : Fr h₀ env.locals s.heap m₀) (N : News h₀ env.locals s.heap news) (hl : h₀.IsTuple l items.toArray)
    (J : Nat → (Str → Option Value) → List (Addr × Obj) → Prop) (h0 : J 0 m₀ news)
    (step : ∀ i x t T m₁ news₁ I I' it jt h₁ tk₁, items[i]? = some x → J i m₁ news₁ → it.cls = .type "enumerate" → jt.cls = .type "tuple_iterator" → I ≠ I' → (∀ p ∈ news₁, p.1 ≠ I ∧ p.1 ≠ I') → IsTup h₁ T #[.int (i : Int) t, x] → Fr h₀ env.locals h₁ m₁ → News h₀ env.locals h₁ ((I, it) :: (I', jt) :: news₁) →
      wpAny (model prog w) A (assign (.Tuple elts k pos) env (.ref T)) (fun _ s₃ => wpAny (model prog w) A (execs body env) (EndE h₀ env.locals s I I' it jt (J (i + 1)) Q) E s₃) E { s with heap := h₁, toks := tk₁ })
    (done : ∀ h' tk m' news', Fr h₀ env.locals h' m' → News h₀ env.locals h' news' → J items.length m' news' → Q .next { s with heap := h', toks := tk }) :
    wpAny (model prog w) A (PySem.call (.type "enumerate") [.ref l]) (fun xv s₁ => wpAny (model prog w) A (pyIter xv) (fun it s₂ => TurnsAt prog w A h₀ env (.Tuple elts k pos) body Q E it s₂) E s₁) E s := by
  have hls : s.heap.IsTuple l items.toArray := Heap.IsTuple.at' hl fun o e => F.keep l o e
  obtain ⟨ol, hol, _⟩ := id hl
  have hlt0 : l < h₀.objs.size := Heap.lt_size hol
  have hLs : env.locals < s.heap.objs.size := F.ns.lt
  have hlt : l < s.heap.objs.size := Nat.lt_trans (Nat.lt_of_lt_of_le hlt0 F.above) hLs
  refine call_enumerate_tuple hls fun h' hE hI hsz hk => ?_
  refine wpAny_pyIter_enum hE ?_
  have W := KTurns.ofWalksU (elts := elts) (k := k) (pos := pos) (WalksT.enumerateD (drawsTuple (prog := prog) (w := w) (A := A.in1) hh s.heap.objs.size l (Nat.ne_of_lt hlt) items.toArray) (s.heap.objs.size + 1) (Nat.succ_ne_self _) (by
    intro hm
    rcases List.mem_cons.mp hm with e | hm
    · exact Nat.succ_ne_self _ e
    · exact absurd (List.mem_singleton.mp hm).symm (Nat.ne_of_lt (Nat.lt_succ_of_lt hlt))) (List.mem_cons_self ..)).toU
  have hn1 : h₀.get? s.heap.objs.size = none := ktu_new F (Nat.le_refl _)
  have hn2 : h₀.get? (s.heap.objs.size + 1) = none := ktu_new F (Nat.le_add_right _ _)
  refine ⟨_, _, _, _, _, _, _, m₀, news, J, rfl, W, ?_, ?_, ?_, ⟨⟨_, hE⟩, hI, Heap.IsTuple.at' hls fun o e => hk l o e⟩, F.keeps hk, N.grown hk, h0, ?_, ?_⟩
  · intro hm
    have hb' : env.locals = s.heap.objs.size + 1 ∨ env.locals = s.heap.objs.size ∨ env.locals = l := by simpa using hm
    rcases hb' with e | e | e
    · exact absurd hLs (by rw [e]; exact Nat.not_lt.mpr (Nat.le_succ _))
    · exact absurd hLs (by rw [e]; exact Nat.lt_irrefl _)
    · exact absurd (Nat.lt_of_lt_of_le hlt0 F.above) (by rw [e]; exact Nat.lt_irrefl _)
  · intro b hb
    have hb' : b = s.heap.objs.size + 1 ∨ b = s.heap.objs.size := by simpa using hb
    rcases hb' with rfl | rfl
    · exact hn2
    · exact hn1
  · intro p hp hI'
    have hlt2 := Heap.lt_size (N p hp).1
    have hb' : p.1 = s.heap.objs.size + 1 ∨ p.1 = s.heap.objs.size := by simpa using hI'
    rcases hb' with e | e
    · rw [e] at hlt2; exact absurd hlt2 (Nat.not_lt.mpr (Nat.le_succ _))
    · rw [e] at hlt2; exact absurd hlt2 (Nat.lt_irrefl _)
  · intro i v m₁ news₁ h₁ tk₁ own hin hP hJ hoff hown hget hall hst₁ F₁ N₁
    obtain ⟨⟨old, he0⟩, ⟨oi, hoi, hic, hid⟩, _⟩ := hst₁
    obtain ⟨oe, he, hec⟩ : ∃ oe : Obj, h₁.get? (s.heap.objs.size + 1) = some oe ∧ oe.cls = .type "enumerate" := ⟨_, he0, rfl⟩
    obtain ⟨T, vals, rfl, ⟨t, x, hx, rfl⟩, hT⟩ := hP
    have hx' : items[i]? = some x := by simpa using hx
    have m1 := hall s.heap.objs.size (by simp) hn1 _ hoi
    have m2 := hall (s.heap.objs.size + 1) (by simp) hn2 _ he
    have N₂ : News h₀ env.locals h₁ ((s.heap.objs.size + 1, oe) :: (s.heap.objs.size, oi) :: news₁) := fun p hp => by
      rcases List.mem_cons.mp hp with rfl | hp
      · exact N₁ _ (List.mem_append_left _ m2)
      · rcases List.mem_cons.mp hp with rfl | hp
        · exact N₁ _ (List.mem_append_left _ m1)
        · exact N₁ _ (List.mem_append_right _ hp)
    refine wpAny_mono (step i x t T m₁ news₁ (s.heap.objs.size + 1) s.heap.objs.size oe oi h₁ tk₁ hx' hJ hec hic (Nat.succ_ne_self _) (fun p hp => ⟨fun e => hoff p hp (by rw [e]; simp), fun e => hoff p hp (by rw [e]; simp)⟩) hT F₁ N₂) (fun _ s₂ h₂ => wpAny_mono h₂ (fun f s₃ p => ?_) fun _ _ e => e) fun _ _ e => e
    have fin : (∃ h' tk m' news', s₃ = { s with heap := h', toks := tk } ∧ Fr h₀ env.locals h' m' ∧ News h₀ env.locals h' ((s.heap.objs.size + 1, oe) :: (s.heap.objs.size, oi) :: news') ∧ (∀ p ∈ news', p.1 ≠ s.heap.objs.size + 1 ∧ p.1 ≠ s.heap.objs.size) ∧ J (i + 1) m' news') →
        LoopStepU h₀ env.locals [s.heap.objs.size + 1, s.heap.objs.size] own (J (i + 1)) { s with heap := h₁, toks := tk₁ } .next s₃ := by
      rintro ⟨h', tk, m', news', e, F', N', ho, r⟩
      refine ⟨rfl, h', tk, m', news', e, F', fun p hp => ?_, fun p hp hI => ?_, r⟩
      · rcases List.mem_append.mp hp with hp | hp
        · have h2 : h₁.get? p.1 = some p.2 := hget p hp
          have hb' : p.1 = s.heap.objs.size + 1 ∨ p.1 = s.heap.objs.size ∨ p.1 = l := by simpa using hown p hp
          rcases hb' with h1 | h1 | h1
          · have h3 : p = (s.heap.objs.size + 1, oe) := Prod.ext h1 (by rw [h1, he] at h2; exact (Option.some.inj h2).symm)
            rw [h3]; exact N' _ (List.mem_cons_self ..)
          · have h3 : p = (s.heap.objs.size, oi) := Prod.ext h1 (by rw [h1, hoi] at h2; exact (Option.some.inj h2).symm)
            rw [h3]; exact N' _ (List.mem_cons_of_mem _ (List.mem_cons_self ..))
          · have h4 := (N₁ p (List.mem_append_left _ hp)).2.2
            rw [h1, hol] at h4; cases h4
        · exact N' _ (List.mem_cons_of_mem _ (List.mem_cons_of_mem _ hp))
      · have hb' : p.1 = s.heap.objs.size + 1 ∨ p.1 = s.heap.objs.size := by simpa using hI
        rcases hb' with e | e
        · exact (ho p hp).1 e
        · exact (ho p hp).2 e
    cases f with
    | ret v => exact .ret p
    | brk => exact .brk p
    | next => exact .next (fin p)
    | cont => exact .cont (fin p)
  · intro h' tk m' news' F' N' _ hJ
    have hz : items.toArray.size = items.length := by simp
    rw [hz] at hJ
    exact done h' tk m' news' F' N' hJ

/-- a for over a tuple of the base, with an else -/
theorem iter_tup {orelse : List Stmt} {l : Addr} {items : List Value} {m₀ : Str → Option Value} {news : List (Addr × Obj)} (hh : A.handled = none) (hE : PassesOwn (model prog w) A env E) (F : Fr h₀ env.locals s.heap m₀) (N : News h₀ env.locals s.heap news) (hl : h₀.IsTuple l items.toArray)
    (J : Nat → (Str → Option Value) → List (Addr × Obj) → Prop) (h0 : J 0 m₀ news)
    (step : ∀ i v m₁ news₁ I it h₁ tk₁, items[i]? = some v → J i m₁ news₁ → it.cls = .type "tuple_iterator" → (∀ p ∈ news₁, p.1 ≠ I) → (∀ p ∈ news, p.1 < I) → Fr h₀ env.locals h₁ m₁ → News h₀ env.locals h₁ ((I, it) :: news₁) →
      wpAny (model prog w) A (assign target env v) (fun _ s₃ => wpAny (model prog w) A (execs body env) (EndT h₀ env.locals s I it (J (i + 1)) Q) E s₃) E { s with heap := h₁, toks := tk₁ })
    (done : ∀ h' tk m' news', Fr h₀ env.locals h' m' → News h₀ env.locals h' news' → J items.length m' news' → wpAny (model prog w) A (execs orelse env) Q E { s with heap := h', toks := tk }) :
    wpAny (model prog w) A (pyIter (.ref l)) (fun it s₂ => codeAny (model prog w) A (.forLoop target it body orelse env) (fun r s' => match r with | .ok f => Q f s' | .error e => cameBackBy (model prog w) A env E e s') s₂) E s := by
  have hls : s.heap.IsTuple l items.toArray := Heap.IsTuple.at' hl fun o e => F.keep l o e
  obtain ⟨ol, hol, _⟩ := id hl
  have hlt : l < h₀.objs.size := Heap.lt_size hol
  have hne : l ≠ s.heap.objs.size := Nat.ne_of_lt (Nat.lt_trans (Nat.lt_of_lt_of_le hlt F.above) F.ns.lt)
  have hLs : env.locals < s.heap.objs.size := F.ns.lt
  have hnew := next_is_new F
  refine wpAny_pyIter_tuple hls ?_
  refine codeAny_forLoop_any
    (fun k s' => ∃ h' tk m' news' i, s' = { s with heap := h', toks := tk } ∧ h'.IsTupleIter s.heap.objs.size l i ∧ Fr h₀ env.locals h' m' ∧ News h₀ env.locals h' news' ∧ (∀ p ∈ news', p.1 ≠ s.heap.objs.size) ∧ J i m' news' ∧ i ≤ items.length ∧ k = items.length + 1 - i) ?_ (items.length + 1)
    ⟨_, s.toks, m₀, news, 0, rfl, ⟨_, Heap.get?_push_size _ rfl, rfl, rfl⟩, F.push _, (fun p hp => ⟨Heap.get?_push_of_some _ (N p hp).1, (N p hp).2⟩), (fun p hp => Nat.ne_of_lt (Heap.lt_size (N p hp).1)), h0, Nat.zero_le _, rfl⟩
  rintro k s' ⟨H, tk, m', news', i, rfl, hit, F', N', hnw, hJ, hi, rfl⟩
  have hlH : H.IsTuple l items.toArray := Heap.IsTuple.at' hl fun o e => F'.keep l o e
  by_cases hlt' : i < items.length
  · have hx : items.toArray[i]? = some items[i] := by simp [hlt']
    refine wpAny_pyNext_tuple_item hit hlH hx fun h₁ hit₁ hs₁ => ?_
    refine letGo_tupleiter hit₁ ?_
    replace hs₁ : Heap.SameBut s.heap.objs.size H h₁ := hs₁
    have F₁ : Fr h₀ env.locals h₁ m' := ⟨F'.ns.sameBut hs₁ (Nat.ne_of_lt hLs), fun b o e => (hs₁.2 b (fun q => by rw [q, hnew] at e; cases e)).trans (F'.keep b o e), F'.above⟩
    have N₁ : News h₀ env.locals h₁ news' := fun p hp => ⟨(hs₁.2 p.1 (hnw p hp)).trans (N' p hp).1, (N' p hp).2⟩
    obtain ⟨it, hito, hic, hid⟩ := id hit₁
    have N₂ : News h₀ env.locals h₁ ((s.heap.objs.size, it) :: news') := fun p hp => by
      rcases List.mem_cons.mp hp with rfl | hp
      · exact ⟨hito, Nat.ne_of_gt hLs, hnew⟩
      · exact N₁ _ hp
    have hx' : items[i]? = some items[i] := by simp [hlt']
    refine wpAny_mono (step i items[i] m' news' s.heap.objs.size it h₁ tk hx' hJ hic hnw (fun p hp => Heap.lt_size (N p hp).1) F₁ N₂) (fun _ s₂ h₂ => wpAny_passesOwn hE (wpAny_mono h₂ (fun f s₃ p => ?_) fun _ _ e => e)) hE
    have fin : (∃ h' tk m' news', s₃ = { s with heap := h', toks := tk } ∧ Fr h₀ env.locals h' m' ∧ News h₀ env.locals h' ((s.heap.objs.size, it) :: news') ∧ (∀ p ∈ news', p.1 ≠ s.heap.objs.size) ∧ J (i + 1) m' news') →
        ∃ m, m < items.length + 1 - i ∧ ∃ h' tk m' news' i, s₃ = { s with heap := h', toks := tk } ∧ h'.IsTupleIter s.heap.objs.size l i ∧ Fr h₀ env.locals h' m' ∧ News h₀ env.locals h' news' ∧ (∀ p ∈ news', p.1 ≠ s.heap.objs.size) ∧ J i m' news' ∧ i ≤ items.length ∧ m = items.length + 1 - i := by
      rintro ⟨h', tk, m', news', e, F', N', ho, r⟩
      exact ⟨items.length + 1 - (i + 1), by omega, h', tk, m', news', i + 1, e, ⟨it, (N' _ (List.mem_cons_self ..)).1, hic, hid⟩, F', fun p hp => N' p (List.mem_cons_of_mem _ hp), ho, r, hlt', rfl⟩
    cases f with
    | ret v => exact p
    | brk => exact p
    | next => exact fin p
    | cont => exact fin p
  · have hin : i = items.length := by omega
    subst hin
    refine wpAny_pyNext_tuple_end hh hit hlH (by simp) fun h₁ hx₁ => ?_
    replace hx₁ : Heap.ExtBut s.heap.objs.size H h₁ := hx₁
    refine wpAny_passesOwn hE (done h₁ tk m' news' ⟨F'.ns.extBut hx₁ (Nat.ne_of_lt hLs), fun b o e => hx₁ b o (fun q => by rw [q, hnew] at e; cases e) (F'.keep b o e), F'.above⟩ (fun p hp => ⟨hx₁ p.1 _ (hnw p hp) (N' p hp).1, (N' p hp).2⟩) hJ)

/-! the same, the names that a turn stores forgotten -/
theorem mst {stored : List Str} {m₁ m₀ : Str → Option Value} (h : ∀ y, stored.contains y = false → m₁ y = m₀ y) : m₁ = fun y => if stored.contains y then m₁ y else m₀ y := by
  funext y
  cases q : stored.contains y with
  | true => simp
  | false => simp [h y q]
theorem frMst {g : Heap} {L : Addr} {h : Heap} {stored : List Str} {m₁ m₀ : Str → Option Value} (F : Fr g L h m₁) (e : ∀ y, stored.contains y = false → m₁ y = m₀ y) : Fr g L h (fun y => if stored.contains y then m₁ y else m₀ y) := by
  rw [← Mine.mst e]; exact F

theorem enum_tupS (stored : List Str) {elts : List Expr} {k : Nat} {pos : Pos} {l : Addr} {items : List Value} {m₀ : Str → Option Value} {news : List (Addr × Obj)} (hh : A.handled = none) (F : Fr h₀ env.locals s.heap m₀) (N : News h₀ env.locals s.heap news) (hl : h₀.IsTuple l items.toArray)
    (R : Nat → List (Addr × Obj) → Prop) (h0 : R 0 news)
    (step : ∀ i x t T (u : Str → Option Value) news₁ I I' it jt h₁ tk₁, items[i]? = some x → R i news₁ → it.cls = .type "enumerate" → jt.cls = .type "tuple_iterator" → I ≠ I' → (∀ p ∈ news₁, p.1 ≠ I ∧ p.1 ≠ I') → IsTup h₁ T #[.int (i : Int) t, x] → Fr h₀ env.locals h₁ (fun y => if stored.contains y then u y else m₀ y) → News h₀ env.locals h₁ ((I, it) :: (I', jt) :: news₁) →
      wpAny (model prog w) A (assign (.Tuple elts k pos) env (.ref T)) (fun _ s₃ => wpAny (model prog w) A (execs body env) (EndE h₀ env.locals s I I' it jt (fun m' n' => (∀ y, stored.contains y = false → m' y = m₀ y) ∧ R (i + 1) n') Q) E s₃) E { s with heap := h₁, toks := tk₁ })
    (done : ∀ h' tk (u : Str → Option Value) news', Fr h₀ env.locals h' (fun y => if stored.contains y then u y else m₀ y) → News h₀ env.locals h' news' → R items.length news' → Q .next { s with heap := h', toks := tk }) :
    wpAny (model prog w) A (PySem.call (.type "enumerate") [.ref l]) (fun xv s₁ => wpAny (model prog w) A (pyIter xv) (fun it s₂ => TurnsAt prog w A h₀ env (.Tuple elts k pos) body Q E it s₂) E s₁) E s :=
  enum_tup hh F N hl (fun i m' n' => (∀ y, stored.contains y = false → m' y = m₀ y) ∧ R i n') ⟨fun _ _ => rfl, h0⟩
    (fun i x t T m₁ news₁ I I' it jt h₁ tk₁ hx hJ c1 c2 ne off hT F₁ N₁ => step i x t T m₁ news₁ I I' it jt h₁ tk₁ hx hJ.2 c1 c2 ne off hT (frMst F₁ hJ.1) N₁)
    (fun h' tk m' news' F' N' hJ => done h' tk m' news' (frMst F' hJ.1) N' hJ.2)

theorem iter_tupS (stored : List Str) {orelse : List Stmt} {l : Addr} {items : List Value} {m₀ : Str → Option Value} {news : List (Addr × Obj)} (hh : A.handled = none) (hE : PassesOwn (model prog w) A env E) (F : Fr h₀ env.locals s.heap m₀) (N : News h₀ env.locals s.heap news) (hl : h₀.IsTuple l items.toArray)
    (R : Nat → List (Addr × Obj) → Prop) (h0 : R 0 news)
    (step : ∀ i v (u : Str → Option Value) news₁ I it h₁ tk₁, items[i]? = some v → R i news₁ → it.cls = .type "tuple_iterator" → (∀ p ∈ news₁, p.1 ≠ I) → (∀ p ∈ news, p.1 < I) → Fr h₀ env.locals h₁ (fun y => if stored.contains y then u y else m₀ y) → News h₀ env.locals h₁ ((I, it) :: news₁) →
      wpAny (model prog w) A (assign target env v) (fun _ s₃ => wpAny (model prog w) A (execs body env) (EndT h₀ env.locals s I it (fun m' n' => (∀ y, stored.contains y = false → m' y = m₀ y) ∧ R (i + 1) n') Q) E s₃) E { s with heap := h₁, toks := tk₁ })
    (done : ∀ h' tk (u : Str → Option Value) news', Fr h₀ env.locals h' (fun y => if stored.contains y then u y else m₀ y) → News h₀ env.locals h' news' → R items.length news' → wpAny (model prog w) A (execs orelse env) Q E { s with heap := h', toks := tk }) :
    wpAny (model prog w) A (pyIter (.ref l)) (fun it s₂ => codeAny (model prog w) A (.forLoop target it body orelse env) (fun r s' => match r with | .ok f => Q f s' | .error e => cameBackBy (model prog w) A env E e s') s₂) E s :=
  iter_tup hh hE F N hl (fun i m' n' => (∀ y, stored.contains y = false → m' y = m₀ y) ∧ R i n') ⟨fun _ _ => rfl, h0⟩
    (fun i v m₁ news₁ I it h₁ tk₁ hx hJ c1 off lt F₁ N₁ => step i v m₁ news₁ I it h₁ tk₁ hx hJ.2 c1 off lt (frMst F₁ hJ.1) N₁)
    (fun h' tk m' news' F' N' hJ => done h' tk m' news' (frMst F' hJ.1) N' hJ.2)

theorem iter_itemsS (stored : List Str) {l : Addr} {items : List Value} {m₀ : Str → Option Value} {news : List (Addr × Obj)} (hh : A.handled = none) (F : Fr h₀ env.locals s.heap m₀) (N : News h₀ env.locals s.heap news) (hl : h₀.IsList l items.toArray)
    (R : Nat → List (Addr × Obj) → Prop) (h0 : R 0 news)
    (step : ∀ i v (u : Str → Option Value) news₁ I it h₁ tk₁, items[i]? = some v → R i news₁ → it.cls = .type "list_iterator" → (∀ p ∈ news₁, p.1 ≠ I) → Fr h₀ env.locals h₁ (fun y => if stored.contains y then u y else m₀ y) → News h₀ env.locals h₁ ((I, it) :: news₁) →
      wpAny (model prog w) A (assign target env v) (fun _ s₃ => wpAny (model prog w) A (execs body env) (EndT h₀ env.locals s I it (fun m' n' => (∀ y, stored.contains y = false → m' y = m₀ y) ∧ R (i + 1) n') Q) E s₃) E { s with heap := h₁, toks := tk₁ })
    (done : ∀ h' tk (u : Str → Option Value) news', Fr h₀ env.locals h' (fun y => if stored.contains y then u y else m₀ y) → News h₀ env.locals h' news' → R items.length news' → Q .next { s with heap := h', toks := tk }) :
    wpAny (model prog w) A (pyIter (.ref l)) (fun it s₂ => TurnsAt prog w A h₀ env target body Q E it s₂) E s :=
  iter_items hh F N hl (fun i m' n' => (∀ y, stored.contains y = false → m' y = m₀ y) ∧ R i n') ⟨fun _ _ => rfl, h0⟩
    (fun i v m₁ news₁ I it h₁ tk₁ hx hJ c1 off F₁ N₁ => step i v m₁ news₁ I it h₁ tk₁ hx hJ.2 c1 off (frMst F₁ hJ.1) N₁)
    (fun h' tk m' news' F' N' hJ => done h' tk m' news' (frMst F' hJ.1) N' hJ.2)
end
end Mine
end
section
open PySem PySem.W PySem.Spec PySem.Calls PyProof.Rows
set_option Elab.async false
set_option maxRecDepth 100000
namespace Mine
local macro_rules | `(tactic| walk_at "execs cons") => `(tactic| (k_here; (with_reducible show wpAny _ _ _ _ _ (Shared.mk _ _ _ (_ + 1) _)); refine gen_toks ?_; intro tk))
local macro_rules | `(tactic| walk_at "execs nil") => `(tactic| (k_here; (with_reducible show wpAny _ _ _ _ _ (Shared.mk _ _ _ (_ + 1) _)); refine gen_toks ?_; intro tk))
local macro_rules | `(tactic| k_room) => `(tactic| ktr_room)
local macro_rules | `(tactic| k_units) => `(tactic| ktr_units)
variable {w : World} {loose : List Str} {mean : ExcName → Option Value} {mg mb : Str → Option Value} {dp un : Nat} {gd : Option (List Code)} {env : Env} {outer : List Env} {A₀ : Around} {base h₀ : Heap} {L : Addr} {m : Str → Option Value} {s : Shared} {Q E : Value → Shared → Prop}
theorem two_lo (x y : Int) : -((4 : Nat) : Int) ≤ x.fmod 2 + 2 * y.fmod 2 := by
  have := Int.fmod_eq_emod_of_nonneg x (b := 2) (by decide); have := Int.fmod_eq_emod_of_nonneg y (b := 2) (by decide); omega
theorem two_hi (x y : Int) : x.fmod 2 + 2 * y.fmod 2 < ((4 : Nat) : Int) := by
  have := Int.fmod_eq_emod_of_nonneg x (b := 2) (by decide); have := Int.fmod_eq_emod_of_nonneg y (b := 2) (by decide); omega
local macro_rules | `(tactic| kxi_fact) => `(tactic| first | exact two_lo _ _ | exact two_hi _ _)
/-- the row of a mode, as the law's writer tells it -/
def rowPart (tab : Str) (n a b : Int) : Str := Txt.item (Str.ofString "-r") (((n.fdiv a).fmod 8).fdiv 4) ++ Txt.item (Str.ofString "-w") ((((n.fdiv a).fmod 8).fdiv 2).fmod 2)
def rowStr (n : Int) : Str :=
  Txt.item (Str.ofString "?pc?d?b?-?l?s???") (n.fdiv 4096) ++
   (Txt.item (Str.ofString "-r") (((n.fdiv 64).fmod 8).fdiv 4) ++ Txt.item (Str.ofString "-w") ((((n.fdiv 64).fmod 8).fdiv 2).fmod 2)) ++
   Txt.item (Str.ofString "-xSs") (((n.fdiv 64).fmod 8).fmod 2 + 2 * ((n.fdiv 512).fdiv 4).fmod 2) ++
   (Txt.item (Str.ofString "-r") (((n.fdiv 8).fmod 8).fdiv 4) ++ Txt.item (Str.ofString "-w") ((((n.fdiv 8).fmod 8).fdiv 2).fmod 2)) ++
   Txt.item (Str.ofString "-xSs") (((n.fdiv 8).fmod 8).fmod 2 + 2 * ((n.fdiv 512).fdiv 2).fmod 2) ++
   (Txt.item (Str.ofString "-r") (((n.fdiv 1).fmod 8).fdiv 4) ++ Txt.item (Str.ofString "-w") ((((n.fdiv 1).fmod 8).fdiv 2).fmod 2)) ++
   Txt.item (Str.ofString "-xTt") (((n.fdiv 1).fmod 8).fmod 2 + 2 * ((n.fdiv 512).fdiv 1).fmod 2)
set_option maxHeartbeats 8000000 in
theorem row_call (n : Int) (tk : Tok) (B : Below A₀ base outer h₀) (F : Fr h₀ L s.heap m) (X : (Mine.hd.heap_1 w.params).In h₀) (T : Top topProg loose mean mg mb h₀) (hf : env.frame = some L) (hke : env.scope.kind = .function)
    (h0 : 0 ≤ n) (h1 : n < 65536) (hdp : dp + 1 < recursionLimit) (hun : un + 8 < cLine)
    (hret : ∀ t h' tk', (∀ b o, s.heap.get? b = some o → h'.get? b = some o) → Q (.str (rowStr n) t) { s with heap := h', toks := tk' }) :
    wpAny (model PySem.Challenge.rw_ik0031_01.row.prog w) { handled := none, depth := dp, frames := some (env :: outer), guards := gd, units := un } (PySem.call (.ref 170) [.int n tk]) Q E s := by
  w_top off
  revert X; k_fill; intro X
  refine enter_def B F X News.nil T rfl hf hke (by k_is) (by k_is) (by ktr_room) (BindsTo.of_eq rfl) (locs rfl) ?_ (by decide) rfl rfl rfl
  intro L' h' F' N' B' X' T' _
  simp only [hidG, List.map_nil, hideAll] at F' N' B' X' T' ⊢
  clear B F X T hf
  (try dsimp only)
  (try k_fold)
  k_steps
  refine (?_ : EndC s.heap Q (.str (rowStr n) _) _)
  (with_reducible rename Fr _ _ _ _ => FF)
  (with_reducible rename News _ _ _ _ => NN)
  exact ⟨_, _, _, FF, NN, hret _ _ _ FF.keep⟩
end Mine
end
section
open PySem PySem.W PySem.Spec PySem.Calls PyProof.Rows
set_option Elab.async false
set_option linter.unusedVariables false
set_option maxRecDepth 100000
namespace Mine
local macro_rules | `(tactic| walk_at "execs cons") => `(tactic| (k_here; (with_reducible show wpAny _ _ _ _ _ (Shared.mk _ _ _ (_ + 1) _)); refine gen_toks ?_; intro tk))
local macro_rules | `(tactic| walk_at "execs nil") => `(tactic| (k_here; (with_reducible show wpAny _ _ _ _ _ (Shared.mk _ _ _ (_ + 1) _)); refine gen_toks ?_; intro tk))
local macro_rules | `(tactic| k_room) => `(tactic| ktr_room)
local macro_rules | `(tactic| k_units) => `(tactic| ktr_units)
variable {w : World} {loose : List Str} {mean : ExcName → Option Value} {mg mb : Str → Option Value} {dp un : Nat} {gd : Option (List Code)} {env : Env} {outer : List Env} {A₀ : Around} {base h₀ : Heap} {L : Addr} {m : Str → Option Value} {s : Shared} {Q E : Value → Shared → Prop}
local macro_rules | `(tactic| walk_at "exec For Tuple Call cons nil") => `(tactic| (k_here; (with_reducible rename Fr _ _ _ _ => lF'); (with_unfolding_all refine' For_turns lF' ?_; k_whole)))
local macro_rules | `(tactic| walk_at "exec For Tuple Name cons cons") => `(tactic| (k_here; refine wpAny_For ?_ (by intro _; rfl)))
/-- a table's entry and a table, as they lie in the written part -/
def EntAt (g : Heap) (v : Value) (e : Int × Str) : Prop := ∃ T tb tc, v = .ref T ∧ g.IsTuple T #[.int e.1 tb, .str e.2 tc]
def TabAt (g : Heap) (v : Value) (es : List (Int × Str)) : Prop := ∃ (T : Addr) (vs : List Value), v = .ref T ∧ g.IsTuple T (List.toArray vs) ∧ vs.length = es.length ∧ ∀ (j : Nat) (v' : Value), vs[j]? = some v' → ∃ e, es[j]? = some e ∧ EntAt g v' e
def tabs : List (List (Int × Str)) :=
  [[(40960, Str.ofString "l"), (49152, Str.ofString "s"), (32768, Str.ofString "-"), (24576, Str.ofString "b"), (16384, Str.ofString "d"), (8192, Str.ofString "c"), (4096, Str.ofString "p")],
   [(256, Str.ofString "r")], [(128, Str.ofString "w")], [(2112, Str.ofString "s"), (2048, Str.ofString "S"), (64, Str.ofString "x")],
   [(32, Str.ofString "r")], [(16, Str.ofString "w")], [(1032, Str.ofString "s"), (1024, Str.ofString "S"), (8, Str.ofString "x")],
   [(4, Str.ofString "r")], [(2, Str.ofString "w")], [(513, Str.ofString "t"), (512, Str.ofString "T"), (1, Str.ofString "x")]]
def tabVals : List Value := [.ref 114, .ref 116, .ref 118, .ref 122, .ref 124, .ref 126, .ref 130, .ref 132, .ref 134, .ref 138]
theorem ent1 {P : Params} {g : Heap} (X : (Mine.hd.heap_1 P).In g) {T : Addr} {b : Int} {tb tc : Tok} {c : Str} (e : (Mine.hd.heap_1 P).lookup T = some ⟨.type "tuple", none, .seq #[.int b tb, .str c tc] 0, #[]⟩) : EntAt g (.ref T) (b, c) :=
  ⟨T, tb, tc, rfl, _, X _ _ e, rfl, 0, rfl⟩
theorem tab1 {P : Params} {g : Heap} (X : (Mine.hd.heap_1 P).In g) {T : Addr} {v : Value} {e : Int × Str} (h : (Mine.hd.heap_1 P).lookup T = some ⟨.type "tuple", none, .seq #[v] 0, #[]⟩) (a : EntAt g v e) : TabAt g (.ref T) [e] :=
  ⟨T, [v], rfl, ⟨_, X _ _ h, rfl, 0, rfl⟩, rfl, fun j v' hj => by
    match j, hj with
    | 0, hj => cases hj; exact ⟨_, rfl, a⟩⟩
theorem tab3 {P : Params} {g : Heap} (X : (Mine.hd.heap_1 P).In g) {T : Addr} {v₁ v₂ v₃ : Value} {e₁ e₂ e₃ : Int × Str} (h : (Mine.hd.heap_1 P).lookup T = some ⟨.type "tuple", none, .seq #[v₁, v₂, v₃] 0, #[]⟩) (a₁ : EntAt g v₁ e₁) (a₂ : EntAt g v₂ e₂) (a₃ : EntAt g v₃ e₃) : TabAt g (.ref T) [e₁, e₂, e₃] :=
  ⟨T, [v₁, v₂, v₃], rfl, ⟨_, X _ _ h, rfl, 0, rfl⟩, rfl, fun j v' hj => by
    match j, hj with
    | 0, hj => cases hj; exact ⟨_, rfl, a₁⟩
    | 1, hj => cases hj; exact ⟨_, rfl, a₂⟩
    | 2, hj => cases hj; exact ⟨_, rfl, a₃⟩⟩
theorem tab7 {P : Params} {g : Heap} (X : (Mine.hd.heap_1 P).In g) {T : Addr} {v₁ v₂ v₃ v₄ v₅ v₆ v₇ : Value} {e₁ e₂ e₃ e₄ e₅ e₆ e₇ : Int × Str} (h : (Mine.hd.heap_1 P).lookup T = some ⟨.type "tuple", none, .seq #[v₁, v₂, v₃, v₄, v₅, v₆, v₇] 0, #[]⟩) (a₁ : EntAt g v₁ e₁) (a₂ : EntAt g v₂ e₂) (a₃ : EntAt g v₃ e₃) (a₄ : EntAt g v₄ e₄) (a₅ : EntAt g v₅ e₅) (a₆ : EntAt g v₆ e₆) (a₇ : EntAt g v₇ e₇) : TabAt g (.ref T) [e₁, e₂, e₃, e₄, e₅, e₆, e₇] :=
  ⟨T, [v₁, v₂, v₃, v₄, v₅, v₆, v₇], rfl, ⟨_, X _ _ h, rfl, 0, rfl⟩, rfl, fun j v' hj => by
    match j, hj with
    | 0, hj => cases hj; exact ⟨_, rfl, a₁⟩
    | 1, hj => cases hj; exact ⟨_, rfl, a₂⟩
    | 2, hj => cases hj; exact ⟨_, rfl, a₃⟩
    | 3, hj => cases hj; exact ⟨_, rfl, a₄⟩
    | 4, hj => cases hj; exact ⟨_, rfl, a₅⟩
    | 5, hj => cases hj; exact ⟨_, rfl, a₆⟩
    | 6, hj => cases hj; exact ⟨_, rfl, a₇⟩⟩
theorem tabs_at {P : Params} {g : Heap} (X : (Mine.hd.heap_1 P).In g) (i : Nat) (v : Value) (hv : tabVals[i]? = some v) : ∃ es, tabs[i]? = some es ∧ TabAt g v es := by
  match i, hv with
  | 0, hv => cases hv; exact ⟨_, rfl, tab7 X rfl (ent1 X rfl) (ent1 X rfl) (ent1 X rfl) (ent1 X rfl) (ent1 X rfl) (ent1 X rfl) (ent1 X rfl)⟩
  | 1, hv => cases hv; exact ⟨_, rfl, tab1 X rfl (ent1 X rfl)⟩
  | 2, hv => cases hv; exact ⟨_, rfl, tab1 X rfl (ent1 X rfl)⟩
  | 3, hv => cases hv; exact ⟨_, rfl, tab3 X rfl (ent1 X rfl) (ent1 X rfl) (ent1 X rfl)⟩
  | 4, hv => cases hv; exact ⟨_, rfl, tab1 X rfl (ent1 X rfl)⟩
  | 5, hv => cases hv; exact ⟨_, rfl, tab1 X rfl (ent1 X rfl)⟩
  | 6, hv => cases hv; exact ⟨_, rfl, tab3 X rfl (ent1 X rfl) (ent1 X rfl) (ent1 X rfl)⟩
  | 7, hv => cases hv; exact ⟨_, rfl, tab1 X rfl (ent1 X rfl)⟩
  | 8, hv => cases hv; exact ⟨_, rfl, tab1 X rfl (ent1 X rfl)⟩
  | 9, hv => cases hv; exact ⟨_, rfl, tab3 X rfl (ent1 X rfl) (ent1 X rfl) (ent1 X rfl)⟩
theorem table_at' {P : Params} {g : Heap} (X : (Mine.hd.heap_1 P).In g) : g.IsTuple 139 tabVals.toArray := ⟨_, X _ _ rfl, rfl, 0, rfl⟩

def pick (t : Int → Bool) (d : Str) : List (Int × Str) → Str
  | [] => d
  | e :: r => if t e.1 then e.2 else pick t d r
theorem pick_at {t : Int → Bool} {d : Str} : ∀ {es : List (Int × Str)} {j : Nat} {e : Int × Str}, (∀ a, a < j → ∀ e : Int × Str, es[a]? = some e → t e.1 = false) → es[j]? = some e → t e.1 = true → pick t d es = e.2
  | [], _, _, _, h, _ => by simp at h
  | x :: r, 0, e, _, h, ht => by
    have : x = e := by simpa using h
    subst this
    simp [pick, ht]
  | x :: r, j + 1, e, hf, h, ht => by
    have hx : t x.1 = false := hf 0 (Nat.succ_pos _) x rfl
    have h' : r[j]? = some e := by simpa using h
    have ih := pick_at (d := d) (es := r) (fun a ha e he => hf (a + 1) (Nat.succ_lt_succ ha) e (by simpa using he)) h' ht
    simp [pick, hx, ih]
theorem pick_none {t : Int → Bool} {d : Str} : ∀ {es : List (Int × Str)}, (∀ a, a < es.length → ∀ e : Int × Str, es[a]? = some e → t e.1 = false) → pick t d es = d
  | [], _ => rfl
  | x :: r, hf => by
    have hx : t x.1 = false := hf 0 (Nat.succ_pos _) x rfl
    have ih := pick_none (d := d) (es := r) fun a ha e he => hf (a + 1) (Nat.succ_lt_succ ha) e (by simpa using he)
    simp [pick, hx, ih]
def tst (n : Int) (i : Nat) (b : Int) : Bool := if i = 0 then decide (Builtin.bitAnd n 61440 = b) else decide (Builtin.bitAnd n b = b)
def dflt (i : Nat) : Str := if i = 0 then Str.ofString "?" else Str.ofString "-"
def cell (n : Int) (i : Nat) (es : List (Int × Str)) : Str := pick (tst n i) (dflt i) es
def cells (n : Int) (i : Nat) : List Str := (tabs.zipIdx.take i).map fun p => cell n p.2 p.1
theorem cells_succ {n : Int} {i : Nat} {es : List (Int × Str)} (h : tabs[i]? = some es) : cells n (i + 1) = cells n i ++ [cell n i es] := by
  have hz : tabs.zipIdx[i]? = some (es, i) := by
    rw [List.getElem?_zipIdx, h]; simp
  unfold cells
  rw [List.take_add_one, hz]
  simp
theorem strs_push {n : Int} {i : Nat} {es : List (Int × Str)} {vs : List Value} {x : Str} {t : Tok} (hv : StrsAre vs (cells n i)) (h : tabs[i]? = some es) (e : cell n i es = x) : StrsAre (vs ++ [.str x t]) (cells n (i + 1)) := by
  rw [cells_succ h, e]
  exact hv.append' (.cons _ _ .nil)
theorem R_push {n : Int} {i k : Nat} {lp : Addr} {es : List (Int × Str)} {vs : List Value} {x : Str} {t : Tok} (hvl : vs.length = i) (hv : StrsAre vs (cells n i)) (h : tabs[i]? = some es) (e : cell n i es = x) :
    ∃ (vs' : List Value) (k' : Nat), [(lp, listOf (vs.toArray.push (.str x t)) (k + 1))] = [(lp, listOf vs'.toArray k')] ∧ vs'.length = i + 1 ∧ StrsAre vs' (cells n (i + 1)) :=
  ⟨vs ++ [.str x t], k + 1, by simp, by simp [hvl], strs_push hv h e⟩
theorem pick_len {t : Int → Bool} {d : Str} (hd : d.length = 1) : ∀ {es : List (Int × Str)}, (∀ e ∈ es, e.2.length = 1) → (pick t d es).length = 1
  | [], _ => hd
  | x :: r, h => by
    unfold pick
    split
    · exact h x (.head _)
    · exact pick_len hd fun e he => h e (.tail _ he)
theorem tabs_len : ∀ p ∈ tabs.zipIdx, ∀ e ∈ p.1, e.2.length = 1 := by decide +kernel
theorem cells_len {n : Int} {i : Nat} : ∀ x ∈ cells n i, x.length = 1 := by
  intro x hx
  unfold cells at hx
  obtain ⟨p, hp, rfl⟩ := List.mem_map.mp hx
  refine pick_len ?_ (tabs_len p (List.mem_of_mem_take hp))
  unfold dflt
  split <;> decide
theorem sum_ones : ∀ (l : List Str), (∀ x ∈ l, x.length = 1) → (l.map (·.length)).sum = l.length
  | [], _ => rfl
  | x :: r, h => by
    rw [List.map_cons, List.sum_cons, h x (.head _), sum_ones r fun y hy => h y (.tail _ hy), List.length_cons]; omega
theorem cells_w {n : Int} {i : Nat} : ((cells n i).map (·.length)).sum + (cells n i).length ≤ 1048576 := by
  rw [sum_ones _ cells_len]
  have : (cells n i).length ≤ 10 := by
    unfold cells
    rw [List.length_map, List.length_take]
    exact Nat.le_trans (Nat.min_le_right _ _) (by decide)
  omega
theorem fold_step {n : Int} {i j : Nat} {es : List (Int × Str)} {e : Int × Str} (hR : ∀ a, a < j → ∀ e : Int × Str, es[a]? = some e → tst n i e.1 = false) (he : es[j]? = some e) (ht : tst n i e.1 = false) : ∀ a, a < j + 1 → ∀ e : Int × Str, es[a]? = some e → tst n i e.1 = false := by
  intro a ha e' he'
  rcases Nat.lt_succ_iff_lt_or_eq.mp ha with h | h
  · exact hR a h e' he'
  · subst h
    rw [he] at he'
    cases he'
    exact ht
abbrev mStored : List Str := [Str.ofString "index", Str.ofString "table", Str.ofString "bit", Str.ofString "char"]
def modeStr (n : Int) : Str := Txt.join (Str.ofString "") (cells n 10)
set_option maxHeartbeats 8000000 in
theorem mode_call (n : Int) (tk : Tok) (B : Below A₀ base outer h₀) (F : Fr h₀ L s.heap m) (X : (Mine.hd.heap_1 w.params).In h₀) (T : Top topProg loose mean mg mb h₀) (hf : env.frame = some L) (hke : env.scope.kind = .function)
    (h0 : 0 ≤ n) (h1 : n < 65536) (hdp : dp + 2 < recursionLimit) (hun : un + 16 < cLine)
    (hret : ∀ t h' tk', (∀ b o, s.heap.get? b = some o → h'.get? b = some o) → Q (.str (modeStr n) t) { s with heap := h', toks := tk' }) :
    wpAny (model PySem.Challenge.rw_ik0031_01.row.prog w) { handled := none, depth := dp, frames := some (env :: outer), guards := gd, units := un } (PySem.call (.ref 146) [.int n tk]) Q E s := by
  w_top off
  refine wpAny_noRaise ?_
  revert X; k_fill; intro X
  refine enter_def B F X News.nil T rfl hf hke (by k_is) (by k_is) (by ktr_room) (BindsTo.of_eq rfl) (locs rfl) ?_ (by decide) rfl rfl rfl
  intro L' h' F' N' B' X' T' _
  simp only [hidG, List.map_nil, hideAll] at F' N' B' X' T' ⊢
  clear B F X T hf
  refine wpAny_noRaise ?_
  (try dsimp only)
  (try k_fold)
  k_steps
  (with_reducible rename Fr _ _ _ _ => FF)
  (with_reducible rename News _ _ _ _ => NN)

  refine enum_tupS mStored rfl FF NN (table_at' X') (fun i n' => ∃ (vs : List Value) (k : Nat), n' = [(_, listOf vs.toArray k)] ∧ vs.length = i ∧ StrsAre vs (cells n i)) ⟨[], 0, rfl, rfl, .nil⟩ ?_ ?_
  · rintro i x t T u news₁ I I' it jt h₁ tk₁ hx ⟨vs, k, rfl, hvl, hvs⟩ c1 c2 ne off hT F₁ N₁
    obtain ⟨es, hes, Ti, evs, rfl, hTi, hlen, hent⟩ := tabs_at X' i x hx
    clear FF NN
    have offl := off _ (List.mem_singleton.mpr rfl)
    clear off
    have hi10 : i < 10 := by have := (List.getElem?_eq_some_iff.mp hx).1; simpa [tabVals] using this
    have hsz : vs.toArray.size < 10 := by simp; omega
    dsimp only at offl
    obtain ⟨o1, o2⟩ := offl
    replace o1 : @Ne Nat _ _ := o1
    replace o2 : @Ne Nat _ _ := o2
    replace ne : @Ne Nat _ _ := ne
    k_steps
    (with_reducible rename Fr _ _ _ _ => FF)
    (with_reducible rename News _ _ _ _ => NN)
    refine iter_tupS [Str.ofString "bit", Str.ofString "char"] rfl PassesOwn.never FF NN hTi (fun j n' => n' = _ ∧ (∀ a, a < j → ∀ e : Int × Str, es[a]? = some e → tst n i e.1 = false)) ⟨rfl, fun _ h => absurd h (Nat.not_lt_zero _)⟩ ?_ ?_
    · rintro j v u2 news₂ I2 it2 h₂ tk₂ hv ⟨rfl, hR⟩ c3 off2 lt2 F₂ N₂
      obtain ⟨e, he, T2, tb, tc, rfl, hT2⟩ := hent j v hv
      have hT2' : IsTup h₂ T2 #[.int e.1 tb, .str e.2 tc] := Heap.IsTuple.at' hT2 fun o x => F₂.keep _ o x
      clear FF NN
      have o3 : @Ne Nat _ _ := off2 _ (.head _)
      have o4 : @Ne Nat _ _ := off2 _ (.tail _ (.head _))
      have o5 : @Ne Nat _ _ := off2 _ (.tail _ (.tail _ (.head _)))
      dsimp only at o3 o4 o5
      by_cases hi : i = 0
      · subst hi
        k_steps
        · dsimp only [EndT]
          k_steps
          (with_reducible rename Fr _ _ _ _ => FF)
          (with_reducible rename News _ _ _ _ => NN)
          refine EndE.next FF NN [(_, listOf (vs.toArray.push (.str e.2 tc)) (k + 1))] (fun p hp => .tail _ hp) (fun p hp => by rw [List.mem_singleton.mp hp]; exact ⟨o1, o2⟩) ⟨?_, R_push hvl hvs hes (pick_at hR he (by simp [tst]; assumption))⟩
          intro y hy
          have h1 : y ≠ Str.ofString "bit" := fun e => by rw [e] at hy; exact absurd hy (by decide)
          have h2 : y ≠ Str.ofString "char" := fun e => by rw [e] at hy; exact absurd hy (by decide)
          have h3 : y ≠ Str.ofString "index" := fun e => by rw [e] at hy; exact absurd hy (by decide)
          have h4 : y ≠ Str.ofString "table" := fun e => by rw [e] at hy; exact absurd hy (by decide)
          have h5 : ([Str.ofString "bit", Str.ofString "char"] : List Str).contains y = false := by simp [h1, h2]
          simp only [if_neg h1, if_neg h2, if_neg h3, if_neg h4, h5, hy, Bool.false_eq_true, if_false]
          (try rfl)
        · (with_reducible rename Fr _ _ _ _ => FF)
          (with_reducible rename News _ _ _ _ => NN)
          refine EndT.next FF NN [(I, it), (I', jt), (_, listOf vs.toArray k)] (fun p hp => hp) off2 ⟨?_, rfl, fold_step hR he (by simp [tst]; assumption)⟩
          intro y hy
          have h1 : y ≠ Str.ofString "bit" := fun e => by rw [e] at hy; exact absurd hy (by decide)
          have h2 : y ≠ Str.ofString "char" := fun e => by rw [e] at hy; exact absurd hy (by decide)
          simp only [if_neg h1, if_neg h2, hy, Bool.false_eq_true, if_false]
          (try rfl)
      · have hi' : (i : Int) ≠ 0 := by omega
        k_steps
        any_goals (exfalso; omega)
        · dsimp only [EndT]
          k_steps
          (with_reducible rename Fr _ _ _ _ => FF)
          (with_reducible rename News _ _ _ _ => NN)
          refine EndE.next FF NN [(_, listOf (vs.toArray.push (.str e.2 tc)) (k + 1))] (fun p hp => .tail _ hp) (fun p hp => by rw [List.mem_singleton.mp hp]; exact ⟨o1, o2⟩) ⟨?_, R_push hvl hvs hes (pick_at hR he (by simp [tst, hi]; assumption))⟩
          intro y hy
          have h1 : y ≠ Str.ofString "bit" := fun e => by rw [e] at hy; exact absurd hy (by decide)
          have h2 : y ≠ Str.ofString "char" := fun e => by rw [e] at hy; exact absurd hy (by decide)
          have h3 : y ≠ Str.ofString "index" := fun e => by rw [e] at hy; exact absurd hy (by decide)
          have h4 : y ≠ Str.ofString "table" := fun e => by rw [e] at hy; exact absurd hy (by decide)
          have h5 : ([Str.ofString "bit", Str.ofString "char"] : List Str).contains y = false := by simp [h1, h2]
          simp only [if_neg h1, if_neg h2, if_neg h3, if_neg h4, h5, hy, Bool.false_eq_true, if_false]
          (try rfl)
        · (with_reducible rename Fr _ _ _ _ => FF)
          (with_reducible rename News _ _ _ _ => NN)
          refine EndT.next FF NN [(I, it), (I', jt), (_, listOf vs.toArray k)] (fun p hp => hp) off2 ⟨?_, rfl, fold_step hR he (by simp [tst, hi]; assumption)⟩
          intro y hy
          have h1 : y ≠ Str.ofString "bit" := fun e => by rw [e] at hy; exact absurd hy (by decide)
          have h2 : y ≠ Str.ofString "char" := fun e => by rw [e] at hy; exact absurd hy (by decide)
          simp only [if_neg h1, if_neg h2, hy, Bool.false_eq_true, if_false]
          (try rfl)
    · rintro h₂ tk₂ u2 news₂ F₂ N₂ ⟨rfl, hR⟩
      clear FF NN
      rw [hlen] at hR
      by_cases hi : i = 0
      · subst hi
        k_steps
        (with_reducible rename Fr _ _ _ _ => FF)
        (with_reducible rename News _ _ _ _ => NN)
        refine EndE.next FF NN [(_, listOf (vs.toArray.push (.str (Str.ofString "?") _)) (k + 1))] (fun p hp => hp) (fun p hp => by rw [List.mem_singleton.mp hp]; exact ⟨o1, o2⟩) ⟨?_, R_push hvl hvs hes ((pick_none hR).trans (by simp [dflt]))⟩
        intro y hy
        have h1 : y ≠ Str.ofString "bit" := fun e => by rw [e] at hy; exact absurd hy (by decide)
        have h2 : y ≠ Str.ofString "char" := fun e => by rw [e] at hy; exact absurd hy (by decide)
        have h3 : y ≠ Str.ofString "index" := fun e => by rw [e] at hy; exact absurd hy (by decide)
        have h4 : y ≠ Str.ofString "table" := fun e => by rw [e] at hy; exact absurd hy (by decide)
        have h5 : ([Str.ofString "bit", Str.ofString "char"] : List Str).contains y = false := by simp [h1, h2]
        simp only [if_neg h1, if_neg h2, if_neg h3, if_neg h4, h5, hy, Bool.false_eq_true, if_false]
        (try rfl)
      · have hi' : (i : Int) ≠ 0 := by omega
        k_steps
        · exact absurd (by assumption) hi'
        · (with_reducible rename Fr _ _ _ _ => FF)
          (with_reducible rename News _ _ _ _ => NN)
          refine EndE.next FF NN [(_, listOf (vs.toArray.push (.str (Str.ofString "-") _)) (k + 1))] (fun p hp => hp) (fun p hp => by rw [List.mem_singleton.mp hp]; exact ⟨o1, o2⟩) ⟨?_, R_push hvl hvs hes ((pick_none hR).trans (by simp [dflt, hi]))⟩
          intro y hy
          have h1 : y ≠ Str.ofString "bit" := fun e => by rw [e] at hy; exact absurd hy (by decide)
          have h2 : y ≠ Str.ofString "char" := fun e => by rw [e] at hy; exact absurd hy (by decide)
          have h3 : y ≠ Str.ofString "index" := fun e => by rw [e] at hy; exact absurd hy (by decide)
          have h4 : y ≠ Str.ofString "table" := fun e => by rw [e] at hy; exact absurd hy (by decide)
          have h5 : ([Str.ofString "bit", Str.ofString "char"] : List Str).contains y = false := by simp [h1, h2]
          simp only [if_neg h1, if_neg h2, if_neg h3, if_neg h4, h5, hy, Bool.false_eq_true, if_false]
          (try rfl)
  · rintro h₂ tk₂ u2 news₂ F₂ N₂ ⟨vs, k, rfl, hvl, hvs⟩
    clear FF NN
    k_steps
    (with_reducible rename Fr _ _ _ _ => FF)
    (with_reducible rename News _ _ _ _ => NN)
    refine join_listW ⟨_, (NN _ (.head _)).1, rfl, k, rfl⟩ (by simpa using hvs) (by decide) cells_w fun t' k' => ?_
    exact (⟨_, _, _, FF, NN, hret _ _ _ FF.keep⟩ : EndC s.heap Q (.str (modeStr n) t') _)
end Mine
end
section
open PySem PySem.W PySem.W.X PySem.Spec PySem.Calls PyProof.Rows
set_option Elab.async false
set_option maxRecDepth 100000
namespace Mine
abbrev roomA : Around := { handled := none, depth := 500, frames := none, guards := none, units := 3000 }
theorem room {α : Type} {M : Model} {A : Around} {t : Sem α} {Q : α → Shared → Prop} {E : Value → Shared → Prop} {s : Shared} (hh : A.handled = none) (hd : A.depth ≤ 500) (hu : A.units ≤ 3000) (h : wpAny M roomA t Q E s) : wpAny M A t Q E s :=
  fun Γ p hΓ => h Γ p ⟨hΓ.1.trans hh, Nat.le_trans hΓ.2.1 hd, (fun _ e => nomatch e), (fun _ e => nomatch e), Nat.le_trans hΓ.2.2.2.2 hu⟩
theorem memKeep {h₀ h : Heap} {news : List (Addr × Obj)} (D : Mem h₀ h [] news) : ∀ b o, h₀.get? b = some o → h.get? b = some o := fun b o e => D.keep b o e (by rw [show away [] b = true from rfl, Bool.or_true])
theorem memNew {h₀ h : Heap} {chg news : List (Addr × Obj)} {a : Addr} {o : Obj} (D : Mem h₀ h chg news) (i : Nat) (hi : news[i]? = some (a, o)) : h₀.get? a = none := (D.nw _ (List.mem_of_getElem? hi)).2
/-- what an evaluation that makes one object and hands it back gives -/
def Done1 (s : Shared) (o : Obj) (Q : Value → Shared → Prop) : Prop := ∀ (x : Addr) (h' : Heap) (tk' : Nat), (∀ b o, s.heap.get? b = some o → h'.get? b = some o) → h'.get? x = some o → s.heap.get? x = none → Q (.ref x) ⟨h', s.gens, s.drawn, tk', s.os⟩
local macro_rules | `(tactic| x_close) => `(tactic| (rename Done1 _ _ _ => hq9; refine hq9 _ _ _ (memKeep (by assumption)) (Mem.at (by assumption) 0 _ _ rfl) (memNew (by assumption) 0 rfl)))
def bw (id : String) (l : Addr) : Obj := { cls := .type "method-wrapper", data := .fields #[.builtin id, .ref l] }
def bm (id : String) (l : Addr) : Obj := { cls := .type "builtin_function_or_method", data := .fields #[.builtin id, .ref l] }
theorem ga_append (prog : Program) (w : World) (s : Shared) (l : Addr) (its : Array Value) (n : Nat) (u : Tok) (hl : s.heap.get? l = some ⟨.type "list", none, .seq its n, #[]⟩) (Q : Value → Shared → Prop) (E : Value → Shared → Prop) (hQ : Done1 s (bm "list.append" l) Q) :
   wpAny (model prog w) roomA (PySem.call (.builtin "list.__getattribute__") [.ref l, .str (Str.ofString "append") u]) Q E s := by
  x_run
theorem ga_contains (prog : Program) (w : World) (s : Shared) (l : Addr) (its : Array Value) (n : Nat) (u : Tok) (hl : s.heap.get? l = some ⟨.type "list", none, .seq its n, #[]⟩) (Q : Value → Shared → Prop) (E : Value → Shared → Prop) (hQ : Done1 s (bw "list.__contains__" l) Q) :
   wpAny (model prog w) roomA (PySem.call (.builtin "list.__getattribute__") [.ref l, .str (Str.ofString "__contains__") u]) Q E s := by
  x_run
def litr (l : Addr) (i : Nat) : Obj := { cls := .type "list_iterator", data := .fields #[.ref l, .int (i : Int) 0] }
theorem iter_list (prog : Program) (w : World) (s : Shared) (l : Addr) (its : Array Value) (n : Nat) (hl : s.heap.get? l = some ⟨.type "list", none, .seq its n, #[]⟩) (Q : Value → Shared → Prop) (E : Value → Shared → Prop) (hQ : Done1 s (litr l 0) Q) :
   wpAny (model prog w) roomA (PySem.call (.builtin "iter") [.ref l]) Q E s := by
  x_run
theorem getAttr_list {prog : Program} {w : World} {A : Around} {E : Value → Shared → Prop} {s : Shared} {a : Addr} {name : Str} {Q : Value → Shared → Prop} (hT : ∀ tk', (⟨s.heap, s.gens, s.drawn, tk', s.os⟩ : Shared).TypeIs (.ref a) "list")
   (h : wpAny (model prog w) A (PySem.call (.builtin "list.__getattribute__") [.ref a, .str name s.toks]) (fun v s' => wpAny (model prog w) A (handedOut v) Q E s') (fun _ _ => False) { s with toks := s.toks + 1 }) (x : Bool) :
   wpAny (model prog w) A (getAttr (.ref a) name x) Q E s := by
  have f3 := F.slot_list_getattribute.lookup
  have f4 := F.slot_list_getattribute.bind (.ref a)
  unfold getAttr
  refine wpAny_bind (wpAny_mkText ?_)
  unfold getAttrBy
  refine wpAny_holding (wpAny_bind (wpAny_typeOf (hT _) ?_))
  refine wpAny_bind (wpAny_of_eq f3 ?_)
  show wpAny _ A (getAttrByItsOwn _ _ _ _ _ _) Q E _
  unfold getAttrByItsOwn
  refine wpAny_bind (wpAny_of_eq (a := none) rfl ?_)
  refine wpAny_bind (wpAny_attempt (wpAny_holding ?_))
  unfold callGetattribute boundAndCalled
  rw [show (x && onTheHeap (.builtin "list.__getattribute__")) = false from by cases x <;> rfl]
  show wpAny _ A (bindSpecial (.builtin "list.__getattribute__") (.ref a) >>= _) _ _ _
  refine wpAny_bind (wpAny_of_eq f4 ?_)
  exact wpAny_mono h (fun v s' q => q) fun _ _ q => q.elim
end Mine
end
section
open PySem PySem.W PySem.Spec PySem.Calls PyProof.Rows
open Sem (wp)
set_option Elab.async false
set_option linter.unusedVariables false
set_option maxRecDepth 100000
namespace Mine

section
variable {prog : Program} {w : World} {A : Around} {E : Value → Shared → Prop} {s : Shared}

theorem special_item {it l : Addr} {i : Nat} {items : Array Value} {x : Value} {Q : Option Value → Shared → Prop} (hit : s.heap.IsListIter it l i) (hl : s.heap.IsList l items) (hx : items[i]? = some x)
    (hQ : ∀ h', h'.IsListIter it l (i + 1) → h'.get? it = (s.heap.get? it).map (Obj.mapFields (·.setIfInBounds 1 (rawInt ((i : Int) + 1)))) → Heap.SameBut it s.heap h' → Q (some x) { s with heap := h' }) :
    wpAny (model prog w) A (callSpecial? (.ref it) (Str.ofString "__next__")) Q E s := by
  obtain ⟨o, ho, hc, hd⟩ := id hit
  obtain ⟨ol, hol, _, nl, hdl⟩ := hl
  refine wpAny_callSpecial?_slot (name := Str.ofString "__next__") hit.typeIs slot_listiter_next
    (wpAny_call_entry slot_listiter_next hit.typeIs entry_listiter_next ?_ (args_listiter_next _))
  show wpAny _ _ (field (.ref it) 0 >>= _) _ _ s
  refine wpAny_bind (wpAny_field ho hd (x := .ref l) rfl ?_)
  show wpAny _ _ (if (Value.ref l == Value.none) = true then _ else _) _ _ s
  rw [if_neg (show ¬ ((Value.ref l == Value.none) = true) from Bool.false_ne_true)]
  show wpAny _ _ (field (.ref it) 1 >>= _) _ _ s
  refine wpAny_bind (wpAny_field ho hd (x := .int i 0) rfl ?_)
  show wpAny _ _ (seqItems? (.ref l) >>= _) _ _ s
  refine wpAny_bind (wpAny_seqItems hol hdl ?_)
  simp only [Int.toNat_natCast, hx]
  refine wpAny_bind (wpAny_setField ho hd (by simp) (wpAny_pure ⟨x, rfl, hQ _ ?_ ?_ (Heap.SameBut.update ..)⟩))
  · exact ⟨_, Heap.get?_update_self _ ho (Obj.isFreed_of_fields (Obj.data_mapFields hd _)), (Obj.cls_mapFields ..).trans hc, by
      rw [Obj.data_mapFields hd]; simp [rawInt]⟩
  · rw [ho, Heap.get?_update_self _ ho (Obj.isFreed_of_fields (Obj.data_mapFields hd _))]; rfl

theorem special_end {it l : Addr} {i : Nat} {items : Array Value} {Q : Option Value → Shared → Prop} (hh : A.handled = none) (hit : s.heap.IsListIter it l i) (hl : s.heap.IsList l items) (hx : items[i]? = none)
    (hE : ∀ h₁ h' e, Heap.SameBut it s.heap h₁ → (∃ o, h₁.get? it = some o) → Heap.MadeExcOf h₁ h' e (.type "StopIteration") [] → E (.ref e) { s with heap := h' }) :
    wpAny (model prog w) A (callSpecial? (.ref it) (Str.ofString "__next__")) Q E s := by
  obtain ⟨o, ho, hc, hd⟩ := id hit
  obtain ⟨ol, hol, _, nl, hdl⟩ := hl
  refine wpAny_callSpecial?_slot (name := Str.ofString "__next__") hit.typeIs slot_listiter_next
    (wpAny_call_entry slot_listiter_next hit.typeIs entry_listiter_next ?_ (args_listiter_next _))
  show wpAny _ _ (field (.ref it) 0 >>= _) _ _ s
  refine wpAny_bind (wpAny_field ho hd (x := .ref l) rfl ?_)
  show wpAny _ _ (if (Value.ref l == Value.none) = true then _ else _) _ _ s
  rw [if_neg (show ¬ ((Value.ref l == Value.none) = true) from Bool.false_ne_true)]
  show wpAny _ _ (field (.ref it) 1 >>= _) _ _ s
  refine wpAny_bind (wpAny_field ho hd (x := .int i 0) rfl ?_)
  show wpAny _ _ (seqItems? (.ref l) >>= _) _ _ s
  refine wpAny_bind (wpAny_seqItems hol hdl ?_)
  simp only [Int.toNat_natCast, hx]
  refine wpAny_bind (wpAny_rule (wpAny_bind (wpAny_setField ho hd (by simp) ?_)))
  have hup := Heap.get?_update_self (Obj.mapFields (·.setIfInBounds 0 Value.none)) ho (Obj.isFreed_of_fields (Obj.data_mapFields hd _))
  show wpAny _ _ (newExc (.type "StopIteration") [] >>= _) _ _ _
  refine wpAny_bind ?_
  simp only [newExc, newTuple]
  refine wpAny_bind (wpAny_newObj_type ?_ (by size_fits))
  refine wpAny_bind (m := firstArgMember _ _) (wpAny_of_eq (a := Value.none) (by first | rfl | (simp only [firstArgMember]; rfl)) ?_)
  refine wpAny_newObj_type ?_ (by size_fits)
  simp only [raiseNew]
  refine wpAny_bind (wpAny_handled ?_)
  first | rw [show A.in1.handled = none from hh] | rw [hh]
  refine wpAny_bind (wpAny_pure (wpAny_throw ?_))
  refine hE _ _ _ (Heap.SameBut.update ..) ⟨_, hup⟩ ⟨fun b o e => Heap.get?_push_of_some _ (Heap.get?_push_of_some _ e), ?_, ⟨_, Heap.get?_push_size _ rfl, ?_, Heap.get?_push_of_some _ (Heap.get?_push_size _ rfl)⟩⟩
  · rw [Heap.size_push]; exact Heap.get?_none_of_le (Nat.le_succ _)
  · exact Heap.get?_none_of_le (Nat.le_refl _)

theorem next_item {it l : Addr} {i : Nat} {items : Array Value} {x : Value} {Q : Value → Shared → Prop} (hit : s.heap.IsListIter it l i) (hl : s.heap.IsList l items) (hx : items[i]? = some x)
    (hQ : ∀ h', h'.IsListIter it l (i + 1) → h'.get? it = (s.heap.get? it).map (Obj.mapFields (·.setIfInBounds 1 (rawInt ((i : Int) + 1)))) → Heap.SameBut it s.heap h' → Q x { s with heap := h' }) :
    wpAny (model prog w) A (PySem.call (.builtin "next") [.ref it]) Q E s := by
  refine call_function_entry (by decide +kernel) (by decide +kernel) kdk_entry_next (kdk_args_next _) ?_
  unfold Builtin.«next»
  refine wpAny_bind (m := someArgs "next" 1 2 _) (wpAny_of_eq (a := [Value.ref it]) (by first | rfl | kernel_rfl!) ?_)
  dsimp only
  refine wpAny_bind (wpAny_specialOf (name := Str.ofString "__next__") hit.typeIs slot_listiter_next.lookup ?_)
  refine wpAny_ite_split (fun hab => absurd hab (by decide)) (fun _ => ?_)
  exact wpAny_bind (special_item hit hl hx fun h' a b c => wpAny_pure ⟨_, rfl, hQ h' a b c⟩)

theorem next_end {it l : Addr} {i : Nat} {items : Array Value} {Q : Value → Shared → Prop} (hh : A.handled = none) (hit : s.heap.IsListIter it l i) (hl : s.heap.IsList l items) (hx : items[i]? = none)
    (hE : ∀ h₁ h' e, Heap.SameBut it s.heap h₁ → (∃ o, h₁.get? it = some o) → Heap.MadeExcOf h₁ h' e (.type "StopIteration") [] → E (.ref e) { s with heap := h' }) :
    wpAny (model prog w) A (PySem.call (.builtin "next") [.ref it]) Q E s := by
  refine call_function_entry (by decide +kernel) (by decide +kernel) kdk_entry_next (kdk_args_next _) ?_
  unfold Builtin.«next»
  refine wpAny_bind (m := someArgs "next" 1 2 _) (wpAny_of_eq (a := [Value.ref it]) (by first | rfl | kernel_rfl!) ?_)
  dsimp only
  refine wpAny_bind (wpAny_specialOf (name := Str.ofString "__next__") hit.typeIs slot_listiter_next.lookup ?_)
  refine wpAny_ite_split (fun hab => absurd hab (by decide)) (fun _ => ?_)
  exact wpAny_bind (special_end hh hit hl hx hE)

theorem eqGives_str (a b : Str) (t u : Tok) : MeetsSeq.EqGives (.str a t) (.str b u) (a == b) := fun _ _ _ _ _ _ h => eqBool_str h
def strEq (x : Str) (v : Value) : Bool := match v with
  | .str y _ => y == x
  | _ => false
theorem strEq_gives {x : Str} {u : Tok} : ∀ {vs : List Value} {ss : List Str}, StrsAre vs ss → ∀ y ∈ vs, MeetsSeq.EqGives y (.str x u) (strEq x y)
  | _, _, .cons y t r, v, hv => by
    rcases List.mem_cons.mp hv with rfl | hv
    · exact eqGives_str _ _ _ _
    · exact strEq_gives r v hv
theorem strEq_any {x : Str} : ∀ {vs : List Value} {ss : List Str}, StrsAre vs ss → vs.any (strEq x) = ss.any (· == x)
  | _, _, .nil => rfl
  | _, _, .cons y t r => by rw [List.any_cons, List.any_cons, strEq_any r]; rfl

theorem check_contains (l : Addr) (v : Value) : checkBoundCall "list.__contains__" ⟨[.ref l, v], []⟩ = pure () := by first | kernel_rfl | rfl
theorem call_bw {q l : Addr} {its : List Value} {n : Nat} {x : Str} {t : Tok} {ss : List Str} {Q : Value → Shared → Prop} (hq : s.heap.get? q = some (bw "list.__contains__" l)) (hl : s.heap.get? l = some (listOf its.toArray n)) (hs : StrsAre its ss)
    (h : Q (.bool (ss.any (· == x))) s) : wpAny (model prog w) A (PySem.call (.ref q) [.str x t]) Q E s := by
  refine wpAny_call (codeAny_of_tree ?_)
  show wpAny _ A.in1 (callAny (.ref q) ⟨[.str x t], []⟩) _ _ s
  simp only [callAny]
  refine wpAny_bind (wpAny_load hq ?_)
  simp only [bw, show (Value.type "method-wrapper" == Value.type "method" || Value.type "method-wrapper" == Value.type "builtin_function_or_method" || Value.type "method-wrapper" == Value.type "method-wrapper") = true by decide, if_true]
  refine KFB.if_so (by decide) ?_
  refine wpAny_bind (wpAny_of_eq (a := ()) (check_contains l _) ?_)
  refine wpAny_bind (wpAny_pure (wpAny_pure ?_))
  refine ⟨Code.quiet_builtin _ (by decide +kernel), codeAny_builtin F.entry_list_contains ?_⟩
  rw [Around.under_plainId (by decide +kernel)]
  refine SeqInW.list_containsW l its.toArray n none #[] (.str x t) (strEq x) (fun y hy => strEq_gives hs y (by simpa using hy)) _ _ _ _ _ ⟨hl, ?_⟩
  have e : its.toArray.any (strEq x) = ss.any (· == x) := by rw [List.any_toArray]; exact strEq_any hs
  rw [e]; exact h

theorem while_rule {env : Env} {test : Expr} {body orelse : List Stmt} {pos : Pos} {Q : Flow → Shared → Prop} (hE : PassesOwn (model prog w) A env E) (I : Nat → Shared → Prop)
    (turn : ∀ n s, I n s → wpAny (model prog w) A (isTrue test env (eval test env)) (fun b s₂ =>
        if b then wpAny (model prog w) A (execs body env) (fun f s₃ => match f with
            | .next | .cont => ∃ m, m < n ∧ I m s₃
            | .brk => Q .next s₃
            | .ret v => Q (.ret v) s₃) E s₂
        else wpAny (model prog w) A (execs orelse env) Q E s₂) E s)
    (n : Nat) (h : I n s) : wpAny (model prog w) A (exec (.While test body orelse pos) env) Q E s := by
  refine wpAny_While (codeAny_whileLoop I (fun n s hI => wpAny_passesOwn hE (wpAny_mono (turn n s hI) (fun b s₂ h₂ => ?_) fun _ _ e => e)) n h)
  cases b with
  | true =>
    simp only [if_true] at h₂ ⊢
    refine wpAny_passesOwn hE (wpAny_mono h₂ (fun f s₃ h₃ => ?_) fun _ _ e => e)
    cases f <;> exact h₃
  | false =>
    simp only [Bool.false_eq_true, if_false] at h₂ ⊢
    exact wpAny_passesOwn hE h₂

/-- the end of a while's turn -/
def EndW {σ : Type} (s : Shared) (g : Heap) (L : Addr) (stored : List Str) (m₀ : Str → Option Value) (R : σ → (Str → Option Value) → List (Addr × Obj) → Prop) (meas : σ → Nat) (x : σ) (Q : Flow → Shared → Prop) (f : Flow) (s₃ : Shared) : Prop :=
  match f with
  | .ret v => Q (.ret v) s₃
  | .brk => Q .next s₃
  | _ => ∃ x' h' tk' m' news', s₃ = { s with heap := h', toks := tk' } ∧ Fr g L h' m' ∧ News g L h' news' ∧ (∀ y, stored.contains y = false → m' y = m₀ y) ∧ R x' m' news' ∧ meas x' < meas x
theorem EndW.next {σ : Type} {g : Heap} {L : Addr} {stored : List Str} {m₀ m' : Str → Option Value} {R : σ → (Str → Option Value) → List (Addr × Obj) → Prop} {meas : σ → Nat} {x : σ} {Q : Flow → Shared → Prop} {h' : Heap} {tk' : Nat} {news' : List (Addr × Obj)}
    (F : Fr g L h' m') (N : News g L h' news') (e : ∀ y, stored.contains y = false → m' y = m₀ y) (x' : σ) (r : R x' m' news') (hm : meas x' < meas x) : EndW s g L stored m₀ R meas x Q .next { s with heap := h', toks := tk' } :=
  ⟨x', h', tk', m', news', rfl, F, N, e, r, hm⟩
theorem while_S {σ : Type} (stored : List Str) {g : Heap} {L : Addr} {m₀ : Str → Option Value} {news : List (Addr × Obj)} {env : Env} {test : Expr} {body orelse : List Stmt} {pos : Pos} {Q : Flow → Shared → Prop} (hE : PassesOwn (model prog w) A env E) (F : Fr g L s.heap m₀) (N : News g L s.heap news)
    (R : σ → (Str → Option Value) → List (Addr × Obj) → Prop) (meas : σ → Nat) (x₀ : σ) (h0 : R x₀ m₀ news)
    (turn : ∀ x h tk u news', R x u news' → Fr g L h (fun y => if stored.contains y then u y else m₀ y) → News g L h news' →
      wpAny (model prog w) A (isTrue test env (eval test env)) (fun b s₂ =>
        if b then wpAny (model prog w) A (execs body env) (EndW s g L stored m₀ R meas x Q) E s₂
        else wpAny (model prog w) A (execs orelse env) Q E s₂) E { s with heap := h, toks := tk }) :
    wpAny (model prog w) A (exec (.While test body orelse pos) env) Q E s := by
  refine while_rule hE (fun c s' => ∃ x h tk u news', s' = { s with heap := h, toks := tk } ∧ c = meas x ∧ R x u news' ∧ Fr g L h (fun y => if stored.contains y then u y else m₀ y) ∧ News g L h news') ?_ _ ⟨x₀, _, _, m₀, news, rfl, rfl, h0, frMst F fun _ _ => rfl, N⟩
  rintro c s' ⟨x, h, tk, u, news', rfl, rfl, hR, F', N'⟩
  refine wpAny_mono (turn x h tk u news' hR F' N') (fun b s₂ h₂ => ?_) fun _ _ e => e
  cases b with
  | false => exact h₂
  | true =>
    simp only [if_true] at h₂ ⊢
    refine wpAny_mono h₂ (fun f s₃ h₃ => ?_) fun _ _ e => e
    have fin : (∃ x' h' tk' m' news', s₃ = { s with heap := h', toks := tk' } ∧ Fr g L h' m' ∧ News g L h' news' ∧ (∀ y, stored.contains y = false → m' y = m₀ y) ∧ R x' m' news' ∧ meas x' < meas x) →
        ∃ c', c' < meas x ∧ ∃ x h tk u news', s₃ = { s with heap := h, toks := tk } ∧ c' = meas x ∧ R x u news' ∧ Fr g L h (fun y => if stored.contains y then u y else m₀ y) ∧ News g L h news' := by
      rintro ⟨x', h', tk', m', news'', e, F'', N'', hm, r, hlt⟩
      exact ⟨meas x', hlt, x', h', tk', m', news'', e, rfl, r, frMst F'' hm, N''⟩
    cases f with
    | ret v => exact h₃
    | brk => exact h₃
    | next => exact fin h₃
    | cont => exact fin h₃
theorem while_H {σ : Type} (stored : List Str) {g : Heap} {L : Addr} {m₀ : Str → Option Value} {news : List (Addr × Obj)} {env : Env} {test : Expr} {body orelse : List Stmt} {pos : Pos} {Q : Flow → Shared → Prop} (hE : PassesOwn (model prog w) A env E) (F : Fr g L s.heap m₀) (N : News g L s.heap news)
    (R : σ → (Str → Option Value) → List (Addr × Obj) → Prop) (meas : σ → Nat) (x₀ : σ) (h0 : R x₀ m₀ news)
    (turn : ∀ x h tk u news', R x u news' → Fr g L h (fun y => if stored.contains y then u y else m₀ y) → News g L h news' → ∀ (W Z : Flow → Shared → Prop), (∀ f s₃, EndW s g L stored m₀ R meas x Q f s₃ → W f s₃) → (∀ f s₃, Q f s₃ → Z f s₃) →
      wpAny (model prog w) A (isTrue test env (eval test env)) (fun b s₂ =>
        if b then wpAny (model prog w) A (execs body env) W E s₂
        else wpAny (model prog w) A (execs orelse env) Z E s₂) E { s with heap := h, toks := tk }) :
    wpAny (model prog w) A (exec (.While test body orelse pos) env) Q E s :=
  while_S stored hE F N R meas x₀ h0 fun x h tk u news' hR F' N' => turn x h tk u news' hR F' N' _ _ (fun _ _ x => x) fun _ _ x => x
end
end Mine
end
section
open PySem PySem.W PySem.Spec PySem.Calls PyProof.Rows
set_option Elab.async false
set_option linter.unusedVariables false
set_option maxRecDepth 100000
namespace Mine
local macro_rules | `(tactic| walk_at "execs cons") => `(tactic| (k_here; (with_reducible show wpAny _ _ _ _ _ (Shared.mk _ _ _ (_ + 1) _)); refine gen_toks ?_; intro tk))
local macro_rules | `(tactic| walk_at "execs nil") => `(tactic| (k_here; (with_reducible show wpAny _ _ _ _ _ (Shared.mk _ _ _ (_ + 1) _)); refine gen_toks ?_; intro tk))
local macro_rules | `(tactic| k_room) => `(tactic| ktr_room)
local macro_rules | `(tactic| k_units) => `(tactic| ktr_units)
variable {w : World} {loose : List Str} {mean : ExcName → Option Value} {mg mb : Str → Option Value} {dp un : Nat} {gd : Option (List Code)} {env : Env} {outer : List Env} {A₀ : Around} {base h₀ : Heap} {L : Addr} {m : Str → Option Value} {s : Shared} {Q E : Value → Shared → Prop}

/-- a bound built-in method stands there -/
def Bnd (u : Addr) (h : Heap) : Prop := ∃ o vs, h.get? u = some o ∧ o.data = .fields vs ∧ o.cls ≠ .type "method" ∧ (o.cls = .type "method-wrapper" ∨ o.cls = .type "builtin_function_or_method")
theorem bnd_bw {u l : Addr} {id : String} {h : Heap} (e : h.get? u = some (bw id l)) : Bnd u h := ⟨_, _, e, rfl, (by intro q; exact absurd (Value.type.inj q) (by decide)), .inl rfl⟩
theorem bnd_bm {u l : Addr} {id : String} {h : Heap} (e : h.get? u = some (bm id l)) : Bnd u h := ⟨_, _, e, rfl, (by intro q; exact absurd (Value.type.inj q) (by decide)), .inr rfl⟩
section
variable {M : Model} {A : Around} {news : List (Addr × Obj)}
theorem callWith_bnd {pos : Pos} {u : Addr} {first : List Value} {args : List (Bool × Sem Value)} (hplain : args.any (·.1) = false)
    (h : wpAny M A (evalArgs (.ref u) true args []) (fun x s₁ => Bnd u s₁.heap ∧ wpAny M A (PySem.call (.ref u) (first ++ x.pos) x.kw) Q E s₁) E s) : wpAny M A (callWith pos (.ref u) first args []) Q E s := by
  unfold callWith
  refine wpAny_bind (wpAny_holding (wpAny_mono h (fun x s₁ h₁ => wpAny_bind (wpAny_standAt ?_)) fun _ _ x => x))
  obtain ⟨⟨o, vs, ho, hd, hm, hc⟩, hcall⟩ := h₁
  obtain ⟨c, dct, dt, sl⟩ := o
  simp only at hd hm hc
  subst hd
  simp only [hplain, List.any_nil, Bool.or_false]
  refine wpAny_bind (m := keeperOf (.ref u)) ?_
  unfold keeperOf
  refine wpAny_bind (wpAny_load ho ?_)
  rcases hc with rfl | rfl
  · simp only [show (Value.type "method-wrapper" != Value.type "method") = true by decide, show (Value.type "method-wrapper" == Value.type "builtin_function_or_method" || Value.type "method-wrapper" == Value.type "method-wrapper") = true by decide, if_true]
    refine wpAny_pure ?_
    exact wpAny_bind (wpAny_mono hcall (fun r s₂ hr => wpAny_bind (wpAny_holding (wpAny_point (wpAny_pure hr)))) fun _ _ x => x)
  · simp only [show (Value.type "builtin_function_or_method" != Value.type "method") = true by decide, show (Value.type "builtin_function_or_method" == Value.type "builtin_function_or_method" || Value.type "builtin_function_or_method" == Value.type "method-wrapper") = true by decide, if_true]
    refine wpAny_pure ?_
    exact wpAny_bind (wpAny_mono hcall (fun r s₂ hr => wpAny_bind (wpAny_holding (wpAny_point (wpAny_pure hr)))) fun _ _ x => x)
theorem callWith_bound' {pos : Pos} {u : Addr} {first : List Value} {env : Env} {e : Expr} {rest : List Expr} (_b : Bnd u s.heap)
    (h : wpAny M A (spliced (backTo pos (starEach (e :: rest) env))) (fun vs s₁ => Bnd u s₁.heap ∧ wpAny M A (PySem.call (.ref u) (first ++ vs)) Q E s₁) E s)
    (he : starEach (e :: rest) env = (false, eval e env) :: starEach rest env := by rfl) (hplain : (backTo pos (starEach rest env)).any (·.1) = false := by rfl) :
    wpAny M A (callWith pos (.ref u) first (backTo pos (starEach (e :: rest) env)) []) Q E s := by
  rw [he] at h ⊢
  refine callWith_bnd (by show (false || (backTo pos (starEach rest env)).any (·.1)) = false; rw [hplain]; rfl) ?_
  exact evalArgs_plain h
end
/-- an object of filterfalse -/
def fobj (q it d : Addr) : Obj := { cls := .ref 64, dict := some d, data := .plain, slots := #[some (.ref q), some (.ref it)] }
def led (S it x d q l1 l2 : Addr) (acc : Array Value) (k j : Nat) : List (Addr × Obj) := [(S, listOf acc k), (it, litr l1 j), (x, fobj q it d), (d, dictOf [] 0), (q, bw "list.__contains__" l2)]

section
variable {prog : Program} {A : Around}
theorem next_led {S it l1 : Addr} {o : Obj} {rest : List (Addr × Obj)} {its : Array Value} {n j : Nat} {v : Value} (F : Fr h₀ L s.heap m) (N : News h₀ L s.heap ((S, o) :: (it, litr l1 j) :: rest)) (hS : S ≠ it) (hr : ∀ p ∈ rest, p.1 ≠ it)
    (e1 : h₀.get? l1 = some (listOf its n)) (hx : its[j]? = some v) (h : ∀ h', Fr h₀ L h' m → News h₀ L h' ((S, o) :: (it, litr l1 (j + 1)) :: rest) → Q v { s with heap := h' }) :
    wpAny (model prog w) A (PySem.call (.builtin "next") [.ref it]) Q E s := by
  have hit := N (it, litr l1 j) (.tail _ (.head _))
  have hl : s.heap.IsList l1 its := ⟨_, F.keep _ _ e1, rfl, n, rfl⟩
  refine next_item ⟨_, hit.1, rfl, rfl⟩ hl hx fun h' _ hg hs => ?_
  have hg' : h'.get? it = some (litr l1 (j + 1)) := by
    rw [hg, hit.1]
    show some (Obj.mapFields _ (litr l1 j)) = _
    unfold litr
    simp [Obj.mapFields, rawInt]
  refine h h' (F.change hs hit.2.1 hit.2.2) fun p hp => ?_
  rcases List.mem_cons.mp hp with rfl | hp
  · exact ⟨(hs.2 _ hS).trans (N _ (.head _)).1, (N _ (.head _)).2⟩
  · rcases List.mem_cons.mp hp with rfl | hp
    · exact ⟨hg', hit.2⟩
    · exact ⟨(hs.2 _ (hr p hp)).trans (N p (.tail _ (.tail _ hp))).1, (N p (.tail _ (.tail _ hp))).2⟩
theorem next_led_end {S it l1 : Addr} {o : Obj} {rest : List (Addr × Obj)} {its : Array Value} {n j : Nat} (hh : A.handled = none) (F : Fr h₀ L s.heap m) (N : News h₀ L s.heap ((S, o) :: (it, litr l1 j) :: rest))
    (e1 : h₀.get? l1 = some (listOf its n)) (hx : its[j]? = none) (h : ∀ h₁ h' e, Heap.SameBut it s.heap h₁ → (∃ o, h₁.get? it = some o) → Heap.MadeExcOf h₁ h' e (.type "StopIteration") [] → E (.ref e) { s with heap := h' }) :
    wpAny (model prog w) A (PySem.call (.builtin "next") [.ref it]) Q E s := by
  have hit := N (it, litr l1 j) (.tail _ (.head _))
  have hl : s.heap.IsList l1 its := ⟨_, F.keep _ _ e1, rfl, n, rfl⟩
  exact next_end hh ⟨_, hit.1, rfl, rfl⟩ hl hx h
end
local macro_rules | `(tactic| walk_at "call builtin:next") => `(tactic| (k_here; k_dflt (first | (refine' next_led ?F ?N ?a ?b ?c ?d ?_; (case F => k_asm); (case N => assumption); (case a => assumption); (case b => assumption); (case c => assumption); (case d => assumption); k_whole; intro h' F' N') | (refine' next_led_end ?hh ?F ?N ?c ?d ?_; (case hh => rfl); (case F => k_asm); (case N => assumption); (case c => assumption); (case d => assumption); k_whole; intro h1' h' e' hs' ho' hx'))))
local macro_rules | `(tactic| walk_at "exec While") => `(tactic| (k_here; (with_reducible show wpAny _ _ (exec (Stmt.While _ _ _ _) _) _ _ _); refine Stop.mk ?_))
def KeptX (ex fs : List Addr) (h h' : Heap) : Prop := (∀ b o, h.get? b = some o → b ∉ ex → b ∉ fs → h'.get? b = some o) ∧ ∀ b o, h.get? b = some o → b ∉ ex → (∀ vs, o.data ≠ .fields vs) → ∃ sl, h'.get? b = some { o with slots := sl }
abbrev framesOf (l : List Env) : List Addr := l.filterMap (·.frame)
theorem hide_stays {h : Heap} {as : List Addr} {b : Addr} {o : Obj} (e : h.get? b = some o) (n : b ∉ as) : (hideAll h as).get? b = some o := hideAll_get as e n

/-- a StopIteration leaves a frame: all but the frames stays, and these up to their slots -/
theorem leave_stop {M : Model} {A : Around} {g h₁ : Heap} {env : Env} {outer : List Env} {L a e : Addr} {m : Str → Option Value} {name : Str} {scope : Scope} {cd : Value} {Q : Unit → Shared → Prop} {E : Value → Shared → Prop} {s' : Shared}
    (K : Below A base (env :: outer) g) (F : Fr g L h₁ m) (hx : Heap.MadeExcOf h₁ s'.heap e (.type "StopIteration") []) (hk : scope.kind = .function)
    (hQ : ∀ h', (∃ o, h'.get? e = some o ∧ o.cls = .type "StopIteration") → (∀ b o, h₁.get? b = some o → b ≠ L → b ∉ framesOf (env :: outer) → h'.get? b = some o) →
      (∀ b o, h₁.get? b = some o → (∀ vs, o.data ≠ .fields vs) → ∃ sl, h'.get? b = some { o with slots := sl }) → Q () { s' with heap := h' }) :
    wpAny M (A.deeper (envOf name scope L a cd)) (leaving (envOf name scope L a cd) (.ref e)) Q E s' := by
  have K' := K.push (name := name) (a := a) (cd := cd) F hk
  have hin : ∀ env' ∈ (envOf name scope L a cd :: env :: outer), ∀ b, env'.frame = some b → b ∈ framesOf (envOf name scope L a cd :: env :: outer) := fun env' he b hb => List.mem_filterMap.mpr ⟨env', he, hb⟩
  refine wpAny_leaves_madeW (base := hideAll h₁ (framesOf (envOf name scope L a cd :: env :: outer))) K'.stack rfl (fun b o q => of_hideAll _ q) (funFrames_hide K'.frames hin) hx fun h' t x1 x2 x3 x4 => hQ h' x1.there (fun b o q hL hf => ?_) fun b o q hd => ?_
  · refine x1.1 b o (hide_stays q fun hm => ?_)
    have hm' : b ∈ L :: framesOf (env :: outer) := hm
    rcases List.mem_cons.mp hm' with e | hm'
    · exact hL e
    · exact hf hm'
  · exact x4 b o (hx.keeps b o q) hd

local macro_rules | `(tactic| walk_at "callWith ref") => `(tactic| (k_here; (with_reducible show wpAny _ _ (callWith _ (Value.ref _) _ (backTo _ (starEach (_ :: _) _)) []) _ _ _); k_dflt (refine' callWith_bound' ?b ?_; (case b => exact bnd_bw (News.get (by assumption) (by k_mem))); k_whole)))
local macro_rules | `(tactic| walk_at "And") => `(tactic| ((with_reducible show Bnd _ _ ∧ _); k_dflt (refine ⟨bnd_bw (News.get (by assumption) (by k_mem)), ?_⟩); (try dsimp only [List.nil_append, List.cons_append])))
theorem call_bwK {prog : Program} {A : Around} {q l : Addr} {its : List Value} {n : Nat} {x : Str} {t : Tok} {ss : List Str} {news : List (Addr × Obj)} (F : Fr h₀ L s.heap m) (N : News h₀ L s.heap news) (hq : (q, bw "list.__contains__" l) ∈ news) (hl : h₀.get? l = some (listOf its.toArray n)) (hs : StrsAre its ss)
    (h : Q (.bool (ss.any (· == x))) s) : wpAny (model prog w) A (PySem.call (.ref q) [.str x t]) Q E s := call_bw (N.get hq) (F.keep _ _ hl) hs h
local macro_rules | `(tactic| walk_at "call ref") => `(tactic| (k_here; (with_reducible show wpAny _ _ (PySem.call (Value.ref _) [Value.str _ _]) _ _ _); k_dflt (refine' call_bwK ?F ?N ?q ?l ?s ?_; (case F => k_asm); (case N => k_asm); (case q => k_mem); (case l => assumption); (case s => assumption); k_whole)))
theorem strs_get : ∀ {vs : List Value} {ss : List Str} {i : Nat}, StrsAre vs ss → i < vs.length → ∃ y t, vs[i]? = some (.str y t) ∧ ss[i]? = some y
  | _, _, _, .nil, h => absurd h (Nat.not_lt_zero _)
  | _, _, 0, .cons y t r, h => ⟨y, t, rfl, rfl⟩
  | _, _, i + 1, .cons y t r, h => by
    obtain ⟨y', t', e1, e2⟩ := strs_get (i := i) r (by simpa using h)
    exact ⟨y', t', by simpa using e1, by simpa using e2⟩
theorem back {hid hid' : List (Addr × Obj)} {L' : Addr} {h' : Heap} {m' : Str → Option Value} (F : Fr h₀ L s.heap m) (N : News h₀ L s.heap hid) (F' : Fr (hidG s hid) L' h' m') (N' : News (hidG s hid) L' h' hid') : Fr h₀ L h' m ∧ News h₀ L h' hid' := by
  have nm : ∀ b o, h₀.get? b = some o → b ∉ hid.map (·.1) := fun b o e q => by
    obtain ⟨p, hp, rfl⟩ := List.mem_map.mp q
    rw [(N p hp).2.2] at e; cases e
  have st : ∀ b o, h₀.get? b = some o → (hidG s hid).get? b = some o := fun b o e => hideAll_get _ (F.keep b o e) (nm b o e)
  obtain ⟨oL, es, ep, hL, hLd, hLk, hLf⟩ := F.ns
  have nL : L ∉ hid.map (·.1) := fun q => by
    obtain ⟨p, hp, e⟩ := List.mem_map.mp q
    exact (N p hp).2.1 e
  have hLg : (hidG s hid).get? L = some oL := hideAll_get _ hL nL
  refine ⟨⟨⟨oL, es, ep, F'.keep L oL hLg, hLd, hLk, hLf⟩, fun b o e => F'.keep b o (st b o e), F.above⟩, fun p hp => ⟨(N' p hp).1, fun q => ?_, ?_⟩⟩
  · have := (N' p hp).2.2; rw [q, hLg] at this; cases this
  · cases q : h₀.get? p.1 with
    | none => rfl
    | some o => have := (N' p hp).2.2; rw [st _ _ q] at this; cases this
abbrev nStored : List Str := [Str.ofString "item"]
set_option maxHeartbeats 8000000 in
theorem next_call {S it x d q l1 l2 : Addr} {acc : Array Value} {k j n1 n2 : Nat} {vs1 vs2 : List Value} {ss1 ss2 : List Str} (B : Below A₀ base outer h₀) (F : Fr h₀ L s.heap m) (X : (Mine.hd.heap_1 w.params).In h₀) (T : Top topProg loose mean mg mb h₀) (hf : env.frame = some L) (hke : env.scope.kind = .function)
    (N : News h₀ L s.heap (led S it x d q l1 l2 acc k j)) (e1 : h₀.get? l1 = some (listOf vs1.toArray n1)) (e2 : h₀.get? l2 = some (listOf vs2.toArray n2)) (a1 : StrsAre vs1 ss1) (a2 : StrsAre vs2 ss2) (hj : j ≤ vs1.length) (hdp : dp ≤ 470) (hun : un ≤ 2600)
    (sne : S ≠ it) (xne : x ≠ it) (dne : d ≠ it) (qne : q ≠ it)
    (hQ : ∀ j' y t h' tk', j ≤ j' → j' < vs1.length → vs1[j']? = some (.str y t) → ss1[j']? = some y → ss2.any (· == y) = false → (∀ i, j ≤ i → i < j' → ∀ y, ss1[i]? = some y → ss2.any (· == y) = true) →
      Fr h₀ L h' m → News h₀ L h' (led S it x d q l1 l2 acc k (j' + 1)) → Q (.str y t) { s with heap := h', toks := tk' })
    (hE : ∀ e h' tk', (∀ i, j ≤ i → ∀ y, ss1[i]? = some y → ss2.any (· == y) = true) → (∃ o, h'.get? e = some o ∧ o.cls = .type "StopIteration") → KeptX [it] (framesOf (env :: outer)) s.heap h' → E (.ref e) { s with heap := h', toks := tk' }) :
    wpAny (model PySem.Challenge.rw_ik0031_01.row.prog w) { handled := none, depth := dp, frames := some (env :: outer), guards := gd, units := un } (PySem.call (.ref 60) [.ref x]) Q E s := by
  w_top off
  revert X; k_fill; intro X
  refine enter_def B F X N T rfl hf hke (by k_is) (by k_is) (by show dp < 1000; omega) (BindsTo.of_eq rfl) (locs rfl) ?_ (by decide) rfl rfl rfl
  intro L' h' F' N' B' X' T' lt
  clear X T
  have hrl : recursionLimit = 1000 := rfl
  have hcl : cLine = 9900 := rfl
  have e1' : (hidG s (led S it x d q l1 l2 acc k j)).get? l1 = some (listOf vs1.toArray n1) := hideAll_get _ (F.keep _ _ e1) fun hm => by
    obtain ⟨p, hp, hpe⟩ := List.mem_map.mp hm
    have := (N p hp).2.2; rw [hpe, e1] at this; cases this
  have e2' : (hidG s (led S it x d q l1 l2 acc k j)).get? l2 = some (listOf vs2.toArray n2) := hideAll_get _ (F.keep _ _ e2) fun hm => by
    obtain ⟨p, hp, hpe⟩ := List.mem_map.mp hm
    have := (N p hp).2.2; rw [hpe, e2] at this; cases this
  have hr : ∀ p ∈ [(x, (⟨.ref 64, some d, .plain, #[some (.ref q), some (.ref it)]⟩ : Obj)), (d, dictOf [] 0), (q, bw "list.__contains__" l2)], p.1 ≠ it := by
    intro p hp
    simp only [List.mem_cons, List.not_mem_nil, or_false] at hp
    rcases hp with rfl | rfl | rfl
    · exact xne
    · exact dne
    · exact qne
  generalize hg2 : hidG s (led S it x d q l1 l2 acc k j) = g2 at *
  simp only [led, fobj] at N'
  (try dsimp only)
  (try k_fold)
  k_steps
  refine (?_ : wpAny _ _ _ _ _ _)
  (with_reducible rename Fr _ _ _ _ => FF)
  (with_reducible rename News _ _ _ _ => NN)
  refine while_S nStored (by passes_own) FF NN (fun (j' : Nat) u n' => j ≤ j' ∧ j' ≤ vs1.length ∧ n' = [(S, listOf acc k), (it, litr l1 j'), (x, ⟨.ref 64, some d, .plain, #[some (.ref q), some (.ref it)]⟩), (d, dictOf [] 0), (q, bw "list.__contains__" l2)] ∧ ∀ i, j ≤ i → i < j' → ∀ y, ss1[i]? = some y → ss2.any (· == y) = true) (fun j' => vs1.length - j') j ⟨Nat.le_refl _, hj, rfl, fun i h1 h2 => absurd h2 (Nat.not_lt.mpr h1)⟩ ?_
  clear FF NN
  rintro j' h tk u n' ⟨hj1, hj2, rfl, hall⟩ F₁ N₁
  by_cases hlt : j' < vs1.length
  · obtain ⟨y, ty, hv, hy⟩ := strs_get a1 hlt
    have hx0 : vs1.toArray[j']? = some (.str y ty) := by simpa using hv
    k_steps
    · (with_reducible rename Fr _ _ _ _ => FF)
      (with_reducible rename News _ _ _ _ => NN)
      refine EndW.next FF NN ?_ (j' + 1) ⟨by omega, by omega, rfl, ?_⟩ (by omega)
      · intro y hy
        have h1 : y ≠ Str.ofString "item" := fun e => by rw [e] at hy; exact absurd hy (by decide)
        simp only [if_neg h1, hy, Bool.false_eq_true, if_false]
        (try rfl)
      · intro i hi1 hi2 y' hy'
        rcases Nat.lt_succ_iff_lt_or_eq.mp hi2 with hi2 | rfl
        · exact hall i hi1 hi2 y' hy'
        · rw [hy] at hy'
          cases hy'
          assumption
    · (with_reducible rename Fr _ _ _ _ => FF)
      (with_reducible rename News _ _ _ _ => NN)
      have hb := back F N (hid' := led S it x d q l1 l2 acc k (j' + 1)) (hg2 ▸ FF) (by rw [hg2]; exact NN)
      exact (⟨_, _, _, FF, NN, hQ j' y ty _ _ hj1 hlt hv hy (by assumption) hall hb.1 hb.2⟩ : EndC g2 Q (.str y ty) _)
  · have hx0 : vs1.toArray[j']? = none := by simp; omega
    k_steps
    (with_reducible rename Heap.SameBut _ _ _ => hs)
    (with_reducible rename Heap.MadeExcOf _ _ _ _ _ => hx)
    have hit := N₁ (it, litr l1 j') (.tail _ (.head _))
    have F₂ := F₁.change hs hit.2.1 hit.2.2
    refine leave_stop B' F₂ hx rfl fun h'' hst hk1 hk2 => hE _ h'' _ (fun i hi y' hy' => ?_) hst ?_
    · refine hall i hi ?_ y' hy'
      have hlen : ss1.length = vs1.length := a1.length.symm
      have := (List.getElem?_eq_some_iff.mp hy').1
      omega
    · have up : ∀ b o, s.heap.get? b = some o → b ∉ [it] → b ≠ L' ∧ h.get? b = some o := fun b o e hb => by
        have hne : b ≠ it := fun q => hb (List.mem_singleton.mpr q)
        have hlt' : b < s.heap.objs.size := Heap.lt_size e
        have hL' : s.heap.objs.size ≤ L' := by
          have q := F₁.above
          rw [← hg2] at q
          exact Nat.le_trans (Nat.le_of_eq (hideAll_size _ _).symm) q
        refine ⟨Nat.ne_of_lt (Nat.lt_of_lt_of_le hlt' hL'), ?_⟩
        by_cases hm : b ∈ (led S it x d q l1 l2 acc k j).map (·.1)
        · obtain ⟨p, hp, rfl⟩ := List.mem_map.mp hm
          have hpo : p.2 = o := Option.some.inj ((N p hp).1.symm.trans e)
          subst hpo
          simp only [led, fobj, List.mem_cons, List.not_mem_nil, or_false] at hp
          rcases hp with rfl | rfl | rfl | rfl | rfl
          · exact (N₁ _ (.head _)).1
          · exact absurd rfl hne
          · exact (N₁ _ (.tail _ (.tail _ (.head _)))).1
          · exact (N₁ _ (.tail _ (.tail _ (.tail _ (.head _))))).1
          · exact (N₁ _ (.tail _ (.tail _ (.tail _ (.tail _ (.head _)))))).1
        · refine F₁.keep b o ?_
          rw [← hg2]
          exact hideAll_get _ e hm
      refine ⟨fun b o e hb hf => ?_, fun b o e hb hd => ?_⟩
      · obtain ⟨n1, n2⟩ := up b o e hb
        exact hk1 b o ((hs.2 b fun q => hb (List.mem_singleton.mpr q)).trans n2) n1 hf
      · obtain ⟨n1, n2⟩ := up b o e hb
        exact hk2 b o ((hs.2 b fun q => hb (List.mem_singleton.mpr q)).trans n2) hd
end Mine
end
section
open PySem PySem.W PySem.Spec PySem.Calls PyProof.Rows
set_option Elab.async false
set_option linter.unusedVariables false
set_option maxRecDepth 100000
namespace Mine
local macro_rules | `(tactic| walk_at "execs cons") => `(tactic| (k_here; (with_reducible show wpAny _ _ _ _ _ (Shared.mk _ _ _ (_ + 1) _)); refine gen_toks ?_; intro tk))
local macro_rules | `(tactic| walk_at "execs nil") => `(tactic| (k_here; (with_reducible show wpAny _ _ _ _ _ (Shared.mk _ _ _ (_ + 1) _)); refine gen_toks ?_; intro tk))
local macro_rules | `(tactic| k_room) => `(tactic| ktr_room)
local macro_rules | `(tactic| k_units) => `(tactic| ktr_units)
section
variable {prog : Program} {w : World} {A₀ A : Around} {s : Shared} {base h₀ : Heap} {outer : List Env} {L : Addr} {m : Str → Option Value} {env : Env} {hid : List (Addr × Obj)} {K : Frag} {p : Program} {loose : List Str} {mean : ExcName → Option Value} {mg mb : Str → Option Value}
  {Q E : Value → Shared → Prop} {name qual : Str} {params : Arguments} {body : List Stmt} {scope : Scope} {dV kV doc pm cdv ct oc : Value} {an od : Option Addr} {osl : Array (Option Value)} {f : Addr} {vs : List Value} {binds : List (Str × Value)}
theorem enter_defQ (B : Below A₀ base outer h₀) (F : Fr h₀ L s.heap m) (X₀ : K.In h₀) (N : News h₀ L s.heap hid) (T : Top p loose mean mg mb h₀) (hA : A.frames = some (env :: outer)) (hf : env.frame = some L) (hke : env.scope.kind = .function)
    (ho : K.lookup f = some ⟨oc, od, .func (fnOf name qual params body scope dV kV doc pm an cdv ct), osl⟩) (hcd : codeIn K cdv qual = true) (hroom : A.depth < recursionLimit)
    (hbind : BindsTo s (fnOf name qual params body scope dV kV doc pm an cdv ct) ⟨vs, []⟩ binds) (hloc : ∀ y ∈ binds, scope.names.lookup y.1 = some .local)
    (h : ∀ L' h₁, Fr (hidG s hid) L' h₁ (fun y => binds.reverse.lookup y) → News (hidG s hid) L' h₁ hid → Below A base (env :: outer) (hidG s hid) → K.In (hidG s hid) → Top p loose mean mg mb (hidG s hid) → (∀ p ∈ hid, p.1 < L') →
      wpAny (model prog w) (A.deeper (envOf qual scope L' f cdv)) (execs body (envOf qual scope L' f cdv))
        (fun fl s' => Q (match fl with | .ret v => v | _ => .none) s')
        (fun e s' => wpAny (model prog w) (A.deeper (envOf qual scope L' f cdv)) (leaving (envOf qual scope L' f cdv) e) (fun _ s'' => E e s'') (fun e' s'' => E e' s'') s')
        { s with heap := h₁, toks := s.toks + binds.length })
    (hcell : ∀ x ∈ scope.names, x.2 ≠ .cell) (hco : scope.isCoroutine = false) (hgen : scope.isGenerator = false) (hk : scope.kind = .function) :
    wpAny (model prog w) A (PySem.call (.ref f) vs) Q E s := by
  have X := X₀.keeps F.keep
  refine wpAny_call ?_
  obtain ⟨FG, BG, st, lv⟩ := groundX (R := fun r s' => match r with | .ok (.ret v) => Q v s' | .ok _ => False | .error e => E e s') B F N hA hf hke
  refine codeAny_call_def (fd := fnOf name qual params body scope dV kV doc pm an cdv ct) (body := body) (binds := binds) hroom (X _ _ ho) rfl (T.nolimit.keeps F.keep) (codeRec_of X hcd) rfl hbind hcell hloc (fun h₁ hns hk₁ => ?_) hco hgen hk
  exact wpAny_mono (h s.heap.objs.size h₁ ⟨hns, fun b o e => hk₁ b o (of_hideAll _ e), Nat.le_of_eq (hideAll_size _ _)⟩ (fun p hp => ⟨hk₁ _ _ (N p hp).1, Nat.ne_of_lt (Heap.lt_size (N p hp).1), hideAll_none _ (List.mem_map_of_mem hp)⟩) BG (X₀.keeps st) (T.keeps st) fun p hp => Heap.lt_size (N p hp).1) (fun fl s' hl => hl) fun _ _ y => y
theorem enter_defCQ (B : Below A₀ base outer h₀) (F : Fr h₀ L s.heap m) (X₀ : K.In h₀) (N : News h₀ L s.heap hid) (T : Top p loose mean mg mb h₀) (hA : A.frames = some (env :: outer)) (hf : env.frame = some L) (hke : env.scope.kind = .function)
    (ho : K.lookup f = some ⟨oc, od, .func (fnOf name qual params body scope dV kV doc pm an cdv ct), osl⟩) (hcd : codeIn K cdv qual = true) (hroom : A.depth < recursionLimit)
    (hbind : BindsTo s (fnOf name qual params body scope dV kV doc pm an cdv ct) ⟨vs, []⟩ binds) (hkind : (binds.all fun y => scope.names.lookup y.1 == some .local || scope.names.lookup y.1 == some .cell) = true)
    (hnd : ((cellsFrom 0 scope.names []).map (·.1)).Nodup)
    (h : ∀ L' h₁ tk cells, Fr (hidG s hid) L' h₁ (bindL (envOfC qual scope L' f cdv).kindOf binds fun _ => none) → News (hidG s hid) L' h₁ (cells ++ hid) → CellsAre (bindC (envOfC qual scope L' f cdv).kindOf binds fun _ => none) (cellsFrom (L' + 1) scope.names []) cells →
      Below A base (env :: outer) (hidG s hid) → K.In (hidG s hid) → Top p loose mean mg mb (hidG s hid) → (∀ p ∈ hid, p.1 < L') →
      wpAny (model prog w) (A.deeper (envOfC qual scope L' f cdv)) (execs body (envOfC qual scope L' f cdv))
        (fun fl s' => Q (match fl with | .ret v => v | _ => .none) s')
        (fun e s' => wpAny (model prog w) (A.deeper (envOfC qual scope L' f cdv)) (leaving (envOfC qual scope L' f cdv) e) (fun _ s'' => E e s'') (fun e' s'' => E e' s'') s')
        { s with heap := h₁, toks := tk })
    (hco : scope.isCoroutine = false) (hgen : scope.isGenerator = false) (hk : scope.kind = .function) :
    wpAny (model prog w) A (PySem.call (.ref f) vs) Q E s := by
  have X := X₀.keeps F.keep
  refine wpAny_call ?_
  obtain ⟨FG, BG, st, lv⟩ := groundX (R := fun r s' => match r with | .ok (.ret v) => Q v s' | .ok _ => False | .error e => E e s') B F N hA hf hke
  refine codeAny_call_function hroom (X _ _ ho) rfl hco hgen rfl (codeRec_of X hcd) (hbind _ _ _ _ ?_)
  refine wpAny_newFunctionEnv_cells hk (kindsX hkind _) fun env' he s' x => ?_
  subst he
  refine ⟨(T.nolimit.keeps F.keep).keeps x.toInCall.keep, codeAny_func ?_⟩
  obtain ⟨h₁, tk, rfl, _⟩ := x.done
  have hk₁ := x.toInCall.keep
  obtain ⟨cells, NC, Y⟩ := Cl.news (h₀ := s.heap) (Nat.le_refl _) fun n c hm => ⟨x.cell n c (lookup_of_mem_nodup (cellsFrom_names scope.names 0 (s.heap.objs.size + 1) [] [] rfl ▸ hnd) hm), x.above n c hm⟩
  refine wpAny_mono (h s.heap.objs.size h₁ tk cells ⟨x.toInCall.ns, fun b o e => hk₁ b o (of_hideAll _ e), Nat.le_of_eq (hideAll_size _ _)⟩ (fun p hp => ?_) Y BG (X₀.keeps st) (T.keeps st) (fun p hp => Heap.lt_size (N p hp).1)) (fun fl s' hl => hl) fun _ _ y => y
  rcases List.mem_append.mp hp with hp | hp
  · refine ⟨(NC p hp).1, (NC p hp).2.1, ?_⟩
    cases q : (hidG s hid).get? p.1 with
    | none => rfl
    | some o => have := of_hideAll _ q; rw [(NC p hp).2.2] at this; cases this
  · exact ⟨hk₁ _ _ (N p hp).1, Nat.ne_of_lt (Heap.lt_size (N p hp).1), hideAll_none _ (List.mem_map_of_mem hp)⟩
end
variable {w : World} {loose : List Str} {mean : ExcName → Option Value} {mg mb : Str → Option Value} {dp un : Nat} {gd : Option (List Code)} {env : Env} {outer : List Env} {A₀ : Around} {base h₀ : Heap} {L : Addr} {m : Str → Option Value} {s : Shared} {Q E : Value → Shared → Prop}
set_option maxHeartbeats 8000000 in
theorem iter_call {x d q it : Addr} {hid : List (Addr × Obj)} (B : Below A₀ base outer h₀) (F : Fr h₀ L s.heap m) (X : (Mine.hd.heap_1 w.params).In h₀) (T : Top topProg loose mean mg mb h₀) (hf : env.frame = some L) (hke : env.scope.kind = .function)
    (N : News h₀ L s.heap hid) (hdp : dp ≤ 470) (hun : un ≤ 2600)
    (hQ : ∀ h' tk', Fr h₀ L h' m → News h₀ L h' hid → Q (.ref x) { s with heap := h', toks := tk' }) :
    wpAny (model PySem.Challenge.rw_ik0031_01.row.prog w) { handled := none, depth := dp, frames := some (env :: outer), guards := gd, units := un } (PySem.call (.ref 53) [.ref x]) Q E s := by
  w_top off
  refine wpAny_noRaise ?_
  revert X; k_fill; intro X
  refine enter_defQ B F X N T rfl hf hke (by k_is) (by k_is) (by show dp < 1000; omega) (BindsTo.of_eq rfl) (locs rfl) ?_ (by decide) rfl rfl rfl
  intro L' h' F' N' B' X' T' lt
  clear X T
  refine wpAny_noRaise ?_
  have hrl : recursionLimit = 1000 := rfl
  have hcl : cLine = 9900 := rfl
  generalize hg2 : hidG s hid = g2 at *
  (try dsimp only)
  (try k_fold)
  k_steps
  (with_reducible rename Fr _ _ _ _ => FF)
  (with_reducible rename News _ _ _ _ => NN)
  have hb := back F N (hid' := hid) (hg2 ▸ FF) (by rw [hg2]; exact NN)
  exact hQ _ _ hb.1 hb.2
def keep2 (ss1 ss2 : List Str) : List Str := ss1.filter fun y => !ss2.any (· == y)
theorem StrsAre.snoc {vs : List Value} {ss : List Str} {y : Str} {t : Tok} (a : StrsAre vs ss) : StrsAre (vs ++ [.str y t]) (ss ++ [y]) := by
  induction a with
  | nil => exact .cons y t .nil
  | cons x u r ih => exact .cons x u ih
theorem keep2_none {ss2 : List Str} : ∀ {ss1 : List Str}, (∀ i : Nat, ∀ y, ss1[i]? = some y → ss2.any (· == y) = true) → keep2 ss1 ss2 = []
  | [], _ => rfl
  | y :: r, h => by
    unfold keep2
    rw [List.filter_cons_of_neg (by simp only [h 0 y rfl]; decide)]
    exact keep2_none fun i z e => h (i + 1) z (by simpa using e)
theorem keep2_app (a b ss2 : List Str) : keep2 (a ++ b) ss2 = keep2 a ss2 ++ keep2 b ss2 := List.filter_append ..
theorem keep2_all {ss1 ss2 : List Str} {j : Nat} (h : ∀ i, j ≤ i → ∀ y, ss1[i]? = some y → ss2.any (· == y) = true) : keep2 ss1 ss2 = keep2 (ss1.take j) ss2 := by
  conv => lhs; rw [← List.take_append_drop j ss1, keep2_app]
  rw [keep2_none (ss1 := ss1.drop j) fun i y e => h (j + i) (Nat.le_add_right ..) y (by rwa [List.getElem?_drop] at e), List.append_nil]
theorem keep2_step {ss1 ss2 : List Str} {j j' : Nat} {y : Str} (hj : j ≤ j') (e : ss1[j']? = some y) (hn : ss2.any (· == y) = false) (h : ∀ i, j ≤ i → i < j' → ∀ y, ss1[i]? = some y → ss2.any (· == y) = true) :
    keep2 (ss1.take (j' + 1)) ss2 = keep2 (ss1.take j) ss2 ++ [y] := by
  rw [List.take_add_one, e, keep2_app]
  have h1 : keep2 (ss1.take j') ss2 = keep2 (ss1.take j) ss2 := by
    have := keep2_all (ss1 := ss1.take j') (ss2 := ss2) (j := j) fun i hi y' e' => by
      rw [List.getElem?_take] at e'
      split at e'
      · rename_i hlt; exact h i hi hlt y' e'
      · cases e'
    rw [this, List.take_take, Nat.min_eq_left hj]
  rw [h1]
  have h2 : keep2 [y] ss2 = [y] := by
    unfold keep2
    rw [List.filter_cons_of_pos (by simp only [hn]; decide)]
    rfl
  rw [show (some y).toList = [y] from rfl, h2]
theorem new_frame {A : Around} {b : Addr} (B : Below A base outer h₀) (hf : env.frame = some L) (h1 : b ≠ L) (h2 : h₀.get? b = none) (hm : b ∈ framesOf (env :: outer)) : False := by
  rw [framesOf, List.filterMap_cons, hf] at hm
  rcases List.mem_cons.mp hm with e | hm
  · exact h1 e
  · obtain ⟨o, e, _⟩ := (Heap.FunFrames.mem B.frames hm).2
    rw [e] at h2; cases h2
set_option maxHeartbeats 8000000 in
theorem loop_call {S it x d q l1 l2 : Addr} {n1 n2 : Nat} {vs1 vs2 : List Value} {ss1 ss2 : List Str} {R : Result → Shared → Prop} (B : Below A₀ base outer h₀) (X : (Mine.hd.heap_1 w.params).In h₀) (T : Top topProg loose mean mg mb h₀) (hf : env.frame = some L) (hke : env.scope.kind = .function)
    (e1 : h₀.get? l1 = some (listOf vs1.toArray n1)) (e2 : h₀.get? l2 = some (listOf vs2.toArray n2)) (a1 : StrsAre vs1 ss1) (a2 : StrsAre vs2 ss2) (hdp : dp ≤ 470) (hun : un + 1 ≤ 2600)
    (sne : S ≠ it) (xne : x ≠ it) (dne : d ≠ it) (qne : q ≠ it) (xS : x ≠ S) (dS : d ≠ S) (qS : q ≠ S) (hv : vs1.length < 1000)
    (hR : ∀ s' acc c, s'.heap.get? S = some (listOf acc c) → StrsAre acc.toList (keep2 ss1 ss2) → KeptX [] (framesOf (env :: outer)) h₀ s'.heap → (∃ h' tk', s' = { s with heap := h', toks := tk' }) → R (.ok (.ret .none)) s') :
    ∀ (k j : Nat) (acc : Array Value) (c : Nat) (h : Heap) (tk : Nat), vs1.length - j < k → j ≤ vs1.length → acc.size ≤ j → Fr h₀ L h m → News h₀ L h (led S it x d q l1 l2 acc c j) → StrsAre acc.toList (keep2 (ss1.take j) ss2) →
    codeAny (model PySem.Challenge.rw_ik0031_01.row.prog w) { handled := none, depth := dp, frames := some (env :: outer), guards := gd, units := un } (.builtin "list.extend.loop" ⟨[.ref S, .ref x, .none], []⟩) R { s with heap := h, toks := tk } := by
  intro k
  induction k with
  | zero => intro j acc c h tk hk; exact absurd hk (Nat.not_lt_zero _)
  | succ k ih =>
    intro j acc c h tk hk hj hsz F N hacc
    refine codeAny_builtin PySem.F.entry_extend_loop ?_
    rw [Around.under_plainId PySem.F.plain_extend_loop _]
    show wpAny _ _ (pyNext (.ref x) >>= _) _ _ _
    refine wpAny_bind ?_
    have I : InstAt h x (fobj q it d) 64 (some (dictOf [] 0)) := InstAt.of_news N (.tail _ (.tail _ (.head _))) (.tail _ (.tail _ (.tail _ (.head _))))
    refine owit_next (K := Mine.hd.heap_1 w.params) (f := 60) F X I (by k_is) (by k_is) ?_
    refine next_call B F X T hf hke N e1 e2 a1 a2 hj hdp hun sne xne dne qne ?_ ?_
    · intro j' y t h' tk' hj1 hj2 hv1 hs1 hno hall F' N'
      show wpAny _ _ (updateSeq S (·.push (.str y t)) >>= _) _ _ _
      refine wpAny_bind ?_
      have hS := (N' _ (.head _)).1
      have hSn := (N' _ (.head _)).2
      obtain ⟨c', hc'⟩ : ∃ c', (h'.update S (Obj.mapSeq (·.push (Value.str y t)))).get? S = some (listOf (acc.push (.str y t)) c') := ⟨_, Heap.get?_update_self _ hS rfl⟩
      refine wpAny_updateSeq hS rfl (wpAny_pure ⟨plainId_quiet PySem.F.plain_extend_loop _, ih (j' + 1) (acc.push (.str y t)) c' _ _ (by omega) (by omega) (by rw [Array.size_push]; omega) (F'.change (Heap.SameBut.update ..) hSn.1 hSn.2) ?_ ?_⟩) ?_ ?_
      · intro p hp
        rcases List.mem_cons.mp hp with rfl | hp
        · exact ⟨hc', hSn⟩
        · have hp' := N' p (.tail _ hp)
          refine ⟨(Heap.get?_update_other _ _ ?_).trans hp'.1, hp'.2⟩
          simp only [List.mem_cons, List.not_mem_nil, or_false] at hp
          rcases hp with rfl | rfl | rfl | rfl
          · exact sne
          · exact fun e => xS e.symm
          · exact fun e => dS e.symm
          · exact fun e => qS e.symm
      · rw [keep2_step hj1 hs1 hno hall, Array.toList_push]
        exact Mine.StrsAre.snoc hacc
      · rw [sizeLine_eq]; omega
      · show (acc.push (Value.str y t)).size ≤ _
        rw [sizeLine_eq, Array.size_push]; omega
    · intro e h' tk' hall hst hk
      unfold OwitStop
      obtain ⟨o, ho, hoc⟩ := hst
      refine wpAny_isInstance (T := "StopIteration") (b := true) ⟨o, ho, hoc⟩ isSubtype_stop ?_
      rw [if_pos rfl]
      have hb : ∀ b o, h₀.get? b = some o → b ∉ [it] := fun b o e hm => by
        have := (N (it, litr l1 j) (.tail _ (.head _))).2.2
        rw [← List.mem_singleton.mp hm, e] at this; cases this
      have hS := N _ (.head _)
      refine wpAny_pure (hR _ acc c ?_ (keep2_all hall ▸ hacc) ⟨fun b o e _ hf => hk.1 b o (F.keep b o e) (hb b o e) hf, fun b o e _ hd => hk.2 b o (F.keep b o e) (hb b o e) hd⟩ ⟨_, _, rfl⟩)
      exact hk.1 S _ hS.1 (fun e => sne (List.mem_singleton.mp e)) fun hm => new_frame B hf hS.2.1 hS.2.2 hm

theorem led_upd {S it x d q l1 l2 : Addr} {acc acc' : Array Value} {k k' j : Nat} {h h' : Heap} (N : News h₀ L h (led S it x d q l1 l2 acc k j)) (hs : Heap.SameBut S h h') (e : h'.get? S = some (listOf acc' k'))
    (sne : S ≠ it) (xS : x ≠ S) (dS : d ≠ S) (qS : q ≠ S) : News h₀ L h' (led S it x d q l1 l2 acc' k' j) := by
  intro p hp
  rcases List.mem_cons.mp hp with rfl | hp
  · exact ⟨e, (N _ (.head _)).2⟩
  · have hp' := N p (.tail _ hp)
    refine ⟨(hs.2 _ ?_).trans hp'.1, hp'.2⟩
    simp only [List.mem_cons, List.not_mem_nil, or_false] at hp
    rcases hp with rfl | rfl | rfl | rfl
    · exact fun e => sne e.symm
    · exact xS
    · exact dS
    · exact qS
set_option maxHeartbeats 8000000 in
theorem list_call {it x d q l1 l2 : Addr} {n1 n2 : Nat} {vs1 vs2 : List Value} {ss1 ss2 : List Str} (B : Below A₀ base outer h₀) (F : Fr h₀ L s.heap m) (X : (Mine.hd.heap_1 w.params).In h₀) (T : Top topProg loose mean mg mb h₀) (hf : env.frame = some L) (hke : env.scope.kind = .function)
    (N : News h₀ L s.heap [(it, litr l1 0), (x, fobj q it d), (d, dictOf [] 0), (q, bw "list.__contains__" l2)])
    (e1 : h₀.get? l1 = some (listOf vs1.toArray n1)) (e2 : h₀.get? l2 = some (listOf vs2.toArray n2)) (a1 : StrsAre vs1 ss1) (a2 : StrsAre vs2 ss2) (hdp : dp ≤ 470) (hun : un ≤ 2590)
    (xne : x ≠ it) (dne : d ≠ it) (qne : q ≠ it) (hv : vs1.length < 1000)
    (hQ : ∀ S acc c h' tk', h'.get? S = some (listOf acc c) → StrsAre acc.toList (keep2 ss1 ss2) → KeptX [] (framesOf (env :: outer)) h₀ h' → h₀.get? S = none → Q (.ref S) { s with heap := h', toks := tk' }) :
    wpAny (model PySem.Challenge.rw_ik0031_01.row.prog w) { handled := none, depth := dp, frames := some (env :: outer), guards := gd, units := un } (PySem.call (.type "list") [.ref x]) Q E s := by
  refine callType_codes (Q₁ := fun obj s₁ => obj = .ref s.heap.objs.size ∧ s₁ = { s with heap := s.heap.push { cls := .type "list", data := .seq #[] } }) PySem.F.called_list (PySem.F.typeCall_list_1 _) PySem.F.entry_list_init
    (code_list_new _ ⟨rfl, rfl⟩) fun obj s₁ h₁ => ?_
  obtain ⟨rfl, rfl⟩ := h₁
  have hS : (s.heap.push { cls := .type "list", data := .seq #[] }).get? s.heap.objs.size = some { cls := .type "list", data := .seq #[] } := Heap.get?_push_size _ rfl
  have hSn : h₀.get? s.heap.objs.size = none := by
    cases e : h₀.get? s.heap.objs.size with
    | none => rfl
    | some o => exact absurd (Heap.lt_size (F.keep _ _ e)) (Nat.lt_irrefl _)
  have kp : ∀ b o, s.heap.get? b = some o → (s.heap.push { cls := .type "list", data := .seq #[] }).get? b = some o := fun b o e => Heap.get?_push_of_some _ e
  have F₁ : Fr h₀ L _ m := Keeps.fr F kp
  have hSL : s.heap.objs.size ≠ L := by
    obtain ⟨o, _, _, ho, _⟩ := F.ns
    exact fun e => absurd (Heap.lt_size ho) (by rw [e]; exact Nat.lt_irrefl _)
  have N₁ : News h₀ L (s.heap.push { cls := .type "list", data := .seq #[] }) (led s.heap.objs.size it x d q l1 l2 #[] 0 0) := by
    intro p hp
    rcases List.mem_cons.mp hp with rfl | hp
    · exact ⟨hS, hSL, hSn⟩
    · exact ⟨kp _ _ (N p hp).1, (N p hp).2⟩
  have ne : ∀ p ∈ [(it, litr l1 0), (x, fobj q it d), (d, dictOf [] 0), (q, bw "list.__contains__" l2)], p.1 ≠ s.heap.objs.size := fun p hp e => absurd (Heap.lt_size (N p hp).1) (by rw [e]; exact Nat.lt_irrefl _)
  have sne : s.heap.objs.size ≠ it := fun e => ne _ (.head _) e.symm
  have xS : x ≠ s.heap.objs.size := ne _ (.tail _ (.head _))
  have dS : d ≠ s.heap.objs.size := ne _ (.tail _ (.tail _ (.head _)))
  have qS : q ≠ s.heap.objs.size := ne _ (.tail _ (.tail _ (.tail _ (.head _))))
  clear hS kp F N ne
  generalize (s.heap.push { cls := .type "list", data := .seq #[] }) = hh at *
  generalize s.heap.objs.size = S at *
  refine ⟨⟨_, (N₁ _ (.head _)).1, rfl⟩, PySem.F.args_list_init_2 _ _, ?_⟩
  show wpAny _ _ (do let old ← Builtin.List.listItems (.ref S); Builtin.List.listUpdate (.ref S) (fun _ => #[]); letGo old.toList.reverse; Builtin.List.listExtendWith (.ref S) (.ref x) .none) _ _ _
  refine wpAny_bind ?_
  unfold Builtin.List.listItems
  refine wpAny_bind (wpAny_seqItems (N₁ _ (.head _)).1 rfl (wpAny_pure ?_))
  show wpAny _ _ (updateSeq S (fun _ => #[]) >>= fun _ => letGo (#[] : Array Value).toList.reverse >>= fun _ => Builtin.List.listExtendWith (.ref S) (.ref x) .none) _ _ _
  obtain ⟨c₂, hc₂⟩ : ∃ c', (hh.update S (Obj.mapSeq (fun _ => (#[] : Array Value)))).get? S = some (listOf #[] c') := ⟨_, Heap.get?_update_self _ (N₁ _ (.head _)).1 rfl⟩
  refine wpAny_bind (wpAny_updateSeq (N₁ _ (.head _)).1 rfl ?_)
  have sb := Heap.SameBut.update hh S (Obj.mapSeq (fun _ => (#[] : Array Value)))
  have F₂ := F₁.change sb hSL hSn
  have N₂ := led_upd N₁ sb hc₂ sne xS dS qS
  clear F₁ N₁ sb hc₂
  generalize (hh.update S (Obj.mapSeq (fun _ => (#[] : Array Value)))) = hh₂ at *
  refine wpAny_bind (wpAny_letGo ?_)
  unfold Builtin.List.listExtendWith
  have I₂ : InstAt hh₂ x (fobj q it d) 64 (some (dictOf [] 0)) := InstAt.of_news N₂ (.tail _ (.tail _ (.head _))) (.tail _ (.tail _ (.tail _ (.head _))))
  refine wpAny_bind (I₂.type.here ?_)
  have h1 : Builtin.List.listSameRef (.ref S) (.ref x) = false := by simp [Builtin.List.listSameRef]; exact fun e => xS e.symm
  have h2 : ((Value.ref 64) == Value.type "list") = false := by decide
  have h3 : ((Value.ref 64) == Value.type "tuple") = false := by decide
  simp only [h1, h2, h3, Bool.or_false, Bool.false_eq_true, if_false]
  refine wpAny_bind ?_
  refine owit_iter (K := Mine.hd.heap_1 w.params) (f := 53) F₂ X I₂ (by k_is) (by k_is) ?_
  refine iter_call (x := x) (d := d) (q := q) (it := it) B F₂ X T hf hke N₂ hdp (by show un + 1 + 1 ≤ 2600; omega) fun h₃ tk₃ F₃ N₃ => ?_
  have I₃ : InstAt h₃ x (fobj q it d) 64 (some (dictOf [] 0)) := InstAt.of_news N₃ (.tail _ (.tail _ (.head _))) (.tail _ (.tail _ (.tail _ (.head _))))
  refine owit_it (K := Mine.hd.heap_1 w.params) (g := .ref 60) F₃ X I₃ (by k_is) ?_
  refine wpAny_bind (wpAny_holding ?_)
  unfold Builtin.List.listLengthHint
  unfold specialOf
  refine wpAny_bind (wpAny_bind (I₃.type.here ((looks_findIn (r := none) (X.keeps F₃.keep) (by k_is)).here ?_)))
  refine wpAny_bind (wpAny_bind (I₃.type.here ((looks_findIn (r := none) (X.keeps F₃.keep) (by k_is)).here ?_)))
  refine wpAny_pure ?_
  show wpAny _ _ (rule "list.extend.makes-room" >>= fun _ => Builtin.List.listTouch (.ref S) >>= fun _ => again (.builtin "list.extend.loop" ⟨[.ref S, .ref x, .none], []⟩)) _ _ _
  refine wpAny_bind (wpAny_rule ?_)
  refine wpAny_bind ?_
  show wpAny _ _ (updateSeq S (·.push .none) >>= fun _ => updateSeq S (·.pop)) _ _ _
  have hS₃ := (N₃ _ (.head _)).1
  obtain ⟨c₄, hc₄⟩ : ∃ c', (h₃.update S (Obj.mapSeq (·.push Value.none))).get? S = some (listOf #[Value.none] c') := ⟨_, Heap.get?_update_self _ hS₃ rfl⟩
  refine wpAny_bind (wpAny_updateSeq hS₃ rfl ?_)
  have sb := Heap.SameBut.update h₃ S (Obj.mapSeq (·.push Value.none))
  have F₄ := F₃.change sb hSL hSn
  have N₄ := led_upd N₃ sb hc₄ sne xS dS qS
  clear F₃ N₃ sb hc₄
  generalize (h₃.update S (Obj.mapSeq (·.push Value.none))) = h₄ at *
  have hS₄ := (N₄ _ (.head _)).1
  obtain ⟨c₅, hc₅⟩ : ∃ c', (h₄.update S (Obj.mapSeq (·.pop))).get? S = some (listOf #[] c') := ⟨_, Heap.get?_update_self _ hS₄ rfl⟩
  refine wpAny_updateSeq hS₄ rfl ?_
  have sb := Heap.SameBut.update h₄ S (Obj.mapSeq (·.pop))
  have F₅ := F₄.change sb hSL hSn
  have N₅ := led_upd N₄ sb hc₅ sne xS dS qS
  refine wpAny_pure ⟨plainId_quiet PySem.F.plain_extend_loop _, ?_⟩
  refine loop_call (s := { s with heap := h₄ }) B X T hf hke e1 e2 a1 a2 hdp (by dsimp only; omega) sne xne dne qne xS dS qS hv ?_ (vs1.length + 1) 0 #[] c₅ _ _ (by omega) (Nat.zero_le _) (Nat.le_refl _) F₅ N₅ .nil
  rintro s' acc c g1 g2 g3 ⟨h', tk', rfl⟩
  exact ⟨rfl, hQ S acc c h' tk' g1 g2 g3 hSn⟩
end Mine
end
section
open PySem PySem.W PySem.Spec PySem.Calls PyProof.Rows
set_option Elab.async false
set_option linter.unusedVariables false
set_option maxRecDepth 100000
namespace Mine
local macro_rules | `(tactic| walk_at "execs cons") => `(tactic| (k_here; (with_reducible show wpAny _ _ _ _ _ (Shared.mk _ _ _ (_ + 1) _)); refine gen_toks ?_; intro tk))
local macro_rules | `(tactic| walk_at "execs nil") => `(tactic| (k_here; (with_reducible show wpAny _ _ _ _ _ (Shared.mk _ _ _ (_ + 1) _)); refine gen_toks ?_; intro tk))
local macro_rules | `(tactic| k_room) => `(tactic| ktr_room)
local macro_rules | `(tactic| k_units) => `(tactic| ktr_units)
variable {w : World} {loose : List Str} {mean : ExcName → Option Value} {mg mb : Str → Option Value} {dp un : Nat} {gd : Option (List Code)} {env : Env} {outer : List Env} {A₀ : Around} {base h₀ : Heap} {L : Addr} {m : Str → Option Value} {s : Shared} {Q E : Value → Shared → Prop}
section
variable {prog : Program} {A : Around} {news : List (Addr × Obj)}
theorem getAttr_containsK {l : Addr} {its : Array Value} {n : Nat} {b : Bool} (hh : A.handled = none) (hd : A.depth ≤ 500) (hu : A.units ≤ 3000) (F : Fr h₀ L s.heap m) (N : News h₀ L s.heap news) (hl : h₀.get? l = some (listOf its n))
    (h : ∀ x h' tk', Fr h₀ L h' m → News h₀ L h' ((x, bw "list.__contains__" l) :: news) → (∀ p ∈ news, @Ne Nat p.1 x) → Q (.ref x) { s with heap := h', toks := tk' }) :
    wpAny (model prog w) A (getAttr (.ref l) (Str.ofString "__contains__") b) Q E s := by
  have hl' := F.keep _ _ hl
  refine getAttr_list (fun tk' => ⟨_, hl', rfl⟩) (room hh hd hu (ga_contains prog w { s with toks := s.toks + 1 } l its n s.toks hl' _ _ fun x h' tk' k hx hn => ?_)) b
  refine wpAny_pure (h x h' tk' (Keeps.fr F k) (fun p hp => ?_) fun p hp => ?_)
  · rcases List.mem_cons.mp hp with rfl | hp
    · refine ⟨hx, fun e => ?_, ?_⟩
      · obtain ⟨o, _, _, ho, _⟩ := F.ns
        have e' : x = L := e
        rw [e'] at hn
        exact absurd (hn.symm.trans ho) (by simp)
      · cases q : h₀.get? x with
        | none => rfl
        | some o => have := F.keep _ _ q; rw [hn] at this; cases this
    · exact ⟨k _ _ (N p hp).1, (N p hp).2⟩
  · intro e
    have q := (N p hp).1
    have e' : p.1 = x := e
    rw [e', hn] at q
    cases q
theorem done1K {o : Obj} {s' : Shared} {tk : Nat} (F : Fr h₀ L s.heap m) (N : News h₀ L s.heap news) (e : s' = { s with toks := tk })
    (h : ∀ x h' tk', Fr h₀ L h' m → News h₀ L h' ((x, o) :: news) → (∀ p ∈ news, @Ne Nat p.1 x) → Q (.ref x) { s with heap := h', toks := tk' }) : Done1 s' o Q := by
  subst e
  intro x h' tk' k hx hn
  refine h x h' tk' (Keeps.fr F k) (fun p hp => ?_) fun p hp e => ?_
  · rcases List.mem_cons.mp hp with rfl | hp
    · refine ⟨hx, fun e => ?_, ?_⟩
      · obtain ⟨o, _, _, ho, _⟩ := F.ns
        have e' : x = L := e
        subst e'
        exact nomatch (hn.symm.trans ho)
      · cases q : h₀.get? x with
        | none => rfl
        | some o =>
          have e3 := F.keep _ _ q
          exact nomatch (hn.symm.trans e3)
    · exact ⟨k _ _ (N p hp).1, (N p hp).2⟩
  · have q := (N p hp).1
    have e' : p.1 = x := e
    rw [e'] at q
    exact nomatch (hn.symm.trans q)
theorem call_iterK {l : Addr} {its : Array Value} {n : Nat} (hh : A.handled = none) (hd : A.depth ≤ 500) (hu : A.units ≤ 3000) (F : Fr h₀ L s.heap m) (N : News h₀ L s.heap news) (hl : h₀.get? l = some (listOf its n))
    (h : ∀ x h' tk', Fr h₀ L h' m → News h₀ L h' ((x, litr l 0) :: news) → (∀ p ∈ news, @Ne Nat p.1 x) → Q (.ref x) { s with heap := h', toks := tk' }) :
    wpAny (model prog w) A (PySem.call (.builtin "iter") [.ref l]) Q E s :=
  room hh hd hu (iter_list prog w s l its n (F.keep _ _ hl) _ _ (done1K (tk := s.toks) F N rfl h))
end
local macro_rules | `(tactic| walk_at "call builtin:iter") => `(tactic| (k_here; k_dflt (refine' call_iterK ?hh ?d ?u ?F ?N ?l ?_; (case hh => rfl); (case d => (simp only [depth_under_make, depth_deeper, depth_in1]; omega)); (case u => (simp only [units_under_make, units_in1, units_deeper]; omega)); (case F => k_asm); (case N => k_asm); (case l => first | assumption | exact Fr.keep (by assumption) _ _ (by assumption)); k_whole); intro x' h' tk' F' N' l1; (try simp only [List.forall_mem_cons] at l1)))
local macro_rules | `(tactic| walk_at "getAttr ref") => `(tactic| (k_here; (with_reducible show wpAny _ _ (getAttr (Value.ref _) (PySem.Str.ofString "__contains__") _) _ _ _); k_dflt (refine' getAttr_containsK rfl ?d ?u ?F ?N ?l ?_; (case d => (simp only [depth_deeper, depth_in1]; omega)); (case u => (simp only [units_under_make, units_in1, units_deeper]; omega)); (case F => k_asm); (case N => k_asm); (case l => first | assumption | exact Fr.keep (by assumption) _ _ (by assumption)); k_whole); intro x' h' tk' F' N' l1; (try simp only [List.forall_mem_cons] at l1)))
local macro_rules | `(tactic| walk_at "call type:list") => `(tactic| (k_here; refine Stop.mk ?_))
theorem framesOf_skip {h h' : Heap} {L : Addr} {fs : List Addr} (hn : h.get? L = none) (k : KeptX [] (L :: fs) h h') : KeptX [] fs h h' :=
  ⟨fun b o e hx hf => k.1 b o e hx fun hm => by
    rcases List.mem_cons.mp hm with q | hm
    · rw [q, hn] at e; cases e
    · exact hf hm, fun b o e hx hd => k.2 b o e hx hd⟩
set_option maxHeartbeats 8000000 in
theorem filter_call (l1 l2 : Addr) (vs1 vs2 : List Value) (n1 n2 : Nat) (ss1 ss2 : List Str) (B : Below A₀ base outer h₀) (F : Fr h₀ L s.heap m) (X : (Mine.hd.heap_1 w.params).In h₀) (T : Top topProg loose mean mg mb h₀) (hf : env.frame = some L) (hke : env.scope.kind = .function)
    (e1 : s.heap.get? l1 = some (listOf vs1.toArray n1)) (e2 : s.heap.get? l2 = some (listOf vs2.toArray n2)) (a1 : StrsAre vs1 ss1) (a2 : StrsAre vs2 ss2) (hv : vs1.length < 1000) (hdp : dp ≤ 450) (hun : un ≤ 2500)
    (hQ : ∀ S acc c h' tk', h'.get? S = some (listOf acc c) → StrsAre acc.toList (keep2 ss1 ss2) → KeptX [] (framesOf (env :: outer)) s.heap h' → s.heap.get? S = none → Q (.ref S) { s with heap := h', toks := tk' }) :
    wpAny (model PySem.Challenge.rw_ik0031_01.row.prog w) { handled := none, depth := dp, frames := some (env :: outer), guards := gd, units := un } (PySem.call (.ref 75) [.ref l1, .ref l2]) Q E s := by
  w_top off
  refine wpAny_noRaise ?_
  revert X; k_fill; intro X
  refine enter_defQ B F X News.nil T rfl hf hke (by k_is) (by k_is) (by show dp < 1000; omega) (BindsTo.of_eq rfl) (locs rfl) ?_ (by decide) rfl rfl rfl
  intro L' h' F' N' B' X' T' _
  simp only [hidG, List.map_nil, hideAll] at F' N' B' X' T' ⊢
  clear B F X T hf
  refine wpAny_noRaise ?_
  have hrl : recursionLimit = 1000 := rfl
  have hcl : cLine = 9900 := rfl
  have hLn : s.heap.get? L' = none := by
    cases e : s.heap.get? L' with
    | none => rfl
    | some o => exact absurd (Heap.lt_size e) (Nat.not_lt.mpr F'.above)
  (try dsimp only)
  (try k_fold)
  k_steps
  refine (?_ : wpAny _ _ _ _ _ _)
  (with_reducible rename Fr _ _ _ _ => FF)
  (with_reducible rename News _ _ _ _ => NN)
  (with_reducible rename @Ne Nat _ _ ∧ @Ne Nat _ _ ∧ @Ne Nat _ _ ∧ _ => hh)
  refine list_call (ss1 := ss1) (ss2 := ss2) B' FF X' T' rfl rfl NN e1 e2 a1 a2 (by dsimp only; omega) (by dsimp only; omega) hh.1 hh.2.1 hh.2.2.1 hv ?_
  intro S acc c h'' tk'' g1 g2 g3 g4
  exact hQ S acc c h'' tk'' g1 g2 (framesOf_skip hLn g3) g4
end Mine
end
section
open PySem PySem.W PySem.Spec PySem.Calls PyProof.Rows
set_option Elab.async false
set_option linter.unusedVariables false
set_option maxRecDepth 100000
namespace Mine
/-- what a turn of a filtering comprehension leaves to show -/
def CiEl (P : Prop) : Prop := P
section
variable {prog : Program} {w : World} {A : Around} {h₀ : Heap} {L : Addr} {m : Str → Option Value} {env : Env} {ct elt : Expr} {x : Str} {scope : Scope} {cl : List (Str × Addr)} {s : Shared} {S : List (Addr × Obj) → Prop} {P : Nat → Value → Prop} {Fin : List Value → List (Addr × Obj) → Prop} {news : List (Addr × Obj)}
theorem comp_filter {n : Nat} {ks : List Int} (p : Int → Bool) (hks : ks.length = n) (hP : ∀ i v, i < n → P i v → ∃ k t, ks[i]? = some k ∧ v = .int k t)
    (turn : ∀ k t I oI C oC D m₂ ys h tk (E' : Value → Shared → Prop), k ∈ ks → LCg.NsObj oC m₂ → m₂ x = some (.int k t) → Fr h₀ L h m → News h₀ L h ((I, oI) :: (C, oC) :: (D, LCg.lst ys) :: news) → LCg.Off3 I C D news → ((@Ne Nat I C) ∧ (@Ne Nat I D) ∧ (@Ne Nat C D)) →
      wpAny (model prog w) A (isTrue ct (compEnvC scope cl C env) (eval ct (compEnvC scope cl C env))) (fun b s' => if b = true then wpAny (model prog w) A (eval elt (compEnvC scope cl C env)) (LCg.CompEnd h₀ L m { s with heap := h, toks := tk } I oI C oC D (LCg.lst ys) S (fun y news' => CiEl (p k = true ∧ y = .int k t ∧ news' = news))) E' s'
        else LCg.CompEnd h₀ L m { s with heap := h, toks := tk } I oI C oC D (LCg.lst ys) S (fun _ news' => CiEl (p k = false ∧ news' = news)) Value.none s') E' { s with heap := h, toks := tk })
    (fin : ∀ ys, IntsAre ys (ks.filter p) → Fin ys news) : LCt.CompRestT prog w A h₀ L m env ct elt x scope cl s S P Fin n 0 [] news := by
  have key : ∀ (j i : Nat) (ys : List Value), i + j = n → IntsAre ys ((ks.take i).filter p) → LCt.CompRestT prog w A h₀ L m env ct elt x scope cl s S P Fin j i ys news := by
    intro j
    induction j with
    | zero =>
      intro i ys hi hy
      have e : i = ks.length := by omega
      subst e
      rw [List.take_length] at hy
      exact LCt.CompRestT.zero (fin ys hy)
    | succ j ih =>
      intro i ys hi hy
      refine LCt.CompRestT.succ ?_
      intro v I oI C oC D m₂ h tk E' hv hC hx F N off ne
      obtain ⟨k, t, hk, hv'⟩ := hP i v (by omega) hv
      rw [hv'] at hx
      have hs : (ks.take (i + 1)).filter p = (ks.take i).filter p ++ [k].filter p := by
        rw [List.take_add_one, hk, List.filter_append]; rfl
      refine wpAny_mono (turn k t I oI C oC D m₂ ys h tk E' (List.mem_of_getElem? hk) hC hx F N off ne) (fun b s₂ hq => ?_) fun _ _ e => e
      cases b with
      | true =>
        simp only [if_true] at hq ⊢
        refine wpAny_mono hq (fun y s₃ hr => ?_) fun _ _ e => e
        obtain ⟨h', tk', nw, e, F', N', off', hS, hp, hy', hn⟩ := hr
        rw [hn] at N' off' hS
        refine ⟨h', tk', news, e, F', N', off', hS, ?_⟩
        rw [hy']
        refine ih (i + 1) _ (by omega) ?_
        rw [hs, List.filter_cons_of_pos hp]
        exact IntsAre.append hy (.cons k t .nil)
      | false =>
        simp only [Bool.false_eq_true, if_false] at hq ⊢
        obtain ⟨h', tk', nw, e, F', N', off', hS, hp, hn⟩ := hq
        rw [hn] at N' off' hS
        refine ⟨h', tk', news, e, F', N', off', hS, ih (i + 1) _ (by omega) ?_⟩
        rw [hs, List.filter_cons_of_neg (by rw [hp]; decide), List.filter_nil, List.append_nil]
        exact hy
  exact key n 0 [] (by omega) (by simp only [List.take_zero, List.filter_nil]; exact .nil)
theorem comp_list {vs : List Value} {ns : List Int} (p : Int → Bool) (hi : IntsAre vs ns)
    (turn : ∀ k t I oI C oC D m₂ ys h tk (E' : Value → Shared → Prop), k ∈ ns → LCg.NsObj oC m₂ → m₂ x = some (.int k t) → Fr h₀ L h m → News h₀ L h ((I, oI) :: (C, oC) :: (D, LCg.lst ys) :: news) → LCg.Off3 I C D news → ((@Ne Nat I C) ∧ (@Ne Nat I D) ∧ (@Ne Nat C D)) →
      wpAny (model prog w) A (isTrue ct (compEnvC scope cl C env) (eval ct (compEnvC scope cl C env))) (fun b s' => if b = true then wpAny (model prog w) A (eval elt (compEnvC scope cl C env)) (LCg.CompEnd h₀ L m { s with heap := h, toks := tk } I oI C oC D (LCg.lst ys) S (fun y news' => CiEl (p k = true ∧ y = .int k t ∧ news' = news))) E' s'
        else LCg.CompEnd h₀ L m { s with heap := h, toks := tk } I oI C oC D (LCg.lst ys) S (fun _ news' => CiEl (p k = false ∧ news' = news)) Value.none s') E' { s with heap := h, toks := tk })
    (fin : ∀ ys, IntsAre ys (ns.filter p) → Fin ys news) : LCt.CompRestT prog w A h₀ L m env ct elt x scope cl s S (fun i v => vs.toArray[i]? = some v) Fin vs.toArray.size 0 [] news :=
  comp_filter p (by rw [List.size_toArray]; exact hi.length.symm) (fun i v _ hv => by
    obtain ⟨k, t, e, hk⟩ := IntsAre.at hi i v (by simpa using hv)
    exact ⟨k, t, hk, e⟩) turn fin
theorem comp_range {a : Int} {n : Nat} (ha : a = 0) (p : Int → Bool)
    (turn : ∀ (k : Nat) t I oI C oC D m₂ ys h tk (E' : Value → Shared → Prop), k < n → LCg.NsObj oC m₂ → m₂ x = some (.int (k : Int) t) → Fr h₀ L h m → News h₀ L h ((I, oI) :: (C, oC) :: (D, LCg.lst ys) :: news) → LCg.Off3 I C D news → ((@Ne Nat I C) ∧ (@Ne Nat I D) ∧ (@Ne Nat C D)) →
      wpAny (model prog w) A (isTrue ct (compEnvC scope cl C env) (eval ct (compEnvC scope cl C env))) (fun b s' => if b = true then wpAny (model prog w) A (eval elt (compEnvC scope cl C env)) (LCg.CompEnd h₀ L m { s with heap := h, toks := tk } I oI C oC D (LCg.lst ys) S (fun y news' => CiEl (p (k : Int) = true ∧ y = .int (k : Int) t ∧ news' = news))) E' s'
        else LCg.CompEnd h₀ L m { s with heap := h, toks := tk } I oI C oC D (LCg.lst ys) S (fun _ news' => CiEl (p (k : Int) = false ∧ news' = news)) Value.none s') E' { s with heap := h, toks := tk })
    (fin : ∀ ys, IntsAre ys (((List.range n).map Int.ofNat).filter p) → Fin ys news) : LCt.CompRestT prog w A h₀ L m env ct elt x scope cl s S (fun i v => ∃ t, v = .int (a + (i : Int)) t) Fin n 0 [] news :=
  comp_filter (ks := (List.range n).map Int.ofNat) p (by simp) (fun i v hi ⟨t, hv⟩ => ⟨(i : Int), t, by simp [hi], by rw [hv, ha, Int.zero_add]⟩) (fun k t I oI C oC D m₂ ys h tk E' hk => by
    obtain ⟨k', hk', rfl⟩ := List.mem_map.mp hk
    exact turn k' t I oI C oC D m₂ ys h tk E' (List.mem_range.mp hk')) fin
end
end Mine
end
section
open PySem PySem.W PySem.Spec PySem.Calls PyProof.Rows
set_option Elab.async false
set_option linter.unusedVariables false
set_option maxRecDepth 100000
namespace Mine
local macro_rules | `(tactic| walk_at "execs cons") => `(tactic| (k_here; (with_reducible show wpAny _ _ _ _ _ (Shared.mk _ _ _ (_ + 1) _)); refine gen_toks ?_; intro tk))
local macro_rules | `(tactic| walk_at "execs nil") => `(tactic| (k_here; (with_reducible show wpAny _ _ _ _ _ (Shared.mk _ _ _ (_ + 1) _)); refine gen_toks ?_; intro tk))
local macro_rules | `(tactic| k_room) => `(tactic| ktr_room)
local macro_rules | `(tactic| k_units) => `(tactic| ktr_units)
variable {w : World} {loose : List Str} {mean : ExcName → Option Value} {mg mb : Str → Option Value} {dp un : Nat} {gd : Option (List Code)} {env : Env} {outer : List Env} {A₀ : Around} {base h₀ : Heap} {L : Addr} {m : Str → Option Value} {s : Shared} {Q E : Value → Shared → Prop}
local macro_rules | `(tactic| walk_at "exec For Name Name cons nil") => `(tactic| (k_here; (with_reducible rename Fr _ _ _ _ => lF'); (with_unfolding_all refine' For_turns lF' ?_; k_whole)))
theorem ints_get : ∀ {vs : List Value} {ns : List Int} {i : Nat} {v : Value}, IntsAre vs ns → vs[i]? = some v → ∃ n t, v = .int n t ∧ ns[i]? = some n
  | _, _, _, _, .nil, h => by simp at h
  | _, _, 0, _, .cons n t r, h => by cases h; exact ⟨n, t, rfl, rfl⟩
  | _, _, i + 1, v, .cons n t r, h => by
    obtain ⟨n', t', e1, e2⟩ := ints_get (i := i) (v := v) r (by simpa using h)
    exact ⟨n', t', e1, by simpa using e2⟩
theorem row_callK {news : List (Addr × Obj)} {n : Int} {tk : Tok} (B : Below A₀ base outer h₀) (F : Fr h₀ L s.heap m) (N : News h₀ L s.heap news) (X : (Mine.hd.heap_1 w.params).In h₀) (T : Top topProg loose mean mg mb h₀) (hf : env.frame = some L) (hke : env.scope.kind = .function)
    (h0 : 0 ≤ n) (h1 : n < 65536) (hdp : dp + 1 < 1000) (hun : un + 8 < 9900)
    (h : ∀ t h' tk', Fr h₀ L h' m → News h₀ L h' news → Q (.str (rowStr n) t) { s with heap := h', toks := tk' }) :
    wpAny (model PySem.Challenge.rw_ik0031_01.row.prog w) { handled := none, depth := dp, frames := some (env :: outer), guards := gd, units := un } (PySem.call (.ref 170) [.int n tk]) Q E s :=
  row_call n tk B F X T hf hke h0 h1 hdp hun fun t h' tk' k => h t h' tk' (Keeps.fr F k) (Keeps.news N k)
local macro_rules | `(tactic| walk_at "call ref") => `(tactic| (k_here; (with_reducible show wpAny _ _ (PySem.call (Value.ref 170) [Value.int _ _]) _ _ _); k_dflt (refine' row_callK ?B ?F ?N ?X ?T ?f ?ke ?a ?b ?d ?u ?_; (case B => assumption); (case F => k_asm); (case N => k_asm); (case X => assumption); (case T => assumption); (case f => rfl); (case ke => rfl); (case a => assumption); (case b => assumption); (case d => (dsimp only; omega)); (case u => (dsimp only; omega)); k_whole); intro t' h' tk' F' N'))
local macro_rules | `(tactic| walk_at "exec Assign cons ListComp") => `(tactic| (k_here; (with_reducible refine LCt.Assign_ListComp_T (F₀ := by k_asm) (by rfl) (by with_unfolding_all rfl) (by with_unfolding_all rfl) (by decide) (by rfl) (by decide) (by rfl) (by rfl) (by rfl) ?_); k_dflt lct_toSrc))
local macro_rules | `(tactic| walk_at "eval ListComp") => `(tactic| (k_here; (with_reducible refine LCt.ListComp_T (F₀ := by k_asm) (by with_unfolding_all rfl) (by decide) (by rfl) (by decide) (by rfl) ?_); k_dflt lct_toSrc))
local macro_rules | `(tactic| walk_at "CompSrcT") => `(tactic| (refine Stop.mk ?_))
def signOf (n : Int) : Str := Txt.item (Str.ofString "?pc?d?b?-?l?s???") (n.fdiv 4096)
def likeB (bare : Bool) (mode one : Int) : Bool := decide (one.fmod 4096 = mode.fmod 4096) && (signOf one == signOf mode || (bare && signOf one == Str.ofString "?"))
theorem sgn1 {a b c : Bool} (h : a = true) : (a || (b && c)) = true := by subst h; rfl
theorem sgn2 {a b c : Bool} (h : a = false) (h1 : b = true) (h2 : c = true) : (a || (b && c)) = true := by subst h h1 h2; rfl
theorem sgn3 {a b c : Bool} (h : a = false) (h1 : b = true) (h2 : c = false) : (a || (b && c)) = false := by subst h h1 h2; rfl
theorem sgn4 {a b c : Bool} (h : a = false) (h1 : b = false) : (a || (b && c)) = false := by subst h h1; rfl
def leftL (bare : Bool) (ns2 ns1 : List Int) : List Str := (ns1.filter fun mode => !ns2.any (likeB bare mode)).map rowStr
theorem like_filter {bare : Bool} {n : Int} {ns2 : List Int} : decide (List.filter (fun k => signOf k == signOf n || (bare && signOf k == Str.ofString "?")) (List.filter (fun k => decide (k.fmod 4096 = n.fmod 4096)) ns2) = []) = !ns2.any (likeB bare n) := by
  induction ns2 with
  | nil => rfl
  | cons a r ih =>
    rw [List.any_cons, List.filter_cons]
    by_cases h : a.fmod 4096 = n.fmod 4096
    · rw [if_pos (by simpa using h), List.filter_cons]
      by_cases h2 : (signOf a == signOf n || (bare && signOf a == Str.ofString "?")) = true
      · rw [if_pos h2]
        have : likeB bare n a = true := by unfold likeB; rw [h2]; simp [h]
        rw [this]; simp
      · rw [if_neg h2, ih]
        have : likeB bare n a = false := by unfold likeB; rw [Bool.eq_false_iff.mpr h2]; simp
        rw [this]; simp
    · rw [if_neg (by simpa using h), ih]
      have : likeB bare n a = false := by unfold likeB; simp [h]
      rw [this]; simp
theorem left_push {bare : Bool} {n : Int} {ns1 ns2 : List Int} {i k : Nat} {vs : List Value} {t : Tok} {p3 p2 p1 l : Addr} {oM o2 o1 : Obj} {c : Option Value} (hv : StrsAre vs (leftL bare ns2 (ns1.take i))) (hl : vs.length ≤ i) (hn : ns1[i]? = some n)
    (hf : decide (List.filter (fun k => signOf k == signOf n || (bare && signOf k == Str.ofString "?")) (List.filter (fun k => decide (k.fmod 4096 = n.fmod 4096)) ns2) = []) = true) (hd : oM.data = .cell c) :
    ∃ (vs' : List Value) (k' : Nat) (oM' : Obj) (c' : Option Value), [(l, listOf (vs.toArray.push (.str (rowStr n) t)) (k + 1)), (p3, oM), (p2, o2), (p1, o1)] = [(l, listOf vs'.toArray k'), (p3, oM'), (p2, o2), (p1, o1)] ∧ oM'.data = .cell c' ∧ StrsAre vs' (leftL bare ns2 (ns1.take (i + 1))) ∧ vs'.length ≤ i + 1 := by
  refine ⟨vs ++ [.str (rowStr n) t], k + 1, oM, c, by simp, hd, ?_, by simp; omega⟩
  unfold leftL at hv ⊢
  rw [like_filter] at hf
  rw [List.take_add_one, hn, show (some n).toList = [n] from rfl, List.filter_append, List.filter_cons_of_pos (p := fun mode => !ns2.any (likeB bare mode)) hf, List.map_append]
  exact hv.append' (.cons _ _ .nil)
theorem left_skip {bare : Bool} {n : Int} {ns1 ns2 : List Int} {i k : Nat} {vs : List Value} {p3 p2 p1 l : Addr} {oM o2 o1 : Obj} {c : Option Value} (hv : StrsAre vs (leftL bare ns2 (ns1.take i))) (hl : vs.length ≤ i) (hn : ns1[i]? = some n)
    (hf : decide (List.filter (fun k => signOf k == signOf n || (bare && signOf k == Str.ofString "?")) (List.filter (fun k => decide (k.fmod 4096 = n.fmod 4096)) ns2) = []) = false) (hd : oM.data = .cell c) :
    ∃ (vs' : List Value) (k' : Nat) (oM' : Obj) (c' : Option Value), [(l, listOf vs.toArray k), (p3, oM), (p2, o2), (p1, o1)] = [(l, listOf vs'.toArray k'), (p3, oM'), (p2, o2), (p1, o1)] ∧ oM'.data = .cell c' ∧ StrsAre vs' (leftL bare ns2 (ns1.take (i + 1))) ∧ vs'.length ≤ i + 1 := by
  refine ⟨vs, k, oM, c, rfl, hd, ?_, by omega⟩
  unfold leftL at hv ⊢
  rw [like_filter] at hf
  rw [List.take_add_one, hn, show (some n).toList = [n] from rfl, List.filter_append, List.filter_cons_of_neg (p := fun mode => !ns2.any (likeB bare mode)) (by rw [hf]; decide), List.filter_nil, List.append_nil]
  exact hv
set_option maxHeartbeats 8000000 in
theorem left_call (l1 l2 : Addr) (vs1 vs2 : List Value) (n1 n2 : Nat) (ns1 ns2 : List Int) (bare : Bool) (B : Below A₀ base outer h₀) (F : Fr h₀ L s.heap m) (X : (Mine.hd.heap_1 w.params).In h₀) (T : Top topProg loose mean mg mb h₀) (hf : env.frame = some L) (hke : env.scope.kind = .function)
    (e1 : s.heap.get? l1 = some (listOf vs1.toArray n1)) (e2 : s.heap.get? l2 = some (listOf vs2.toArray n2)) (a1 : IntsAre vs1 ns1) (a2 : IntsAre vs2 ns2) (hv : vs1.length < 1000) (hv2 : vs2.length < 1000)
    (r1 : ∀ n ∈ ns1, 0 ≤ n ∧ n < 65536) (r2 : ∀ n ∈ ns2, 0 ≤ n ∧ n < 65536) (hdp : dp ≤ 450) (hun : un ≤ 2500)
    (hQ : ∀ S (vs : List Value) c h' tk', h'.get? S = some (listOf vs.toArray c) → StrsAre vs (leftL bare ns2 ns1) → (∀ b o, s.heap.get? b = some o → h'.get? b = some o) → s.heap.get? S = none → Q (.ref S) { s with heap := h', toks := tk' }) :
    wpAny (model PySem.Challenge.rw_ik0031_01.row.prog w) { handled := none, depth := dp, frames := some (env :: outer), guards := gd, units := un } (PySem.call (.ref 175) [.ref l1, .ref l2, .bool bare]) Q E s := by
  w_top off
  refine wpAny_noRaise ?_
  revert X; k_fill; intro X
  refine enter_defC B F X News.nil T rfl hf hke (by k_is) (by k_is) (by show dp < 1000; omega) (BindsTo.of_eq rfl) rfl (by decide +kernel) ?_ rfl rfl rfl
  intro L' h' tk' cells' F' N' Y' B' X' T' _
  simp only [hidG, List.map_nil, hideAll] at F' N' B' X' T' ⊢
  clear B F X T hf
  k_cells Y'
  (try simp only [List.cons_append, List.nil_append] at N')
  refine wpAny_noRaise ?_
  have hrl : recursionLimit = 1000 := rfl
  have hcl : cLine = 9900 := rfl
  (try dsimp only)
  (try k_lift B')
  (try k_fold)
  k_steps
  (with_reducible rename Fr _ _ _ _ => FF)
  (with_reducible rename News _ _ _ _ => NN)
  refine iter_itemsS [Str.ofString "like"] rfl FF NN ⟨_, e1, rfl, n1, rfl⟩ (fun i n' => ∃ (vs : List Value) (k : Nat) (oM : Obj) (c : Option Value), n' = [(_, listOf vs.toArray k), (_, oM), (_, _), (_, _)] ∧ oM.data = .cell c ∧ StrsAre vs (leftL bare ns2 (ns1.take i)) ∧ vs.length ≤ i) ⟨[], 0, _, _, rfl, by assumption, .nil, Nat.le_refl _⟩ ?_ ?_
  · rintro i x u news₁ I it h₁ tk₁ hx ⟨vs, k, oM, c, rfl, hoM, hvs, hvl⟩ c1 off F₁ N₁
    obtain ⟨n, tn, rfl, hn⟩ := ints_get a1 hx
    clear FF NN
    obtain ⟨b1, b2⟩ := r1 n (List.mem_of_getElem? hn)
    have hi : i < vs1.length := (List.getElem?_eq_some_iff.mp hx).1
    have hsz : vs.toArray.size < 1000 := by simp; omega
    have o1 : @Ne Nat _ _ := off _ (.head _)
    have o2 : @Ne Nat _ _ := off _ (.tail _ (.head _))
    have o3 : @Ne Nat _ _ := off _ (.tail _ (.tail _ (.head _)))
    have o4 : @Ne Nat _ _ := off _ (.tail _ (.tail _ (.tail _ (.head _))))
    dsimp only at o1 o2 o3 o4
    k_steps
    refine (?_ : LCt.CompSrcT _ _ _ _ _ _ _ _ _ _ _ _ _ _ _)
    refine LCt.CompSrcT.base (by rfl) (by k_asm) (by k_asm) ⟨_, e2, rfl, n2, rfl⟩ (by size_fits) ?_
    intro g'
    refine comp_list (fun k => decide (k.fmod 4096 = n.fmod 4096)) a2 (fun k' t' I' oI' C' oC' D' m' ys' h' tk' E' hk' hC' hx' F' N' off' ne' => ?_) (fun ys hys => ?_)
    · obtain ⟨b1', b2'⟩ := r2 k' hk'
      k_steps
      · (with_reducible rename Fr _ _ _ _ => FF)
        (with_reducible rename News _ _ _ _ => NN)
        exact LCg.CompEnd.intro FF NN _ (fun p hp => hp) off' (.inl ⟨_, e2, rfl, n2, rfl⟩) ⟨by simp; assumption, rfl, rfl⟩
      · (with_reducible rename Fr _ _ _ _ => FF)
        (with_reducible rename News _ _ _ _ => NN)
        exact LCg.CompEnd.intro FF NN _ (fun p hp => hp) off' (.inl ⟨_, e2, rfl, n2, rfl⟩) ⟨by simp; assumption, rfl⟩
    · k_steps
      refine (?_ : LCt.CompSrcT _ _ _ _ _ _ _ _ _ _ _ _ _ _ _)
      have hyl : ys.toArray.size ≤ sizeLine := by
        have h1 := hys.length
        have h2 := List.length_filter_le (fun k => decide (k.fmod 4096 = n.fmod 4096)) ns2
        have h3 := a2.length
        rw [sizeLine_eq, List.size_toArray]; omega
      refine LCt.CompSrcT.ledger (by rfl) (by k_asm) (by k_asm) (.head _) hyl ?_
      intro g'
      refine comp_list (fun k => signOf k == signOf n || (bare && signOf k == Str.ofString "?")) hys (fun k' t' I' oI' C' oC' D' m' ys' h' tk' E' hk' hC' hx' F' N' off' ne' => ?_) (fun ys2 hys2 => ?_)
      · obtain ⟨b1', b2'⟩ := r2 k' ((List.mem_filter.mp hk').1)
        k_steps
        all_goals
          (with_reducible rename Fr _ _ _ _ => FF)
          (with_reducible rename News _ _ _ _ => NN)
          first
          | exact LCg.CompEnd.intro FF NN _ (fun p hp => hp) off' (.inr ⟨_, .head _, rfl, _, rfl⟩) ⟨by first | exact sgn1 (by assumption) | exact sgn2 (by assumption) (by assumption) (by assumption), rfl, rfl⟩
          | exact LCg.CompEnd.intro FF NN _ (fun p hp => hp) off' (.inr ⟨_, .head _, rfl, _, rfl⟩) ⟨by first | exact sgn3 (by assumption) (by assumption) (by assumption) | exact sgn4 (by assumption) (by assumption), rfl⟩
      · k_steps
        all_goals
          (with_reducible rename Fr _ _ _ _ => FF)
          (with_reducible rename News _ _ _ _ => NN)
          (with_reducible rename decide _ = _ => hfl)
        · refine EndT.next FF NN [_, _, _, _] (fun p hp => .tail _ (.tail _ (.tail _ hp))) ?_ ⟨?_, left_push hvs hvl hn hfl (by assumption)⟩
          · simp only [List.forall_mem_cons]; exact ⟨o1, o2, o3, o4, fun _ h => nomatch h⟩
          · intro y hy
            have h1 : y ≠ Str.ofString "like" := fun e => by rw [e] at hy; exact absurd hy (by decide)
            simp only [if_neg h1, hy, Bool.false_eq_true, if_false]
            (try rfl)
        · refine EndT.next FF NN [_, _, _, _] (fun p hp => .tail _ (.tail _ (.tail _ hp))) ?_ ⟨?_, left_skip hvs hvl hn hfl (by assumption)⟩
          · simp only [List.forall_mem_cons]; exact ⟨o1, o2, o3, o4, fun _ h => nomatch h⟩
          · intro y hy
            have h1 : y ≠ Str.ofString "like" := fun e => by rw [e] at hy; exact absurd hy (by decide)
            simp only [if_neg h1, hy, Bool.false_eq_true, if_false]
            (try rfl)
  · rintro h₂ tk₂ u2 news₂ F₂ N₂ ⟨vs, k, oM, c, rfl, hoM, hvs, hvl⟩
    clear FF NN
    k_steps
    (with_reducible rename Fr _ _ _ _ => FF)
    (with_reducible rename News _ _ _ _ => NN)
    refine (?_ : EndC s.heap Q (.ref _) _)
    have hS := NN _ (.head _)
    refine ⟨_, _, _, FF, NN, hQ _ vs k _ _ hS.1 ?_ FF.keep hS.2.2⟩
    rw [show ns1.take vs1.length = ns1 by rw [a1.length]; exact List.take_length] at hvs
    exact hvs
end Mine
end
section
open PySem PySem.W PySem.W.X PySem.Spec PySem.Calls PyProof.Rows
set_option Elab.async false
set_option maxRecDepth 100000
set_option linter.unusedVariables false
namespace Mine
theorem spec_map (prog : Program) (w : World) {h : Heap} {P : Params} (X : (Mine.hd.heap_1 P).In h) : ∃ es : Array DictEntry, h.MapOf (intKind prog w) 82 (findBy Value.isInt es) ∧ findBy Value.isInt es 45 = some (.str (Str.ofString "\\-") 443) ∧ ∀ c ∈ [(112 : Int),99,100,98,108,115,114,119,120,83,116,84], findBy Value.isInt es c = none := by
  have h0 := X 82 _ rfl
  refine ⟨_, Heap.IntMap.mapOf (prog := prog) (w := w) ⟨_, _, _, h0, rfl, rfl, ?_, fun _ => rfl⟩ ?_, rfl, ?_⟩
  · intro e he
    simp only [List.mem_toArray, List.mem_cons, List.not_mem_nil, or_false] at he
    rcases he with rfl | rfl | rfl | rfl | rfl | rfl | rfl | rfl | rfl | rfl | rfl | rfl | rfl | rfl | rfl | rfl | rfl | rfl | rfl | rfl | rfl | rfl | rfl | rfl <;> exact ⟨_, _, rfl, by decide⟩
  · intro o ho
    rw [h0] at ho
    cases ho
    exact ⟨rfl, rfl⟩
  · intro c hc
    simp only [List.mem_cons, List.not_mem_nil, or_false] at hc
    rcases hc with rfl | rfl | rfl | rfl | rfl | rfl | rfl | rfl | rfl | rfl | rfl | rfl <;> rfl
section
variable {prog : Program} {w : World} {A : Around} {E : Value → Shared → Prop} {s : Shared} {P : Params}
theorem tl_keep {Q : Builtin.Str.Mapped → Shared → Prop} {c : Nat} (hh : A.handled = none) (X : (Mine.hd.heap_1 P).In s.heap) (hc : (c : Int) ∈ [(112 : Int),99,100,98,108,115,114,119,120,83,116,84])
    (h : ∀ h' tk', (∀ b o, s.heap.get? b = some o → h'.get? b = some o) → Q .keep { s with heap := h', toks := tk' }) : wpAny (model prog w) A (Builtin.Str.tableLookup (.ref 82) c) Q E s := by
  obtain ⟨es, hm, _, hk⟩ := spec_map prog w X
  unfold Builtin.Str.tableLookup
  refine wpAny_bind (wpAny_attempt (wpAny_bind (wpAny_mkInt ?_)))
  refine wpAny_getItem_missing_of (intKind_is prog w _ _) (by decide) hh hm (hk _ hc) fun h' e hx => ?_
  obtain ⟨o, _, ho, hcl, _⟩ := hx.there
  refine wpAny_bind (wpAny_isInstance (T := "KeyError") (b := true) ⟨o, ho, hcl⟩ (by rw [isSubtype_type]; kernel_rfl) ?_)
  rw [if_pos rfl]
  exact wpAny_bind (wpAny_rule (wpAny_pure (h _ _ hx.keeps)))
theorem tl_text {Q : Builtin.Str.Mapped → Shared → Prop} (X : (Mine.hd.heap_1 P).In s.heap)
    (h : ∀ tk', Q (.text (Str.ofString "\\-")) { s with toks := tk' }) : wpAny (model prog w) A (Builtin.Str.tableLookup (.ref 82) 45) Q E s := by
  obtain ⟨es, hm, hk, _⟩ := spec_map prog w X
  unfold Builtin.Str.tableLookup
  refine wpAny_bind (wpAny_attempt (wpAny_bind (wpAny_mkInt ?_)))
  refine wpAny_getItem_of (intKind_is prog w _ _) hm hk ?_
  exact wpAny_pure (h _)
theorem tr_keep {c : Nat} {t : Tok} {Q : Value → Shared → Prop} (hh : A.handled = none) (hc1 : c < 128) (X : (Mine.hd.heap_1 P).In s.heap) (hc : (c : Int) ∈ [(112 : Int),99,100,98,108,115,114,119,120,83,116,84])
    (h : ∀ t' h' tk', (∀ b o, s.heap.get? b = some o → h'.get? b = some o) → Q (.str ⟨#[c]⟩ t') { s with heap := h', toks := tk' }) : wpAny (model prog w) A (PySem.call (.builtin "str.translate") [.str ⟨#[c]⟩ t, .ref 82]) Q E s := by
  refine wpAny_call_entry PySem.F.slot_str_translate (typeIs_str _ _ _) PySem.F.entry_str_translate ?_ (PySem.F.args_str_translate_2 _ _)
  unfold Builtin.«str.translate»
  refine wpAny_bind (wpAny_of_eq (a := (.str ⟨#[c]⟩ t, ⟨#[c]⟩, .ref 82)) (by kernel_rfl) ?_)
  dsimp only
  rw [if_neg (show ¬ ((⟨#[c]⟩ : Str).length == 0) = true from Bool.false_ne_true)]
  have hall : ((⟨#[c]⟩ : Str).cps.all fun x => decide (x < 128)) = true := by simp [hc1]
  rw [hall]
  refine wpAny_bind (forIn_array_ _ (fun rest b s' => (rest = [c] ∧ b = ([], 0, true, [], false) ∧ s' = s) ∨ (rest = [] ∧ b.1 = [⟨#[c]⟩] ∧ b.2.1 = 1 ∧ ∃ h' tk', s' = { s with heap := h', toks := tk' } ∧ ∀ b o, s.heap.get? b = some o → h'.get? b = some o)) _ ?_ ?_ _ _ (.inl ⟨rfl, rfl, rfl⟩))
  · rintro x rest b s' (⟨e, rfl, rfl⟩ | ⟨e, _⟩)
    · cases e
      dsimp only
      rw [if_neg (show ¬ (Builtin.Str.tooLong 0) = true by decide), if_pos rfl]
      dsimp only [List.lookup]
      refine wpAny_bind (tl_keep hh X hc fun h' tk' k => ?_)
      dsimp only
      refine wpAny_bind (wpAny_pure ?_)
      exact wpAny_pure (.inr ⟨rfl, rfl, rfl, h', tk', rfl, k⟩)
    · cases e
  · rintro ⟨b1, b2, b3, b4, b5⟩ s' (⟨e, _⟩ | ⟨_, e1, e2, h', tk', rfl, k⟩)
    · cases e
    · dsimp only at e1 e2
      subst e1 e2
      dsimp only
      rw [if_neg (show ¬ (Builtin.Str.tooLong 1) = true by decide)]
      rw [show (⟨List.foldl (fun acc (p : Str) => acc ++ p.cps) #[] [(⟨#[c]⟩ : Str)].reverse⟩ : Str) = ⟨#[c]⟩ by simp]
      unfold retStr
      refine wpAny_bind (wpAny_mkStr ?_ (by show 1 ≤ sizeLine; rw [sizeLine_eq]; decide))
      exact wpAny_pure ⟨_, rfl, h _ _ _ k⟩
theorem tr_text {t : Tok} {Q : Value → Shared → Prop} (X : (Mine.hd.heap_1 P).In s.heap) 
    (h : ∀ t' tk', Q (.str (Str.ofString "\\-") t') { s with toks := tk' }) : wpAny (model prog w) A (PySem.call (.builtin "str.translate") [.str ⟨#[45]⟩ t, .ref 82]) Q E s := by
  refine wpAny_call_entry PySem.F.slot_str_translate (typeIs_str _ _ _) PySem.F.entry_str_translate ?_ (PySem.F.args_str_translate_2 _ _)
  unfold Builtin.«str.translate»
  refine wpAny_bind (wpAny_of_eq (a := (.str ⟨#[45]⟩ t, ⟨#[45]⟩, .ref 82)) (by kernel_rfl) ?_)
  dsimp only
  rw [if_neg (show ¬ ((⟨#[45]⟩ : Str).length == 0) = true from Bool.false_ne_true)]
  have hall : ((⟨#[45]⟩ : Str).cps.all fun x => decide (x < 128)) = true := by simp
  rw [hall]
  refine wpAny_bind (forIn_array_ _ (fun rest b s' => (rest = [45] ∧ b = ([], 0, true, [], false) ∧ s' = s) ∨ (rest = [] ∧ b.1 = [Str.ofString "\\-"] ∧ b.2.1 = 2 ∧ ∃ tk', s' = { s with toks := tk' })) _ ?_ ?_ _ _ (.inl ⟨rfl, rfl, rfl⟩))
  · rintro x rest b s' (⟨e, rfl, rfl⟩ | ⟨e, _⟩)
    · cases e
      dsimp only
      rw [if_neg (show ¬ (Builtin.Str.tooLong 0) = true by decide), if_pos rfl]
      dsimp only [List.lookup]
      refine wpAny_bind (tl_text X fun tk' => ?_)
      dsimp only
      rw [if_neg (show ¬ ((Str.ofString "\\-").length == 1 && (Str.ofString "\\-").cps.all fun x => decide (x < 128)) = true by decide)]
      dsimp only
      refine wpAny_bind (wpAny_pure ?_)
      dsimp only
      refine wpAny_bind (wpAny_rule ?_)
      rw [if_neg Bool.false_ne_true]
      refine wpAny_bind (tl_text X fun tk' => ?_)
      exact wpAny_pure (.inr ⟨rfl, rfl, rfl, tk', rfl⟩)
    · cases e
  · rintro ⟨b1, b2, b3, b4, b5⟩ s' (⟨e, _⟩ | ⟨_, e1, e2, tk', rfl⟩)
    · cases e
    · dsimp only at e1 e2
      subst e1 e2
      dsimp only
      rw [if_neg (show ¬ (Builtin.Str.tooLong 2) = true by decide)]
      rw [show (⟨List.foldl (fun acc (p : Str) => acc ++ p.cps) #[] [Str.ofString "\\-"].reverse⟩ : Str) = Str.ofString "\\-" by simp]
      unfold retStr
      refine wpAny_bind (wpAny_mkStr ?_ (by show 2 ≤ sizeLine; rw [sizeLine_eq]; decide))
      exact wpAny_pure ⟨_, rfl, h _ _⟩
/-- what escape makes of one sign -/
def escOf (c : Nat) : Str := if c = 45 then Str.ofString "\\-" else ⟨#[c]⟩
def plainC : List Nat := [45,112,99,100,98,108,115,114,119,120,83,116,84]
theorem plain_mem : ∀ c ∈ plainC, c ≠ 45 → c < 128 ∧ (c : Int) ∈ [(112 : Int),99,100,98,108,115,114,119,120,83,116,84] := by decide
theorem tr_esc {c : Nat} {t : Tok} {Q : Value → Shared → Prop} (hh : A.handled = none) (X : (Mine.hd.heap_1 P).In s.heap) (hc : c ∈ plainC)
    (h : ∀ t' h' tk', (∀ b o, s.heap.get? b = some o → h'.get? b = some o) → Q (.str (escOf c) t') { s with heap := h', toks := tk' }) : wpAny (model prog w) A (PySem.call (.builtin "str.translate") [.str ⟨#[c]⟩ t, .ref 82]) Q E s := by
  have hp := plain_mem c hc
  clear hc
  unfold escOf at h
  by_cases e : c = 45
  · subst e
    exact tr_text X fun t' tk' => h t' _ tk' fun _ _ e => e
  · rw [if_neg e] at h
    exact tr_keep hh (hp e).1 X (hp e).2 h
end
end Mine
end
section
open PySem PySem.W PySem.Spec PySem.Calls PyProof.Rows
set_option Elab.async false
set_option linter.unusedVariables false
set_option maxRecDepth 100000
namespace Mine
local macro_rules | `(tactic| walk_at "execs cons") => `(tactic| (k_here; (with_reducible show wpAny _ _ _ _ _ (Shared.mk _ _ _ (_ + 1) _)); refine gen_toks ?_; intro tk))
local macro_rules | `(tactic| walk_at "execs nil") => `(tactic| (k_here; (with_reducible show wpAny _ _ _ _ _ (Shared.mk _ _ _ (_ + 1) _)); refine gen_toks ?_; intro tk))
local macro_rules | `(tactic| k_room) => `(tactic| ktr_room)
local macro_rules | `(tactic| k_units) => `(tactic| ktr_units)
variable {w : World} {loose : List Str} {mean : ExcName → Option Value} {mg mb : Str → Option Value} {dp un : Nat} {gd : Option (List Code)} {env : Env} {outer : List Env} {A₀ : Around} {base h₀ : Heap} {L : Addr} {m : Str → Option Value} {s : Shared} {Q E : Value → Shared → Prop} {news : List (Addr × Obj)}
theorem gm_translate {pl : Sem Bool} {x : PySem.Str} {t : Tok} {A : Around} {Q : Value × List Value → Shared → Prop} {E : Value → Shared → Prop} {M : Model} (h : Q (.builtin "str.translate", [.str x t]) s) : wpAny M A (getMethod (.str x t) (Str.ofString "translate") pl) Q E s := by
  with_reducible exact GM.of (.str x t) (typeIs_str _ _ _) PySem.F.slot_str_translate PySem.F.type_str_translate GM.noRef h
theorem tr_escK {prog : Program} {A : Around} {c : Nat} {t : Tok} (hh : A.handled = none) (F : Fr h₀ L s.heap m) (N : News h₀ L s.heap news) (X : (Mine.hd.heap_1 w.params).In h₀) (hc : c ∈ plainC)
    (h : ∀ t' h' tk', Fr h₀ L h' m → News h₀ L h' news → Q (.str (escOf c) t') { s with heap := h', toks := tk' }) : wpAny (model prog w) A (PySem.call (.builtin "str.translate") [.str ⟨#[c]⟩ t, .ref 82]) Q E s :=
  tr_esc hh (X.keeps F.keep) hc fun t' h' tk' k => h t' h' tk' (Keeps.fr F k) (Keeps.news N k)
local macro_rules | `(tactic| walk_at "getMethod str") => `(tactic| (k_here; with_reducible refine gm_translate ?_))
local macro_rules | `(tactic| walk_at "call builtin:str.translate") => `(tactic| (k_here; k_dflt (refine' tr_escK ?hh ?F ?N ?X ?c ?_; (case hh => rfl); (case F => k_asm); (case N => k_asm); (case X => assumption); (case c => assumption); k_whole); intro t' h' tk' F' N'))
set_option maxHeartbeats 8000000 in
theorem esc_call {c : Nat} {t : Tok} (B : Below A₀ base outer h₀) (F : Fr h₀ L s.heap m) (X : (Mine.hd.heap_1 w.params).In h₀) (T : Top topProg loose mean mg mb h₀) (hf : env.frame = some L) (hke : env.scope.kind = .function)
    (hc : c ∈ plainC) (hdp : dp ≤ 470) (hun : un ≤ 2600)
    (hQ : ∀ t' h' tk', (∀ b o, s.heap.get? b = some o → h'.get? b = some o) → Q (.str (escOf c) t') { s with heap := h', toks := tk' }) :
    wpAny (model PySem.Challenge.rw_ik0031_01.row.prog w) { handled := none, depth := dp, frames := some (env :: outer), guards := gd, units := un } (PySem.call (.ref 92) [.str ⟨#[c]⟩ t]) Q E s := by
  w_top off
  refine wpAny_noRaise ?_
  revert X; k_fill; intro X
  refine enter_def B F X News.nil T rfl hf hke (by k_is) (by k_is) (by show dp < 1000; omega) (BindsTo.of_eq rfl) (locs rfl) ?_ (by decide) rfl rfl rfl
  intro L' h' F' N' B' X' T' _
  simp only [hidG, List.map_nil, hideAll] at F' N' B' X' T' ⊢
  clear B F X T hf
  refine wpAny_noRaise ?_
  have hrl : recursionLimit = 1000 := rfl
  have hcl : cLine = 9900 := rfl
  (try dsimp only)
  (try k_fold)
  k_steps
  refine (?_ : EndC s.heap Q (.str (escOf c) _) _)
  (with_reducible rename Fr _ _ _ _ => FF)
  (with_reducible rename News _ _ _ _ => NN)
  exact ⟨_, _, _, FF, NN, hQ _ _ _ FF.keep⟩
end Mine
end
section
open PySem PySem.W PySem.W.X PySem.Spec PySem.Calls PyProof.Rows
set_option Elab.async false
set_option maxRecDepth 100000
set_option linter.unusedVariables false
namespace Mine
def DoneS (s : Shared) (c : Str) (Q : Value → Shared → Prop) : Prop := ∀ (t : Tok) (h' : Heap) (tk' : Nat), (∀ b o, s.heap.get? b = some o → h'.get? b = some o) → Q (.str c t) ⟨h', s.gens, s.drawn, tk', s.os⟩
local macro_rules | `(tactic| x_close) => `(tactic| (rename DoneS _ _ _ => hq9; first | exact hq9 _ _ _ (memKeep (by assumption)) | exact hq9 _ _ _ fun _ _ e => e))
set_option maxHeartbeats 4000000 in
theorem rep_q (prog : Program) (w : World) (s : Shared) (t u v : Tok) (Q E : Value → Shared → Prop) (hQ : DoneS s (Str.ofString "?") Q) :
   wpAny (model prog w) roomA (PySem.call (.builtin "str.replace") [.str (Str.ofString "?") t, .str (Str.ofString "\\") u, .str (Str.ofString "\\\\") v]) Q E s := by
  x_run
set_option maxHeartbeats 4000000 in
theorem sub_q (prog : Program) (w : World) (s : Shared) (t : Tok) (f : Addr) (fd : FuncData) (Q E : Value → Shared → Prop) (X : (Mine.hd.heap_1 w.params).In s.heap) (hf : s.heap.get? f = some { cls := .type "function", data := .func fd }) (hQ : DoneS s (Str.ofString "?") Q) :
   wpAny (model prog w) roomA (PySem.call (.builtin "re.Pattern.sub") [.ref 80, .ref f, .str (Str.ofString "?") t]) Q E s := by
  x_run
theorem notIn_q : (Builtin.Str.occurrences (Str.ofString "?") (Str.ofString "-") 0 (Str.ofString "?").length 1).isEmpty = true := by decide +kernel
theorem slot_sub : Slot "re.Pattern" "sub" "re.Pattern.sub" :=
  .of (owner := "re.Pattern") (n := "sub") (by rw [typeLookup_type, builtinLookup_eq_fast]; kernel_rfl) (by decide +kernel) (by decide +kernel) (by decide +kernel)
    (by first | exact .inl (by decide +kernel) | exact .inr (by decide +kernel)) (by rw [isSubtype_type]; kernel_rfl)
theorem type_sub : typeOf (.builtin "re.Pattern.sub") = pure (.type "method_descriptor") := by show builtinType _ = _; rw [builtinType_eq_fast]; kernel_rfl
section
variable {prog : Program} {w : World} {A : Around} {s : Shared} {Q E : Value → Shared → Prop} {h₀ : Heap} {L : Addr} {m : Str → Option Value} {news : List (Addr × Obj)} {t u v : Tok}
theorem notIn_lit (h : Q (.bool true) s) : wpAny (model prog w) A (compareOp .NotIn (.str (Str.ofString "-") u) (.str (Str.ofString "?") t)) Q E s := by
  refine PyProof.Rows.notIn_str ?_
  rw [notIn_q]; exact h
theorem rep_qK (hh : A.handled = none) (hd : A.depth ≤ 500) (hu : A.units ≤ 3000) (F : Fr h₀ L s.heap m) (N : News h₀ L s.heap news) (h : ∀ t' h' tk', Fr h₀ L h' m → News h₀ L h' news → Q (.str (Str.ofString "?") t') { s with heap := h', toks := tk' }) :
    wpAny (model prog w) A (PySem.call (.builtin "str.replace") [.str (Str.ofString "?") t, .str (Str.ofString "\\") u, .str (Str.ofString "\\\\") v]) Q E s :=
  room hh hd hu (rep_q prog w s t u v _ _ fun t' h' tk' k => h t' h' tk' (Keeps.fr F k) (Keeps.news N k))
theorem gm_sub {pl : Sem Bool} {Q : Value × List Value → Shared → Prop} (F : Fr h₀ L s.heap m) (X : (Mine.hd.heap_1 w.params).In h₀) (h : Q (.builtin "re.Pattern.sub", [.ref 80]) s) : wpAny (model prog w) A (getMethod (.ref 80) (Str.ofString "sub") pl) Q E s := by
  have h0 := F.keep _ _ (X 80 _ rfl)
  refine getMethod_builtin ⟨_, h0, rfl⟩ ?_ slot_sub type_sub (fun a e => ?_) h
  · exact ⟨⟨"object.__getattribute__", by rw [typeLookup_type, builtinLookup_eq_fast]; kernel_rfl, by decide +kernel⟩, by rw [typeLookup_type, builtinLookup_eq_fast]; kernel_rfl⟩
  · cases e; exact ⟨_, h0, rfl⟩
theorem sub_qK {f : Addr} {fd : FuncData} (hh : A.handled = none) (hd : A.depth ≤ 500) (hu : A.units ≤ 3000) (F : Fr h₀ L s.heap m) (N : News h₀ L s.heap news) (X : (Mine.hd.heap_1 w.params).In h₀) (hf : (f, ({ cls := .type "function", data := .func fd } : Obj)) ∈ news)
    (h : ∀ t' h' tk', Fr h₀ L h' m → News h₀ L h' news → Q (.str (Str.ofString "?") t') { s with heap := h', toks := tk' }) :
    wpAny (model prog w) A (PySem.call (.builtin "re.Pattern.sub") [.ref 80, .ref f, .str (Str.ofString "?") t]) Q E s :=
  room hh hd hu (sub_q prog w s t f fd _ _ (X.keeps F.keep) (N.get hf) fun t' h' tk' k => h t' h' tk' (Keeps.fr F k) (Keeps.news N k))
/-- what the code table of _translate's code may hold -/
def TabOk (ps : Array Value) : Prop := ps = #[] ∨ ∃ c' : Addr, ps = #[rawInt 81, rawInt 39, .ref c']
end
end Mine
end
section
open PySem PySem.W PySem.Spec PySem.Calls PyProof.Rows
set_option Elab.async false
set_option linter.unusedVariables false
set_option maxRecDepth 100000
namespace Mine
section
variable {prog : Program} {w : World} {A : Around} {E : Value → Shared → Prop} {s : Shared} {h₀ : Heap} {L : Addr} {m : Str → Option Value} {news : List (Addr × Obj)}
theorem sig_append : Manifest.signature? "list.append" = some ⟨.oneArg, "list.append", "append", .self, [⟨"object", .posOnly, true⟩]⟩ := by
  rw [signature?_of (id := "list.append") (n := ['d', 'n', 'e', 'p', 'p', 'a']) (o := ['t', 's', 'i', 'l']) (by kernel_rfl) PySem.F.owner_list]; kernel_rfl
theorem kind_append : builtinKind "list.append" = some .method := by kernel_rfl
theorem check_append {l : Addr} {v : Value} {its : Array Value} {n : Nat} {Q : Unit → Shared → Prop} (hl : s.heap.get? l = some (listOf its n)) (h : Q () s) : wpAny (model prog w) A (checkBoundCall "list.append" ⟨[.ref l, v], []⟩) Q E s := by
  unfold checkBoundCall
  rw [sig_append, kind_append]
  dsimp only
  rw [if_neg (by decide)]
  refine wpAny_bind (wpAny_isInstance (T := "list") (b := false) ⟨_, hl, rfl⟩ (by rw [isSubtype_type]; kernel_rfl) ?_)
  rw [if_neg (by decide +kernel)]
  unfold isType
  refine wpAny_bind (wpAny_bind (wpAny_bind (wpAny_loadPart hl (wpAny_pure ?_))))
  dsimp only
  refine wpAny_pure ?_
  rw [if_neg Bool.false_ne_true]
  refine wpAny_bind (wpAny_typeOf ⟨_, hl, rfl⟩ ?_)
  dsimp only
  exact wpAny_of_eq (a := ()) (by kernel_rfl) h
theorem call_bm {q l : Addr} {its : Array Value} {n : Nat} {x : Value} {Q : Value → Shared → Prop} (hq : s.heap.get? q = some (bm "list.append" l)) (hl : s.heap.get? l = some (listOf its n)) (hsz : its.size ≤ 1000)
    (h : ∀ h', Heap.SameBut l s.heap h' → h'.get? l = some (listOf (its.push x) (n + 1)) → Q .none { s with heap := h' }) : wpAny (model prog w) A (PySem.call (.ref q) [x]) Q E s := by
  refine wpAny_call (codeAny_of_tree ?_)
  show wpAny _ A.in1 (callAny (.ref q) ⟨[x], []⟩) _ _ s
  simp only [callAny]
  refine wpAny_bind (wpAny_load hq ?_)
  simp only [bm, show (Value.type "builtin_function_or_method" == Value.type "method" || Value.type "builtin_function_or_method" == Value.type "builtin_function_or_method" || Value.type "builtin_function_or_method" == Value.type "method-wrapper") = true by decide, if_true]
  refine KFB.if_so (by decide) ?_
  refine wpAny_bind (check_append hl ?_)
  refine wpAny_bind (wpAny_pure (wpAny_pure ?_))
  refine ⟨Code.quiet_builtin _ (by decide +kernel), codeAny_builtin PySem.F.entry_list_append ?_⟩
  rw [Around.under_plainId (by decide +kernel)]
  show wpAny _ _ (updateSeq l (·.push x) >>= fun _ => ret .none) _ _ s
  refine wpAny_bind ?_
  refine wpAny_updateSeq (hz := by rw [sizeLine_eq]; omega) hl rfl (wpAny_pure (h _ (Heap.SameBut.update ..) ?_)) (by show (its.push x).size ≤ _; rw [Array.size_push, sizeLine_eq]; omega)
  rw [Heap.get?_update_self _ hl (by rw [mapSeq_push]; rfl), mapSeq_push]
theorem getAttr_appendK {l : Addr} {its : Array Value} {n : Nat} {b : Bool} {Q : Value → Shared → Prop} (hh : A.handled = none) (hd : A.depth ≤ 500) (hu : A.units ≤ 3000) (F : Fr h₀ L s.heap m) (N : News h₀ L s.heap news) (hl : (l, listOf its n) ∈ news)
    (h : ∀ x h' tk', Fr h₀ L h' m → News h₀ L h' ((x, bm "list.append" l) :: news) → (∀ p ∈ news, @Ne Nat p.1 x) → Q (.ref x) { s with heap := h', toks := tk' }) :
    wpAny (model prog w) A (getAttr (.ref l) (Str.ofString "append") b) Q E s := by
  have hl' := N.get hl
  refine getAttr_list (fun tk' => ⟨_, hl', rfl⟩) (room hh hd hu (ga_append prog w { s with toks := s.toks + 1 } l its n s.toks hl' _ _ fun x h' tk' k hx hn => ?_)) b
  refine wpAny_pure (h x h' tk' (Keeps.fr F k) (fun p hp => ?_) fun p hp => ?_)
  · rcases List.mem_cons.mp hp with rfl | hp
    · refine ⟨hx, fun e => ?_, ?_⟩
      · obtain ⟨o, _, _, ho, _⟩ := F.ns
        have e' : x = L := e
        rw [e'] at hn
        exact absurd (hn.symm.trans ho) (by simp)
      · cases q : h₀.get? x with
        | none => rfl
        | some o => have := F.keep _ _ q; rw [hn] at this; cases this
    · exact ⟨k _ _ (N p hp).1, (N p hp).2⟩
  · intro e
    have q := (N p hp).1
    have e' : p.1 = x := e
    rw [e', hn] at q
    cases q
theorem call_bmK {q l : Addr} {its : Array Value} {n : Nat} {x : Value} {news' : List (Addr × Obj)} {Q : Value → Shared → Prop} (F : Fr h₀ L s.heap m) (N : News h₀ L s.heap news) (hq : (q, bm "list.append" l) ∈ news)
    (U : Upd l (listOf its n) (listOf (its.push x) (n + 1)) news news') (hsz : its.size ≤ 1000) (h : ∀ h', Fr h₀ L h' m → News h₀ L h' news' → Q .none { s with heap := h' }) : wpAny (model prog w) A (PySem.call (.ref q) [x]) Q E s := by
  obtain ⟨pre, post, rfl, rfl, a, b⟩ := U.split
  have hl := N (l, listOf its n) (List.mem_append_right _ (.head _))
  refine call_bm (N.get hq) hl.1 hsz fun h' hs hl' => h h' (F.change hs hl.2.1 hl.2.2) fun p hp => ?_
  rcases List.mem_append.mp hp with hp | hp
  · have z := N p (List.mem_append_left _ hp)
    exact ⟨(hs.2 _ (a p hp)).trans z.1, z.2⟩
  · rcases List.mem_cons.mp hp with rfl | hp
    · exact ⟨hl', hl.2⟩
    · have z := N p (List.mem_append_right _ (.tail _ hp))
      exact ⟨(hs.2 _ (b p hp)).trans z.1, z.2⟩
theorem cmpEq_of {x y : Str} {t u : Tok} {b : Bool} {Q : Value → Shared → Prop} (e : (x == y) = b) (h : Q (.bool b) s) : wpAny (model prog w) A (compareOp .Eq (.str x t) (.str y u)) Q E s := by
  subst e; exact eq_str h
theorem frAt {y0 : Str} {v : Value} {stored : List Str} {g h : Heap} {u m₀ : Str → Option Value} (F : Fr g L h (fun y => if stored.contains y then u y else m₀ y)) (hm : stored.contains y0 = true) (hu : u y0 = some v) :
    Fr g L h (fun y => if y = y0 then some v else if stored.contains y then u y else m₀ y) := by
  have e : (fun y => if y = y0 then some v else if stored.contains y then u y else m₀ y) = (fun y => if stored.contains y then u y else m₀ y) := by
    funext y
    by_cases hy : y = y0
    · subst hy; rw [if_pos rfl, if_pos hm, hu]
    · rw [if_neg hy]
  rw [e]; exact F
end
end Mine
end
section
open PySem PySem.W PySem.Spec PySem.Calls PyProof.Rows
set_option Elab.async false
set_option linter.unusedVariables false
set_option maxRecDepth 100000
namespace Mine
local macro_rules | `(tactic| walk_at "execs cons") => `(tactic| (k_here; (with_reducible show wpAny _ _ _ _ _ (Shared.mk _ _ _ (_ + 1) _)); refine gen_toks ?_; intro tk))
local macro_rules | `(tactic| walk_at "execs nil") => `(tactic| (k_here; (with_reducible show wpAny _ _ _ _ _ (Shared.mk _ _ _ (_ + 1) _)); refine gen_toks ?_; intro tk))
local macro_rules | `(tactic| k_room) => `(tactic| ktr_room)
local macro_rules | `(tactic| k_units) => `(tactic| ktr_units)
variable {w : World} {loose : List Str} {mean : ExcName → Option Value} {mg mb : Str → Option Value} {dp un : Nat} {gd : Option (List Code)} {env : Env} {outer : List Env} {A₀ : Around} {base h₀ : Heap} {L : Addr} {m : Str → Option Value} {s : Shared} {Q E : Value → Shared → Prop}
local macro_rules | `(tactic| walk_at "exec While") => `(tactic| (k_here; (with_reducible show wpAny _ _ (exec (Stmt.While _ _ _ _) _) _ _ _); refine Stop.mk ?_))
local macro_rules | `(tactic| walk_at "getAttr ref") => `(tactic| (k_here; (with_reducible show wpAny _ _ (getAttr (Value.ref _) (PySem.Str.ofString "append") _) _ _ _); k_dflt (refine' getAttr_appendK rfl ?d ?u ?F ?N ?l ?_; (case d => (simp only [depth_deeper, depth_in1]; omega)); (case u => (simp only [units_under_make, units_in1, units_deeper]; omega)); (case F => k_asm); (case N => k_asm); (case l => k_mem); k_whole); intro x' h' tk' F' N' l1; (try simp only [List.forall_mem_cons] at l1)))
local macro_rules | `(tactic| walk_at "callWith ref") => `(tactic| (k_here; (with_reducible show wpAny _ _ (callWith _ (Value.ref _) _ (backTo _ (starEach (_ :: _) _)) []) _ _ _); k_dflt (refine' callWith_bound' ?b ?_; (case b => exact bnd_bm (News.get (by assumption) (by k_mem))); k_whole)))
local macro_rules | `(tactic| walk_at "And") => `(tactic| ((with_reducible show Bnd _ _ ∧ _); k_dflt (refine ⟨bnd_bm (News.get (by assumption) (by k_mem)), ?_⟩); (try dsimp only [List.nil_append, List.cons_append])))
theorem cmpNe_of {prog : Program} {A : Around} {x y : Str} {t u : Tok} {b : Bool} (e : (x == y) = b) (h : Q (.bool (!b)) s) : wpAny (model prog w) A (compareOp .NotEq (.str x t) (.str y u)) Q E s := by
  subst e; exact ne_str h
local macro_rules | `(tactic| walk_at "storeName") => `(tactic| (k_here; (rename Txt.slice _ _ _ = _ => hsl9); (rw [hsl9])))
local macro_rules | `(tactic| walk_at "compareOp NotIn str str") => `(tactic| (k_here; with_reducible refine notIn_lit ?_))
local macro_rules | `(tactic| walk_at "call builtin:str.replace") => `(tactic| (k_here; k_dflt (refine' rep_qK ?hh ?d ?u ?F ?N ?_; (case hh => rfl); (case d => (simp only [depth_deeper, depth_in1]; omega)); (case u => (simp only [units_under_make, units_in1, units_deeper]; omega)); (case F => k_asm); (case N => k_asm); k_whole); intro t' h' tk' F' N'))
local macro_rules | `(tactic| walk_at "getMethod ref") => `(tactic| (k_here; (with_reducible show wpAny _ _ (getMethod (Value.ref 80) _ _) _ _ _); k_dflt (refine' gm_sub ?F ?X ?_; (case F => k_asm); (case X => assumption); k_whole)))
local macro_rules | `(tactic| walk_at "call builtin:re.Pattern.sub") => `(tactic| (k_here; k_dflt (refine' sub_qK ?hh ?d ?u ?F ?N ?X ?f ?_; (case hh => rfl); (case d => (simp only [depth_deeper, depth_in1]; omega)); (case u => (simp only [units_under_make, units_in1, units_deeper]; omega)); (case F => k_asm); (case N => k_asm); (case X => assumption); (case f => k_mem); k_whole); intro t' h' tk' F' N'))
local macro_rules | `(tactic| walk_at "compareOp NotEq str str") => `(tactic| (k_here; k_dflt (refine' cmpNe_of ?e ?_; (case e => assumption); k_whole); (try dsimp only [Bool.not_true, Bool.not_false])))
local macro_rules | `(tactic| walk_at "compareOp Eq str str") => `(tactic| (k_here; k_dflt (refine' cmpEq_of ?e ?_; (case e => assumption); k_whole)))
theorem esc_callK {news : List (Addr × Obj)} {c : Nat} {x : Str} {t : Tok} (B : Below A₀ base outer h₀) (F : Fr h₀ L s.heap m) (N : News h₀ L s.heap news) (X : (Mine.hd.heap_1 w.params).In h₀) (T : Top topProg loose mean mg mb h₀) (hf : env.frame = some L) (hke : env.scope.kind = .function)
    (hx : x = ⟨#[c]⟩) (hc : c ∈ plainC) (hdp : dp ≤ 470) (hun : un ≤ 2600)
    (hQ : ∀ t' h' tk', Fr h₀ L h' m → News h₀ L h' news → Q (.str (escOf c) t') { s with heap := h', toks := tk' }) :
    wpAny (model PySem.Challenge.rw_ik0031_01.row.prog w) { handled := none, depth := dp, frames := some (env :: outer), guards := gd, units := un } (PySem.call (.ref 92) [.str x t]) Q E s := by
  subst hx
  exact esc_call B F X T hf hke hc hdp hun fun t' h' tk' k => hQ t' h' tk' (Keeps.fr F k) (Keeps.news N k)
local macro_rules | `(tactic| walk_at "call ref") => `(tactic| (k_here; (with_reducible show wpAny _ _ (PySem.call (Value.ref 92) [Value.str _ _]) _ _ _); k_dflt (refine' esc_callK ?B ?F ?N ?X ?T ?f ?ke ?hx ?hc ?d ?u ?_; (case B => assumption); (case F => k_asm); (case N => k_asm); (case X => assumption); (case T => assumption); (case f => rfl); (case ke => rfl); (case hx => assumption); (case hc => assumption); (case d => (dsimp only; omega)); (case u => (dsimp only; omega)); k_whole); intro t' h' tk' F' N'))
local macro_rules | `(tactic| walk_at "call ref") => `(tactic| (k_here; (with_reducible show wpAny _ _ (PySem.call (Value.ref _) [_]) _ _ _); k_dflt (refine' call_bmK ?k1 ?k2 ?kq ?k3 ?z ?_; (case k1 => k_asm); (case k2 => k_asm); (case kq => k_mem); (case k3 => k_upd); (case z => first | assumption | omega); k_whole); intro h' F' N'))
inductive Good : List Nat → Prop
  | nil : Good []
  | q {r : List Nat} : Good r → Good (63 :: r)
  | ch {c : Nat} {r : List Nat} : c ∈ plainC → Good r → Good (c :: r)
  | br {r : List Nat} : Good r → Good (91 :: 63 :: 93 :: r)
def parts : List Nat → List Str
  | 91 :: 63 :: 93 :: r => Str.ofString "[?]" :: parts r
  | 63 :: r => Str.ofString "any" :: parts r
  | c :: r => escOf c :: parts r
  | [] => []
theorem parts_ch {c : Nat} {r : List Nat} (h : c ∈ plainC) : parts (c :: r) = escOf c :: parts r := by
  unfold plainC at h
  simp only [List.mem_cons, List.not_mem_nil, or_false] at h
  rcases h with rfl | rfl | rfl | rfl | rfl | rfl | rfl | rfl | rfl | rfl | rfl | rfl | rfl <;> rfl
theorem item_eq {p : Str} {j c : Nat} (h : p.cps[j]? = some c) : Txt.item p (j : Int) = ⟨#[c]⟩ := item_meets (Int.natCast_nonneg j) (by simpa using h)
theorem plain_ne {c : Nat} (h : c ∈ plainC) : ((⟨#[c]⟩ : Str) == Str.ofString "*") = false ∧ ((⟨#[c]⟩ : Str) == Str.ofString "?") = false ∧ ((⟨#[c]⟩ : Str) == Str.ofString "[") = false := by
  unfold plainC at h
  simp only [List.mem_cons, List.not_mem_nil, or_false] at h
  rcases h with rfl | rfl | rfl | rfl | rfl | rfl | rfl | rfl | rfl | rfl | rfl | rfl | rfl <;> exact ⟨by decide, by decide, by decide⟩
theorem q_is : ((⟨#[63]⟩ : Str) == Str.ofString "*") = false ∧ ((⟨#[63]⟩ : Str) == Str.ofString "?") = true := ⟨by decide, by decide⟩
theorem br_is : ((⟨#[91]⟩ : Str) == Str.ofString "*") = false ∧ ((⟨#[91]⟩ : Str) == Str.ofString "?") = false ∧ ((⟨#[91]⟩ : Str) == Str.ofString "[") = true := ⟨by decide, by decide, by decide⟩
theorem br_str : (Str.empty ++ Str.ofString "[" ++ Str.ofString "?" ++ Str.ofString "]") = Str.ofString "[?]" := by decide +kernel
theorem code_hd {P : Params} {g : Heap} (X : (Mine.hd.heap_1 P).In g) : CodeHd g 98 94 := ⟨_, _, _, _, _, _, _, _, _, X _ _ rfl, rfl, rfl, rfl, rfl, rfl, rfl, rfl, rfl, by decide⟩
theorem T_push {vs : List Value} {k j j' : Nat} {out rest whole : List Str} {x : Str} {t : Tok} {a b l : Addr} {o ob : Obj} {ps : Array Value} (hps : TabOk ps) (hvl : vs.length ≤ j) (hjj : j < j') (hvs : StrsAre vs out) (hout : out ++ x :: rest = whole) :
    ∃ (vs' : List Value) (k' : Nat) (out' : List Str) (ps' : Array Value), [(a, o), (b, ob), (l, listOf (vs.toArray.push (.str x t)) (k + 1)), ((94 : Addr), tabObj ps)] = [(a, o), (b, ob), (l, listOf vs'.toArray k'), (94, tabObj ps')] ∧ TabOk ps' ∧ vs'.length ≤ j' ∧ StrsAre vs' out' ∧ out' ++ rest = whole :=
  ⟨vs ++ [.str x t], k + 1, out ++ [x], ps, by simp, hps, by simp; omega, hvs.append' (.cons _ _ .nil), by rw [List.append_assoc]; exact hout⟩
theorem drop_items {p : Str} {j c : Nat} {r : List Nat} (h : p.cps.toList.drop j = c :: r) : p.cps[j]? = some c ∧ j < p.length ∧ p.cps.toList.drop (j + 1) = r := by
  have h0 : p.cps.toList[j]? = some c := by
    have := congrArg (·[0]?) h
    simpa using this
  have h1 : p.cps[j]? = some c := by simpa using h0
  refine ⟨h1, (Array.getElem?_eq_some_iff.mp h1).1, ?_⟩
  have := congrArg (List.drop 1) h
  simpa using this
abbrev tStored : List Str := [Str.ofString "i", Str.ofString "c", Str.ofString "j", Str.ofString "stuff"]
set_option maxHeartbeats 8000000 in
theorem trans_call (p : Str) (pt st qt : Tok) (ps : Array Value) (hps : TabOk ps) (B : Below A₀ base outer h₀) (F : Fr h₀ L s.heap m) (N : News h₀ L s.heap [(94, tabObj ps)]) (X : (Mine.hd.heap_1 w.params).In h₀) (T : Top topProg loose mean mg mb h₀) (hf : env.frame = some L) (hke : env.scope.kind = .function)
    (hgood : Good p.cps.toList) (hlen : p.length < 100) (hdp : dp ≤ 460) (hun : un ≤ 2500)
    (hQ : ∀ S (vs : List Value) c ps' h' tk', h'.get? S = some (listOf vs.toArray c) → StrsAre vs (parts p.cps.toList) → vs.length ≤ p.length → (∀ b o, s.heap.get? b = some o → b ≠ 94 → h'.get? b = some o) → h'.get? 94 = some (tabObj ps') → TabOk ps' → s.heap.get? S = none → Q (.ref S) { s with heap := h', toks := tk' }) :
    wpAny (model PySem.Challenge.rw_ik0031_01.row.prog w) { handled := none, depth := dp, frames := some (env :: outer), guards := gd, units := un } (PySem.call (.ref 99) [.str p pt, .str (Str.ofString "many") st, .str (Str.ofString "any") qt]) Q E s := by
  w_top off
  refine wpAny_noRaise ?_
  revert X; k_fill; intro X
  refine enter_defQ B F X N T rfl hf hke (by k_is) (by k_is) (by show dp < 1000; omega) (BindsTo.of_eq rfl) (locs rfl) ?_ (by decide) rfl rfl rfl
  intro L' h' F' N' B' X' T' lt
  generalize hg2 : hidG s [(94, tabObj ps)] = g2 at *
  clear B F X T hf
  refine wpAny_noRaise ?_
  have hrl : recursionLimit = 1000 := rfl
  have hcl : cLine = 9900 := rfl
  (try dsimp only)
  (try k_fold)
  k_steps
  refine (?_ : wpAny _ _ _ _ _ _)
  (with_reducible rename Fr _ _ _ _ => FF)
  (with_reducible rename News _ _ _ _ => NN)
  refine while_H tStored (by passes_own) FF NN (fun (j : Nat) u n' => j ≤ p.length ∧ (∃ ti, u (Str.ofString "i") = some (.int (j : Int) ti)) ∧ Good (p.cps.toList.drop j) ∧ ∃ (vs : List Value) (k : Nat) (out : List Str) (ps : Array Value), n' = [(_, _), (_, bm "list.append" _), (_, listOf vs.toArray k), (94, tabObj ps)] ∧ TabOk ps ∧ vs.length ≤ j ∧ StrsAre vs out ∧ out ++ parts (p.cps.toList.drop j) = parts p.cps.toList) (fun j => p.length - j) 0 ⟨Nat.zero_le _, ⟨_, rfl⟩, hgood, [], 0, [], ps, rfl, hps, Nat.le_refl _, .nil, rfl⟩ ?_
  clear FF NN
  rintro j h tk u n' ⟨hj, ⟨ti, hui⟩, hgd, vs, k, out, ps₁, rfl, hps₁, hvl, hvs, hout⟩ F₁ N₁ W Z hW hZ
  replace F₁ := frAt F₁ (by decide) hui
  by_cases hlt : j < p.length
  · have hsz : vs.toArray.size ≤ 1000 := by simp; omega
    obtain ⟨c, hc⟩ : ∃ c, p.cps[j]? = some c := ⟨_, Array.getElem?_eq_getElem hlt⟩
    have hitem := item_eq hc
    have hdrop : p.cps.toList.drop j = c :: p.cps.toList.drop (j + 1) := by
      have hl : j < p.cps.toList.length := by have : j < p.cps.size := hlt; simpa using this
      rw [List.drop_eq_getElem_cons hl]
      have h2 : p.cps.toList[j] = c := by
        have := (Array.getElem?_eq_some_iff.mp hc).2
        simpa using this
      rw [h2]
    rw [hdrop] at hgd hout
    generalize hrest : p.cps.toList.drop (j + 1) = rest at *
    cases hgd with
    | q hr =>
      have q1 : (Txt.item p (j : Int) == Str.ofString "*") = false := by rw [hitem]; exact q_is.1
      have q2 : (Txt.item p (j : Int) == Str.ofString "?") = true := by rw [hitem]; exact q_is.2
      k_steps
      (with_reducible rename Fr _ _ _ _ => FF)
      (with_reducible rename News _ _ _ _ => NN)
      refine hW _ _ (EndW.next FF NN ?_ (j + 1) ⟨by omega, ⟨_, rfl⟩, hrest ▸ hr, T_push hps₁ hvl (Nat.lt_succ_self _) hvs (by rw [hrest]; exact hout)⟩ (by omega))
      intro y hy
      have h1 : y ≠ Str.ofString "c" := fun e => by rw [e] at hy; exact absurd hy (by decide)
      have h2 : y ≠ Str.ofString "i" := fun e => by rw [e] at hy; exact absurd hy (by decide)
      simp only [if_neg h1, if_neg h2, hy, Bool.false_eq_true, if_false]
      (try rfl)
    | @ch _ _ hpc hr =>
      have q1 : (Txt.item p (j : Int) == Str.ofString "*") = false := by rw [hitem]; exact (plain_ne hpc).1
      have q2 : (Txt.item p (j : Int) == Str.ofString "?") = false := by rw [hitem]; exact (plain_ne hpc).2.1
      have q3 : (Txt.item p (j : Int) == Str.ofString "[") = false := by rw [hitem]; exact (plain_ne hpc).2.2
      k_steps
      (with_reducible rename Fr _ _ _ _ => FF)
      (with_reducible rename News _ _ _ _ => NN)
      refine hW _ _ (EndW.next FF NN ?_ (j + 1) ⟨by omega, ⟨_, rfl⟩, hrest ▸ hr, T_push hps₁ hvl (Nat.lt_succ_self _) hvs (by rw [hrest, ← parts_ch hpc]; exact hout)⟩ (by omega))
      intro y hy
      have h1 : y ≠ Str.ofString "c" := fun e => by rw [e] at hy; exact absurd hy (by decide)
      have h2 : y ≠ Str.ofString "i" := fun e => by rw [e] at hy; exact absurd hy (by decide)
      simp only [if_neg h1, if_neg h2, hy, Bool.false_eq_true, if_false]
      (try rfl)
    | @br r hr =>
      have q1 : (Txt.item p (j : Int) == Str.ofString "*") = false := by rw [hitem]; exact br_is.1
      have q2 : (Txt.item p (j : Int) == Str.ofString "?") = false := by rw [hitem]; exact br_is.2.1
      have q3 : (Txt.item p (j : Int) == Str.ofString "[") = true := by rw [hitem]; exact br_is.2.2
      obtain ⟨i1, l1, d1⟩ := drop_items hrest
      obtain ⟨i2, l2, d2⟩ := drop_items d1
      have t1 : Txt.item p ((j : Int) + 1) = ⟨#[63]⟩ := item_eq i1
      have q4 : (Txt.item p ((j : Int) + 1) == Str.ofString "!") = false := by rw [t1]; decide
      have q5 : (Txt.item p ((j : Int) + 1) == Str.ofString "]") = false := by rw [t1]; decide
      k_steps
      refine (?_ : wpAny _ _ _ _ _ _)
      (with_reducible rename Fr _ _ _ _ => FF)
      (with_reducible rename News _ _ _ _ => NN)
      refine while_H [Str.ofString "j"] (by passes_own) FF NN (fun (x : Nat) u n' => x ≤ 1 ∧ (∃ tj, u (Str.ofString "j") = some (.int ((j : Int) + 1 + (x : Int)) tj)) ∧ n' = _) (fun x => 2 - x) 0 ⟨Nat.zero_le _, ⟨_, rfl⟩, rfl⟩ ?_
      clear FF NN
      rintro x h₂ tk₂ u₂ n' ⟨hx, ⟨tj, huj⟩, rfl⟩ F₂ N₂ W2 Z2 hW2 hZ2
      replace F₂ := frAt F₂ (by decide) huj
      rcases Nat.lt_or_ge x 1 with hx0 | hx1
      · obtain rfl : x = 0 := by omega
        replace F₂ : Fr _ _ _ (fun y => if y = Str.ofString "j" then some (.int ((j : Int) + 1) tj) else _) := F₂
        k_steps
        (with_reducible rename Fr _ _ _ _ => FF)
        (with_reducible rename News _ _ _ _ => NN)
        refine hW2 _ _ (EndW.next FF NN ?_ 1 ⟨Nat.le_refl _, ⟨_, rfl⟩, rfl⟩ (by decide))
        intro y hy
        have h1 : y ≠ Str.ofString "j" := fun e => by rw [e] at hy; exact absurd hy (by decide)
        simp only [if_neg h1, hy, Bool.false_eq_true, if_false]
        (try rfl)
      · obtain rfl : x = 1 := by omega
        replace F₂ : Fr _ _ _ (fun y => if y = Str.ofString "j" then some (.int ((j : Int) + 1 + 1) tj) else _) := F₂
        have hslc : Txt.slice p (some ((j : Int) + 1)) (some ((j : Int) + 1 + 1)) = Str.ofString "?" := by
          have hlen' : j + 1 + 1 < p.cps.toList.length := by have : j + 1 + 1 < p.cps.size := l2; simpa using this
          rw [eq_of_beq (slice_closes (x := p) (i := (j : Int) + 1) (j := (j : Int) + 1 + 1) ⟨by omega, by omega, by omega⟩), show ((j : Int) + 1).toNat = j + 1 by omega, show (((j : Int) + 1 + 1) - ((j : Int) + 1)).toNat = 1 by omega, hrest]
          rfl
        have q6 : (Txt.item p ((j : Int) + 1 + 1) == Str.ofString "]") = true := by rw [show Txt.item p ((j : Int) + 1 + 1) = ⟨#[93]⟩ from item_eq i2]; decide
        have hcodehd := code_hd X'
        k_steps
        refine hZ2 _ _ ?_
        (try dsimp only)
        rcases hps₁ with rfl | ⟨c9, rfl⟩
        · k_steps
          (with_reducible rename Fr _ _ _ _ => FF)
          (with_reducible rename News _ _ _ _ => NN)
          refine hW _ _ (EndW.next FF (fun p hp => NN p (.tail _ (.tail _ (.tail _ hp)))) ?_ (j + 3) ⟨by omega, ⟨_, rfl⟩, d2 ▸ hr, T_push (.inr ⟨_, rfl⟩) hvl (by omega) hvs (by rw [d2, br_str]; exact hout)⟩ (by omega))
          intro y hy
          have h1 : y ≠ Str.ofString "c" := fun e => by rw [e] at hy; exact absurd hy (by decide)
          have h2 : y ≠ Str.ofString "i" := fun e => by rw [e] at hy; exact absurd hy (by decide)
          have h3 : y ≠ Str.ofString "j" := fun e => by rw [e] at hy; exact absurd hy (by decide)
          have h4 : y ≠ Str.ofString "stuff" := fun e => by rw [e] at hy; exact absurd hy (by decide)
          have h5 : ([Str.ofString "j"] : List Str).contains y = false := by simp [h3]
          simp only [if_neg h1, if_neg h2, if_neg h3, if_neg h4, h5, hy, Bool.false_eq_true, if_false]
          (try rfl)
        · k_steps
          (with_reducible rename Fr _ _ _ _ => FF)
          (with_reducible rename News _ _ _ _ => NN)
          refine hW _ _ (EndW.next FF (fun p hp => NN p (.tail _ (.tail _ hp))) ?_ (j + 3) ⟨by omega, ⟨_, rfl⟩, d2 ▸ hr, T_push (.inr ⟨_, rfl⟩) hvl (by omega) hvs (by rw [d2, br_str]; exact hout)⟩ (by omega))
          intro y hy
          have h1 : y ≠ Str.ofString "c" := fun e => by rw [e] at hy; exact absurd hy (by decide)
          have h2 : y ≠ Str.ofString "i" := fun e => by rw [e] at hy; exact absurd hy (by decide)
          have h3 : y ≠ Str.ofString "j" := fun e => by rw [e] at hy; exact absurd hy (by decide)
          have h4 : y ≠ Str.ofString "stuff" := fun e => by rw [e] at hy; exact absurd hy (by decide)
          have h5 : ([Str.ofString "j"] : List Str).contains y = false := by simp [h3]
          simp only [if_neg h1, if_neg h2, if_neg h3, if_neg h4, h5, hy, Bool.false_eq_true, if_false]
          (try rfl)
  · have hje : j = p.length := by omega
    subst hje
    k_steps
    refine hZ _ _ ?_
    (try dsimp only)
    k_steps
    (with_reducible rename Fr _ _ _ _ => FF)
    (with_reducible rename News _ _ _ _ => NN)
    refine (?_ : Q (.ref _) _)
    have hl := NN _ (.tail _ (.tail _ (.head _)))
    have hsn : ∀ b : Addr, b ≠ 94 → g2.get? b = none → s.heap.get? b = none := fun b hb e => by
      cases q : s.heap.get? b with
      | none => rfl
      | some o =>
        have := hideAll_get [(94 : Addr)] q (fun hm => hb (List.mem_singleton.mp hm))
        rw [← hg2] at e
        simp only [hidG, List.map_cons, List.map_nil] at e
        rw [this] at e; cases e
    rw [List.drop_of_length_le (Nat.le_of_eq (by simp [Str.length]))] at hout
    refine hQ _ vs k ps₁ _ _ hl.1 (by rw [← hout, parts, List.append_nil]; exact hvs) hvl (fun b o e hb => FF.keep b o ?_) (NN _ (.tail _ (.tail _ (.tail _ (.head _))))).1 hps₁ (hsn _ ?_ hl.2.2)
    · rw [← hg2]
      exact hideAll_get _ e fun hm => hb (List.mem_singleton.mp hm)
    · intro e
      have h94 := (NN _ (.tail _ (.tail _ (.tail _ (.head _))))).1
      have h95 := hl.1
      dsimp only at h94 h95
      rw [e, h94] at h95
      cases h95
end Mine
end
section
open PySem PySem.W PySem.Spec PySem.Calls PyProof.Rows
set_option Elab.async false
set_option linter.unusedVariables false
set_option maxRecDepth 100000
namespace Mine
local macro_rules | `(tactic| walk_at "execs cons") => `(tactic| (k_here; (with_reducible show wpAny _ _ _ _ _ (Shared.mk _ _ _ (_ + 1) _)); refine gen_toks ?_; intro tk))
local macro_rules | `(tactic| walk_at "execs nil") => `(tactic| (k_here; (with_reducible show wpAny _ _ _ _ _ (Shared.mk _ _ _ (_ + 1) _)); refine gen_toks ?_; intro tk))
local macro_rules | `(tactic| k_room) => `(tactic| ktr_room)
local macro_rules | `(tactic| k_units) => `(tactic| ktr_units)
variable {w : World} {loose : List Str} {mean : ExcName → Option Value} {mg mb : Str → Option Value} {dp un : Nat} {gd : Option (List Code)} {env : Env} {outer : List Env} {A₀ : Around} {base h₀ : Heap} {L : Addr} {m : Str → Option Value} {s : Shared} {Q E : Value → Shared → Prop}
local macro_rules | `(tactic| walk_at "exec For Name Name cons nil") => `(tactic| (k_here; (with_reducible rename Fr _ _ _ _ => lF'); (with_unfolding_all refine' For_turns lF' ?_; k_whole)))
local macro_rules | `(tactic| walk_at "exec Assign cons ListComp") => `(tactic| (k_here; (with_reducible refine LCt.Assign_ListComp_T (F₀ := by k_asm) (by rfl) (by with_unfolding_all rfl) (by with_unfolding_all rfl) (by decide) (by rfl) (by decide) (by rfl) (by rfl) (by rfl) ?_); k_dflt lct_toSrc))
local macro_rules | `(tactic| walk_at "CompSrcT") => `(tactic| (refine Stop.mk ?_))
theorem trans_callK {p : Str} {pt st qt : Tok} {ps : Array Value} {news : List (Addr × Obj)} {g : Obj → List (Addr × Obj)} (B : Below A₀ base outer h₀) (F : Fr h₀ L s.heap m) (N : News h₀ L s.heap news) (X : (Mine.hd.heap_1 w.params).In h₀) (T : Top topProg loose mean mg mb h₀) (hf : env.frame = some L) (hke : env.scope.kind = .function)
    (U : UpdF 94 (tabObj ps) news g) (hps : TabOk ps) (hgood : Good p.cps.toList) (hlen : p.length < 100) (hdp : dp ≤ 460) (hun : un ≤ 2500)
    (hQ : ∀ S (vs : List Value) c ps' h' tk', Fr h₀ L h' m → News h₀ L h' ((S, listOf vs.toArray c) :: g (tabObj ps')) → TabOk ps' → StrsAre vs (parts p.cps.toList) → vs.length ≤ p.length → (∀ q ∈ news, @Ne Nat q.1 S) → Q (.ref S) { s with heap := h', toks := tk' }) :
    wpAny (model PySem.Challenge.rw_ik0031_01.row.prog w) { handled := none, depth := dp, frames := some (env :: outer), guards := gd, units := un } (PySem.call (.ref 99) [.str p pt, .str (Str.ofString "many") st, .str (Str.ofString "any") qt]) Q E s := by
  obtain ⟨own, rest, rfl, hgr, h1, h2⟩ := U.split
  have hm := N (94, tabObj ps) (List.mem_append_right _ (.head _))
  refine trans_call p pt st qt ps hps B F (fun q hq => by rw [List.mem_singleton.mp hq]; exact hm) X T hf hke hgood hlen hdp hun fun S vs c ps' h' tk' g1 g2 g3 g4 g5 g6 g7 => ?_
  have ne : ∀ b o, s.heap.get? b = some o → b ≠ S := fun b o e q => by rw [q, g7] at e; cases e
  have h94 : ∀ b o, h₀.get? b = some o → b ≠ 94 := fun b o e q => by
    rw [q] at e; exact absurd (hm.2.2.symm.trans e) (by simp)
  obtain ⟨oL, es, ep, hL, hLr⟩ := F.ns
  refine hQ S vs c ps' h' tk' ⟨⟨oL, es, ep, g4 L oL hL (fun q => hm.2.1 q.symm), hLr⟩, fun b o e => g4 b o (F.keep b o e) (h94 b o e), F.above⟩ (fun q hq => ?_) g6 g2 g3 fun q hq => ne _ _ (N q hq).1
  rcases List.mem_cons.mp hq with rfl | hq
  · refine ⟨g1, fun q => ne _ _ hL q.symm, ?_⟩
    cases e : h₀.get? S with
    | none => rfl
    | some o => exact absurd rfl (ne _ _ (F.keep _ _ e))
  · rw [hgr] at hq
    rcases List.mem_append.mp hq with hq | hq
    · have z := N q (List.mem_append_left _ hq)
      exact ⟨g4 _ _ z.1 (h1 q hq), z.2⟩
    · rcases List.mem_cons.mp hq with rfl | hq
      · exact ⟨g5, hm.2⟩
      · have z := N q (List.mem_append_right _ (.tail _ hq))
        exact ⟨g4 _ _ z.1 (h2 q hq), z.2⟩
local macro_rules | `(tactic| walk_at "call ref") => `(tactic| (k_here; (with_reducible show wpAny _ _ (PySem.call (Value.ref 99) [Value.str _ _, Value.str _ _, Value.str _ _]) _ _ _); k_dflt (refine' trans_callK ?B ?F ?N ?X ?T ?f ?ke ?U ?ps ?g ?l ?d ?u ?_; (case B => assumption); (case F => k_asm); (case N => k_asm); (case X => assumption); (case T => assumption); (case f => rfl); (case ke => rfl); (case U => k_updF); (case ps => assumption); (case g => assumption); (case l => assumption); (case d => (dsimp only; omega)); (case u => (dsimp only; omega)); k_whole); intro S' vs' c' ps' h' tk' F' N' tok' str' len' l1; (try dsimp only at N'); (try simp only [List.forall_mem_cons] at l1)))
theorem toNat_sub0 (n : Nat) : ((n : Int) - 0).toNat = n := by omega
theorem strs_at : ∀ {vs : List Value} {ss : List Str} {i : Nat} {v : Value}, StrsAre vs ss → vs[i]? = some v → ∃ y t, v = .str y t ∧ ss[i]? = some y
  | _, _, _, _, .nil, h => by simp at h
  | _, _, 0, _, .cons y t r, h => by cases h; exact ⟨y, t, rfl, rfl⟩
  | _, _, i + 1, v, .cons y t r, h => by
    obtain ⟨y', t', e1, e2⟩ := strs_at (i := i) (v := v) r (by simpa using h)
    exact ⟨y', t', e1, by simpa using e2⟩
def condK (pl : List Str) (row : Str) (k : Int) : Bool :=
  (pl.getD k.toNat Str.empty != Str.ofString "any") && (if (Txt.item (pl.getD k.toNat Str.empty) 0 == Str.ofString "[") = true then (Builtin.Str.occurrences (pl.getD k.toNat Str.empty) (Txt.item row k) 0 (pl.getD k.toNat Str.empty).length 1).isEmpty else (Txt.item row k != Txt.item (pl.getD k.toNat Str.empty) (-1)))
theorem cndA {a c x y : Bool} (ha : a = false) : (a && (if c = true then x else y)) = false := by subst ha; rfl
theorem cndB {a c x y b : Bool} (ha : a = true) (hc : c = true) (hx : x = b) : (a && (if c = true then x else y)) = b := by subst ha hc hx; simp
theorem cndC {a c x y b : Bool} (ha : a = true) (hc : c = false) (hy : y = b) : (a && (if c = true then x else y)) = b := by subst ha hc hy; simp
def fitsB (pl : List Str) (row : Str) : Bool := decide (((List.range pl.length).map Int.ofNat).filter (condK pl row) = [])
def takenL (pl : List Str) (rows : List Str) : List Str := rows.filter (fitsB pl)
theorem item_inK {prog : Program} {A : Around} {value slice : PySem.Expr} {l : Addr} {its : Array Value} {k : Nat} {n : Nat} {u : Tok} {x : Value} {news : List (Addr × Obj)} (N : News h₀ L s.heap news) (hl : (l, listOf its n) ∈ news) (hx : its[k]? = some x) (hk : k < 1000) (h : Q x s)
    (hs : subscripted slice false (.ref l) (.int (k : Int) u) = operate [.ref l, .int (k : Int) u] (getItem (.ref l) (.int (k : Int) u)) := by with_unfolding_all rfl) :
    wpAny (model prog w) A (subscriptTail value slice (.ref l) (.int (k : Int) u)) Q E s := by
  have hl' : s.heap.IsList l its := ⟨_, N.get hl, rfl, n, rfl⟩
  exact tail_any hl'.typeIs PySem.slot_list_getitem.lookup (wpAny_getItem_list hl' (Int.natCast_nonneg k) (by omega) (by simpa using hx) h) hs
local macro_rules | `(tactic| walk_at "subscriptTail Name Name ref int") => `(tactic| (k_here; k_dflt (refine' item_inK ?N ?l ?x ?k ?_; (case N => k_asm); (case l => k_mem); (case x => assumption); (case k => omega); k_whole)))
theorem esc_len {c : Nat} : 0 < (escOf c).length ∧ (escOf c).length ≤ 3 := by
  unfold escOf
  split
  · decide
  · show 0 < 1 ∧ 1 ≤ 3
    decide
theorem parts_len : ∀ {cs : List Nat}, ∀ x ∈ parts cs, 0 < x.length ∧ x.length ≤ 3 := by
  intro cs
  induction cs using parts.induct with
  | case1 r ih =>
    intro x hx
    rw [parts] at hx
    rcases List.mem_cons.mp hx with rfl | hx
    · decide
    · exact ih x hx
  | case2 r ih =>
    intro x hx
    rw [parts] at hx
    rcases List.mem_cons.mp hx with rfl | hx
    · decide
    · exact ih x hx
  | case3 c r h1 h2 ih =>
    intro x hx
    rw [parts] at hx
    · rcases List.mem_cons.mp hx with rfl | hx
      · exact esc_len
      · exact ih x hx
    · exact h1
    · exact h2
  | case4 => intro x hx; cases hx
theorem getD_len {pl : List Str} {k : Nat} (h : ∀ x ∈ pl, 0 < x.length ∧ x.length ≤ 3) (hk : k < pl.length) : 0 < (pl.getD ((k : Int)).toNat Str.empty).length ∧ (pl.getD ((k : Int)).toNat Str.empty).length ≤ 3 := by
  rw [Int.toNat_natCast, List.getD_eq_getElem?_getD, List.getElem?_eq_getElem hk]
  exact h _ (List.getElem_mem hk)
theorem fits_push {pl rows : List Str} {i k : Nat} {vs : List Value} {r : Str} {t : Tok} {l a b c : Addr} {o1 o2 o3 o4 : Obj} {d : Addr} {cv : Option Value} (hv : StrsAre vs (takenL pl (rows.take i))) (hl : vs.length ≤ i) (hn : rows[i]? = some r) (hf : fitsB pl r = true) (hd : o2.data = .cell cv) :
    ∃ (vs' : List Value) (k' : Nat) (oR : Obj) (c' : Option Value), [(l, listOf (vs.toArray.push (.str r t)) (k + 1)), (a, o1), (b, o2), (c, o3), (d, o4)] = [(l, listOf vs'.toArray k'), (a, o1), (b, oR), (c, o3), (d, o4)] ∧ oR.data = .cell c' ∧ StrsAre vs' (takenL pl (rows.take (i + 1))) ∧ vs'.length ≤ i + 1 := by
  refine ⟨vs ++ [.str r t], k + 1, o2, cv, by simp, hd, ?_, by simp; omega⟩
  unfold takenL at hv ⊢
  rw [List.take_add_one, hn, show (some r).toList = [r] from rfl, List.filter_append, List.filter_cons_of_pos hf]
  exact hv.append' (.cons _ _ .nil)
theorem fits_skip {pl rows : List Str} {i k : Nat} {vs : List Value} {r : Str} {l a b c : Addr} {o1 o2 o3 o4 : Obj} {d : Addr} {cv : Option Value} (hv : StrsAre vs (takenL pl (rows.take i))) (hl : vs.length ≤ i) (hn : rows[i]? = some r) (hf : fitsB pl r = false) (hd : o2.data = .cell cv) :
    ∃ (vs' : List Value) (k' : Nat) (oR : Obj) (c' : Option Value), [(l, listOf vs.toArray k), (a, o1), (b, o2), (c, o3), (d, o4)] = [(l, listOf vs'.toArray k'), (a, o1), (b, oR), (c, o3), (d, o4)] ∧ oR.data = .cell c' ∧ StrsAre vs' (takenL pl (rows.take (i + 1))) ∧ vs'.length ≤ i + 1 := by
  refine ⟨vs, k, o2, cv, rfl, hd, ?_, by omega⟩
  unfold takenL at hv ⊢
  rw [List.take_add_one, hn, show (some r).toList = [r] from rfl, List.filter_append, List.filter_cons_of_neg (by rw [hf]; decide), List.filter_nil, List.append_nil]
  exact hv
set_option maxHeartbeats 8000000 in
theorem taken_call (p : Str) (pt : Tok) (lr : Addr) (vs : List Value) (n : Nat) (rows : List Str) (ps : Array Value) (hps : TabOk ps) (B : Below A₀ base outer h₀) (F : Fr h₀ L s.heap m) (N : News h₀ L s.heap [(94, tabObj ps)]) (X : (Mine.hd.heap_1 w.params).In h₀) (T : Top topProg loose mean mg mb h₀) (hf : env.frame = some L) (hke : env.scope.kind = .function)
    (e1 : s.heap.get? lr = some (listOf vs.toArray n)) (a1 : StrsAre vs rows) (hv : vs.length < 1000)
    (hgood : Good p.cps.toList) (hlen : p.length < 100) (hrl : ∀ r ∈ rows, r.length = (parts p.cps.toList).length) (hdp : dp ≤ 450) (hun : un ≤ 2400)
    (hQ : ∀ S (vs : List Value) c ps' h' tk', h'.get? S = some (listOf vs.toArray c) → StrsAre vs (takenL (parts p.cps.toList) rows) → vs.length ≤ rows.length → (∀ b o, s.heap.get? b = some o → b ≠ 94 → h'.get? b = some o) → h'.get? 94 = some (tabObj ps') → TabOk ps' → s.heap.get? S = none → Q (.ref S) { s with heap := h', toks := tk' }) :
    wpAny (model PySem.Challenge.rw_ik0031_01.row.prog w) { handled := none, depth := dp, frames := some (env :: outer), guards := gd, units := un } (PySem.call (.ref 156) [.str p pt, .ref lr]) Q E s := by
  w_top off
  refine wpAny_noRaise ?_
  revert X; k_fill; intro X
  refine enter_defCQ B F X N T rfl hf hke (by k_is) (by k_is) (by show dp < 1000; omega) (BindsTo.of_eq rfl) rfl (by decide +kernel) ?_ rfl rfl rfl
  intro L' h' tk' cells' F' N' Y' B' X' T' lt
  have hlr94 : lr ≠ 94 := fun e => by
    rw [e, (N _ (.head _)).1] at e1; cases e1
  have e1' : (hidG s [(94, tabObj ps)]).get? lr = some (listOf vs.toArray n) := hideAll_get _ e1 fun hm => hlr94 (List.mem_singleton.mp hm)
  generalize hg2 : hidG s [(94, tabObj ps)] = g2 at *
  clear B F X T hf
  k_cells Y'
  (try simp only [List.cons_append, List.nil_append] at N')
  have lt94 : @LT.lt Nat _ 94 L' := lt _ (.head _)
  refine wpAny_noRaise ?_
  have hrlim : recursionLimit = 1000 := rfl
  have hcl : cLine = 9900 := rfl
  (try dsimp only)
  (try k_lift B')
  (try k_fold)
  k_steps
  (with_reducible rename Fr _ _ _ _ => FF)
  (with_reducible rename News _ _ _ _ => NN)
  (with_reducible rename StrsAre _ (parts _) => hpa)
  (with_reducible rename List Value => vsP)
  (with_reducible rename _ ∧ _ ∧ @Ne Nat _ _ ∧ _ => lS)
  have hpl : vsP.length = (parts p.cps.toList).length := hpa.length
  have hpl2 : (parts p.cps.toList).length < 100 := by omega
  have hplen := parts_len (cs := p.cps.toList)
  generalize hpq : parts p.cps.toList = pl at *
  refine iter_itemsS [Str.ofString "fits"] rfl FF NN ⟨_, e1', rfl, n, rfl⟩ (fun i n' => ∃ (vsT : List Value) (k : Nat) (oR : Obj) (c : Option Value), n' = [(_, listOf vsT.toArray k), (_, _), (_, oR), (_, _), (94, _)] ∧ oR.data = .cell c ∧ StrsAre vsT (takenL pl (rows.take i)) ∧ vsT.length ≤ i) ⟨[], 0, _, _, rfl, by assumption, .nil, Nat.le_refl _⟩ ?_ ?_
  · rintro i x u news₁ I it h₁ tk₁ hx ⟨vsT, k, oR, c, rfl, hoR, hvs, hvl⟩ c1 off F₁ N₁
    obtain ⟨r, tr, rfl, hr⟩ := strs_at a1 hx
    clear FF NN
    have hrlen : r.length = pl.length := hrl r (List.mem_of_getElem? hr)
    have hi : i < vs.length := (List.getElem?_eq_some_iff.mp hx).1
    have hsz : vsT.toArray.size < 1000 := by simp; omega
    have o1 : @Ne Nat _ _ := off _ (.head _)
    have o2 : @Ne Nat _ _ := off _ (.tail _ (.head _))
    have o3 : @Ne Nat _ _ := off _ (.tail _ (.tail _ (.head _)))
    have o4 : @Ne Nat _ _ := off _ (.tail _ (.tail _ (.tail _ (.head _))))
    have o5 : @Ne Nat _ _ := off _ (.tail _ (.tail _ (.tail _ (.tail _ (.head _)))))
    dsimp only at o1 o2 o3 o4 o5
    k_steps
    refine (?_ : LCt.CompSrcT _ _ _ _ _ _ _ _ _ _ _ _ _ _ _)
    (with_reducible rename IsRange _ _ _ _ _ _ _ _ => hrg)
    refine LCt.CompSrcT.range (by rfl) (by k_asm) (by k_asm) hrg ?_ (by first | exact rangeSize_nat _ _ | rfl) ?_ ?_
    · exact small_one (by omega) (by omega) (by omega) (by omega)
    · rw [sizeLine_eq]; omega
    intro g'
    refine comp_range rfl (condK pl r) (fun k' t' I' oI' C' oC' D' m' ys' h' tk' E' hk' hC' hx' F' N' off' ne' => ?_) (fun ys hys => ?_)
    · have hk2 : k' < pl.length := by omega
      obtain ⟨hq1, hq2⟩ := getD_len hplen hk2
      k_steps
      all_goals
        (with_reducible rename Fr _ _ _ _ => FF)
        (with_reducible rename News _ _ _ _ => NN)
        first
        | exact LCg.CompEnd.intro FF NN _ (fun p hp => hp) off' True.intro ⟨by first | exact cndB (by assumption) (by assumption) (by assumption) | exact cndC (by assumption) (by assumption) (by assumption), rfl, rfl⟩
        | exact LCg.CompEnd.intro FF NN _ (fun p hp => hp) off' True.intro ⟨by first | exact cndA (by assumption) | exact cndB (by assumption) (by assumption) (by assumption) | exact cndC (by assumption) (by assumption) (by assumption), rfl⟩
    · k_steps
      all_goals
        (with_reducible rename Fr _ _ _ _ => FF)
        (with_reducible rename News _ _ _ _ => NN)
      · (with_reducible rename decide _ = _ => hfl)
        (with_reducible rename StrsAre _ (takenL _ _) => hvs)
        rw [toNat_sub0] at hfl
        refine EndT.next FF NN [_, _, _, _, _] (fun p hp => .tail _ (.tail _ hp)) ?_ ⟨?_, fits_push hvs hvl hr hfl (by assumption)⟩
        · simp only [List.forall_mem_cons]; exact ⟨o1, o2, o3, o4, o5, fun _ h => nomatch h⟩
        · intro y hy
          have h1 : y ≠ Str.ofString "fits" := fun e => by rw [e] at hy; exact absurd hy (by decide)
          simp only [if_neg h1, hy, Bool.false_eq_true, if_false]
          (try rfl)
      · (with_reducible rename decide _ = _ => hfl)
        (with_reducible rename StrsAre _ (takenL _ _) => hvs)
        rw [toNat_sub0] at hfl
        refine EndT.next FF NN [_, _, _, _, _] (fun p hp => .tail _ (.tail _ hp)) ?_ ⟨?_, fits_skip hvs hvl hr hfl (by assumption)⟩
        · simp only [List.forall_mem_cons]; exact ⟨o1, o2, o3, o4, o5, fun _ h => nomatch h⟩
        · intro y hy
          have h1 : y ≠ Str.ofString "fits" := fun e => by rw [e] at hy; exact absurd hy (by decide)
          simp only [if_neg h1, hy, Bool.false_eq_true, if_false]
          (try rfl)
      · exfalso; omega
  · rintro h₂ tk₂ u2 news₂ F₂ N₂ ⟨vsT, k, oR, c, rfl, hoR, hvs, hvl⟩
    clear FF NN
    k_steps
    (with_reducible rename Fr _ _ _ _ => FF)
    (with_reducible rename News _ _ _ _ => NN)
    refine (?_ : Q (.ref _) _)
    have hl := NN _ (.head _)
    have h94 := (NN _ (.tail _ (.tail _ (.tail _ (.tail _ (.head _)))))).1
    have hsn : ∀ b : Addr, b ≠ 94 → g2.get? b = none → s.heap.get? b = none := fun b hb e => by
      cases q : s.heap.get? b with
      | none => rfl
      | some o =>
        have := hideAll_get [(94 : Addr)] q (fun hm => hb (List.mem_singleton.mp hm))
        rw [← hg2] at e
        simp only [hidG, List.map_cons, List.map_nil] at e
        rw [this] at e; cases e
    rw [show rows.take vs.length = rows by rw [a1.length]; exact List.take_length] at hvs
    refine hQ _ vsT k _ _ _ hl.1 hvs (by rw [← a1.length]; exact hvl) (fun b o e hb => FF.keep b o ?_) h94 (by assumption) (hsn _ ?_ hl.2.2)
    · rw [← hg2]
      exact hideAll_get _ e fun hm => hb (List.mem_singleton.mp hm)
    · intro e
      have h95 := hl.1
      dsimp only at h94 h95
      rw [e, h94] at h95
      cases h95
end Mine
end
section
open PySem PySem.W PySem.Spec PySem.Calls PyProof.Rows
set_option Elab.async false
set_option linter.unusedVariables false
set_option maxRecDepth 100000
namespace Mine
section
variable {prog : Program} {w : World} {A : Around} {E : Value → Shared → Prop} {s : Shared} {h₀ : Heap} {L : Addr} {m : Str → Option Value} {news : List (Addr × Obj)} {Q : Value → Shared → Prop}
theorem iadd_list {l b : Addr} {its its2 : Array Value} {n n2 : Nat} (hl : s.heap.get? l = some (listOf its n)) (hb : s.heap.get? b = some (listOf its2 n2)) (h1 : its.size ≤ 1000000) (h2 : its2.size ≤ 1000000)
    (h : ∀ h' c, Heap.SameBut l s.heap h' → h'.get? l = some (listOf (its ++ its2) c) → Q (.ref l) { s with heap := h' }) : wpAny (model prog w) A (inplaceOp .Add (.ref l) (.ref b)) Q E s := by
  have ha : s.TypeIs (.ref l) "list" := ⟨_, hl, rfl⟩
  have hb' : s.TypeIs (.ref b) "list" := ⟨_, hb, rfl⟩
  unfold inplaceOp
  refine wpAny_holding ?_
  have hlk := PySem.F.slot_list_iadd.lookup
  have hfi : fillsInplaceSlot (.type "list") "add" (Operator.Add == .Add) = pure false := by
    unfold fillsInplaceSlot
    show (typeLookup (.type "list") (dunderI "add") >>= fun fi => pure (fi.isSome && !isSeqSlot fi)) = pure false
    rw [hlk]
    rw [pure_bind]
    rw [show (Option.isSome (some (Value.builtin "list.__iadd__")) && !isSeqSlot (some (.builtin "list.__iadd__"))) = false by decide +kernel]
  have hsi : seqSlot? (.type "list") (dunderI "add") = pure (some (.builtin "list.__iadd__")) := PySem.seqSlot_of hlk (by decide +kernel)
  refine wpAny_bind (wpAny_typeOf ha (wpAny_bind (wpAny_of_eq hfi ?_)))
  show wpAny _ A (if false = true then _ else _) Q E s
  rw [if_neg Bool.false_ne_true]
  refine wpAny_bind (wpAny_binaryOp1_none (nm := "add") ha hb' noFill_list_add ?_)
  refine wpAny_bind (wpAny_of_eq hsi ?_)
  refine wpAny_bind (wpAny_rule ?_)
  have hlong : ¬(!its.isEmpty && Builtin.List.listTooLong (its.size + its2.size)) = true := by
    have : Builtin.List.listTooLong (its.size + its2.size) = false := by
      unfold Builtin.List.listTooLong
      first | (exact decide_eq_false (by rw [sizeLine_eq]; omega)) | (simp [sizeLine_eq]; omega)
    rw [this]; simp
  refine call_meets PySem.F.slot_list_iadd ha PySem.F.entry_list_iadd (PySem.F.args_list_iadd_2 _ _) (PySem.AutoSeq1.list___iadd___list_list_0 l its n b its2 n2 hlong (by rw [sizeLine_eq]; omega) (by rw [sizeLine_eq]; omega)) ⟨hl, hb, ?_⟩
  obtain ⟨c, hc⟩ : ∃ c, (s.heap.update l (Obj.mapSeq fun x => x ++ its2)).get? l = some (listOf (its ++ its2) c) := ⟨_, Heap.get?_update_self _ hl rfl⟩
  exact h _ c (Heap.SameBut.update ..) hc
theorem iaddK {l b : Addr} {its its2 : Array Value} {n n2 : Nat} {g : Obj → List (Addr × Obj)} (F : Fr h₀ L s.heap m) (N : News h₀ L s.heap news) (U : UpdF l (listOf its n) news g) (hb : (b, listOf its2 n2) ∈ news) (h1 : its.size ≤ 1000000) (h2 : its2.size ≤ 1000000)
    (h : ∀ h' c, Fr h₀ L h' m → News h₀ L h' (g (listOf (its ++ its2) c)) → Q (.ref l) { s with heap := h' }) : wpAny (model prog w) A (inplaceOp .Add (.ref l) (.ref b)) Q E s := by
  obtain ⟨pre, post, rfl, hgr, a1, a2⟩ := U.split
  have hl := N (l, listOf its n) (List.mem_append_right _ (.head _))
  refine iadd_list hl.1 (N.get hb) h1 h2 fun h' c hs hl' => h h' c (F.change hs hl.2.1 hl.2.2) fun p hp => ?_
  rw [hgr] at hp
  rcases List.mem_append.mp hp with hp | hp
  · have z := N p (List.mem_append_left _ hp)
    exact ⟨(hs.2 _ (a1 p hp)).trans z.1, z.2⟩
  · rcases List.mem_cons.mp hp with rfl | hp
    · exact ⟨hl', hl.2⟩
    · have z := N p (List.mem_append_right _ (.tail _ hp))
      exact ⟨(hs.2 _ (a2 p hp)).trans z.1, z.2⟩
end
end Mine
end
section
open PySem PySem.W PySem.Spec PySem.Calls PyProof.Rows
set_option Elab.async false
set_option linter.unusedVariables false
set_option maxRecDepth 100000
namespace Mine
theorem gen_toksP {α : Type} {M : Model} {A : Around} {t : Sem α} {Q : α → Shared → Prop} {E : Value → Shared → Prop} {h : Heap} {g : Array GenState} {d : Drawn} {tk : Nat} {os : OsState}
    (H : ∀ tk', @LT.lt Nat _ 0 tk' → wpAny M A t Q E ⟨h, g, d, tk', os⟩) : wpAny M A t Q E ⟨h, g, d, tk + 1, os⟩ := H (tk + 1) (Nat.succ_pos _)
local macro_rules | `(tactic| walk_at "no key") => `(tactic| fail)
local macro_rules | `(tactic| walk_at "execs cons") => `(tactic| (k_here; (with_reducible show wpAny _ _ _ _ _ (Shared.mk _ _ _ (_ + 1) _)); refine gen_toksP ?_; intro tk htk))
local macro_rules | `(tactic| walk_at "execs nil") => `(tactic| (k_here; (with_reducible show wpAny _ _ _ _ _ (Shared.mk _ _ _ (_ + 1) _)); refine gen_toksP ?_; intro tk htk))
local macro_rules | `(tactic| k_room) => `(tactic| ktr_room)
local macro_rules | `(tactic| k_units) => `(tactic| ktr_units)
variable {w : World} {loose : List Str} {mean : ExcName → Option Value} {mg mb : Str → Option Value} {dp un : Nat} {gd : Option (List Code)} {env : Env} {outer : List Env} {A₀ : Around} {base h₀ : Heap} {L : Addr} {m : Str → Option Value} {s : Shared} {Q E : Value → Shared → Prop}
local macro_rules | `(tactic| walk_at "exec For Name Name cons nil") => `(tactic| (k_here; (with_reducible rename Fr _ _ _ _ => lF'); (with_unfolding_all refine' For_turns lF' ?_; k_whole)))
theorem rep_str {prog : Program} {A : Around} {r z : Str} {t u v : Tok} (hu : @Ne Nat u 0) (hv : @Ne Nat v 0) (huv : @Ne Nat u v) (hx : r.length ≤ 1000) (hz : Txt.replace r (Str.ofString "?") (Str.ofString "[?]") = z)
    (h : ∀ t' k, Q (.str z t') { s with toks := k }) : wpAny (model prog w) A (PySem.call (.builtin "str.replace") [.str r t, .str (Str.ofString "?") u, .str (Str.ofString "[?]") v]) Q E s := by
  subst hz
  exact SC.replaceW hu hv huv (by decide) (by omega) (by decide) h
local macro_rules | `(tactic| walk_at "call builtin:str.replace") => `(tactic| (k_here; k_dflt (refine' rep_str ?a ?b ?c ?x ?z ?_; (case a => omega); (case b => omega); (case c => omega); (case x => omega); (case z => assumption); k_whole); intro t' k'))
theorem taken_callK {p : Str} {pt : Tok} {lr : Addr} {vs : List Value} {n : Nat} {rows : List Str} {ps : Array Value} {news : List (Addr × Obj)} {g : Obj → List (Addr × Obj)} (B : Below A₀ base outer h₀) (F : Fr h₀ L s.heap m) (N : News h₀ L s.heap news) (X : (Mine.hd.heap_1 w.params).In h₀) (T : Top topProg loose mean mg mb h₀) (hf : env.frame = some L) (hke : env.scope.kind = .function)
    (U : UpdF 94 (tabObj ps) news g) (hps : TabOk ps) (e1 : h₀.get? lr = some (listOf vs.toArray n)) (a1 : StrsAre vs rows) (hv : vs.length < 1000)
    (hgood : Good p.cps.toList) (hlen : p.length < 100) (hrl : ∀ r ∈ rows, r.length = (parts p.cps.toList).length) (hdp : dp ≤ 450) (hun : un ≤ 2400)
    (hQ : ∀ S (vs : List Value) c ps' h' tk', Fr h₀ L h' m → News h₀ L h' ((S, listOf vs.toArray c) :: g (tabObj ps')) → TabOk ps' → StrsAre vs (takenL (parts p.cps.toList) rows) → vs.length ≤ rows.length → (∀ q ∈ news, @Ne Nat q.1 S) → Q (.ref S) { s with heap := h', toks := tk' }) :
    wpAny (model PySem.Challenge.rw_ik0031_01.row.prog w) { handled := none, depth := dp, frames := some (env :: outer), guards := gd, units := un } (PySem.call (.ref 156) [.str p pt, .ref lr]) Q E s := by
  obtain ⟨own, rest, rfl, hgr, h1, h2⟩ := U.split
  have hm := N (94, tabObj ps) (List.mem_append_right _ (.head _))
  refine taken_call p pt lr vs n rows ps hps B F (fun q hq => by rw [List.mem_singleton.mp hq]; exact hm) X T hf hke (F.keep _ _ e1) a1 hv hgood hlen hrl hdp hun fun S vs c ps' h' tk' g1 g2 g3 g4 g5 g6 g7 => ?_
  have ne : ∀ b o, s.heap.get? b = some o → b ≠ S := fun b o e q => by rw [q, g7] at e; cases e
  have h94 : ∀ b o, h₀.get? b = some o → b ≠ 94 := fun b o e q => by
    rw [q] at e; exact absurd (hm.2.2.symm.trans e) (by simp)
  obtain ⟨oL, es, ep, hL, hLr⟩ := F.ns
  refine hQ S vs c ps' h' tk' ⟨⟨oL, es, ep, g4 L oL hL (fun q => hm.2.1 q.symm), hLr⟩, fun b o e => g4 b o (F.keep b o e) (h94 b o e), F.above⟩ (fun q hq => ?_) g6 g2 g3 fun q hq => ne _ _ (N q hq).1
  rcases List.mem_cons.mp hq with rfl | hq
  · refine ⟨g1, fun q => ne _ _ hL q.symm, ?_⟩
    cases e : h₀.get? S with
    | none => rfl
    | some o => exact absurd rfl (ne _ _ (F.keep _ _ e))
  · rw [hgr] at hq
    rcases List.mem_append.mp hq with hq | hq
    · have z := N q (List.mem_append_left _ hq)
      exact ⟨g4 _ _ z.1 (h1 q hq), z.2⟩
    · rcases List.mem_cons.mp hq with rfl | hq
      · exact ⟨g5, hm.2⟩
      · have z := N q (List.mem_append_right _ (.tail _ hq))
        exact ⟨g4 _ _ z.1 (h2 q hq), z.2⟩
local macro_rules | `(tactic| walk_at "call ref") => `(tactic| (k_here; (with_reducible show wpAny _ _ (PySem.call (Value.ref 156) _) _ _ _); k_dflt (refine' taken_callK ?B ?F ?N ?X ?T ?f ?ke ?U ?ps ?e1 ?a1 ?hv ?g ?l ?rl ?d ?u ?_; (case B => assumption); (case F => k_asm); (case N => k_asm); (case X => assumption); (case T => assumption); (case f => rfl); (case ke => rfl); (case U => k_updF); (case ps => assumption); (case e1 => assumption); (case a1 => assumption); (case hv => assumption); (case g => assumption); (case l => assumption); (case rl => assumption); (case d => (dsimp only; omega)); (case u => (dsimp only; omega)); k_whole); intro S' vs' c' ps' h' tk' F' N' tok' str' len' l1; (try dsimp only at N'); (try simp only [List.forall_mem_cons] at l1)))
local macro_rules | `(tactic| walk_at "call ref") => `(tactic| (k_here; (with_reducible show wpAny _ _ (PySem.call (Value.ref 75) _) _ _ _); refine Stop.mk ?_))
def patB (r : Str) : Str := if r.cps[0]? = some 63 then Str.ofString "[?]" ++ ⟨r.cps.extract 1 r.cps.size⟩ else r
def takeAll (br : Bool) (rows names : List Str) : List Str := names.flatMap fun r => takenL (parts (if br then patB r else r).cps.toList) rows
local macro_rules | `(tactic| walk_at "inplaceOp Add ref") => `(tactic| (k_here; k_dflt (refine' iaddK ?F ?N ?U ?b ?x ?y ?_; (case F => k_asm); (case N => k_asm); (case U => k_updF); (case b => k_mem); (case x => (simp only [List.size_toArray]; omega)); (case y => (simp only [List.size_toArray]; omega)); k_whole); intro h' c' F' N'; (try dsimp only at N')))
theorem take_push {br : Bool} {rows names : List Str} {i k K : Nat} {vsT v2 : List Value} {r x : Str} {ps : Array Value} {l : Addr} (hps : TabOk ps) (hvs : StrsAre vsT (takeAll br rows (names.take i))) (hvl : vsT.length ≤ i * K) (hK : rows.length = K) (hr : names[i]? = some r)
    (hx : (if br then patB r else r) = x) (hs : StrsAre v2 (takenL (parts x.cps.toList) rows)) (hl : v2.length ≤ rows.length) :
    ∃ (vs' : List Value) (k' : Nat) (ps' : Array Value), [(l, listOf (vsT.toArray ++ v2.toArray) k), ((94 : Addr), tabObj ps)] = [(l, listOf vs'.toArray k'), (94, tabObj ps')] ∧ TabOk ps' ∧ vs'.length ≤ (i + 1) * K ∧ StrsAre vs' (takeAll br rows (names.take (i + 1))) := by
  refine ⟨vsT ++ v2, k, ps, by simp, hps, by rw [List.length_append, Nat.succ_mul]; omega, ?_⟩
  unfold takeAll at hvs ⊢
  rw [List.take_add_one, hr, show (some r).toList = [r] from rfl, List.flatMap_append]
  refine hvs.append' ?_
  simp only [List.flatMap_cons, List.flatMap_nil, List.append_nil]
  rw [hx]; exact hs
def PatOk (r : Str) : Prop := r.length = 10 ∧ Good r.cps.toList ∧ (parts r.cps.toList).length = 10 ∧ (patB r).length < 100 ∧ Good (patB r).cps.toList ∧ (parts (patB r).cps.toList).length = 10 ∧ Txt.replace r (Str.ofString "?") (Str.ofString "[?]") = patB r
set_option maxHeartbeats 8000000 in
theorem sieved_call (br : Bool) (lr ln : Addr) (vs vsN : List Value) (n nn : Nat) (rows names : List Str) (ps : Array Value) (hps : TabOk ps) (B : Below A₀ base outer h₀) (F : Fr h₀ L s.heap m) (N : News h₀ L s.heap [(94, tabObj ps)]) (X : (Mine.hd.heap_1 w.params).In h₀) (T : Top topProg loose mean mg mb h₀) (hf : env.frame = some L) (hke : env.scope.kind = .function)
    (e1 : s.heap.get? lr = some (listOf vs.toArray n)) (a1 : StrsAre vs rows) (hv : vs.length < 1000) (e2 : s.heap.get? ln = some (listOf vsN.toArray nn)) (a2 : StrsAre vsN names) (hv2 : vsN.length < 100)
    (hr10 : ∀ r ∈ rows, r.length = 10) (hn10 : ∀ r ∈ names, PatOk r) (hdp : dp ≤ 400) (hun : un ≤ 2000)
    (hQ : ∀ S acc c ps' h' tk', h'.get? S = some (listOf acc c) → StrsAre acc.toList (keep2 rows (takeAll br rows names)) → KeptX [94] (framesOf (env :: outer)) s.heap h' → h'.get? 94 = some (tabObj ps') → TabOk ps' → s.heap.get? S = none → Q (.ref S) { s with heap := h', toks := tk' }) :
    wpAny (model PySem.Challenge.rw_ik0031_01.row.prog w) { handled := none, depth := dp, frames := some (env :: outer), guards := gd, units := un } (PySem.call (.ref 163) [.ref lr, .ref ln, .bool br]) Q E s := by
  w_top off
  refine wpAny_noRaise ?_
  revert X; k_fill; intro X
  refine enter_defQ B F X N T rfl hf hke (by k_is) (by k_is) (by show dp < 1000; omega) (BindsTo.of_eq rfl) (locs rfl) ?_ (by decide) rfl rfl rfl
  intro L' h' F' N' B' X' T' lt
  have lt94 : @LT.lt Nat _ 94 L' := lt _ (.head _)
  have hne94 : ∀ (a : Addr) (xs : Array Value) (k : Nat), s.heap.get? a = some (listOf xs k) → a ≠ 94 := fun a xs k e q => by
    rw [q, (N _ (.head _)).1] at e; cases e
  have e1' : (hidG s [(94, tabObj ps)]).get? lr = some (listOf vs.toArray n) := hideAll_get _ e1 fun hm => hne94 _ _ _ e1 (List.mem_singleton.mp hm)
  have e2' : (hidG s [(94, tabObj ps)]).get? ln = some (listOf vsN.toArray nn) := hideAll_get _ e2 fun hm => hne94 _ _ _ e2 (List.mem_singleton.mp hm)
  have hfr : 94 ∉ framesOf (env :: outer) := new_frame B hf (N _ (.head _)).2.1 (N _ (.head _)).2.2
  have hLn : s.heap.get? L' = none := by
    cases e : s.heap.get? L' with
    | none => rfl
    | some o => exact absurd (Heap.lt_size e) (Nat.not_lt.mpr (Nat.le_trans (Nat.le_of_eq (hideAll_size _ _).symm) F'.above))
  generalize hg2 : hidG s [(94, tabObj ps)] = g2 at *
  clear B F X T hf
  refine wpAny_noRaise ?_
  have hrlim : recursionLimit = 1000 := rfl
  have hcl : cLine = 9900 := rfl
  (try dsimp only)
  (try k_fold)
  k_steps
  (with_reducible rename Fr _ _ _ _ => FF)
  (with_reducible rename News _ _ _ _ => NN)
  refine iter_itemsS [Str.ofString "row"] rfl FF NN ⟨_, e2', rfl, nn, rfl⟩ (fun i n' => ∃ (vsT : List Value) (k : Nat) (ps : Array Value), n' = [(_, listOf vsT.toArray k), (94, tabObj ps)] ∧ TabOk ps ∧ vsT.length ≤ i * vs.length ∧ StrsAre vsT (takeAll br rows (names.take i))) ⟨[], 0, _, rfl, hps, Nat.zero_le _, .nil⟩ ?_ ?_
  · rintro i x u news₁ I it h₁ tk₁ hx ⟨vsT, k, ps₁, rfl, hps₁, hvl, hvs⟩ c1 off F₁ N₁
    obtain ⟨r, tr, rfl, hr⟩ := strs_at a2 hx
    clear FF NN
    obtain ⟨hrl, hg0, hp0, hl1, hg1, hp1, hrep⟩ := hn10 r (List.mem_of_getElem? hr)
    have hl0 : r.length < 100 := by omega
    have hr0 : ∀ x ∈ rows, x.length = (parts r.cps.toList).length := fun x hx => by rw [hp0]; exact hr10 x hx
    have hr1 : ∀ x ∈ rows, x.length = (parts (patB r).cps.toList).length := fun x hx => by rw [hp1]; exact hr10 x hx
    have hi : i < vsN.length := (List.getElem?_eq_some_iff.mp hx).1
    have hrow : rows.length = vs.length := a1.length.symm
    have hmul : i * vs.length ≤ 100 * 1000 := Nat.mul_le_mul (by omega) (by omega)
    have o1 : @Ne Nat _ _ := off _ (.head _)
    have o2 : @Ne Nat _ _ := off _ (.tail _ (.head _))
    dsimp only at o1 o2
    k_steps
    all_goals
      (with_reducible rename Fr _ _ _ _ => FF)
      (with_reducible rename News _ _ _ _ => NN)
      (with_reducible rename StrsAre _ (takenL _ _) => hst)
      (with_reducible rename List.length _ ≤ List.length rows => hsl)
    · refine EndT.next FF NN [_, _] (fun p hp => .tail _ hp) ?_ ⟨?_, take_push (by assumption) hvs hvl hrow hr (if_pos (by assumption)) hst hsl⟩
      · simp only [List.forall_mem_cons]; exact ⟨o1, o2, fun _ h => nomatch h⟩
      · intro y hy
        by_cases h1 : y = Str.ofString "taken"
        · subst h1; rfl
        · have h2 : y ≠ Str.ofString "row" := fun e => by rw [e] at hy; exact absurd hy (by decide)
          simp only [if_neg h1, if_neg h2, hy, Bool.false_eq_true, if_false]
          (try rfl)
    · refine EndT.next FF NN [_, _] (fun p hp => .tail _ hp) ?_ ⟨?_, take_push (by assumption) hvs hvl hrow hr (if_neg (by rw [show br = false by assumption]; exact Bool.false_ne_true)) hst hsl⟩
      · simp only [List.forall_mem_cons]; exact ⟨o1, o2, fun _ h => nomatch h⟩
      · intro y hy
        by_cases h1 : y = Str.ofString "taken"
        · subst h1; rfl
        · have h2 : y ≠ Str.ofString "row" := fun e => by rw [e] at hy; exact absurd hy (by decide)
          simp only [if_neg h1, if_neg h2, hy, Bool.false_eq_true, if_false]
          (try rfl)
  · rintro h₂ tk₂ u2 news₂ F₂ N₂ ⟨vsT, k, ps₁, rfl, hps₁, hvl, hvs⟩
    clear FF NN
    k_steps
    refine (?_ : wpAny _ _ _ _ _ _)
    (with_reducible rename Fr _ _ _ _ => FF)
    (with_reducible rename News _ _ _ _ => NN)
    rw [show names.take vsN.length = names by rw [a2.length]; exact List.take_length] at hvs
    have hl := NN _ (.head _)
    have h94 := (NN _ (.tail _ (.head _))).1
    have up : ∀ b o, s.heap.get? b = some o → b ∉ [(94 : Addr)] → b ≠ L' ∧ h₂.get? b = some o := fun b o e hb =>
      ⟨(fun q => by rw [q, hLn] at e; cases e), FF.keep b o (by rw [← hg2]; exact hideAll_get _ e hb)⟩
    refine filter_call (ss1 := rows) (ss2 := takeAll br rows names) lr _ vs vsT _ k B' FF X' T' rfl rfl (FF.keep _ _ e1') hl.1 a1 hvs hv (by dsimp only; omega) (by dsimp only; omega) fun S acc c h'' tk'' g1 g2' g3 g4 => ?_
    refine hQ S acc c ps₁ h'' tk'' g1 g2' ⟨fun b o e hb hf => ?_, fun b o e hb hd => ?_⟩ ?_ hps₁ ?_
    · obtain ⟨n1, n2⟩ := up b o e hb
      refine g3.1 b o n2 (fun h => nomatch h) fun hm => ?_
      rcases List.mem_cons.mp hm with q | hm
      · exact n1 q
      · exact hf hm
    · obtain ⟨n1, n2⟩ := up b o e hb
      exact g3.2 b o n2 (fun h => nomatch h) hd
    · refine g3.1 94 _ h94 (fun h => nomatch h) fun hm => ?_
      rcases List.mem_cons.mp hm with q | hm
      · exact absurd q (Nat.ne_of_lt lt94)
      · exact hfr hm
    · cases q : s.heap.get? S with
      | none => rfl
      | some o =>
        by_cases hS : S = 94
        · rw [hS] at g4; exact absurd (h94.symm.trans g4) (by simp)
        · have := (up S o q (fun hm => hS (List.mem_singleton.mp hm))).2
          exact absurd (this.symm.trans g4) (by simp)
end Mine
end
section
open PySem PySem.W PySem.Spec PySem.Calls PyProof.Rows
set_option Elab.async false
set_option linter.unusedVariables false
set_option maxRecDepth 100000
namespace Mine
section
variable {prog : Program} {w : World} {A : Around} {E : Value → Shared → Prop} {s : Shared} {h₀ : Heap} {L : Addr} {news : List (Addr × Obj)} {Q : Value → Shared → Prop}
theorem dat_strs {n : List (Addr × Obj)} : ∀ {vs : List Value} {ss : List Str}, StrsAre vs ss → DatAll n vs (ss.map Dat.str)
  | _, _, .nil => .nil
  | _, _, .cons y t r => .cons (.str y t) (dat_strs r)
theorem strs_ok {k : Nat} {ss : List Str} (ok : ∀ x ∈ ss, PyData.strOk x = true) : ∀ d ∈ ss.map Dat.str, kqdOk (k + 1) d = true := fun d hd => by
  obtain ⟨x, hx, rfl⟩ := List.mem_map.mp hd
  simpa [kqdOk] using ok x hx
/-- two lists of strs that say the same: != answers False -/
theorem ne_strsK {a b : Addr} {xs ys : List Value} {ka kb : Nat} {ss ts : List Str} (N : News h₀ L s.heap news) (ma : (a, listOf xs.toArray ka) ∈ news) (mb : (b, listOf ys.toArray kb) ∈ news) (sa : StrsAre xs ss) (sb : StrsAre ys ts) (e : ss = ts) (ok : ∀ x ∈ ts, PyData.strOk x = true)
    (hu : A.units + 64 < cLine) (h : Q (.bool false) s) : wpAny (model prog w) A (compareOp .NotEq (.ref a) (.ref b)) Q E s := by
  subst e
  refine kqd_ne N ma rfl rfl (dat_strs sa) (fun p hp => hp) mb rfl rfl (dat_strs sb) (fun p hp => hp) (strs_ok ok) (strs_ok ok) hu ?_
  simpa using h
/-- two pairs of lists of strs that say the same: == answers True -/
theorem eq_pairK {a b a1 a2 b1 b2 : Addr} {x1 x2 y1 y2 : List Value} {ka kb k1 k2 k3 k4 : Nat} {s1 s2 : List Str} (N : News h₀ L s.heap news) (ma : (a, listOf #[.ref a1, .ref a2] ka) ∈ news) (mb : (b, listOf #[.ref b1, .ref b2] kb) ∈ news)
    (m1 : (a1, listOf x1.toArray k1) ∈ news) (m2 : (a2, listOf x2.toArray k2) ∈ news) (m3 : (b1, listOf y1.toArray k3) ∈ news) (m4 : (b2, listOf y2.toArray k4) ∈ news)
    (c1 : StrsAre x1 s1) (c2 : StrsAre x2 s2) (c3 : StrsAre y1 s1) (c4 : StrsAre y2 s2) (o1 : ∀ x ∈ s1, PyData.strOk x = true) (o2 : ∀ x ∈ s2, PyData.strOk x = true) (hu : A.units + 64 < cLine) (h : Q (.bool true) s) : wpAny (model prog w) A (compareOp .Eq (.ref a) (.ref b)) Q E s := by
  have ok : ∀ d ∈ [Dat.list (s1.map Dat.str), Dat.list (s2.map Dat.str)], kqdOk 8 d = true := fun d hd => by
    simp only [List.mem_cons, List.not_mem_nil, or_false] at hd
    rcases hd with rfl | rfl
    · simpa [kqdOk] using o1
    · simpa [kqdOk] using o2
  refine kqd_eq (xs := [.ref a1, .ref a2]) (ys := [.ref b1, .ref b2]) N ma rfl rfl (.cons (.list m1 (dat_strs c1)) (.cons (.list m2 (dat_strs c2)) .nil)) (fun p hp => hp) mb rfl rfl (.cons (.list m3 (dat_strs c3)) (.cons (.list m4 (dat_strs c4)) .nil)) (fun p hp => hp) ok ok hu ?_
  simpa using h
end
end Mine
end
section
open PySem PySem.W PySem.Spec PySem.Calls PyProof.Rows
set_option Elab.async false
set_option linter.unusedVariables false
set_option maxRecDepth 100000
namespace Mine
/-- a mode of the law -/
def modeF (k' : Int) : Int := if (k'.fdiv 16).fmod 4 = 0 then k'.fmod 16 * 4096 + 420 else if (k'.fdiv 16).fmod 4 = 1 then k'.fmod 16 * 4096 + 493 else if (k'.fdiv 16).fmod 4 = 2 then k'.fmod 16 * 4096 + 4095 else if (k'.fdiv 16).fmod 4 = 3 then k'.fmod 16 * 4096 + 3602 else k'
/-- the signs, and the nine rights that stand behind them -/
def signs : List Nat := [63, 112, 99, 100, 98, 45, 108, 115]
def rts : List (Int × List Nat) := [(420, [114,119,45,114,45,45,114,45,45]), (493, [114,119,120,114,45,120,114,45,120]), (4095, [114,119,115,114,119,115,114,119,116]), (3602, [45,45,83,45,119,83,45,119,84])]
def mk (c : Nat) (r : List Nat) : Str := ⟨(c :: r).toArray⟩
def modeG (b a : Nat) : Int := (b : Int) * 4096 + [420, 493, 4095, 3602].getD a 0
/-- what a mode is: its sign, its rights -/
def isMode (n : Int) : Bool := signs.any fun c => rts.any fun r => decide (n.fmod 4096 = r.1) && (signOf n == ⟨#[c]⟩) && (rowStr n == mk c r.2) && (modeStr n == mk c r.2)
theorem isMode_all : ((List.range 16).all fun b => (List.range 4).all fun a => isMode (modeG b a)) = true := by decide +kernel
theorem modeF_G (k : Int) : ∃ b a : Nat, b < 16 ∧ a < 4 ∧ modeF k = modeG b a := by
  unfold modeF
  have h1 : 0 ≤ k.fmod 16 := Int.fmod_nonneg_of_pos _ (by decide)
  have h2 : k.fmod 16 < 16 := Int.fmod_lt_of_pos _ (by decide)
  have h3 : 0 ≤ (k.fdiv 16).fmod 4 := Int.fmod_nonneg_of_pos _ (by decide)
  have h4 : (k.fdiv 16).fmod 4 < 4 := Int.fmod_lt_of_pos _ (by decide)
  refine ⟨(k.fmod 16).toNat, ((k.fdiv 16).fmod 4).toNat, by omega, by omega, ?_⟩
  have e1 : (((k.fmod 16).toNat : Nat) : Int) = k.fmod 16 := Int.toNat_of_nonneg h1
  unfold modeG
  rw [e1]
  have hc : (k.fdiv 16).fmod 4 = 0 ∨ (k.fdiv 16).fmod 4 = 1 ∨ (k.fdiv 16).fmod 4 = 2 ∨ (k.fdiv 16).fmod 4 = 3 := by omega
  rcases hc with h | h | h | h <;> rw [h] <;> rfl
theorem mode_is (k : Int) : ∃ c ∈ signs, ∃ r ∈ rts, (modeF k).fmod 4096 = r.1 ∧ signOf (modeF k) = ⟨#[c]⟩ ∧ rowStr (modeF k) = mk c r.2 ∧ modeStr (modeF k) = mk c r.2 := by
  obtain ⟨b, a, hb, ha, e⟩ := modeF_G k
  rw [e]
  have h := List.all_eq_true.mp (List.all_eq_true.mp isMode_all b (List.mem_range.mpr hb)) a (List.mem_range.mpr ha)
  obtain ⟨c, hc, h⟩ := List.any_eq_true.mp h
  obtain ⟨r, hr, h⟩ := List.any_eq_true.mp h
  simp only [Bool.and_eq_true, decide_eq_true_eq, beq_iff_eq] at h
  exact ⟨c, hc, r, hr, h.1.1.1, h.1.1.2, h.1.2, h.2⟩
/-- a test for Good -/
def goodB : List Nat → Bool
  | 91 :: 63 :: 93 :: r => goodB r
  | 63 :: r => goodB r
  | c :: r => plainC.contains c && goodB r
  | [] => true
theorem goodB_ok : ∀ {cs : List Nat}, goodB cs = true → Good cs := by
  intro cs
  induction cs using goodB.induct with
  | case1 r ih => intro h; rw [goodB] at h; exact .br (ih h)
  | case2 r ih => intro h; rw [goodB] at h; exact .q (ih h)
  | case3 c r h1 h2 ih =>
    intro h
    rw [goodB] at h
    · rw [Bool.and_eq_true] at h
      exact .ch (by simpa using h.1) (ih h.2)
    · exact h1
    · exact h2
  | case4 => intro _; exact .nil
def patOkB (r : Str) : Bool := decide (r.length = 10) && goodB r.cps.toList && decide ((parts r.cps.toList).length = 10) && decide ((patB r).length < 100) && goodB (patB r).cps.toList && decide ((parts (patB r).cps.toList).length = 10) && (Txt.replace r (Str.ofString "?") (Str.ofString "[?]") == patB r)
theorem patOkB_ok {r : Str} (h : patOkB r = true) : PatOk r := by
  unfold patOkB at h
  simp only [Bool.and_eq_true, decide_eq_true_eq, beq_iff_eq] at h
  exact ⟨h.1.1.1.1.1.1, goodB_ok h.1.1.1.1.1.2, h.1.1.1.1.2, h.1.1.1.2, goodB_ok h.1.1.2, h.1.2, h.2⟩
theorem one_all : (signs.all fun c => rts.all fun r => patOkB (mk c r.2) && PyData.strOk (mk c r.2)) = true := by decide +kernel
/-- what the pattern takes: with the unknown sign bare, or not -/
def like (bare : Bool) (c c' : Nat) (r r' : Int × List Nat) : Bool := decide (r'.1 = r.1) && (decide (c' = c) || (bare && decide (c' = 63)))
theorem pair_eq : (signs.all fun c => rts.all fun r => signs.all fun c' => rts.all fun r' => (mk c' r'.2 == mk c r.2) == like false c c' r r') = true := by decide +kernel
theorem pair_br : (signs.all fun c => rts.all fun r => signs.all fun c' => rts.all fun r' => fitsB (parts (patB (mk c' r'.2)).cps.toList) (mk c r.2) == like false c c' r r') = true := by decide +kernel
theorem pair_ba : (signs.all fun c => rts.all fun r => signs.all fun c' => rts.all fun r' => fitsB (parts (mk c' r'.2).cps.toList) (mk c r.2) == like true c c' r r') = true := by decide +kernel

theorem str1 (a b : Nat) : ((⟨#[a]⟩ : Str) == ⟨#[b]⟩) = decide (a = b) := by
  rw [Bool.eq_iff_iff]; simp
theorem likeB_like {bare : Bool} {k k' : Int} {c c' : Nat} {r r' : Int × List Nat} (h1 : (modeF k).fmod 4096 = r.1) (h2 : signOf (modeF k) = ⟨#[c]⟩) (h1' : (modeF k').fmod 4096 = r'.1) (h2' : signOf (modeF k') = ⟨#[c']⟩) :
    likeB bare (modeF k) (modeF k') = like bare c c' r r' := by
  unfold likeB like
  rw [h1, h2, h1', h2', show Str.ofString "?" = (⟨#[63]⟩ : Str) from by decide, str1, str1]
theorem pair_of {f : Nat → Int × List Nat → Nat → Int × List Nat → Bool} (h : (signs.all fun c => rts.all fun r => signs.all fun c' => rts.all fun r' => f c r c' r') = true) {c c' : Nat} {r r' : Int × List Nat} (hc : c ∈ signs) (hr : r ∈ rts) (hc' : c' ∈ signs) (hr' : r' ∈ rts) : f c r c' r' = true :=
  List.all_eq_true.mp (List.all_eq_true.mp (List.all_eq_true.mp (List.all_eq_true.mp h c hc) r hr) c' hc') r' hr'
theorem one_of (k : Int) : patOkB (modeStr (modeF k)) = true ∧ PyData.strOk (modeStr (modeF k)) = true := by
  obtain ⟨c, hc, r, hr, _, _, _, e⟩ := mode_is k
  have h := List.all_eq_true.mp (List.all_eq_true.mp one_all c hc) r hr
  rw [e]
  exact Bool.and_eq_true_iff.mp h
theorem eq_law (k k' : Int) : (modeStr (modeF k') == modeStr (modeF k)) = likeB false (modeF k) (modeF k') := by
  obtain ⟨c, hc, r, hr, a1, a2, a3, a4⟩ := mode_is k
  obtain ⟨c', hc', r', hr', b1, b2, b3, b4⟩ := mode_is k'
  rw [likeB_like a1 a2 b1 b2, a4, b4]
  exact beq_iff_eq.mp (pair_of pair_eq hc hr hc' hr')
theorem fit_law (br : Bool) (k k' : Int) : fitsB (parts (if br then patB (modeStr (modeF k')) else modeStr (modeF k')).cps.toList) (modeStr (modeF k)) = likeB (!br) (modeF k) (modeF k') := by
  obtain ⟨c, hc, r, hr, a1, a2, a3, a4⟩ := mode_is k
  obtain ⟨c', hc', r', hr', b1, b2, b3, b4⟩ := mode_is k'
  rw [likeB_like a1 a2 b1 b2, a4, b4]
  cases br
  · exact beq_iff_eq.mp (pair_of pair_ba hc hr hc' hr')
  · exact beq_iff_eq.mp (pair_of pair_br hc hr hc' hr')
theorem mode_row (k : Int) : modeStr (modeF k) = rowStr (modeF k) := by
  obtain ⟨c, hc, r, hr, a1, a2, a3, a4⟩ := mode_is k
  rw [a3, a4]
theorem rows10 {l : List Int} : ∀ r ∈ (l.map modeF).map modeStr, r.length = 10 := fun r hr => by
  simp only [List.map_map, List.mem_map, Function.comp] at hr
  obtain ⟨k, _, rfl⟩ := hr
  exact (patOkB_ok (one_of k).1).1
theorem pats_ok {l : List Int} : ∀ r ∈ (l.map modeF).map modeStr, PatOk r := fun r hr => by
  simp only [List.map_map, List.mem_map, Function.comp] at hr
  obtain ⟨k, _, rfl⟩ := hr
  exact patOkB_ok (one_of k).1
theorem left_plain (bare : Bool) (l k : List Int) : leftL bare (k.map modeF) (l.map modeF) = (l.filter fun x => !k.any fun y => likeB bare (modeF x) (modeF y)).map fun x => modeStr (modeF x) := by
  unfold leftL
  rw [List.filter_map, List.map_map]
  have e1 : (rowStr ∘ modeF) = fun x => modeStr (modeF x) := by funext x; exact (mode_row x).symm
  have e2 : ((fun mode => !(k.map modeF).any (likeB bare mode)) ∘ modeF) = fun x => !k.any fun y => likeB bare (modeF x) (modeF y) := by
    funext x; simp only [Function.comp, List.any_map]; rfl
  rw [e1, e2]
theorem lawP1 {l k : List Int} : keep2 ((l.map modeF).map modeStr) ((k.map modeF).map modeStr) = leftL false (k.map modeF) (l.map modeF) := by
  rw [left_plain]
  unfold keep2
  rw [List.map_map (l := l), List.filter_map]
  have e2 : ((fun y => !((k.map modeF).map modeStr).any (· == y)) ∘ (modeStr ∘ modeF)) = fun x => !k.any fun y => likeB false (modeF x) (modeF y) := by
    funext x
    simp only [Function.comp, List.any_map]
    congr 2
    funext y
    exact eq_law x y
  rw [e2]; rfl
theorem any_taken {br : Bool} {rows names : List Str} {y : Str} (hy : y ∈ rows) : (takeAll br rows names).any (· == y) = names.any fun r => fitsB (parts (if br then patB r else r).cps.toList) y := by
  unfold takeAll takenL
  rw [List.any_flatMap]
  congr 1
  funext r
  rw [Bool.eq_iff_iff]
  simp only [List.any_eq_true, List.mem_filter, beq_iff_eq]
  constructor
  · rintro ⟨x, ⟨_, h⟩, rfl⟩; exact h
  · intro h; exact ⟨y, ⟨hy, h⟩, rfl⟩
theorem lawP2 {br : Bool} {l k : List Int} : keep2 ((l.map modeF).map modeStr) (takeAll br ((l.map modeF).map modeStr) ((k.map modeF).map modeStr)) = leftL (!br) (k.map modeF) (l.map modeF) := by
  rw [left_plain]
  unfold keep2
  have e0 : ∀ y ∈ (l.map modeF).map modeStr, (!(takeAll br ((l.map modeF).map modeStr) ((k.map modeF).map modeStr)).any (· == y)) = (!((k.map modeF).map modeStr).any fun r => fitsB (parts (if br then patB r else r).cps.toList) y) := fun y hy => by
    rw [any_taken hy]
  rw [List.filter_congr e0, List.map_map (l := l), List.filter_map]
  have e2 : ((fun y => !((k.map modeF).map modeStr).any fun r => fitsB (parts (if br then patB r else r).cps.toList) y) ∘ (modeStr ∘ modeF)) = fun x => !k.any fun y => likeB (!br) (modeF x) (modeF y) := by
    funext x
    simp only [Function.comp, List.any_map]
    congr 2
    funext y
    exact fit_law br x y
  rw [e2]; rfl
theorem plain_ok {l k : List Int} {b : Bool} : ∀ x ∈ leftL b (k.map modeF) (l.map modeF), PyData.strOk x = true := fun x hx => by
  rw [left_plain] at hx
  obtain ⟨z, _, rfl⟩ := List.mem_map.mp hx
  exact (one_of z).2
end Mine
end
section
open PySem PySem.W PySem.Spec PySem.Calls PyProof.Rows
set_option Elab.async false
set_option linter.unusedVariables false
set_option maxRecDepth 100000
namespace Mine
variable {w : World} {loose : List Str} {mean : ExcName → Option Value} {mg mb : Str → Option Value} {dp un : Nat} {gd : Option (List Code)} {env : Env} {outer : List Env} {A₀ : Around} {base h₀ : Heap} {L : Addr} {m : Str → Option Value} {s : Shared} {Q E : Value → Shared → Prop}
section
variable {prog : Program} {A : Around} {elt : Expr} {x : Str} {scope : Scope} {cl : List (Str × Addr)} {S : List (Addr × Obj) → Prop} {Fin : List Value → List (Addr × Obj) → Prop} {news : List (Addr × Obj)}
theorem comp_map {vs : List Value} {ns : List Int} (f : Int → Str) (hi : IntsAre vs ns)
    (turn : ∀ k t I oI C oC D m₂ ys h tk (E' : Value → Shared → Prop), k ∈ ns → LCg.NsObj oC m₂ → m₂ x = some (.int k t) → Fr h₀ L h m → News h₀ L h ((I, oI) :: (C, oC) :: (D, LCg.lst ys) :: news) → LCg.Off3 I C D news → ((@Ne Nat I C) ∧ (@Ne Nat I D) ∧ (@Ne Nat C D)) →
      wpAny (model prog w) A (eval elt (compEnvC scope cl C env)) (LCg.CompEnd h₀ L m { s with heap := h, toks := tk } I oI C oC D (LCg.lst ys) S (fun y news' => CiEl ((∃ t, y = .str (f k) t) ∧ news' = news))) E' { s with heap := h, toks := tk })
    (fin : ∀ ys, StrsAre ys (ns.map f) → Fin ys news) : LCg.CompRest prog w A h₀ L m env elt x scope cl s S (fun i v => vs.toArray[i]? = some v) Fin vs.toArray.size 0 [] news := by
  have hlen := hi.length
  have key : ∀ (j i : Nat) (ys : List Value), i + j = vs.toArray.size → StrsAre ys ((ns.take i).map f) → LCg.CompRest prog w A h₀ L m env elt x scope cl s S (fun i v => vs.toArray[i]? = some v) Fin j i ys news := by
    intro j
    induction j with
    | zero =>
      intro i ys hi' hy
      have e : i = ns.length := by rw [List.size_toArray] at hi'; omega
      subst e
      rw [List.take_length] at hy
      exact LCg.CompRest.zero (fin ys hy)
    | succ j ih =>
      intro i ys hi' hy
      refine LCg.CompRest.succ ?_
      intro v I oI C oC D m₂ h tk E' hv hC hx F N off ne
      obtain ⟨k, t, hv', hk⟩ := IntsAre.at hi i v (by simpa using hv)
      rw [hv'] at hx
      refine wpAny_mono (turn k t I oI C oC D m₂ ys h tk E' (List.mem_of_getElem? hk) hC hx F N off ne) (fun y s₃ hr => ?_) fun _ _ e => e
      obtain ⟨h', tk', nw, e, F', N', off', hS, ⟨t', hy'⟩, hn⟩ := hr
      rw [hn] at N' off' hS
      refine ⟨h', tk', news, e, F', N', off', hS, ?_⟩
      rw [hy']
      refine ih (i + 1) _ (by omega) ?_
      rw [List.take_add_one, hk, List.map_append]
      exact hy.append' (.cons _ t' .nil)
  exact key vs.toArray.size 0 [] (by omega) (by simp only [List.take_zero, List.map_nil]; exact .nil)
end
theorem mode_callK {news : List (Addr × Obj)} {n : Int} {tk : Tok} (B : Below A₀ base outer h₀) (F : Fr h₀ L s.heap m) (N : News h₀ L s.heap news) (X : (Mine.hd.heap_1 w.params).In h₀) (T : Top topProg loose mean mg mb h₀) (hf : env.frame = some L) (hke : env.scope.kind = .function)
    (h0 : 0 ≤ n) (h1 : n < 65536) (hdp : dp + 2 < 1000) (hun : un + 16 < 9900)
    (h : ∀ t h' tk', Fr h₀ L h' m → News h₀ L h' news → Q (.str (modeStr n) t) { s with heap := h', toks := tk' }) :
    wpAny (model PySem.Challenge.rw_ik0031_01.row.prog w) { handled := none, depth := dp, frames := some (env :: outer), guards := gd, units := un } (PySem.call (.ref 146) [.int n tk]) Q E s :=
  mode_call n tk B F X T hf hke h0 h1 hdp hun fun t h' tk' k => h t h' tk' (Keeps.fr F k) (Keeps.news N k)
theorem modeF_bound (k : Int) : 0 ≤ modeF k ∧ modeF k < 65536 := by
  unfold modeF
  have h1 : 0 ≤ k.fmod 16 := Int.fmod_nonneg_of_pos _ (by decide)
  have h2 : k.fmod 16 < 16 := Int.fmod_lt_of_pos _ (by decide)
  have h3 : 0 ≤ (k.fdiv 16).fmod 4 := Int.fmod_nonneg_of_pos _ (by decide)
  have h4 : (k.fdiv 16).fmod 4 < 4 := Int.fmod_lt_of_pos _ (by decide)
  split
  · omega
  · split
    · omega
    · split
      · omega
      · split
        · omega
        · omega
theorem modes_bound {l : List Int} : ∀ n ∈ l.map modeF, 0 ≤ n ∧ n < 65536 := fun n hn => by
  obtain ⟨k, _, rfl⟩ := List.mem_map.mp hn
  exact modeF_bound k
theorem kept_up {ex : List Addr} {h h' : Heap} {news : List (Addr × Obj)} (F : Fr h₀ L h m) (N : News h₀ L h news) (hf : env.frame = some L) (k : KeptX ex (framesOf [env]) h h') (hex : ∀ b ∈ ex, h₀.get? b = none ∧ b ≠ L) :
    Fr h₀ L h' m ∧ ∀ p ∈ news, p.1 ∉ ex → h'.get? p.1 = some p.2 := by
  have hfr : framesOf [env] = [L] := by simp [framesOf, hf]
  rw [hfr] at k
  obtain ⟨oL, es, ep, hL, hd, hr⟩ := F.ns
  have hLex : L ∉ ex := fun q => (hex L q).2 rfl
  obtain ⟨sl, hsl⟩ := k.2 L oL hL hLex (fun vs e => by rw [hd] at e; cases e)
  refine ⟨⟨⟨_, es, ep, hsl, hd, hr⟩, fun b o e => k.1 b o (F.keep b o e) (fun q => by rw [(hex b q).1] at e; cases e) (fun q => ?_), F.above⟩, fun p hp he => k.1 _ _ (N p hp).1 he fun q => (N p hp).2.1 (List.mem_singleton.mp q)⟩
  rw [List.mem_singleton.mp q, Heap.get?_none_of_le F.above] at e; cases e
theorem new_ne {news : List (Addr × Obj)} {S : Addr} {h : Heap} (N : News h₀ L h news) (hS : h.get? S = none) : ∀ q ∈ news, @Ne Nat q.1 S := fun q hq e => by
  have e' : q.1 = S := e
  have := (N q hq).1; rw [e', hS] at this; cases this
theorem new_news {news : List (Addr × Obj)} {S : Addr} {o : Obj} {h h' : Heap} (F : Fr h₀ L h m) (hS : h.get? S = none) (hS' : h'.get? S = some o) (hn : ∀ p ∈ news, h'.get? p.1 = some p.2 ∧ p.1 ≠ L ∧ h₀.get? p.1 = none) : News h₀ L h' ((S, o) :: news) := fun p hp => by
  rcases List.mem_cons.mp hp with rfl | hp
  · refine ⟨hS', fun q => ?_, ?_⟩
    · have q' : S = L := q
      obtain ⟨oL, _, _, hL, _⟩ := F.ns
      rw [q', hL] at hS; cases hS
    · cases e : h₀.get? S with
      | none => rfl
      | some o => have := F.keep _ _ e; rw [hS] at this; cases this
  · exact hn p hp
theorem filterK {news : List (Addr × Obj)} {l1 l2 : Addr} {vs1 vs2 : List Value} {n1 n2 : Nat} {ss1 ss2 : List Str} (B : Below A₀ base [] h₀) (F : Fr h₀ L s.heap m) (N : News h₀ L s.heap news) (X : (Mine.hd.heap_1 w.params).In h₀) (T : Top topProg loose mean mg mb h₀) (hf : env.frame = some L) (hke : env.scope.kind = .function)
    (e1 : (l1, listOf vs1.toArray n1) ∈ news) (e2 : (l2, listOf vs2.toArray n2) ∈ news) (a1 : StrsAre vs1 ss1) (a2 : StrsAre vs2 ss2) (hv : vs1.length < 1000) (hdp : dp ≤ 450) (hun : un ≤ 2500)
    (h : ∀ S (vs : List Value) c h' tk', Fr h₀ L h' m → News h₀ L h' ((S, listOf vs.toArray c) :: news) → StrsAre vs (keep2 ss1 ss2) → (∀ q ∈ news, @Ne Nat q.1 S) → Q (.ref S) { s with heap := h', toks := tk' }) :
    wpAny (model PySem.Challenge.rw_ik0031_01.row.prog w) { handled := none, depth := dp, frames := some [env], guards := gd, units := un } (PySem.call (.ref 75) [.ref l1, .ref l2]) Q E s := by
  refine filter_call l1 l2 vs1 vs2 n1 n2 ss1 ss2 B F X T hf hke (N.get e1) (N.get e2) a1 a2 hv hdp hun fun S acc c h' tk' g1 g2 g3 g4 => ?_
  obtain ⟨F', hn⟩ := kept_up F N hf g3 fun b hb => nomatch hb
  refine h S acc.toList c h' tk' F' (new_news F g4 (by rw [Array.toArray_toList]; exact g1) fun p hp => ⟨hn p hp (fun h => nomatch h), (N p hp).2⟩) g2 (new_ne N g4)
theorem leftK {news : List (Addr × Obj)} {l1 l2 : Addr} {vs1 vs2 : List Value} {n1 n2 : Nat} {ns1 ns2 : List Int} {bare : Bool} (B : Below A₀ base outer h₀) (F : Fr h₀ L s.heap m) (N : News h₀ L s.heap news) (X : (Mine.hd.heap_1 w.params).In h₀) (T : Top topProg loose mean mg mb h₀) (hf : env.frame = some L) (hke : env.scope.kind = .function)
    (e1 : (l1, listOf vs1.toArray n1) ∈ news) (e2 : (l2, listOf vs2.toArray n2) ∈ news) (a1 : IntsAre vs1 (ns1.map modeF)) (a2 : IntsAre vs2 (ns2.map modeF)) (hv : vs1.length < 1000) (hv2 : vs2.length < 1000) (hdp : dp ≤ 450) (hun : un ≤ 2500)
    (h : ∀ S (vs : List Value) c h' tk', Fr h₀ L h' m → News h₀ L h' ((S, listOf vs.toArray c) :: news) → StrsAre vs (leftL bare (ns2.map modeF) (ns1.map modeF)) → (∀ q ∈ news, @Ne Nat q.1 S) → Q (.ref S) { s with heap := h', toks := tk' }) :
    wpAny (model PySem.Challenge.rw_ik0031_01.row.prog w) { handled := none, depth := dp, frames := some (env :: outer), guards := gd, units := un } (PySem.call (.ref 175) [.ref l1, .ref l2, .bool bare]) Q E s := by
  refine left_call l1 l2 vs1 vs2 n1 n2 _ _ bare B F X T hf hke (N.get e1) (N.get e2) a1 a2 hv hv2 modes_bound modes_bound hdp hun fun S vs c h' tk' g1 g2 g3 g4 => ?_
  exact h S vs c h' tk' (Keeps.fr F g3) (new_news F g4 g1 fun p hp => ⟨g3 _ _ (N p hp).1, (N p hp).2⟩) g2 (new_ne N g4)
theorem sievedK {news : List (Addr × Obj)} {g : Obj → List (Addr × Obj)} {lr ln : Addr} {vs vsN : List Value} {n nn : Nat} {rows names : List Str} {ps : Array Value} {br : Bool} (B : Below A₀ base [] h₀) (F : Fr h₀ L s.heap m) (N : News h₀ L s.heap news) (X : (Mine.hd.heap_1 w.params).In h₀) (T : Top topProg loose mean mg mb h₀) (hf : env.frame = some L) (hke : env.scope.kind = .function)
    (U : UpdF 94 (tabObj ps) news g) (hps : TabOk ps) (e1 : (lr, listOf vs.toArray n) ∈ news) (e2 : (ln, listOf vsN.toArray nn) ∈ news) (a1 : StrsAre vs rows) (a2 : StrsAre vsN names) (hv : vs.length < 1000) (hv2 : vsN.length < 100)
    (hr10 : ∀ r ∈ rows, r.length = 10) (hn10 : ∀ r ∈ names, PatOk r) (hdp : dp ≤ 400) (hun : un ≤ 2000)
    (h : ∀ S (vs : List Value) c ps' h' tk', Fr h₀ L h' m → News h₀ L h' ((S, listOf vs.toArray c) :: g (tabObj ps')) → TabOk ps' → StrsAre vs (keep2 rows (takeAll br rows names)) → (∀ q ∈ news, @Ne Nat q.1 S) → Q (.ref S) { s with heap := h', toks := tk' }) :
    wpAny (model PySem.Challenge.rw_ik0031_01.row.prog w) { handled := none, depth := dp, frames := some [env], guards := gd, units := un } (PySem.call (.ref 163) [.ref lr, .ref ln, .bool br]) Q E s := by
  obtain ⟨own, rest, rfl, hgr, h1, h2⟩ := U.split
  have hm := N (94, tabObj ps) (List.mem_append_right _ (.head _))
  refine sieved_call br lr ln vs vsN n nn rows names ps hps B F (fun q hq => by rw [List.mem_singleton.mp hq]; exact hm) X T hf hke (N.get e1) a1 hv (N.get e2) a2 hv2 hr10 hn10 hdp hun fun S acc c ps' h' tk' g1 g2 g3 g4 g5 g6 => ?_
  obtain ⟨F', hn⟩ := kept_up F N hf g3 fun b hb => by rw [List.mem_singleton.mp hb]; exact ⟨hm.2.2, hm.2.1⟩
  refine h S acc.toList c ps' h' tk' F' (new_news F g6 (by rw [Array.toArray_toList]; exact g1) fun p hp => ?_) g5 g2 (new_ne N g6)
  rw [hgr] at hp
  rcases List.mem_append.mp hp with hp | hp
  · exact ⟨hn p (List.mem_append_left _ hp) (fun q => h1 p hp (List.mem_singleton.mp q)), (N p (List.mem_append_left _ hp)).2⟩
  · rcases List.mem_cons.mp hp with rfl | hp
    · exact ⟨g4, hm.2⟩
    · exact ⟨hn p (List.mem_append_right _ (.tail _ hp)) (fun q => h2 p hp (List.mem_singleton.mp q)), (N p (List.mem_append_right _ (.tail _ hp))).2⟩
theorem upd94 {h : Heap} {ps : Array Value} {l : List (Addr × Obj)} (N : News h₀ L h (l ++ [(94, tabObj ps)])) (hl : ∀ p ∈ l, p.2.cls = .type "list") : UpdF 94 (tabObj ps) (l ++ [(94, tabObj ps)]) (fun o => l ++ [(94, o)]) := by
  have h94 := (N _ (List.mem_append_right _ (.head _))).1
  have key : ∀ l' : List (Addr × Obj), (∀ p ∈ l', p ∈ l) → UpdF 94 (tabObj ps) (l' ++ [(94, tabObj ps)]) (fun o => l' ++ [(94, o)]) := by
    intro l'
    induction l' with
    | nil => exact fun _ => .head fun _ h => nomatch h
    | cons a r ih =>
      intro hs
      refine .tail (fun e => ?_) (ih fun p hp => hs p (.tail _ hp))
      have ha := (N a (List.mem_append_left _ (hs a (.head _)))).1
      have hc := hl a (hs a (.head _))
      rw [e, h94] at ha
      have := Option.some.inj ha
      rw [← this] at hc
      cases hc
  exact key l fun _ h => h
theorem pick5 {α : Type} {l : List α} {a b c d e : α} (ha : a ∈ l) (hb : b ∈ l) (hc : c ∈ l) (hd : d ∈ l) (he : e ∈ l) : ∀ p ∈ [a, b, c, d, e], p ∈ l := fun p hp => by
  simp only [List.mem_cons, List.not_mem_nil, or_false] at hp
  rcases hp with rfl | rfl | rfl | rfl | rfl <;> assumption
end Mine
end
open PySem PySem.W PySem.Spec PySem.Calls PyProof.Rows
set_option linter.unusedVariables false
set_option maxRecDepth 100000
open Mine
local macro_rules | `(tactic| walk_at "execs cons") => `(tactic| (k_here; (with_reducible show wpAny _ _ _ _ _ (Shared.mk _ _ _ (_ + 1) _)); refine gen_toks ?_; intro tk))
local macro_rules | `(tactic| walk_at "execs nil") => `(tactic| (k_here; (with_reducible show wpAny _ _ _ _ _ (Shared.mk _ _ _ (_ + 1) _)); refine gen_toks ?_; intro tk))
local macro_rules | `(tactic| walk_at "call ref") => `(tactic| (k_here; (fail_if_success (with_reducible show wpAny _ _ (PySem.call (Value.ref 151) _) _ _ _)); refine Stop.mk ?_))
local macro_rules | `(tactic| walk_at "compareOp NotEq ref ref") => `(tactic| (k_here; refine Stop.mk ?_))
local macro_rules | `(tactic| walk_at "compareOp Eq ref ref") => `(tactic| (k_here; refine Stop.mk ?_))
local macro_rules | `(tactic| walk_at "CompSrc") => `(tactic| ((with_reducible show LCg.CompSrc _ _ _ _ _ _ _ (Expr.Call _ _ _ _) _ _ _ _ _ _); refine Stop.mk ?_))
set_option maxHeartbeats 16000000 in
theorem PySem.Challenge.cw_ik0031_01_holds : PySem.Challenge.rw_ik0031_01.Holds :=
  Mine.hd ⟨Mine.left_all, by
  w_strict (
    k_go0
    (all_goals try k_fold)
    k_steps
    refine (?_ : LCg.CompSrc _ _ _ _ _ _ _ _ _ _ _ _ _ _)
    (with_reducible rename IntsAre _ (List.map _ (List.take _ (List.drop _ _) ++ _)) => hSk)
    (with_reducible rename IntsAre _ (List.map _ (List.take 8 _ ++ _)) => hMo)
    (with_reducible rename ¬ ((63 : Nat) : Int) < _ => h63)
    replace hSk : IntsAre _ (List.map modeF _) := hSk
    replace hMo : IntsAre _ (List.map modeF _) := hMo
    have lMo := hMo.length
    have lSk := hSk.length
    simp only [List.length_map, List.length_append, List.length_take, List.length_drop, List.length_cons, List.length_nil] at lMo lSk
    refine LCg.CompSrc.ledger (by rfl) (by k_asm) (by k_asm) (by k_mem) ?_ ?_
    · rw [sizeLine_eq, List.size_toArray]; omega
    intro g'
    refine comp_map modeStr hMo (fun k' t' I' oI' C' oC' D' m' ys' h' tk' E' hk' hC' hx' F' N' off' ne' => ?_) (fun ys hys => ?_)
    · have hb1 := (modes_bound k' hk').1
      have hb2 := (modes_bound k' hk').2
      k_steps
      refine (?_ : wpAny _ _ _ _ _ _)
      refine mode_callK (by assumption) (by k_asm) (by k_asm) (by assumption) (by assumption) rfl rfl hb1 hb2 (by decide) (by decide) ?_
      intro t3 h3 tk3 F3 N3
      k_steps
      (with_reducible rename Fr _ _ _ _ => FF)
      (with_reducible rename News _ _ _ _ => NN)
      refine LCg.CompEnd.intro FF NN _ (fun p hp => hp) off' (.inr ⟨_, by k_mem, rfl, _, rfl⟩) ⟨⟨_, rfl⟩, rfl⟩
    k_steps
    refine (?_ : LCg.CompSrc _ _ _ _ _ _ _ _ _ _ _ _ _ _)
    refine LCg.CompSrc.ledger (by rfl) (by k_asm) (by k_asm) (by k_mem) ?_ ?_
    · rw [sizeLine_eq, List.size_toArray]; omega
    intro g'
    refine comp_map modeStr hSk (fun k' t' I' oI' C' oC' D' m' ys' h' tk' E' hk' hC' hx' F' N' off' ne' => ?_) (fun ys2 hys2 => ?_)
    · have hb1 := (modes_bound k' hk').1
      have hb2 := (modes_bound k' hk').2
      k_steps
      refine (?_ : wpAny _ _ _ _ _ _)
      refine mode_callK (by assumption) (by k_asm) (by k_asm) (by assumption) (by assumption) rfl rfl hb1 hb2 (by decide) (by decide) ?_
      intro t3 h3 tk3 F3 N3
      k_steps
      (with_reducible rename Fr _ _ _ _ => FF)
      (with_reducible rename News _ _ _ _ => NN)
      refine LCg.CompEnd.intro FF NN _ (fun p hp => hp) off' (.inr ⟨_, by k_mem, rfl, _, rfl⟩) ⟨⟨_, rfl⟩, rfl⟩
    have hyl : ys.length < 1000 := by rw [hys.length, List.length_map, List.length_map]; simp only [List.length_append, List.length_take, List.length_cons, List.length_nil]; omega
    have hyl2 : ys2.length < 100 := by rw [hys2.length, List.length_map, List.length_map]; simp only [List.length_append, List.length_take, List.length_drop, List.length_cons, List.length_nil]; omega
    k_steps
    refine (?_ : wpAny _ _ _ _ _ _)
    refine filterK (by assumption) (by k_asm) (by k_asm) (by assumption) (by assumption) rfl rfl (by k_mem) (by k_mem) hys hys2 hyl (by decide) (by decide) ?_
    intro S3 vs3 c3 h3 tk3 F3 N3 str3 l3
    clear l3
    k_steps
    refine (?_ : wpAny _ _ _ _ _ _)
    refine leftK (by assumption) F3 N3 (by assumption) (by assumption) rfl rfl (by k_mem) (by k_mem) hMo hSk (by omega) (by omega) (by decide) (by decide) ?_
    intro S4 vs4 c4 h4 tk4 F4 N4 str4 l4
    clear l4
    k_steps
    refine (?_ : wpAny _ _ _ _ _ _)
    (with_reducible rename Fr _ _ _ _ => FF)
    (with_reducible rename News _ _ _ _ => NN)
    (with_reducible rename StrsAre _ (keep2 _ _) => sK)
    (with_reducible rename StrsAre _ (leftL _ _ _) => sL)
    refine ne_strsK NN (.tail _ (.head _)) (.head _) sK sL lawP1 plain_ok (by exact of_decide_eq_true rfl) ?_
    replace NN := NN.perm (pick5 (.tail _ (.tail _ (.head _))) (.tail _ (.tail _ (.tail _ (.head _)))) (.tail _ (.tail _ (.tail _ (.tail _ (.head _))))) (.tail _ (.tail _ (.tail _ (.tail _ (.tail _ (.tail _ (.tail _ (.tail _ (.head _))))))))) (.tail _ (.tail _ (.tail _ (.tail _ (.tail _ (.tail _ (.tail _ (.tail _ (.tail _ (.tail _ (.tail _ (.tail _ (.head _))))))))))))))
    k_steps
    refine (?_ : wpAny _ _ _ _ _ _)
    (with_reducible rename Fr _ _ _ _ => FF)
    (with_reducible rename News _ _ _ _ => NN)
    refine sievedK (by assumption) FF NN (by assumption) (by assumption) rfl rfl (upd94 (l := [_, _, _, _]) NN (by simp)) (.inl rfl) (.tail _ (.head _)) (.head _) hys hys2 hyl hyl2 rows10 pats_ok (by decide) (by decide) ?_
    intro S1 vsS1 cS1 ps1 h1 tk1 F1 N1 tok1 str1 l1
    simp only [List.cons_append, List.nil_append] at N1
    clear l1 FF NN
    k_steps
    refine (?_ : wpAny _ _ _ _ _ _)
    refine sievedK (by assumption) F1 N1 (by assumption) (by assumption) rfl rfl (upd94 (l := [_, _, _, _, _]) N1 (by simp)) tok1 (.tail _ (.tail _ (.head _))) (.tail _ (.head _)) hys hys2 hyl hyl2 rows10 pats_ok (by decide) (by decide) ?_
    intro S2 vsS2 cS2 ps2 h2 tk2 F2 N2 tok2 str2 l2
    simp only [List.cons_append, List.nil_append] at N2
    clear l2 F1 N1
    k_steps
    refine (?_ : wpAny _ _ _ _ _ _)
    (with_reducible rename Fr _ _ _ _ => F5)
    (with_reducible rename News _ _ _ _ => N5)
    refine leftK (by assumption) F5 N5 (by assumption) (by assumption) rfl rfl (by k_mem) (by k_mem) hMo hSk (by omega) (by omega) (by decide) (by decide) ?_
    intro S6 vs6 c6 h6 tk6 F6 N6 str6 l6
    clear l6 F5 N5
    k_steps
    refine (?_ : wpAny _ _ _ _ _ _)
    refine leftK (by assumption) F6 N6 (by assumption) (by assumption) rfl rfl (by k_mem) (by k_mem) hMo hSk (by omega) (by omega) (by decide) (by decide) ?_
    intro S7 vs7 c7 h7 tk7 F7 N7 str7 l7
    clear l7 F6 N6
    k_steps
    refine (?_ : wpAny _ _ _ _ _ _)
    (with_reducible rename News _ _ _ _ => N3)
    rw [lawP2, Bool.not_true] at str1
    rw [lawP2, Bool.not_false] at str2
    refine eq_pairK N3 (.tail _ (.tail _ (.tail _ (.head _)))) (.head _) (.tail _ (.tail _ (.tail _ (.tail _ (.tail _ (.head _)))))) (.tail _ (.tail _ (.tail _ (.tail _ (.head _))))) (.tail _ (.tail _ (.head _))) (.tail _ (.head _)) str1 str2 str6 str7 plain_ok plain_ok (by exact of_decide_eq_true rfl) ?_
    k_steps)⟩
