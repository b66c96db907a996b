import PyProof.Rows.All
import PyProof.EqKinds
import PyProof.StrLawsIdx
import PyProof.StrLawsTight
import PyProof.StrLawsReplace
import PyProof.StrLawsLast
import Wide.BytesRules
import KE.BytesMake
import KE.KBits
import KE.KBytesAny
import KE.KBytesMore
import KE.KBytesUnr
import KE.KCat
import KE.KLcFree
import KE.KLcTest
import KE.KStateW
import KE.KFromBytes
import KE.KOwnIter
import KE.KStopIter
import KE.KSuperObj
import KE.KxDecode
import Wide.FinOn
import OpenK.AllK
import Wide.All
import Lean
import PySem.Challenge.RW_ik0089_01
set_option Elab.async false
set_option maxRecDepth 100000
set_option maxHeartbeats 4000000
set_option linter.all false
set_option compiler.extract_closed false
section
open PySem PySem.W PyProof.Rows
set_option maxHeartbeats 0
-- lays K, the written part of the heap behind the top: Mine.hd.heap_1
local macro_rules | `(tactic| o_head $_) => `(tactic| assumption)
theorem Mine.hd (h : PySem.Challenge.rw_ik0089_01.row.Holds) : True := by
  have : PySem.Challenge.rw_ik0089_01.row.Holds := by x_head
  trivial
end
section
open PySem PySem.W PyProof.Rows PySem.Spec PySem.Calls
namespace Mine
abbrev rowL : OpenRow := PySem.Challenge.rw_ik0089_01.row
noncomputable def keptAt : List Nat := [62]
noncomputable def viewQ : Program := { PySem.Challenge.pw_ik0089_01 with main := { PySem.Challenge.pw_ik0089_01.main with body := keptAt.filterMap fun i => PySem.Challenge.pw_ik0089_01.main.body[i]? } }
noncomputable def looseL : List Str := ["_sre", "deque", "_wall", "_plain_name", "ABCMeta", "_ABCLike", "_abc_plain_meta", "fspath", "_check_arg_types", "check_arg_types_genericpath", "_get_sep", "join", "join_posixpath", "splitroot", "basename", "dirname", "dirname_posixpath", "normpath", "_buffer", "_truth", "_B64", "b2a_base64", "b64encode", "_twin_re_1", "_whence", "_index", "UnsupportedOperation", "IOBase", "BufferedIOBase", "TextIOBase", "BytesIO", "StringIO", "_kind", "_fspath", "check_arg_types_path", "isabs", "join_path", "dirname_path", "shlex", "split", "_find_unsafe", "quote", "_law_rows", "_law_raw", "_law_filled", "_law_apart", "_law_due"].map Str.ofString
noncomputable def kAs : List Addr := [(0, 16), (38, 15), (59, 10), (71, 1), (78, 24), (104, 93), (200, 17), (223, 4), (236, 13), (251, 1), (258, 3), (263, 1), (270, 3), (275, 1), (282, 221), (505, 1), (512, 238), (752, 42), (801, 86), (889, 50)].flatMap fun (p : Nat × Nat) => List.range' p.1 p.2
theorem kAs_eq (P : Params) : kAs = (Mine.hd.heap_1 P).map (·.1) := by kernel_rfl
noncomputable def seenQ (s : Shared) : Bool := xlAt viewQ [] s && recOk (RowW.records rowL.toRowW) s
noncomputable def insAll : List Obj → Nat → BT → Option BT
  | [], _, t => some t
  | o :: r, n, t => match ((t.ins n o).get n).isSome with
    | true => insAll r (n + 1) (t.ins n o)
    | false => none
theorem insAll_abs {life : Life} : ∀ (l : List Obj) (n : Nat) (t T : BT), insAll l n t = some T → (absHeap T (n + l.length) life).objs = (absHeap t n life).objs ++ l.toArray
  | [], n, t, T, h => by
    cases h
    show (absHeap t n life).objs = (absHeap t n life).objs ++ #[]
    rw [Array.append_empty]
  | o :: r, n, t, T, h => by
    unfold insAll at h
    cases e : ((t.ins n o).get n).isSome with
    | false => rw [e] at h; cases h
    | true =>
      rw [e] at h
      have ih := insAll_abs (life := life) r (n + 1) (t.ins n o) T h
      rw [show n + (o :: r).length = n + 1 + r.length by rw [List.length_cons]; omega, ih, absHeap_ins e]
      show ((absHeap t n life).objs.push o) ++ r.toArray = _
      apply Array.toList_inj.mp
      simp
theorem through_end (t : Thread) : through t = (endAt 0 t).isSome := by
  obtain ⟨cur, code, pos, stack⟩ := t
  cases stack with
  | nil => cases cur <;> first | rfl | (rename_i f; cases f <;> rfl)
  | cons a r => rfl
theorem top_step {e : Option Flow} {k : Bool} {st : Step} {s : Shared} {c : Code} {q : Pos} {F : Shared → Thread → Option (Flow × Shared × Code × Pos)} {G : Shared → Thread → Option Shared} (ih : ∀ s t r, F s t = some r → G s t = some r.2.1) {r : Flow × Shared × Code × Pos}
    (h : (match e with | some f => some (f, s, c, q) | none => match k with | false => none | true => match st with | .go s' t' => F s' t' | .halt _ _ => none) = some r) :
    (match (generalizing := false) e.isSome with | true => some s | false => match (generalizing := false) k with | false => none | true => match (generalizing := false) st with | .go s' t' => G s' t' | .halt _ _ => none) = some r.2.1 := by
  cases e with
  | some f => cases h; rfl
  | none => cases k with
    | false => cases h
    | true => cases st with
      | halt o s₂ => cases h
      | go s₂ t₂ => exact ih _ _ _ h
theorem seg_topRun {tb : String → Option Builtin} {p : Program} {w : World} {n₀ : Nat} {ann : Option Value} : ∀ {n : Nat} {s : Shared} {t : Thread} {r : Flow × Shared × Code × Pos}, segRun tb p w n₀ ann 0 n s t = some r → topRun tb p w n₀ ann n s t = some r.2.1
  | 0, _, _, _, h => by cases h
  | n + 1, s, t, _, h => by
    unfold topRun
    rw [through_end]
    exact top_step (fun _ _ _ => seg_topRun) h
noncomputable abbrev PP : Program := PySem.Challenge.pw_ik0089_01
/-- an object, looked up in the tree -/
noncomputable def getT (S : SharedT) (a : Nat) : Option Obj := match Nat.blt a S.n with
  | true => alive ((S.tree.get a).getD default)
  | false => none
theorem getT_abs (S : SharedT) (a : Nat) : getT S a = S.abs.heap.get? a := by
  obtain ⟨T, n, life, gens, drawn, toks, os⟩ := S
  show getT ⟨T, n, life, gens, drawn, toks, os⟩ a = (absHeap T n life).get? a
  unfold getT Heap.get?
  rw [absHeap_at]
  cases e : Nat.blt a n with
  | false =>
    have : ¬ a < n := fun q => by rw [show Nat.blt a n = true from Nat.ble_eq_true_of_le q] at e; cases e
    rw [if_neg this]
  | true =>
    have lt : a < n := Nat.le_of_ble_eq_true e
    rw [if_pos lt]
    generalize (T.get a).getD default = o
    obtain ⟨c, d, dt, sl⟩ := o
    cases dt <;> rfl
noncomputable def hookT (S : SharedT) : List (Option Obj) := kAs.map fun a => getT S a
theorem hookT_abs (S : SharedT) : hookT S = kAs.map S.abs.heap.get? := List.map_congr_left fun a _ => getT_abs S a

/-! ## The top in four pieces: the states between them are told from K; what nobody looks at stays a letter -/
theorem segGo_top {tb : String → Option Builtin} {p : Program} {w : World} {n₀ : Nat} {ann : Option Value} : ∀ {n : Nat} {s s' : Shared} {t t' : Thread}, segGo tb p w n₀ ann 0 n s t = some (s', t') → topGo tb p w n₀ ann n s t = some (s', t')
  | 0, _, _, _, _, h => h
  | n + 1, s, s', t, t', h => by
    unfold segGo at h
    unfold topGo
    cases he : endAt 0 t with
    | some x => rw [he] at h; cases h
    | none =>
      rw [he] at h
      rw [through_end, he]
      cases hk : stepOk n₀ ann t with
      | false => rw [hk] at h; cases h
      | true =>
        rw [hk] at h
        cases hs : step (denote tb) p w s t with
        | halt o s₂ => rw [hs] at h; cases h
        | go s₂ t₂ => rw [hs] at h; exact segGo_top h
/-- the objects of a heap: those of the list at their places, letters at the others -/
noncomputable def fill (g : Nat → Obj) : Nat → Nat → List (Addr × Obj) → List Obj
  | 0, _, _ => []
  | n + 1, a, [] => g a :: fill g n (a + 1) []
  | n + 1, a, p :: r => match Nat.beq a p.1 with
    | true => p.2 :: fill g n (a + 1) r
    | false => g a :: fill g n (a + 1) (p :: r)
theorem fill_length (g : Nat → Obj) : ∀ (n a : Nat) (ks : List (Addr × Obj)), (fill g n a ks).length = n
  | 0, _, _ => rfl
  | n + 1, a, [] => congrArg (· + 1) (fill_length g n (a + 1) [])
  | n + 1, a, p :: r => by
    unfold fill
    cases Nat.beq a p.1 with
    | true => exact congrArg (· + 1) (fill_length g n (a + 1) r)
    | false => exact congrArg (· + 1) (fill_length g n (a + 1) (p :: r))
theorem fill_at (g : Nat → Obj) : ∀ (n a : Nat) (ks : List (Addr × Obj)) (i : Nat), i < n → (fill g n a ks)[i]? = some (g (a + i)) ∨ ∃ o, (a + i, o) ∈ ks ∧ (fill g n a ks)[i]? = some o
  | 0, _, _, _, h => absurd h (Nat.not_lt_zero _)
  | n + 1, a, [], 0, _ => .inl rfl
  | n + 1, a, [], i + 1, h => by
    rcases fill_at g n (a + 1) [] i (Nat.lt_of_succ_lt_succ h) with q | ⟨o, q, _⟩
    · rw [Nat.succ_add_eq_add_succ] at q; exact .inl q
    · cases q
  | n + 1, a, p :: r, 0, _ => by
    unfold fill
    cases e : Nat.beq a p.1 with
    | true =>
      obtain ⟨b, o⟩ := p
      obtain rfl : a = b := Nat.eq_of_beq_eq_true e
      exact .inr ⟨o, List.mem_cons_self, rfl⟩
    | false => exact .inl rfl
  | n + 1, a, p :: r, i + 1, h => by
    unfold fill
    cases Nat.beq a p.1 with
    | true =>
      rcases fill_at g n (a + 1) r i (Nat.lt_of_succ_lt_succ h) with q | ⟨o, q, q2⟩
      · rw [Nat.succ_add_eq_add_succ] at q; exact .inl q
      · rw [Nat.succ_add_eq_add_succ] at q; exact .inr ⟨o, List.mem_cons_of_mem _ q, q2⟩
    | false =>
      rcases fill_at g n (a + 1) (p :: r) i (Nat.lt_of_succ_lt_succ h) with q | ⟨o, q, q2⟩
      · rw [Nat.succ_add_eq_add_succ] at q; exact .inl q
      · rw [Nat.succ_add_eq_add_succ] at q; exact .inr ⟨o, q, q2⟩
theorem fill_eq {G : List Obj} {ks : List (Addr × Obj)} (h : ∀ p ∈ ks, G[p.1]? = some p.2) : fill (fun a => (G[a]?).getD default) G.length 0 ks = G := by
  refine List.ext_getElem? fun i => ?_
  by_cases hi : i < G.length
  · rcases fill_at (fun a => (G[a]?).getD default) G.length 0 ks i hi with q | ⟨o, q, q2⟩
    · rw [q, Nat.zero_add, List.getElem?_eq_getElem hi]; rfl
    · rw [q2]; rw [Nat.zero_add] at q; exact (h _ q).symm
  · rw [List.getElem?_eq_none (by rw [fill_length]; omega), List.getElem?_eq_none (by omega)]
/-- a state between two pieces -/
noncomputable def stOf (g : Nat → Obj) (n : Nat) (ks : List (Addr × Obj)) (tk : Nat) (os : OsState) : Shared := ⟨⟨(fill g n 0 ks).toArray, {}⟩, #[], {}, tk, os⟩
theorem stOf_abs {g : Nat → Obj} {n : Nat} {ks : List (Addr × Obj)} {tk : Nat} {os : OsState} {T : BT} (h : insAll (fill g n 0 ks) 0 .nil = some T) : SharedT.abs ⟨T, n, {}, #[], {}, tk, os⟩ = stOf g n ks tk os := by
  have z := insAll_abs (life := {}) (fill g n 0 ks) 0 .nil T h
  rw [Nat.zero_add, fill_length] at z
  have z2 : absHeap T n {} = ⟨(fill g n 0 ks).toArray, {}⟩ := by
    have z3 : (absHeap T n {}).objs = (fill g n 0 ks).toArray := z.trans (by show #[] ++ _ = _; rw [Array.empty_append])
    exact congrArg (Heap.mk · {}) z3
  show Shared.mk (absHeap T n {}) #[] {} tk os = _
  rw [z2]
  rfl
noncomputable def seenT (kq : List (Addr × Obj)) (S : SharedT) : Nat × Life × Array GenState × Drawn × Nat × OsState × List (Option Obj) := (S.n, S.life, S.gens, S.drawn, S.toks, S.os, kq.map fun p => S.tree.get p.1)
noncomputable def wantT (kq : List (Addr × Obj)) (n tk : Nat) (os : OsState) : Nat × Life × Array GenState × Drawn × Nat × OsState × List (Option Obj) := (n, {}, #[], {}, tk, os, kq.map fun p => some p.2)
theorem abs_stOf {S : SharedT} {kq : List (Addr × Obj)} {n tk : Nat} {os : OsState} (h : seenT kq S = wantT kq n tk os) (hk : kq.all (fun p => Nat.blt p.1 n) = true) : ∃ g, S.abs = stOf g n kq tk os := by
  obtain ⟨T, m, life, gens, drawn, toks, os'⟩ := S
  unfold seenT wantT at h
  simp only [Prod.mk.injEq] at h
  obtain ⟨rfl, rfl, rfl, rfl, rfl, rfl, h⟩ := h
  refine ⟨fun a => ((T.list m)[a]?).getD default, ?_⟩
  have hl : (T.list m).length = m := by unfold BT.list; rw [List.length_map, List.length_range]
  have e : fill (fun a => ((T.list m)[a]?).getD default) (T.list m).length 0 kq = T.list m := fill_eq fun p hp => by
    have lt : p.1 < m := Nat.le_of_ble_eq_true (List.all_eq_true.mp hk p hp)
    have q : T.get p.1 = some p.2 := List.map_inj_left.mp h p hp
    unfold BT.list
    rw [List.getElem?_map, List.getElem?_range lt]
    show some ((T.get p.1).getD default) = _
    rw [q]
    rfl
  rw [hl] at e
  show Shared.mk (absHeap T m {}) #[] {} toks os' = _
  unfold stOf absHeap
  rw [e]
abbrev pos0 : Pos := ⟨0, 0, 0, 0⟩
noncomputable abbrev bodyL : List Stmt := behindTheImports PP
noncomputable abbrev envL : Env := { scope := PP.main.scope, locals := 3, globals := 3, cells := [], code := .ref 36, frame := some 37 }
noncomputable abbrev codeL : Code := .body bodyL envL
noncomputable abbrev B0 : List Frame := [topFrame pos0]
abbrev TrunR := (String → Option Builtin) → Program → World → Nat → Option Value → Nat → Nat → SharedT → Thread → Option (Flow × SharedT × Code × Pos)
/-- a piece, run over a tree -/
noncomputable def segQ (SR : TrunR) (EX : List Stmt → Env → Sem Flow) (tb : String → Option Builtin) (l : List Stmt) (n : Nat) (ks : List (Addr × Obj)) (tk N : Nat) (pos : Pos) (kq : List (Addr × Obj)) (w : World) (os : OsState) (g : Nat → Obj) : Option (Flow × (Nat × Life × Array GenState × Drawn × Nat × OsState × List (Option Obj)) × Code × Pos) :=
  (insAll (fill g n 0 ks) 0 .nil).bind fun T => (SR tb PP w 34 (some (.ref 6)) 1 N ⟨T, n, {}, #[], {}, tk, os⟩ ⟨(EX l envL).wrap doneF deadEnd id id, codeL, pos, B0⟩).bind fun r => some (r.1, seenT kq r.2.1, r.2.2)
theorem segQ_use {l : List Stmt} {n : Nat} {ks : List (Addr × Obj)} {tk N : Nat} {pos pos' : Pos} {kq : List (Addr × Obj)} {n' tk' : Nat} {w : World} {os : OsState} {g : Nat → Obj}
    (h : segQ segRunT execs treeTable l n ks tk N pos kq w os g = some (.next, wantT kq n' tk' os, codeL, pos')) (hk : kq.all (fun p => Nat.blt p.1 n') = true) :
    ∃ g', segRun treeTable PP w 34 (some (.ref 6)) 1 N (stOf g n ks tk os) (piecesOf l envL codeL pos B0) = some (.next, stOf g' n' kq tk' os, codeL, pos') := by
  obtain ⟨T, e1, h⟩ := Option.bind_eq_some_iff.mp h
  obtain ⟨⟨f, S, c⟩, e2, h⟩ := Option.bind_eq_some_iff.mp h
  obtain ⟨h1, h2⟩ := Prod.mk.inj (Option.some.inj h)
  obtain ⟨hS, h3⟩ := Prod.mk.inj h2
  obtain ⟨g', hg⟩ := abs_stOf hS hk
  have k := segRun_of e2
  rw [stOf_abs e1, hg] at k
  exact ⟨g', k.trans (congrArg some (Prod.ext h1 (congrArg (Prod.mk _) h3)))⟩
/-- the first piece: from the opening on -/
noncomputable def oneQ (IE : World → Option Shared) (GO : (String → Option Builtin) → Program → World → Nat → Option Value → Nat → Nat → SharedT → Thread → Option (SharedT × Thread)) (SR : TrunR) (BS : List Stmt → Env → Sem Unit) (tb : String → Option Builtin) (k0 kb : List (Addr × Obj)) (w : World) :=
  (IE w).bind fun s₀ => (insAll s₀.heap.objs.toList 0 .nil).bind fun T => (GO tb PP w 34 (some (.ref 6)) 0 12 ⟨T, s₀.heap.objs.size, s₀.heap.life, s₀.gens, s₀.drawn, s₀.toks, s₀.os⟩ (topStub PP)).bind fun r =>
    (SR tb PP w 34 (some (.ref 6)) 1 1 r.1 ⟨(BS bodyL envL).wrap (fun _ => doneF .next) deadEnd id id, codeL, pos0, B0⟩).bind fun z => some (seenT k0 ⟨T, s₀.heap.objs.size, s₀.heap.life, s₀.gens, s₀.drawn, s₀.toks, s₀.os⟩, r.2, z.1, seenT kb z.2.1, z.2.2)
theorem plain_abs {s₀ : Shared} {T : BT} (e1 : insAll s₀.heap.objs.toList 0 .nil = some T) : SharedT.abs ⟨T, s₀.heap.objs.size, s₀.heap.life, s₀.gens, s₀.drawn, s₀.toks, s₀.os⟩ = s₀ := by
  have z := insAll_abs (life := s₀.heap.life) s₀.heap.objs.toList 0 .nil T e1
  rw [Nat.zero_add, Array.length_toList, Array.toArray_toList] at z
  obtain ⟨⟨objs, life⟩, gens, drawn, toks, os⟩ := s₀
  show Shared.mk (absHeap T objs.size life) gens drawn toks os = _
  have z2 : absHeap T objs.size life = ⟨objs, life⟩ := by
    have z3 : (absHeap T objs.size life).objs = objs := z.trans (by show #[] ++ objs = objs; rw [Array.empty_append])
    exact congrArg (Heap.mk · life) z3
  rw [z2]
theorem oneQ_use {k0 kb : List (Addr × Obj)} {w : World} {os : OsState} {n' tk' tk0 : Nat} {pos' : Pos}
    (h : oneQ (fun w => fencedOpening treeTable PP w 12412) segGoT segRunT blockStart treeTable k0 kb w = some (wantT k0 34 tk0 os, ⟨denote treeTable codeL, codeL, pos0, B0⟩, .next, wantT kb n' tk' os, codeL, pos'))
    (h0 : k0.all (fun p => Nat.blt p.1 34) = true) (hk : kb.all (fun p => Nat.blt p.1 n') = true) :
    ∃ g0 g s₁, fencedOpening treeTable PP w 12412 = some (stOf g0 34 k0 tk0 os) ∧ topGo treeTable PP w 34 (some (.ref 6)) 12 (stOf g0 34 k0 tk0 os) (topStub PP) = some (s₁, ⟨denote treeTable codeL, codeL, pos0, B0⟩) ∧
      segRun treeTable PP w 34 (some (.ref 6)) 1 1 s₁ (blockOf bodyL envL codeL pos0 B0) = some (.next, stOf g n' kb tk' os, codeL, pos') := by
  obtain ⟨s₀, e0, h⟩ := Option.bind_eq_some_iff.mp h
  obtain ⟨T, e1, h⟩ := Option.bind_eq_some_iff.mp h
  obtain ⟨⟨S, t⟩, e2, h⟩ := Option.bind_eq_some_iff.mp h
  obtain ⟨⟨f, S', c⟩, e3, h⟩ := Option.bind_eq_some_iff.mp h
  obtain ⟨hA, h1⟩ := Prod.mk.inj (Option.some.inj h)
  obtain ⟨h2, h3⟩ := Prod.mk.inj h1
  obtain ⟨h4, h5⟩ := Prod.mk.inj h3
  obtain ⟨hB, h6⟩ := Prod.mk.inj h5
  clear h h1 h3 h5
  obtain ⟨g0, hg0⟩ := abs_stOf hA h0
  obtain ⟨g, hg⟩ := abs_stOf hB hk
  have k2 := segGo_top (segGo_of e2)
  have k3 := segRun_of e3
  rw [plain_abs e1] at hg0 k2
  rw [hg] at k3
  rw [hg0] at e0 k2
  exact ⟨g0, g, S.abs, e0, k2.trans (congrArg (fun t => some (S.abs, t)) h2), k3.trans (congrArg some (Prod.ext h4 (congrArg (Prod.mk _) h6)))⟩
/-- the last piece, and what is seen behind it -/
noncomputable def lastQ {α : Type} (SR : TrunR) (EX : List Stmt → Env → Sem Flow) (tb : String → Option Builtin) (l : List Stmt) (n : Nat) (ks : List (Addr × Obj)) (tk N : Nat) (pos : Pos) (k0 : List (Addr × Obj)) (obs : SharedT → α) (w : World) (os : OsState) (g g0 : Nat → Obj) : Option (Bool × Bool × Option Value × α) :=
  (insAll (fill g n 0 ks) 0 .nil).bind fun T => (SR tb PP w 34 (some (.ref 6)) 0 N ⟨T, n, {}, #[], {}, tk, os⟩ ⟨(EX l envL).wrap doneF (leaveH envL) id id, codeL, pos, B0⟩).bind fun r =>
    some (Heap.isNs ⟨(fill g0 34 0 k0).toArray, {}⟩ mainGlobals, staticsOk (importedModules PP.main.body) ⟨(fill g0 34 0 k0).toArray, {}⟩ r.2.1.abs.heap && namesBound PP r.2.1.abs.heap && gensDone r.2.1.abs && laidKept ⟨(fill g0 34 0 k0).toArray, {}⟩ r.2.1.abs.heap,
        Heap.nsMap ⟨(fill g0 34 0 k0).toArray, {}⟩ mainGlobals "__annotations__", obs r.2.1)
theorem lastQ_use {α : Type} {l : List Stmt} {n : Nat} {ks : List (Addr × Obj)} {tk N : Nat} {pos : Pos} {k0 : List (Addr × Obj)} {obsT : SharedT → α} {obs : Shared → α} {w : World} {os : OsState} {g g0 : Nat → Obj} {x : α} (ho : ∀ S, obsT S = obs S.abs)
    (h : lastQ segRunT execs treeTable l n ks tk N pos k0 obsT w os g g0 = some (true, true, some (.ref 6), x)) (tk0 : Nat) :
    ∃ S : Shared, topRun treeTable PP w 34 (some (.ref 6)) N (stOf g n ks tk os) (restOf l envL codeL pos B0) = some S ∧ obs S = x ∧ (stOf g0 34 k0 tk0 os).heap.isNs mainGlobals = true ∧ (stOf g0 34 k0 tk0 os).heap.nsMap mainGlobals "__annotations__" = some (.ref 6) ∧
      (staticsOk (importedModules PP.main.body) (stOf g0 34 k0 tk0 os).heap S.heap && namesBound PP S.heap && gensDone S && laidKept (stOf g0 34 k0 tk0 os).heap S.heap) = true := by
  obtain ⟨T, e1, h⟩ := Option.bind_eq_some_iff.mp h
  obtain ⟨⟨f, S, c, q⟩, e2, h⟩ := Option.bind_eq_some_iff.mp h
  obtain ⟨h1, h2⟩ := Prod.mk.inj (Option.some.inj h)
  obtain ⟨h3, h4⟩ := Prod.mk.inj h2
  obtain ⟨h5, h6⟩ := Prod.mk.inj h4
  have k := segRun_of e2
  rw [stOf_abs e1] at k
  exact ⟨S.abs, seg_topRun k, (ho S).symm.trans h6, h1, h5, h3⟩
noncomputable def dictTo (k : Nat) (o : Obj) : Obj := match o.data with
  | .dict es _ => { o with data := .dict ⟨es.toList.take k⟩ k }
  | _ => o
noncomputable def valTo (v : Value) (e : DictEntry) : DictEntry := { e with val := v }
noncomputable def mainTo (nm : Str) (tk k : Nat) (o : Obj) : Obj := match o.data with
  | .dict es _ => { o with data := .dict ⟨((((es.toList.take k).modify 0 (valTo (.str nm tk))).modify 17 (valTo (.ref 124))).modify 20 (valTo (.ref 138))).modify 24 (valTo (.ref 159))⟩ k }
  | _ => o
noncomputable def noSub (o : Obj) : Obj := match o.data with
  | .cls c => { o with data := .cls { c with subclasses := [] } }
  | _ => o
/-- K's objects below n, some of them in an earlier form -/
noncomputable def early (n : Nat) (f : List (Addr × (Obj → Obj))) : List (Addr × Obj) → List (Addr × Obj)
  | [] => []
  | p :: r => match Nat.blt p.1 n with
    | true => (match f with
      | (a, h) :: _ => (match Nat.beq a p.1 with
        | true => (p.1, h p.2) :: early n (f.drop 1) r
        | false => p :: early n f r)
      | [] => p :: early n f r)
    | false => []
noncomputable def lines : List (Int × Addr) := [(3, 43), (7, 50), (13, 57), (18, 76), (33, 109), (37, 116), (54, 123), (67, 130), (72, 137), (90, 144), (104, 151), (109, 158), (118, 165), (144, 172), (151, 179), (157, 187), (180, 195), (188, 207), (193, 214), (200, 221), (202, 234), (209, 256), (211, 268), (213, 280), (383, 510), (589, 757), (610, 764), (615, 771), (621, 778), (624, 785), (645, 792), (655, 799), (907, 895), (916, 903), (923, 908), (926, 915), (933, 920), (941, 925), (947, 932), (950, 937)]
noncomputable def obj35 (k : Nat) : Obj := { cls := .none, data := .fields ⟨(lines.take k).flatMap fun p => [.int p.1 0, .int 0 0, .ref p.2]⟩ }
noncomputable def obj36 : Obj := { cls := .type "code", data := .fields #[.str "<module>" 319, .str "<module>" 320, .str "/claim/cut.py" 321, .int 1 0, .int 0 0, .int 0 0, .int 0 0, .int 0 0, .ref 34, .bool false, .int 318 0, .ref 35, .none, .none, .none, .none, .int 322 0, .int 1 0, .str "/claim/cut.py" 323] }
noncomputable def obj37 : Obj := { cls := .type "frame", slots := #[some (.ref 36), some (.ref 3), some (.ref 3), none, some (.str "__main__" 164), none, some (.ref 0)] }
noncomputable def kHd (k : Nat) (l : List (Addr × Obj)) : List (Addr × Obj) := l.take 16 ++ (35, obj35 k) :: (36, obj36) :: (37, obj37) :: l.drop 16
noncomputable def k0 (P : Params) : List (Addr × Obj) := early 16 [(2, dictTo 13), (3, mainTo "__main__" 164 11)] (Mine.hd.heap_1 P)
noncomputable def kb (P : Params) : List (Addr × Obj) := kHd 0 (early 38 [(2, dictTo 13), (3, mainTo "__main__" 164 11)] (Mine.hd.heap_1 P))
noncomputable def k1 (P : Params) : List (Addr × Obj) := kHd 23 (early 275 [(3, mainTo "io" 594 39), (260, noSub), (272, noSub)] (Mine.hd.heap_1 P))
noncomputable def k2 (P : Params) : List (Addr × Obj) := kHd 24 (early 505 [(3, mainTo "io" 594 40), (272, noSub)] (Mine.hd.heap_1 P))
noncomputable def k3 (P : Params) : List (Addr × Obj) := kHd 25 (early 752 [(3, mainTo "io" 594 41)] (Mine.hd.heap_1 P))
noncomputable def k4 (P : Params) : List (Addr × Obj) := kHd 40 (Mine.hd.heap_1 P)
abbrev pos1 : Pos := ⟨211, 0, 212, 21⟩
abbrev pos2 : Pos := ⟨213, 0, 382, 17⟩
abbrev pos3 : Pos := ⟨383, 0, 587, 17⟩
abbrev pos4 : Pos := ⟨950, 0, 958, 87⟩
noncomputable abbrev osL : OsState := (start (opening PP)).1.os

theorem one_ok (w : World) : oneQ (fun w => (Fast.tw10274390034422433532 Fast.tw14364793385576792824 (opening PP) w 12412 (Fast.tw1435165496053646825 (opening PP)).1 (Fast.tw1435165496053646825 (opening PP)).2).bind (Fast.tw14289696077712309145 PP)) Fast.tw10295753902157049106 Fast.tw10110043849684766642 Fast.tw1066825118222455980 Fast.tw14364793385576792824 (k0 w.params) (kb w.params) w =
    some (wantT (k0 w.params) 34 318 (Fast.tw1435165496053646825 (opening PP)).1.os, ⟨Fast.tw11892475500146522536 Fast.tw14364793385576792824 codeL, codeL, pos0, B0⟩, .next, wantT (kb w.params) 38 324 (Fast.tw1435165496053646825 (opening PP)).1.os, codeL, pos0) := by
  kernel_rfl


theorem seg1_ok (w : World) : segQ Fast.tw10110043849684766642 Fast.tw12563942051412417395 Fast.tw14364793385576792824 (bodyL.take 37) 38 (kb w.params) 324 2160 pos0 (k1 w.params) w = fun os g => some (.next, wantT (k1 w.params) 275 702 os, codeL, pos1) := by
  kernel_rfl


theorem seg2_ok (w : World) : segQ Fast.tw10110043849684766642 Fast.tw12563942051412417395 Fast.tw14364793385576792824 ((bodyL.drop 37).take 1) 275 (k1 w.params) 702 1290 pos1 (k2 w.params) w = fun os g => some (.next, wantT (k2 w.params) 505 964 os, codeL, pos2) := by
  kernel_rfl


theorem seg3_ok (w : World) : segQ Fast.tw10110043849684766642 Fast.tw12563942051412417395 Fast.tw14364793385576792824 ((bodyL.drop 38).take 1) 505 (k2 w.params) 964 1590 pos2 (k3 w.params) w = fun os g => some (.next, wantT (k3 w.params) 752 1251 os, codeL, pos3) := by
  kernel_rfl


theorem seg4_ok (w : World) : segQ Fast.tw10110043849684766642 Fast.tw12563942051412417395 Fast.tw14364793385576792824 (bodyL.drop 39) 752 (k3 w.params) 1251 1150 pos3 (k4 w.params) w = fun os g => some (.next, wantT (k4 w.params) 939 1520 os, codeL, pos4) := by
  kernel_rfl
theorem last_ok (w : World) : lastQ Fast.tw10110043849684766642 Fast.tw12563942051412417395 Fast.tw14364793385576792824 [] 939 (k4 w.params) 1520 4 pos4 (k0 w.params) (fun S => (Fast.tw4187177175401517315 viewQ looseL (importedModules PP.main.body) seenQ true S.abs, hookT S)) w =
    fun os g g0 => some (true, true, some (.ref 6), openGood viewQ looseL, (Mine.hd.heap_1 w.params).map fun p => some p.2) := by
  kernel_rfl
noncomputable def obsK (s : Shared) : List (Option Obj) := kAs.map s.heap.get?
noncomputable def valK (w : World) : List (Option Obj) := (Mine.hd.heap_1 w.params).map fun p => some p.2

theorem one_plain (w : World) : oneQ (fun w => fencedOpening treeTable PP w 12412) segGoT segRunT blockStart treeTable (k0 w.params) (kb w.params) w = some (wantT (k0 w.params) 34 318 osL, ⟨denote treeTable codeL, codeL, pos0, B0⟩, .next, wantT (kb w.params) 38 324 osL, codeL, pos0) := by
  delta osL fencedOpening
  rw [Fast.te10295753902157049106, Fast.te10110043849684766642, Fast.te1066825118222455980, Fast.te14364793385576792824, Fast.te10274390034422433532, Fast.te1435165496053646825, Fast.te14289696077712309145, Fast.te11892475500146522536]
  exact one_ok w
theorem seg1_plain (w : World) (os : OsState) (g : Nat → Obj) : segQ segRunT execs treeTable (bodyL.take 37) 38 (kb w.params) 324 2160 pos0 (k1 w.params) w os g = some (.next, wantT (k1 w.params) 275 702 os, codeL, pos1) := by
  rw [Fast.te10110043849684766642, Fast.te12563942051412417395, Fast.te14364793385576792824]
  exact congrFun (congrFun (seg1_ok w) os) g
theorem seg2_plain (w : World) (os : OsState) (g : Nat → Obj) : segQ segRunT execs treeTable ((bodyL.drop 37).take 1) 275 (k1 w.params) 702 1290 pos1 (k2 w.params) w os g = some (.next, wantT (k2 w.params) 505 964 os, codeL, pos2) := by
  rw [Fast.te10110043849684766642, Fast.te12563942051412417395, Fast.te14364793385576792824]
  exact congrFun (congrFun (seg2_ok w) os) g
theorem seg3_plain (w : World) (os : OsState) (g : Nat → Obj) : segQ segRunT execs treeTable ((bodyL.drop 38).take 1) 505 (k2 w.params) 964 1590 pos2 (k3 w.params) w os g = some (.next, wantT (k3 w.params) 752 1251 os, codeL, pos3) := by
  rw [Fast.te10110043849684766642, Fast.te12563942051412417395, Fast.te14364793385576792824]
  exact congrFun (congrFun (seg3_ok w) os) g
theorem seg4_plain (w : World) (os : OsState) (g : Nat → Obj) : segQ segRunT execs treeTable (bodyL.drop 39) 752 (k3 w.params) 1251 1150 pos3 (k4 w.params) w os g = some (.next, wantT (k4 w.params) 939 1520 os, codeL, pos4) := by
  rw [Fast.te10110043849684766642, Fast.te12563942051412417395, Fast.te14364793385576792824]
  exact congrFun (congrFun (seg4_ok w) os) g
theorem last_plain (w : World) (os : OsState) (g g0 : Nat → Obj) : lastQ segRunT execs treeTable [] 939 (k4 w.params) 1520 4 pos4 (k0 w.params) (fun S => (openSeen viewQ looseL (importedModules PP.main.body) seenQ true S.abs, hookT S)) w os g g0 = some (true, true, some (.ref 6), openGood viewQ looseL, (Mine.hd.heap_1 w.params).map fun p => some p.2) := by
  rw [Fast.te10110043849684766642, Fast.te12563942051412417395, Fast.te14364793385576792824, Fast.te4187177175401517315]
  exact congrFun (congrFun (congrFun (last_ok w) os) g) g0
theorem k0_lt (P : Params) : (k0 P).all (fun p => Nat.blt p.1 34) = true := by kernel_rfl
theorem kb_lt (P : Params) : (kb P).all (fun p => Nat.blt p.1 38) = true := by kernel_rfl
theorem k1_lt (P : Params) : (k1 P).all (fun p => Nat.blt p.1 275) = true := by kernel_rfl
theorem k2_lt (P : Params) : (k2 P).all (fun p => Nat.blt p.1 505) = true := by kernel_rfl
theorem k3_lt (P : Params) : (k3 P).all (fun p => Nat.blt p.1 752) = true := by kernel_rfl
theorem k4_lt (P : Params) : (k4 P).all (fun p => Nat.blt p.1 939) = true := by kernel_rfl
theorem rest_parts (l : List Stmt) (e : Env) (c : Code) (p : Pos) (B : List Frame) : restOf l e c p B = restOf (l.take 37 ++ ((l.drop 37).take 1 ++ ((l.drop 38).take 1 ++ (l.drop 39 ++ [])))) e c p B :=
    congrArg (fun l => restOf l e c p B) (by rw [List.append_nil, ← List.drop_drop (i := 1) (j := 38), List.take_append_drop, ← List.drop_drop (i := 1) (j := 37), List.take_append_drop, List.take_append_drop])
theorem run_parts (w : World) (os : OsState) {g0 g : Nat → Obj} {s₁ : Shared} (eA : topGo treeTable PP w 34 (some (.ref 6)) 12 (stOf g0 34 (k0 w.params) 318 os) (topStub PP) = some (s₁, ⟨denote treeTable codeL, codeL, pos0, B0⟩))
    (eB : segRun treeTable PP w 34 (some (.ref 6)) 1 1 s₁ (blockOf bodyL envL codeL pos0 B0) = some (.next, stOf g 38 (kb w.params) 324 os, codeL, pos0)) :
    ∃ S : Shared, topRun treeTable PP w 34 (some (.ref 6)) (12 + (1 + (2160 + (1290 + (1590 + (1150 + 4)))))) (stOf g0 34 (k0 w.params) 318 os) (topStub PP) = some S ∧ (openSeen viewQ looseL (importedModules PP.main.body) seenQ true S, kAs.map S.heap.get?) = (openGood viewQ looseL, (Mine.hd.heap_1 w.params).map fun p => some p.2) ∧ (stOf g0 34 (k0 w.params) 318 os).heap.isNs mainGlobals = true ∧ (stOf g0 34 (k0 w.params) 318 os).heap.nsMap mainGlobals "__annotations__" = some (.ref 6) ∧
      (staticsOk (importedModules PP.main.body) (stOf g0 34 (k0 w.params) 318 os).heap S.heap && namesBound PP S.heap && gensDone S && laidKept (stOf g0 34 (k0 w.params) 318 os).heap S.heap) = true := by
  obtain ⟨g1, h1⟩ := segQ_use (seg1_plain w os g) (k1_lt _)
  obtain ⟨g2, h2⟩ := segQ_use (seg2_plain w os g1) (k2_lt _)
  obtain ⟨g3, h3⟩ := segQ_use (seg3_plain w os g2) (k3_lt _)
  obtain ⟨g4, h4⟩ := segQ_use (seg4_plain w os g3) (k4_lt _)
  obtain ⟨S, hS, rest⟩ := lastQ_use (obs := fun s => (openSeen viewQ looseL (importedModules PP.main.body) seenQ true s, kAs.map s.heap.get?)) (fun S => congrArg _ (hookT_abs S)) (last_plain w os g4 g0) 318
  exact ⟨S, go_top eA (piece_block eB (by rw [rest_parts]; exact piece_app h1 (piece_app h2 (piece_app h3 (piece_app h4 hS))))), rest⟩
theorem ends_of {α : Type} {tb : String → Option Builtin} {p : Program} {w : World} {N M n : Nat} {ann : Option Value} {s₀ S : Shared} {obs : Shared → α} {x : α} (e0 : fencedOpening tb p w N = some s₀) (hn : s₀.heap.objs.size = n) (hg : s₀.gens.size = 0) (i1 : s₀.heap.isNs mainGlobals = true)
    (i2 : s₀.heap.nsMap mainGlobals "__annotations__" = ann) (run : topRun tb p w n ann M s₀ (topStub p) = some S) (le : Nat.ble M N = true) (i3 : (staticsOk (importedModules p.main.body) s₀.heap S.heap && namesBound p S.heap && gensDone S && laidKept s₀.heap S.heap) = true) (hobs : obs S = x) :
    (openEnds tb p w N).map obs = some x := by
  have r := topRun_mono (N - M) _ _ _ _ run
  rw [Nat.add_sub_cancel' (Nat.le_of_ble_eq_true le)] at r
  unfold openEnds topFrom
  rw [e0, Option.bind_some, i1, hg, hn, i2, r]
  dsimp only [Option.bind, BEq.rfl, Bool.and_true, Bool.true_and]
  rw [i3]
  exact congrArg some hobs
theorem leftQ : LeftO PySem.Challenge.pw_ik0089_01 viewQ looseL seenQ obsK valK 12412 := fun w => by
  obtain ⟨g0, g, s₁, e0, eA, eB⟩ := oneQ_use (one_plain w) (k0_lt _) (kb_lt _)
  obtain ⟨S, run, hobs, i1, i2, i3⟩ := run_parts w _ eA eB
  refine ends_of e0 ?_ rfl i1 i2 run rfl i3 hobs
  exact List.size_toArray.trans (fill_length _ _ _ _)
theorem look1 : Fast.tw11788848310118352699 PP.main = true := by kernel_rfl
theorem look2 : ((Fast.tw9807087744658564304 PP.main.body).isEmpty || Fast.tw12862048085361865435 (Fast.tw9807087744658564304 PP.main.body) PP.main.body) = true := by kernel_rfl
theorem look3 : Fast.tw8377067652309620493 PP = true := by kernel_rfl
theorem look4 : R.allR (Fast.tw18344453789297297638 PP) (fun n => !Fast.tw3471404346716756564 Fast.tw14412699480532031325 n) = true := by kernel_rfl
theorem roads_app (lk : Look) : ∀ a b : List Stmt, noRoadLSs lk (a ++ b) = (noRoadLSs lk a && noRoadLSs lk b)
  | [], b => (Bool.true_and _).symm
  | s :: a, b => by
    show (noRoadLS lk s && noRoadLSs lk (a ++ b)) = ((noRoadLS lk s && noRoadLSs lk a) && noRoadLSs lk b)
    rw [roads_app lk a b, Bool.and_assoc]
noncomputable abbrev lkL : Look := { strict := false, foot := none, bare := [] }
theorem lk_is : ({ strict := (!R.allR (Fast.tw5923862056798008813 PP.main.body) (Fast.tw3471404346716756564 Fast.tw17691160309236699985)), foot := none, bare := (R.filterR (Fast.tw13343964577679436407 PP PP.main.body) [⟨#[118, 97, 114, 115]⟩, ⟨#[100, 105, 114]⟩, ⟨#[108, 111, 99, 97, 108, 115]⟩]) } : Look) = lkL := by kernel_rfl
theorem road1 : Fast.tw8326940854005059898 lkL (PP.main.body.take 39) = true := by kernel_rfl
theorem road2 : Fast.tw8326940854005059898 lkL ((PP.main.body.drop 39).take 1) = true := by kernel_rfl
theorem road3 : Fast.tw8326940854005059898 lkL ((PP.main.body.drop 40).take 1) = true := by kernel_rfl
theorem road4 : Fast.tw8326940854005059898 lkL (PP.main.body.drop 41) = true := by kernel_rfl
theorem road5 : Fast.tw8326940854005059898 lkL PP.main.body = true := by
  have e : PP.main.body = PP.main.body.take 39 ++ ((PP.main.body.drop 39).take 1 ++ ((PP.main.body.drop 40).take 1 ++ PP.main.body.drop 41)) := by rw [← List.drop_drop (i := 1) (j := 40), List.take_append_drop, ← List.drop_drop (i := 1) (j := 39), List.take_append_drop, List.take_append_drop]
  rw [e, ← Fast.te8326940854005059898, roads_app, roads_app, roads_app, Fast.te8326940854005059898, road1, road2, road3, road4]
  rfl
theorem look5 : Fast.tw8326940854005059898 { strict := (!R.allR (Fast.tw5923862056798008813 PP.main.body) (Fast.tw3471404346716756564 Fast.tw17691160309236699985)), foot := none, bare := (R.filterR (Fast.tw13343964577679436407 PP PP.main.body) [⟨#[118, 97, 114, 115]⟩, ⟨#[100, 105, 114]⟩, ⟨#[108, 111, 99, 97, 108, 115]⟩]) } PP.main.body = true :=
  (congrArg (fun l => Fast.tw8326940854005059898 l PP.main.body) lk_is).trans road5
theorem look6 : Fast.tw17119622794617984870 PP PP.main.body (fun _ n => Fast.tw17868728402115742887 n) = true := by kernel_rfl
theorem looks_ok : Fast.tw12908688711261696721 PP = true := look_both (look_both (look_both (look_both (look_both look1 look2) look3) look4) look5) look6
theorem said_ok : Fast.tw9446332074065402090 PySem.Challenge.rw_ik0089_01 = true := by
  unfold Fast.tw9446332074065402090 Fast.tw17960256430627541270 Fast.tw2436336058641802641
  repeat' with_reducible refine look_both ?_ ?_
  · exact looks_ok
  all_goals kernel_rfl
theorem said : PySem.Challenge.rw_ik0089_01.wellSaid = true := by
  rw [Fast.te9446332074065402090]
  exact said_ok
theorem head_of (said : rowL.wellSaid = true) (hw : rowL.toRowW.promised) (d : DefRec) (kwd : List (Str × Expr)) (hdef : defOf viewQ rowL.name = some (d, kwd)) (hp : rowL.prog.theDef rowL.name = some (d.params, d.body, d.scope)) (hk : kwWritten? d.params.kwonlyargs d.params.kw_defaults = some kwd)
    (call : WalkO viewQ looseL (XL viewQ []) (InK Mine.hd.heap_1) rowL.toRowW d kwd fun f vs => PySem.call f vs) : rowL.Holds :=
  W.holds_open (q := viewQ) (loose := looseL) (Xt := seenQ) (XP := XL viewQ []) (Yf := obsK) (Ya := valK) (YP := InK Mine.hd.heap_1) (N := 12412) leftQ (InK.of kAs_eq) InK.keeps (fun s e => xl_of s (Bool.and_eq_true_iff.mp e).1) XL.keeps hdef hp hk (fun s e => recFacts_of (Bool.and_eq_true_iff.mp e).2) rfl said (by decide +kernel) ⟨rfl, rfl, rfl, rfl, rfl, by decide +kernel⟩ hw call
end Mine
end
section
open PySem PySem.W PyProof.Rows PySem.Spec PySem.Calls
namespace Mine
/-- everything that stood stands still -/
noncomputable def Kept (g h : Heap) : Prop := ∀ b o, g.get? b = some o → h.get? b = some o
theorem Kept.fr {h₀ h h' : Heap} {L : Addr} {m : Str → Option Value} (k : Kept h h') (F : Fr h₀ L h m) : Fr h₀ L h' m := ⟨F.ns.keeps k, fun b o e => k b o (F.keep b o e), F.above⟩
theorem Kept.news {h₀ h h' : Heap} {L : Addr} {news : List (Addr × Obj)} (k : Kept h h') (N : News h₀ L h news) : News h₀ L h' news := fun p hp => ⟨k _ _ (N p hp).1, (N p hp).2⟩
noncomputable def AllMade (g h : Heap) (news : List (Addr × Obj)) : Prop := ∀ p ∈ news, h.get? p.1 = some p.2 ∧ g.get? p.1 = none
theorem AllMade.at {g h : Heap} {news : List (Addr × Obj)} {l : Addr} {o : Obj} (A : AllMade g h news) (hm : (l, o) ∈ news) : h.get? l = some o ∧ g.get? l = none := A _ hm
/-- the end of a def whose caller's heap is kept whole; what it made may be told -/
noncomputable def LeaveQ (g : Heap) (R : Result → Shared → Prop) (v : Value) (s' : Shared) : Prop :=
  ∃ L' m' news', Fr g L' s'.heap m' ∧ News g L' s'.heap news' ∧ (Kept g s'.heap → AllMade g s'.heap news' → R (.ok (.ret v)) s')
theorem leaveQ_ {g : Heap} {R : Result → Shared → Prop} {v : Value} {s' : Shared} {L' : Addr} {m' : Str → Option Value} {news' : List (Addr × Obj)} (F : Fr g L' s'.heap m') (N : News g L' s'.heap news')
    (k : Kept g s'.heap → AllMade g s'.heap news' → R (.ok (.ret v)) s') : LeaveQ g R v s' := ⟨L', m', news', F, N, k⟩
theorem LeaveQ.done {g : Heap} {R : Result → Shared → Prop} {v : Value} {s' : Shared} (h : LeaveQ g R v s') : R (.ok (.ret v)) s' := by
  obtain ⟨L', m', news', F, N, k⟩ := h
  exact k F.keep fun p hp => ⟨(N p hp).1, (N p hp).2.2⟩

section
variable {prog : Program} {w : World} {A₀ A : Around} {s : Shared} {base h₀ : Heap} {outer : List Env} {L : Addr} {m mg mb : Str → Option Value} {env : Env} {K : Frag} {p : Program} {loose : List Str} {mean : ExcName → Option Value}
  {R : Result → Shared → Prop} {name qual : Str} {params : Arguments} {body : List Stmt} {scope : Scope} {dV kV doc pm cdv ct oc : Value} {an od : Option Addr} {osl : Array (Option Value)} {f : Addr} {args : Args} {binds : List (Str × Value)}
theorem groundQ (B : Below A₀ base outer h₀) (F : Fr h₀ L s.heap m) (hA : A.frames = some (env :: outer)) (hf : env.frame = some L) (hke : env.scope.kind = .function) : Below A base (env :: outer) s.heap ∧ h₀.StaysIn s.heap := by
  obtain ⟨_, BG, st, _⟩ := groundX (R := fun _ _ => True) B F (News.nil (h₀ := h₀) (L := L)) hA hf hke
  exact ⟨BG, st⟩
theorem code_defQ (B : Below A₀ base outer h₀) (F : Fr h₀ L s.heap m) (X₀ : K.In h₀) (T : Top p loose mean mg mb h₀) (hA : A.frames = some (env :: outer)) (hf : env.frame = some L) (hke : env.scope.kind = .function)
    (ho : K.lookup f = some ⟨oc, od, .func (fnOf name qual params body scope dV kV doc pm an cdv ct), osl⟩) (hcd : codeIn K cdv qual = true) (hroom : A.depth < recursionLimit)
    (hbind : BindsTo s (fnOf name qual params body scope dV kV doc pm an cdv ct) args binds) (hloc : ∀ y ∈ binds, scope.names.lookup y.1 = some .local)
    (h : ∀ g L' h₁, Kept s.heap g → (∀ b, s.heap.get? b = none → g.get? b = none) → Fr g L' h₁ (fun y => binds.reverse.lookup y) → News g L' h₁ [] → Below A base (env :: outer) g → K.In g → Top p loose mean mg mb g →
      wpAny (model prog w) (A.deeper (envOf qual scope L' f cdv)) (execs body (envOf qual scope L' f cdv))
        (fun fl s' => LeaveQ g R (match fl with | .ret v => v | _ => .none) s')
        (fun e s' => wpAny (model prog w) (A.deeper (envOf qual scope L' f cdv)) (leaving (envOf qual scope L' f cdv) e) (fun _ s'' => R (.error e) s'') (fun e' s'' => R (.error e') s'') s')
        { s with heap := h₁, toks := s.toks + binds.length })
    (hco : scope.isCoroutine = false) (hgen : scope.isGenerator = false) (hk : scope.kind = .function)
    (hcell : ∀ x ∈ scope.names, x.2 ≠ .cell) : codeAny (model prog w) A (.call (.ref f) args) R s := by
  obtain ⟨BG, st⟩ := groundQ (A := A) B F hA hf hke
  refine codeAny_call_def (fd := fnOf name qual params body scope dV kV doc pm an cdv ct) (body := body) (binds := binds) hroom ((X₀.keeps F.keep) _ _ ho) rfl (T.nolimit.keeps F.keep) (codeRec_of (X₀.keeps F.keep) hcd) rfl hbind hcell hloc (fun h₁ hns hk₁ => ?_) hco hgen hk
  exact wpAny_mono (h _ s.heap.objs.size h₁ (fun _ _ e => e) (fun _ e => e) ⟨hns, hk₁, Nat.le_refl _⟩ News.nil BG (X₀.keeps st) (T.keeps st)) (fun fl s' hl => hl.done) fun _ _ y => y
theorem code_defCQ (B : Below A₀ base outer h₀) (F : Fr h₀ L s.heap m) (X₀ : K.In h₀) (T : Top p loose mean mg mb h₀) (hA : A.frames = some (env :: outer)) (hf : env.frame = some L) (hke : env.scope.kind = .function)
    (ho : K.lookup f = some ⟨oc, od, .func (fnOf name qual params body scope dV kV doc pm an cdv ct), osl⟩) (hcd : codeIn K cdv qual = true) (hroom : A.depth < recursionLimit)
    (hbind : BindsTo s (fnOf name qual params body scope dV kV doc pm an cdv ct) args binds) (hkind : (binds.all fun y => scope.names.lookup y.1 == some .local || scope.names.lookup y.1 == some .cell) = true)
    (hnd : ((cellsFrom 0 scope.names []).map (·.1)).Nodup)
    (h : ∀ g L' h₁ tk cells, Kept s.heap g → (∀ b, s.heap.get? b = none → g.get? b = none) → Fr g L' h₁ (bindL (envOfC qual scope L' f cdv).kindOf binds fun _ => none) → News g L' h₁ cells →
      CellsAre (bindC (envOfC qual scope L' f cdv).kindOf binds fun _ => none) (cellsFrom (L' + 1) scope.names []) cells → Below A base (env :: outer) g → K.In g → Top p loose mean mg mb g →
      wpAny (model prog w) (A.deeper (envOfC qual scope L' f cdv)) (execs body (envOfC qual scope L' f cdv))
        (fun fl s' => LeaveQ g R (match fl with | .ret v => v | _ => .none) s')
        (fun e s' => wpAny (model prog w) (A.deeper (envOfC qual scope L' f cdv)) (leaving (envOfC qual scope L' f cdv) e) (fun _ s'' => R (.error e) s'') (fun e' s'' => R (.error e') s'') s')
        { s with heap := h₁, toks := tk })
    (hco : scope.isCoroutine = false) (hgen : scope.isGenerator = false) (hk : scope.kind = .function) : codeAny (model prog w) A (.call (.ref f) args) R s := by
  obtain ⟨BG, st⟩ := groundQ (A := A) B F hA hf hke
  refine codeAny_call_function (fd := fnOf name qual params body scope dV kV doc pm an cdv ct) (body := body) hroom ((X₀.keeps F.keep) _ _ ho) rfl hco hgen rfl (codeRec_of (X₀.keeps F.keep) hcd) (hbind _ _ _ _ ?_)
  refine wpAny_newFunctionEnv_cells hk (kindsX hkind _) fun env' he s' x => ?_
  subst he
  refine ⟨(T.nolimit.keeps F.keep).keeps x.toInCall.keep, codeAny_func ?_⟩
  obtain ⟨h₁, tk, rfl, _⟩ := x.done
  have hk₁ := x.toInCall.keep
  obtain ⟨cells, NC, Y⟩ := Cl.news (h₀ := s.heap) (Nat.le_refl _) fun n c hm => ⟨x.cell n c (lookup_of_mem_nodup (cellsFrom_names scope.names 0 (s.heap.objs.size + 1) [] [] rfl ▸ hnd) hm), x.above n c hm⟩
  exact wpAny_mono (h s.heap s.heap.objs.size h₁ tk cells (fun _ _ e => e) (fun _ e => e) ⟨x.toInCall.ns, hk₁, Nat.le_refl _⟩ (fun p hp => ⟨(NC p hp).1, (NC p hp).2.1, (NC p hp).2.2⟩) Y BG (X₀.keeps st) (T.keeps st)) (fun fl s' hl => hl.done) fun _ _ y => y
theorem peek1Q {α : Type} {K : Frag} {M : Model} {A : Around} {E : Value → Shared → Prop} {Q : α → Shared → Prop} {s : Shared} {o : Obj} {r : Addr → α} (X : K.In s.heap)
    (q : Q (r s.heap.objs.size) { s with heap := s.heap.push o }) :
    ∀ (t : Sem α) (g : Addr → Option α), peek1 K ⟨M.prog, M.w.params⟩ t = some (o, g) → (∀ D, g D = some (r D)) → wpAny M A t Q E s := by
  intro t
  induction t with
  | rule _ k ih => intro g e hg Γ p hΓ; exact ih () g e hg Γ p hΓ
  | point _ k ih => intro g e hg Γ p hΓ; exact ih () g e hg Γ p hΓ
  | ask k ih => intro g e hg Γ p hΓ; exact ih _ g e hg Γ p hΓ
  | load a _ k ih =>
    intro g e hg Γ p hΓ
    simp only [peek1] at e
    split at e
    · rename_i ob ho; exact ⟨ob, X _ _ ho, ih ob g e hg Γ p hΓ⟩
    · cases e
  | alloc ob k _ =>
    intro g e hg
    have e : some (ob, fun D => peek K ⟨M.prog, M.w.params⟩ (k D)) = some (o, g) := e
    obtain ⟨e1, e2⟩ := Prod.mk.inj (Option.some.inj e)
    subst e1
    subst e2
    have X' : K.In (s.heap.push ob) := X.keeps fun b x hb => Heap.get?_push_of_some _ hb
    show wpAny M A (alloc ob >>= k) Q E s
    refine wpAny_bind (wpAny_alloc ?_)
    exact (Looks.of_peek (M := M) (h := s.heap.push ob) X' (hg s.heap.objs.size)).here (s := { s with heap := s.heap.push ob }) q
  | _ => intro g e; cases e
theorem kp_restQ {vs : List Value} {g₁ : Addr → Option (List (Str × Value))} {binds : Addr → List (Str × Value)}
    (B : Below A₀ base outer h₀) (F : Fr h₀ L s.heap m) (X₀ : K.In h₀) (T : Top p loose mean mg mb h₀) (hA : A.frames = some (env :: outer)) (hf : env.frame = some L) (hke : env.scope.kind = .function)
    (ho : K.lookup f = some ⟨oc, od, .func (fnOf name qual params body scope dV kV doc pm an cdv ct), osl⟩) (hcd : codeIn K cdv qual = true) (hroom : A.depth < recursionLimit)
    (hv : args.pos.drop (params.posonlyargs.length + params.args.length) = vs)
    (hp : peek1 K ⟨prog, w.params⟩ (bindArgs (fnOf name qual params body scope dV kV doc pm an cdv ct) args) = some (({ cls := .type "tuple", data := .seq vs.toArray } : Obj), g₁))
    (hg : ∀ D, g₁ D = some (binds D)) (hloc : ∀ D, ∀ y ∈ binds D, scope.names.lookup y.1 = some .local)
    (h : ∀ D g L' h₁, Kept s.heap g → D < L' → g.objs.size ≤ D → Fr g L' h₁ (fun y => (binds D).reverse.lookup y) → News g L' h₁ [(D, ({ cls := .type "tuple", data := .seq vs.toArray } : Obj))] → Below A base (env :: outer) g → K.In g → Top p loose mean mg mb g →
      wpAny (model prog w) (A.deeper (envOf qual scope L' f cdv)) (execs body (envOf qual scope L' f cdv))
        (fun fl s' => LeaveQ g R (match fl with | .ret v => v | _ => .none) s')
        (fun e s' => wpAny (model prog w) (A.deeper (envOf qual scope L' f cdv)) (leaving (envOf qual scope L' f cdv) e) (fun _ s'' => R (.error e) s'') (fun e' s'' => R (.error e') s'') s')
        { s with heap := h₁, toks := s.toks + (binds D).length })
    (hco : scope.isCoroutine = false) (hgen : scope.isGenerator = false) (hk : scope.kind = .function)
    (hcell : ∀ x ∈ scope.names, x.2 ≠ .cell) : codeAny (model prog w) A (.call (.ref f) args) R s := by
  have _ := hv
  obtain ⟨BG, st⟩ := groundQ (A := A) B F hA hf hke
  refine codeAny_call_function (fd := fnOf name qual params body scope dV kV doc pm an cdv ct) (body := body) hroom ((X₀.keeps F.keep) _ _ ho) rfl hco hgen rfl (codeRec_of (X₀.keeps F.keep) hcd) ?_
  refine peek1Q (o := ({ cls := .type "tuple", data := .seq vs.toArray } : Obj)) (X₀.keeps F.keep) (r := binds) ?_ _ g₁ hp hg
  have hpush : ∀ b o, s.heap.get? b = some o → (s.heap.push ({ cls := .type "tuple", data := .seq vs.toArray } : Obj)).get? b = some o := fun b o e => Heap.get?_push_of_some _ e
  refine wpAny_newFunctionEnv hcell (hloc _) (fun h₁ hns hsb => ⟨((T.nolimit.keeps F.keep).keeps hpush).fresh (h := s.heap.push ({ cls := .type "tuple", data := .seq vs.toArray } : Obj)) _ hsb, codeAny_func ?_⟩) hk
  have hk₁ : ∀ b o, (s.heap.push ({ cls := .type "tuple", data := .seq vs.toArray } : Obj)).get? b = some o → h₁.get? b = some o := fun b o e => hsb.extBut b o (Nat.ne_of_lt (Heap.lt_size e)) (Heap.get?_push_of_some _ e)
  have hsz : (s.heap.push ({ cls := .type "tuple", data := .seq vs.toArray } : Obj)).objs.size = s.heap.objs.size + 1 := Heap.size_push ..
  show wpAny (model prog w) (A.deeper (envOf qual scope (s.heap.push ({ cls := .type "tuple", data := .seq vs.toArray } : Obj)).objs.size f cdv)) (execs body (envOf qual scope (s.heap.push ({ cls := .type "tuple", data := .seq vs.toArray } : Obj)).objs.size f cdv)) _ _ _
  refine wpAny_mono (h s.heap.objs.size s.heap _ h₁ (fun _ _ e => e) (by rw [hsz]; exact Nat.lt_succ_self _) (Nat.le_refl _) ⟨hns, fun b o e => hk₁ b o (hpush b o e), by rw [hsz]; exact Nat.le_succ _⟩ (fun q hq => ?_) BG (X₀.keeps st) (T.keeps st)) (fun fl s' hl => hl.done) fun _ _ y => y
  rw [List.mem_singleton.mp hq]
  refine ⟨hk₁ _ _ (Heap.get?_push_size _ rfl), by rw [hsz]; exact Nat.ne_of_lt (Nat.lt_succ_self _), ?_⟩
  cases e : s.heap.get? s.heap.objs.size with
  | none => rfl
  | some o => exact absurd (Heap.lt_size e) (Nat.lt_irrefl _)
end
end Mine
end
section
open PySem PySem.W PyProof.Rows PySem.Spec PySem.Calls
namespace Mine
noncomputable def Ret (Post : Heap → Value → Heap → Prop) (s : Shared) (Q : Value → Shared → Prop) : Prop :=
  ∀ r h' tk', Post s.heap r h' → Kept s.heap h' → Q r { s with heap := h', toks := tk' }
/-- at the def's end: the ground g of its walk bears what the caller's heap bore, and no more -/
theorem Ret.go {Post : Heap → Value → Heap → Prop} {s : Shared} {Q : Value → Shared → Prop} {r : Value} {g h' : Heap} {tk' : Nat}
    (R : Ret Post s Q) (k1 : Kept s.heap g) (k2 : Kept g h') (hp : Post s.heap r h') : Q r { s with heap := h', toks := tk' } := R r h' tk' hp fun b o e => k2 b o (k1 b o e)
/-- a contract: what a call of the def at f on vs hands back; all that stood stands still -/
noncomputable def Ct (w : World) (D : Nat) (f : Addr) (vs : List Value) (kw : List (Str × Value)) (Post : Heap → Value → Heap → Prop) : Prop :=
  ∀ (p : Program) (loose : List Str) (mean : ExcName → Option Value) (mg mb : Str → Option Value) (dp un : Nat) (gd : Option (List Code)) (cn : Str) (sn : List (Str × NameKind)) (sg sc : Bool) (sm : List (Str × Const)) (a : Addr) (ccd : Value) (cl : List (Str × Addr)) (outer : List Env)
    (A₀ : Around) (base h₀ : Heap) (L : Addr) (m : Str → Option Value) (s : Shared) (Q : Value → Shared → Prop),
    Below A₀ base outer h₀ → Fr h₀ L s.heap m → (Mine.hd.heap_1 w.params).In h₀ → Top p loose mean mg mb h₀ → dp + D < recursionLimit → un + 8 * D < cLine →
    Ret Post s Q →
    wpAny (model PySem.Challenge.rw_ik0089_01.prog w) (ktrTop dp un gd cn ⟨.function, sn, sg, sc, sm⟩ L a ccd cl outer) (call (.ref f) vs kw) Q (fun _ _ => False) s
/-- an object that the callee made, onto the caller's ledger -/
theorem news_made {h₀ h h' : Heap} {L l : Addr} {o : Obj} {m : Str → Option Value} {news : List (Addr × Obj)} (F : Fr h₀ L h m) (N : News h₀ L h' news) (hl : h'.get? l = some o) (hn : h.get? l = none) : News h₀ L h' ((l, o) :: news) := by
  intro p hp
  rcases List.mem_cons.mp hp with rfl | hp
  · refine ⟨hl, fun e => ?_, ?_⟩
    · obtain ⟨oL, _, _, hL, _⟩ := F.ns
      dsimp only at e
      rw [e, hL] at hn
      cases hn
    · cases q : h₀.get? l with
      | none => rfl
      | some o' => rw [F.keep _ _ q] at hn; cases hn
  · exact N p hp
theorem made_ne {h₀ h : Heap} {L l : Addr} {news : List (Addr × Obj)} (N : News h₀ L h news) (hn : h.get? l = none) : ∀ p ∈ news, p.1 ≠ l := fun p hp e => by
  have := (N p hp).1
  rw [e, hn] at this
  cases this
theorem Ct.use {w : World} {D : Nat} {f : Addr} {vs : List Value} {kw : List (Str × Value)} {Post : Heap → Value → Heap → Prop} (C : Ct w D f vs kw Post)
   {p : Program} {loose : List Str} {mean : ExcName → Option Value} {mg mb : Str → Option Value} {dp un : Nat} {gd : Option (List Code)} {cn : Str} {sn : List (Str × NameKind)} {sg sc : Bool} {sm : List (Str × Const)} {a : Addr} {ccd : Value} {cl : List (Str × Addr)} {outer : List Env}
    {A₀ : Around} {base h₀ : Heap} {L : Addr} {m : Str → Option Value} {news : List (Addr × Obj)} {s : Shared} {Q E : Value → Shared → Prop}
    (B : Below A₀ base outer h₀) (F : Fr h₀ L s.heap m) (X : (Mine.hd.heap_1 w.params).In h₀) (N : News h₀ L s.heap news) (T : Top p loose mean mg mb h₀) (hd : dp + D < recursionLimit) (hu : un + 8 * D < cLine)
    (h : ∀ r h' tk', Post s.heap r h' → Kept s.heap h' → (∀ {l o}, h'.get? l = some o → s.heap.get? l = none → News h₀ L h' ((l, o) :: news)) → (∀ {l}, s.heap.get? l = none → ∀ p ∈ news, p.1 ≠ l) → Fr h₀ L h' m → News h₀ L h' news → Q r { s with heap := h', toks := tk' }) :
    wpAny (model PySem.Challenge.rw_ik0089_01.prog w) (ktrTop dp un gd cn ⟨.function, sn, sg, sc, sm⟩ L a ccd cl outer) (call (.ref f) vs kw) Q E s :=
  wpAny_mono (C p loose mean mg mb dp un gd cn sn sg sc sm a ccd cl outer A₀ base h₀ L m s Q B F X T hd hu (fun r h' tk' hp k => h r h' tk' hp k (fun hl hn => news_made F (k.news N) hl hn) (fun hn => made_ne N hn) (k.fr F) (k.news N))) (fun _ _ x => x) fun _ _ x => x.elim
noncomputable def AllNe (d : Addr) : List (Addr × Obj) → Prop
  | [] => True
  | p :: r => @Ne Nat p.1 d ∧ AllNe d r
theorem allNe_of {d : Addr} : ∀ {l : List (Addr × Obj)}, (∀ p ∈ l, p.1 ≠ d) → AllNe d l
  | [], _ => trivial
  | p :: _, h => ⟨h p (.head _), allNe_of fun q hq => h q (.tail _ hq)⟩
/-- a new object, made by the call -/
noncomputable def Made (g : Heap) (l : Addr) (o : Obj) (h' : Heap) : Prop := h'.get? l = some o ∧ g.get? l = none
theorem Made.of {s g h' : Heap} {l : Addr} {o : Obj} (k : Kept s g) (h : h'.get? l = some o ∧ g.get? l = none) : Made s l o h' := ⟨h.1, by
  cases q : s.get? l with
  | none => rfl
  | some o' => have := h.2; rw [k _ _ q] at this; cases this⟩
theorem try_quiet {prog : Program} {w : World} {A : Around} {E : Value → Shared → Prop} {s : Shared} {env : Env} {body : List Stmt} {h₀ : ExceptHandler} {hs : List ExceptHandler} {pos : Pos} {Q : Flow → Shared → Prop}
    (h : wpAny (model prog w) A (execs body env) Q (fun _ _ => False) s) : wpAny (model prog w) A (exec (.Try body (h₀ :: hs) [] [] pos) env) Q E s :=
  wpAny_Try_except (wpAny_mono h (fun f s₁ q => by
    cases f with
    | next => exact wpAny_pure q
    | _ => exact q) fun _ _ x => x.elim)
end Mine
end
section
open PySem PySem.W PyProof.Rows PySem.Spec PySem.Calls
namespace Mine
theorem kind_issubn : builtinKind "issubclass.nested" = none := by decide +kernel
theorem plain_issubn : plainId "issubclass.nested" = true := by decide +kernel
theorem args_issubn (a b c : Value) : argsOk "issubclass.nested" ⟨[a, b, c], []⟩ := by unfold argsOk; kernel_rfl
theorem type_str : typeOf (.type "str") = pure (.type "type") := by kernel_rfl
theorem sub_str_str : isSubtype (.type "str") (.type "str") = pure true := by rw [isSubtype_type]; kernel_rfl
theorem issub_one {k : Value} {dep : Int} {tk : Tok} (hk : k = .int dep tk) : Meets (Builtin.«issubclass.nested» ⟨[.type "str", .type "str", k], []⟩) (fun _ R s => ∀ tk', R (.ok (.ret (.bool true))) { s with toks := tk' }) :=
  .of_wp fun prog w A R s h => by
    subst hk
    obtain ⟨hp, g, d, t, os⟩ := s
    have h1 := type_str
    have h2 := sub_str_str
    repeat (any_goals (first | assumption | (rw [h2]) | wp_step))
    exact ⟨_, rfl, h t⟩
theorem issub_tuple {tp : Addr} {n : Nat} : Meets (Builtin.«issubclass» ⟨[.type "str", .ref tp], []⟩)
    (fun _ R s => s.heap.get? tp = some { cls := .type "tuple", data := .seq #[.type "str", .type "bytes"] n } ∧ ∀ tk, R (.ok (.ret (.bool true))) { s with toks := tk }) :=
  fun _ _ _ _ s hs => issubclass_outer (by
    obtain ⟨htp, hq⟩ := hs
    obtain ⟨h, g, d, t, os⟩ := s
    have hT2 : (⟨h, g, d, t, os⟩ : Shared).TypeIs (.ref tp) "tuple" := ⟨_, htp, rfl⟩
    have f1 := F.isi_sub_tuple
    repeat (any_goals (first | assumption | ((with_reducible show wpAny _ _ (call (Value.builtin "issubclass.nested") _) _ _ _); refine call_function_meets (args := [.type "str", .type "str", rawInt 1]) kind_issubn plain_issubn F.entry_issubclass_nested (args_issubn _ _ _) (issub_one rfl) ?_; intro tk') | wp_step))
    exact hq _)
section
variable {prog : Program} {w : World} {A : Around} {E : Value → Shared → Prop} {s : Shared} {Q : Value → Shared → Prop} {h₀ : Heap} {L : Addr} {news : List (Addr × Obj)}
theorem issub_K {tp : Addr} {n : Nat} (N : News h₀ L s.heap news) (hm : (tp, ({ cls := .type "tuple", data := .seq #[.type "str", .type "bytes"] n } : Obj)) ∈ news) (h : ∀ tk, Q (.bool true) { s with toks := tk }) :
    wpAny (model prog w) A (call (.builtin "issubclass") [.type "str", .ref tp]) Q E s :=
  call_issubclass issub_tuple ⟨(N _ hm).1, h⟩
end
end Mine
end
section
open PySem PySem.W PyProof.Rows PySem.Spec PySem.Calls PyProof.V
namespace Mine
section
variable {prog : Program} {w : World} {A : Around} {E : Value → Shared → Prop} {s : Shared} {env : Env} {h₀ : Heap} {x : Str} {body : List Stmt} {Q : Flow → Shared → Prop}
/-- what is left of a loop over a tuple of the ledger -/
noncomputable def TupRest (prog : Program) (w : World) (A : Around) (E : Value → Shared → Prop) (h₀ : Heap) (env : Env) (x : Str) (body : List Stmt) (Q : Flow → Shared → Prop) (s : Shared) (I : Addr) (lp : Addr × Obj) : List Value → (Str → Option Value) → List (Addr × Obj) → Prop
  | [], m, news => ∀ h tk, Fr h₀ env.locals h m → News h₀ env.locals h news → Q .next { s with heap := h, toks := tk }
  | v :: r, m, news => ∀ (it : Obj) h tk, it.cls = .type "tuple_iterator" → Fr h₀ env.locals h (fun y => if y = x then some v else m y) → News h₀ env.locals h ((I, it) :: news) →
      wpAny (model prog w) A (execs body env) (UnrPost h₀ env.locals { s with heap := h, toks := tk } I it (fun m' n' => lp ∈ n' ∧ TupRest prog w A E h₀ env x body Q s I lp r m' n') Q) E { s with heap := h, toks := tk }
theorem TupRest.zero {I : Addr} {lp : Addr × Obj} {m : Str → Option Value} {news : List (Addr × Obj)} (h : ∀ h tk, Fr h₀ env.locals h m → News h₀ env.locals h news → Q .next { s with heap := h, toks := tk }) :
    TupRest prog w A E h₀ env x body Q s I lp [] m news := h
theorem TupRest.succ {I : Addr} {lp : Addr × Obj} {v : Value} {r : List Value} {m : Str → Option Value} {news : List (Addr × Obj)}
    (h : ∀ (it : Obj) h tk, it.cls = .type "tuple_iterator" → Fr h₀ env.locals h (fun y => if y = x then some v else m y) → News h₀ env.locals h ((I, it) :: news) →
      wpAny (model prog w) A (execs body env) (UnrPost h₀ env.locals { s with heap := h, toks := tk } I it (fun m' n' => lp ∈ n' ∧ TupRest prog w A E h₀ env x body Q s I lp r m' n') Q) E { s with heap := h, toks := tk }) :
    TupRest prog w A E h₀ env x body Q s I lp (v :: r) m news := h
theorem iter_tupUnr {ax : Addr} {lo : Obj} {vs : List Value} {n : Nat} {m₀ : Str → Option Value} {news : List (Addr × Obj)}
    (hh : A.handled = none) (F : Fr h₀ env.locals s.heap m₀) (N : News h₀ env.locals s.heap news) (hm : (ax, lo) ∈ news) (hc : lo.cls = .type "tuple") (hd : lo.data = .seq vs.toArray n)
    (rest₀ : ∀ I : Addr, (∀ p ∈ news, p.1 < I) → TupRest prog w A E h₀ env x body Q s I (ax, lo) vs m₀ news) :
    wpAny (model prog w) A (pyIter (.ref ax)) (fun it s₂ => LoopAtV prog w A h₀ env x body Q E it s₂) E s := by
  have hax := N _ hm
  have hl : s.heap.IsTuple ax vs.toArray := ⟨lo, hax.1, hc, n, hd⟩
  have hlt : ax < s.heap.objs.size := Heap.lt_size hax.1
  have hne : ax ≠ s.heap.objs.size := Nat.ne_of_lt hlt
  refine wpAny_pyIter_tuple hl ?_
  have rest := rest₀ s.heap.objs.size fun p hp => Heap.lt_size (N p hp).1
  have W := Walks.tuple (prog := prog) (w := w) hh s.heap.objs.size ax hne vs.toArray
  have hnew := next_is_new F
  have hlen : vs.toArray.size = vs.length := by simp
  rw [hlen] at W
  let J : Nat → (Str → Option Value) → List (Addr × Obj) → Prop := fun i m₁ news₁ => (ax, lo) ∈ news₁ ∧ TupRest prog w A E h₀ env x body Q s s.heap.objs.size (ax, lo) (vs.drop i) m₁ news₁
  refine ⟨_, _, _, vs.length, _, _, m₀, news, J, rfl, W, ?_, ?_, ?_, ⟨⟨_, Heap.get?_push_size _ rfl, rfl, rfl⟩, hl.at fun o e => Heap.get?_push_of_some _ e⟩, F.push _, (fun p hp => ⟨Heap.get?_push_of_some _ (N p hp).1, (N p hp).2⟩), ⟨hm, by rw [List.drop_zero]; exact rest⟩, ?_, ?_⟩
  · intro hmm
    rcases List.mem_cons.mp hmm with e | hmm
    · exact absurd F.ns.lt (e ▸ Nat.lt_irrefl _)
    · exact hax.2.1 (List.mem_singleton.mp hmm).symm
  · intro b hb
    rw [List.mem_singleton.mp hb]
    exact hnew
  · intro p hp hI
    exact absurd (Heap.lt_size (N p hp).1) ((List.mem_singleton.mp hI) ▸ Nat.lt_irrefl _)
  · rintro i v m₁ news₁ s₁ own ⟨hh', tk', rfl⟩ hin hP ⟨hmem₁, hJ⟩ hoff hown hget hall hst F₁ N₁
    obtain ⟨it, hit, hic, hid⟩ := hst.1
    have hmemI := hall s.heap.objs.size (List.mem_cons_self ..) hnew _ hit
    have hdrop : vs.drop i = v :: vs.drop (i + 1) := by
      have hlt' : i < vs.length := hin
      have hv : vs[i]? = some v := by simpa using hP
      rw [List.drop_eq_getElem_cons hlt']
      congr 1
      exact Option.some.inj ((List.getElem?_eq_getElem hlt').symm.trans hv)
    rw [hdrop] at hJ
    have N₂ : News h₀ env.locals hh' ((s.heap.objs.size, it) :: news₁) := fun p hp => by
      rcases List.mem_cons.mp hp with rfl | hp
      · exact N₁ _ (List.mem_append_left _ hmemI)
      · exact N₁ _ (List.mem_append_right _ hp)
    refine wpAny_mono (hJ it hh' tk' hic F₁ N₂) (fun f s₂ p => ?_) fun _ _ e => e
    have fin : UnrEnd h₀ env.locals { s with heap := hh', toks := tk' } s.heap.objs.size it (fun m' n' => (ax, lo) ∈ n' ∧ TupRest prog w A E h₀ env x body Q s s.heap.objs.size (ax, lo) (vs.drop (i + 1)) m' n') s₂ →
        LoopStepU h₀ env.locals [s.heap.objs.size] own (J (i + 1)) { s with heap := hh', toks := tk' } .next s₂ := by
      rintro ⟨h', tk, m', news', e, F', N', ho, hmm, r⟩
      refine ⟨rfl, h', tk, m', news', e, F', fun p hp => ?_, fun p hp hI => ho p hp (List.mem_singleton.mp hI), hmm, r⟩
      rcases List.mem_append.mp hp with hp | hp
      · have h2 : hh'.get? p.1 = some p.2 := hget p hp
        rcases List.mem_cons.mp (hown p hp) with h1 | h1
        · have h3 : p = (s.heap.objs.size, it) := by
            rw [h1, hit] at h2
            exact Prod.ext h1 (Option.some.inj h2).symm
          rw [h3]; exact N' _ (List.mem_cons_self ..)
        · have h1' : p.1 = ax := List.mem_singleton.mp h1
          have h3 : p = (ax, lo) := by
            rw [h1', (N₁ _ (List.mem_append_right _ hmem₁)).1] at h2
            exact Prod.ext h1' (Option.some.inj h2).symm
          rw [h3]; exact N' _ (List.mem_cons_of_mem _ hmm)
      · exact N' _ (List.mem_cons_of_mem _ hp)
    cases f with
    | ret v => exact .ret p
    | brk => exact .brk p
    | next => exact .next (fin p)
    | cont => exact .cont (fin p)
  · rintro h' tk m' news' F' N' _ ⟨_, hJ⟩
    have z : vs.drop vs.length = [] := List.drop_length
    rw [z] at hJ
    exact hJ h' tk F' N'

theorem kstB_fr {h : Heap} {L : Addr} {m : Str → Option Value} {ps : List (Str × Value)} (hk : ∀ p ∈ ps, m p.1 = some p.2) (F : Fr h₀ L h m) : Fr h₀ L h (kstB m ps) := by
  have e : kstB m ps = m := funext fun z => kstB_eq hk fun _ => rfl
  rw [e]; exact F
theorem kstB_frX {h : Heap} {L : Addr} {m : Str → Option Value} {ps : List (Str × Value)} {v : Value} (hk : ∀ p ∈ ps, m p.1 = some p.2) (F : Fr h₀ L h (fun y => if y = x then some v else m y)) : Fr h₀ L h (fun y => if y = x then some v else kstB m ps y) := by
  have e : kstB m ps = m := funext fun z => kstB_eq hk fun _ => rfl
  rw [e]; exact F
/-- how a turn over c's ledger ends: some c' behind it -/
noncomputable def TurnTo {σ : Type} (Led : σ → List (Addr × Obj)) (ps : σ → List (Str × Value)) (P : σ → Prop) (m' : Str → Option Value) (n' : List (Addr × Obj)) : Prop := ∃ c' : σ, n' = Led c' ∧ (∀ p ∈ ps c', m' p.1 = some p.2) ∧ P c'
theorem list_loop {σ : Type} {l : Addr} {lo : Obj} {vs : List Value} {n : Nat} {m₀ : Str → Option Value} (Led : σ → List (Addr × Obj)) (ps : σ → List (Str × Value)) (P : List Value → σ → Prop) (c₀ : σ)
    (hh : A.handled = none) (F : Fr h₀ env.locals s.heap m₀) (N : News h₀ env.locals s.heap (Led c₀)) (hm : ∀ c, (l, lo) ∈ Led c) (hc : lo.cls = .type "list") (hd : lo.data = .seq vs.toArray n) (hk : ∀ p ∈ ps c₀, m₀ p.1 = some p.2) (hp : P vs c₀)
    (turn : ∀ (v : Value) (r : List Value) (c : σ) (u : Str → Option Value) (it : Obj) (I : Addr) h tk, it.cls = .type "list_iterator" → (∀ p ∈ Led c₀, p.1 < I) → P (v :: r) c → Fr h₀ env.locals h (fun y => if y = x then some v else kstB u (ps c) y) → News h₀ env.locals h ((I, it) :: Led c) →
      wpAny (model prog w) A (execs body env) (UnrPost h₀ env.locals { s with heap := h, toks := tk } I it (TurnTo Led ps (P r)) Q) E { s with heap := h, toks := tk })
    (done : ∀ (c : σ) (u : Str → Option Value) h tk, P [] c → Fr h₀ env.locals h (kstB u (ps c)) → News h₀ env.locals h (Led c) → Q .next { s with heap := h, toks := tk }) :
    wpAny (model prog w) A (pyIter (.ref l)) (fun it s₂ => LoopAtV prog w A h₀ env x body Q E it s₂) E s := by
  refine iter_listUnr hh F N (hm c₀) hc hd fun I hI => ?_
  have key : ∀ (vs : List Value) (c : σ) (m : Str → Option Value), (∀ p ∈ ps c, m p.1 = some p.2) → P vs c → ListRest prog w A E h₀ env x body Q s I (l, lo) vs m (Led c) := by
    intro vs
    induction vs with
    | nil => intro c m hk hp h tk F N; exact done c m h tk hp (kstB_fr hk F) N
    | cons v r ih =>
      intro c m hk hp it h tk hit F N
      refine wpAny_mono (turn v r c m it I h tk hit hI hp (kstB_frX hk F) N) (fun f s₂ q => ?_) fun _ _ e => e
      have up : UnrEnd h₀ env.locals { s with heap := h, toks := tk } I it (TurnTo Led ps (P r)) s₂ → UnrEnd h₀ env.locals { s with heap := h, toks := tk } I it (fun m' n' => (l, lo) ∈ n' ∧ ListRest prog w A E h₀ env x body Q s I (l, lo) r m' n') s₂ := by
        rintro ⟨h', tk', m', n', e, F', N', ho, c', rfl, hk', hp'⟩
        exact ⟨h', tk', m', _, e, F', N', ho, hm c', ih c' m' hk' hp'⟩
      cases f with
      | ret v => exact q
      | brk => exact q
      | next => exact up q
      | cont => exact up q
  exact key vs c₀ m₀ hk hp
theorem tup_loop {σ : Type} {l : Addr} {lo : Obj} {vs : List Value} {n : Nat} {m₀ : Str → Option Value} (Led : σ → List (Addr × Obj)) (ps : σ → List (Str × Value)) (P : List Value → σ → Prop) (c₀ : σ)
    (hh : A.handled = none) (F : Fr h₀ env.locals s.heap m₀) (N : News h₀ env.locals s.heap (Led c₀)) (hm : ∀ c, (l, lo) ∈ Led c) (hc : lo.cls = .type "tuple") (hd : lo.data = .seq vs.toArray n) (hk : ∀ p ∈ ps c₀, m₀ p.1 = some p.2) (hp : P vs c₀)
    (turn : ∀ (v : Value) (r : List Value) (c : σ) (u : Str → Option Value) (it : Obj) (I : Addr) h tk, it.cls = .type "tuple_iterator" → (∀ p ∈ Led c₀, p.1 < I) → P (v :: r) c → Fr h₀ env.locals h (fun y => if y = x then some v else kstB u (ps c) y) → News h₀ env.locals h ((I, it) :: Led c) →
      wpAny (model prog w) A (execs body env) (UnrPost h₀ env.locals { s with heap := h, toks := tk } I it (TurnTo Led ps (P r)) Q) E { s with heap := h, toks := tk })
    (done : ∀ (c : σ) (u : Str → Option Value) h tk, P [] c → Fr h₀ env.locals h (kstB u (ps c)) → News h₀ env.locals h (Led c) → Q .next { s with heap := h, toks := tk }) :
    wpAny (model prog w) A (pyIter (.ref l)) (fun it s₂ => LoopAtV prog w A h₀ env x body Q E it s₂) E s := by
  refine iter_tupUnr hh F N (hm c₀) hc hd fun I hI => ?_
  have key : ∀ (vs : List Value) (c : σ) (m : Str → Option Value), (∀ p ∈ ps c, m p.1 = some p.2) → P vs c → TupRest prog w A E h₀ env x body Q s I (l, lo) vs m (Led c) := by
    intro vs
    induction vs with
    | nil => intro c m hk hp h tk F N; exact done c m h tk hp (kstB_fr hk F) N
    | cons v r ih =>
      intro c m hk hp it h tk hit F N
      refine wpAny_mono (turn v r c m it I h tk hit hI hp (kstB_frX hk F) N) (fun f s₂ q => ?_) fun _ _ e => e
      have up : UnrEnd h₀ env.locals { s with heap := h, toks := tk } I it (TurnTo Led ps (P r)) s₂ → UnrEnd h₀ env.locals { s with heap := h, toks := tk } I it (fun m' n' => (l, lo) ∈ n' ∧ TupRest prog w A E h₀ env x body Q s I (l, lo) r m' n') s₂ := by
        rintro ⟨h', tk', m', n', e, F', N', ho, c', rfl, hk', hp'⟩
        exact ⟨h', tk', m', _, e, F', N', ho, hm c', ih c' m' hk' hp'⟩
      cases f with
      | ret v => exact q
      | brk => exact q
      | next => exact up q
      | cont => exact up q
  exact key vs c₀ m₀ hk hp
theorem turn_end {σ : Type} {Led : σ → List (Addr × Obj)} {ps : σ → List (Str × Value)} {P : σ → Prop} {L I : Addr} {it : Obj} {s₁ : Shared} {h' : Heap} {tk : Nat} {m' : Str → Option Value} {all : List (Addr × Obj)} (c' : σ) (F : Fr h₀ L h' m') (N : News h₀ L h' all)
    (hI : (I, it) ∈ all) (sub : ∀ p ∈ Led c', p ∈ all) (off : ∀ p ∈ Led c', p.1 < I ∨ p.2.cls ≠ it.cls) (hk : ∀ p ∈ ps c', m' p.1 = some p.2) (hp : P c') : UnrEnd h₀ L s₁ I it (TurnTo Led ps P) { s₁ with heap := h', toks := tk } :=
  UnrEnd.intro F N (Led c') (fun p hp => by
    rcases List.mem_cons.mp hp with rfl | hp
    · exact hI
    · exact sub p hp) (fun p hp e => by
    rcases off p hp with h | h
    · exact absurd e (Nat.ne_of_lt h)
    · have h1 := (N _ (sub p hp)).1
      have h2 := (N _ hI).1
      rw [e] at h1
      exact h (congrArg Obj.cls (Option.some.inj (h1.symm.trans h2)))) ⟨c', rfl, hk, hp⟩
end
/-- the walk halts here -/
noncomputable def Halt (P : Prop) : Prop := P
theorem Halt.go {P : Prop} (h : Halt P) : P := h
/-- texts as values -/
inductive StrVals : List Value → List Str → Prop
  | nil : StrVals [] []
  | cons (x : Str) (t : Tok) {vs : List Value} {xs : List Str} : StrVals vs xs → StrVals (.str x t :: vs) (x :: xs)
noncomputable def joinL (x y : Str) : Str := if Txt.startswith y (Str.ofString "/") = true ∨ x.length = 0 then y else if Txt.endswith x (Str.ofString "/") = true then x ++ y else x ++ ((Str.ofString "/") ++ y)
noncomputable def joinAll (x : Str) : List Str → Str
  | [] => x
  | y :: r => joinAll (joinL x y) r
theorem joinL_1 {x y : Str} (h : Txt.startswith y (Str.ofString "/") = true) : joinL x y = y := by unfold joinL; rw [if_pos (.inl h)]
theorem joinL_2 {x y : Str} (h : ((x.length : Nat) : Int) = 0) : joinL x y = y := by unfold joinL; rw [if_pos (.inr (by omega))]
theorem ne_aux {x y : Str} (h0 : Txt.startswith y (Str.ofString "/") = false) (h : ((x.length : Nat) : Int) ≠ 0) : ¬ (Txt.startswith y (Str.ofString "/") = true ∨ x.length = 0) := by
  rw [h0]
  intro q
  rcases q with q | q
  · cases q
  · omega
theorem joinL_3 {x y : Str} (h0 : Txt.startswith y (Str.ofString "/") = false) (h : ((x.length : Nat) : Int) ≠ 0) (h2 : Txt.endswith x (Str.ofString "/") = true) : joinL x y = x ++ y := by
  unfold joinL; rw [if_neg (ne_aux h0 h), if_pos h2]
theorem joinL_4 {x y : Str} (h0 : Txt.startswith y (Str.ofString "/") = false) (h : ((x.length : Nat) : Int) ≠ 0) (h2 : Txt.endswith x (Str.ofString "/") = false) : joinL x y = x ++ ((Str.ofString "/") ++ y) := by
  unfold joinL; rw [if_neg (ne_aux h0 h), if_neg (by rw [h2]; intro q; cases q)]
theorem joinL_len (x y : Str) : (joinL x y).length ≤ x.length + y.length + 1 := by
  unfold joinL
  split
  · omega
  · split <;> simp only [Str.length_append] <;> (try rw [show (Str.ofString "/").length = 1 from by decide +kernel]) <;> omega
end Mine
end
section
open PySem PySem.W PyProof.Rows PySem.Spec PySem.Calls
namespace Mine
theorem klLast_app (p : List Value) (y : Value) : kl_last (p ++ [y]) = some (p, y) := by
  induction p with
  | nil => rfl
  | cons a r ih => show (match kl_last (r ++ [y]) with | some (p, z) => some (a :: p, z) | none => _) = _; rw [ih]
theorem pop_L {prog : Program} {w : World} {A : Around} {E : Value → Shared → Prop} {s : Shared} {h₀ : Heap} {L D : Addr} {m : Str → Option Value} {news news' : List (Addr × Obj)} {its : Array Value} {n : Nat} {Q : Value → Shared → Prop} (F : Fr h₀ L s.heap m) (N : News h₀ L s.heap news) (hne : its.isEmpty = false) (hf : its.size ≤ 70000) (U : Upd D (listOf its n) (listOf its.pop (n + 1)) news news')
    (h : ∀ y h', Fr h₀ L h' m → News h₀ L h' news' → Q y { s with heap := h' }) : wpAny (model prog w) A (call (.builtin "list.pop") [.ref D]) Q E s := by
  have hp : 0 < its.size := Array.size_pos_iff.mpr (Array.isEmpty_eq_false_iff.mp hne)
  obtain ⟨d, v, rfl⟩ : ∃ d v, its = Array.push d v := Array.exists_push_of_size_pos hp
  refine kl_pop F N (p := d.toList) (y := v) (by rw [Array.toList_push]; exact klLast_app _ _) (by rw [Array.toArray_toList]; rwa [Array.pop_push] at U) (by rw [Array.length_toList]; exact Nat.le_trans hf (by decide +kernel)) fun h' F' N' => h v h' F' N'
theorem item_lastL {prog : Program} {w : World} {A : Around} {E : Value → Shared → Prop} {s : Shared} {h₀ : Heap} {L D : Addr} {news : List (Addr × Obj)} {its : Array Value} {n : Nat} {ys : List Str} {value slice : Expr} {u : Tok} {Q : Value → Shared → Prop} (N : News h₀ L s.heap news) (hm : (D, listOf its n) ∈ news) (hi : StrsAre its.toList ys) (hne : its.isEmpty = false)
    (hs : subscripted slice false (.ref D) (.int (-1) u) = operate [.ref D, .int (-1) u] (getItem (.ref D) (.int (-1) u))) (h : ∀ t, Q (.str (ys.getLastD Str.empty) t) s) : wpAny (model prog w) A (subscriptTail value slice (.ref D) (.int (-1) u)) Q E s := by
  have hl : s.heap.IsList D its.toList.toArray := ⟨_, (N _ hm).1, rfl, n, by rw [Array.toArray_toList]⟩
  have h1 : 0 < ys.length := by
    rw [← hi.length, Array.length_toList]
    rw [Array.isEmpty_eq_false_iff] at hne
    exact Array.size_pos_iff.mpr hne
  refine item_strs_negR hl hi (by decide) (by omega) (by decide) (fun t => ?_) hs
  have e : ys.getD (-1 + (ys.length : Int)).toNat Str.empty = ys.getLastD Str.empty := by
    rw [List.getLastD_eq_getLast?, List.getLast?_eq_getElem?, List.getD_eq_getElem?_getD]
    congr 2
    omega
  rw [e]; exact h t
theorem truthy_L {prog : Program} {w : World} {A : Around} {E : Value → Shared → Prop} {s : Shared} {h₀ : Heap} {L D : Addr} {news : List (Addr × Obj)} {its : Array Value} {n : Nat} {Q : Bool → Shared → Prop} (N : News h₀ L s.heap news) (hm : (D, listOf its n) ∈ news) (hf : its.size ≤ 70000)
    (h : Q (!its.isEmpty) { s with toks := s.toks + 1 + 1 }) : wpAny (model prog w) A (truthy (.ref D)) Q E s := wpAny_truthy_list ⟨_, (N _ hm).1, rfl, _, rfl⟩ (by omega) h
noncomputable def lenSum (ys : List Str) : Nat := (ys.map fun y => y.length + 1).sum
theorem lenSum_cons (y : Str) (ys : List Str) : lenSum (y :: ys) = y.length + 1 + lenSum ys := rfl
theorem lenSum_len (ys : List Str) : ys.length ≤ lenSum ys := by
  induction ys with
  | nil => exact Nat.zero_le _
  | cons y r ih => rw [lenSum_cons, List.length_cons]; omega
theorem strs_size {a : Array Value} {ys : List Str} (h : StrsAre a.toList ys) : a.size ≤ lenSum ys := by
  have := h.length
  have h2 := lenSum_len ys
  rw [Array.length_toList] at this
  omega
theorem lenSum_app (a b : List Str) : lenSum (a ++ b) = lenSum a + lenSum b := by unfold lenSum; rw [List.map_append, List.sum_append]
theorem lenSum_drop : ∀ a : List Str, lenSum a.dropLast ≤ lenSum a
  | [] => Nat.le_refl _
  | [_] => Nat.zero_le _
  | a :: b :: l => by rw [List.dropLast_cons_cons, lenSum_cons, lenSum_cons]; have := lenSum_drop (b :: l); omega
theorem lenSum_eq (ys : List Str) : (ys.map (·.length)).sum + ys.length = lenSum ys := by
  induction ys with
  | nil => rfl
  | cons y r ih => rw [lenSum_cons, List.map_cons, List.sum_cons, List.length_cons]; omega
theorem join_L {prog : Program} {w : World} {A : Around} {E : Value → Shared → Prop} {s : Shared} {h₀ : Heap} {L D : Addr} {news : List (Addr × Obj)} {its : Array Value} {n : Nat} {x : Str} {t : Tok} {ys : List Str} {Q : Value → Shared → Prop} (N : News h₀ L s.heap news) (hm : (D, listOf its n) ∈ news) (hi : StrsAre its.toList ys) (hsep : x.length ≤ 1) (hw : lenSum ys ≤ 70000)
    (h : ∀ t' k, (Txt.join x ys).length ≤ lenSum ys → Q (.str (Txt.join x ys) t') { s with toks := k }) : wpAny (model prog w) A (call (.builtin "str.join") [.str x t, .ref D]) Q E s := by
  refine join_listW ⟨_, (N _ hm).1, rfl, _, rfl⟩ hi (Nat.le_trans hsep (by decide)) (by rw [lenSum_eq]; omega) fun t' k => h t' k ?_
  have e := StrLaws.join_length_le x ys
  have e3 : Txt.join x ys = Str.join x ys := StrLaws.glued_eq_join ..
  have e2 := Nat.mul_le_mul_left ys.length hsep
  rw [← lenSum_eq, e3]
  exact Nat.le_trans e (Nat.add_le_add_left (by rw [Nat.mul_one] at e2; exact e2) _)
end Mine
end
section
open PySem PySem.W PyProof.Rows PySem.Spec PySem.Calls
namespace Mine
noncomputable def peek2 {α : Type} (K : Frag) (S : Setting) : Sem α → Option (Obj × (Addr → Option (Obj × (Addr → Option α))))
  | .rule _ k => peek2 K S (k ())
  | .point _ k => peek2 K S (k ())
  | .ask k => peek2 K S (k S)
  | .load a _ k => (K.lookup a).elim none fun o => peek2 K S (k o)
  | .alloc o k => some (o, fun D => peek1 K S (k D))
  | _ => none
section
variable {prog : Program} {w : World} {A₀ A : Around} {s : Shared} {base h₀ : Heap} {outer : List Env} {L : Addr} {m mg mb : Str → Option Value} {env : Env} {K : Frag} {p : Program} {loose : List Str} {mean : ExcName → Option Value}
  {R : Result → Shared → Prop} {name qual : Str} {params : Arguments} {body : List Stmt} {scope : Scope} {dV kV doc pm cdv ct oc : Value} {an od : Option Addr} {osl : Array (Option Value)} {f : Addr} {args : Args}
theorem peek2Q {α : Type} {K : Frag} {M : Model} {A : Around} {E : Value → Shared → Prop} {Q : α → Shared → Prop} {s : Shared} {o : Obj} {o₂ : Addr → Obj} {r : Addr → Addr → α} (X : K.In s.heap)
    (q : Q (r s.heap.objs.size (s.heap.objs.size + 1)) { s with heap := (s.heap.push o).push (o₂ s.heap.objs.size) }) :
    ∀ (t : Sem α) (g : Addr → Option (Obj × (Addr → Option α))) (g₂ : Addr → Addr → Option α), peek2 K ⟨M.prog, M.w.params⟩ t = some (o, g) → (∀ D, g D = some (o₂ D, g₂ D)) → (∀ D D', g₂ D D' = some (r D D')) → wpAny M A t Q E s := by
  intro t
  induction t with
  | rule _ k ih => intro g g₂ e hg hg₂ Γ p hΓ; exact ih () g g₂ e hg hg₂ Γ p hΓ
  | point _ k ih => intro g g₂ e hg hg₂ Γ p hΓ; exact ih () g g₂ e hg hg₂ Γ p hΓ
  | ask k ih => intro g g₂ e hg hg₂ Γ p hΓ; exact ih _ g g₂ e hg hg₂ Γ p hΓ
  | load a _ k ih =>
    intro g g₂ e hg hg₂ Γ p hΓ
    have e : ((K.lookup a).elim none fun o => peek2 K ⟨M.prog, M.w.params⟩ (k o)) = some (o, g) := e
    cases ho : K.lookup a with
    | none => rw [ho] at e; cases e
    | some ob => rw [ho] at e; exact ⟨ob, X _ _ ho, ih ob g g₂ e hg hg₂ Γ p hΓ⟩
  | alloc ob k _ =>
    intro g g₂ e hg hg₂
    have e : some (ob, fun D => peek1 K ⟨M.prog, M.w.params⟩ (k D)) = some (o, g) := e
    obtain ⟨e1, e2⟩ := Prod.mk.inj (Option.some.inj e)
    subst e1
    subst e2
    have X' : K.In (s.heap.push ob) := X.keeps fun b x hb => Heap.get?_push_of_some _ hb
    show wpAny M A (alloc ob >>= k) Q E s
    refine wpAny_bind (wpAny_alloc ?_)
    refine peek1Q (s := { s with heap := s.heap.push ob }) (o := o₂ s.heap.objs.size) (r := r s.heap.objs.size) X' ?_ _ (g₂ s.heap.objs.size) (hg _) (hg₂ _)
    show Q (r s.heap.objs.size (s.heap.push ob).objs.size) _
    rw [Heap.size_push]; exact q
  | _ => intro g g₂ e; cases e
theorem kp_rest2Q {o₁ o₂ : Obj} {g₁ : Addr → Option (Obj × (Addr → Option (List (Str × Value))))} {g₂ : Addr → Addr → Option (List (Str × Value))} {binds : Addr → Addr → List (Str × Value)}
    (B : Below A₀ base outer h₀) (F : Fr h₀ L s.heap m) (X₀ : K.In h₀) (T : Top p loose mean mg mb h₀) (hA : A.frames = some (env :: outer)) (hf : env.frame = some L) (hke : env.scope.kind = .function)
    (ho : K.lookup f = some ⟨oc, od, .func (fnOf name qual params body scope dV kV doc pm an cdv ct), osl⟩) (hcd : codeIn K cdv qual = true) (hroom : A.depth < recursionLimit)
    (hp : peek2 K ⟨prog, w.params⟩ (bindArgs (fnOf name qual params body scope dV kV doc pm an cdv ct) args) = some (o₁, g₁))
    (hg : ∀ D, g₁ D = some (o₂, g₂ D)) (hg₂ : ∀ D D', g₂ D D' = some (binds D D')) (hloc : ∀ D D', ∀ y ∈ binds D D', scope.names.lookup y.1 = some .local)
    (h : ∀ D g L' h₁, Kept s.heap g → Fr g L' h₁ (fun y => (binds D (D + 1)).reverse.lookup y) → News g L' h₁ [] → Below A base (env :: outer) g → K.In g → Top p loose mean mg mb g →
      wpAny (model prog w) (A.deeper (envOf qual scope L' f cdv)) (execs body (envOf qual scope L' f cdv))
        (fun fl s' => LeaveQ g R (match fl with | .ret v => v | _ => .none) s')
        (fun e s' => wpAny (model prog w) (A.deeper (envOf qual scope L' f cdv)) (leaving (envOf qual scope L' f cdv) e) (fun _ s'' => R (.error e) s'') (fun e' s'' => R (.error e') s'') s')
        { s with heap := h₁, toks := s.toks + (binds D (D + 1)).length })
    (hco : scope.isCoroutine = false) (hgen : scope.isGenerator = false) (hk : scope.kind = .function)
    (hcell : ∀ x ∈ scope.names, x.2 ≠ .cell) : codeAny (model prog w) A (.call (.ref f) args) R s := by
  obtain ⟨BG, st⟩ := groundQ (A := A) B F hA hf hke
  refine codeAny_call_function (fd := fnOf name qual params body scope dV kV doc pm an cdv ct) (body := body) hroom ((X₀.keeps F.keep) _ _ ho) rfl hco hgen rfl (codeRec_of (X₀.keeps F.keep) hcd) ?_
  refine peek2Q (o := o₁) (o₂ := fun _ => o₂) (X₀.keeps F.keep) (r := binds) ?_ _ g₁ g₂ hp hg hg₂
  have hpush : ∀ b o, s.heap.get? b = some o → ((s.heap.push o₁).push o₂).get? b = some o := fun b o e => Heap.get?_push_of_some _ (Heap.get?_push_of_some _ e)
  refine wpAny_newFunctionEnv hcell (hloc _ _) (fun h₁ hns hsb => ⟨((T.nolimit.keeps F.keep).keeps hpush).fresh (h := (s.heap.push o₁).push o₂) _ hsb, codeAny_func ?_⟩) hk
  have hk₁ : ∀ b o, ((s.heap.push o₁).push o₂).get? b = some o → h₁.get? b = some o := fun b o e => hsb.extBut b o (Nat.ne_of_lt (Heap.lt_size e)) (Heap.get?_push_of_some _ e)
  have hsz : ((s.heap.push o₁).push o₂).objs.size = s.heap.objs.size + 1 + 1 := by rw [Heap.size_push, Heap.size_push]
  show wpAny (model prog w) (A.deeper (envOf qual scope ((s.heap.push o₁).push o₂).objs.size f cdv)) (execs body (envOf qual scope ((s.heap.push o₁).push o₂).objs.size f cdv)) _ _ _
  have B2 : Below A base (env :: outer) s.heap := BG
  refine wpAny_mono (h s.heap.objs.size s.heap _ h₁ (fun _ _ e => e) ⟨hns, fun b o e => hk₁ b o (hpush b o e), by rw [hsz]; exact Nat.le_succ_of_le (Nat.le_succ _)⟩ News.nil B2 (X₀.keeps st) (T.keeps st)) (fun fl s' hl => hl.done) fun _ _ y => y
end
section
variable {prog : Program} {w : World} {A : Around} {K : Frag} {C : Addr} {s : Shared} {h₀ : Heap} {L : Addr} {m : Str → Option Value} {news : List (Addr × Obj)} {Q E : Value → Shared → Prop}
theorem objnew_Q (F : Fr h₀ L s.heap m) (N : News h₀ L s.heap news) (X : K.In h₀)
    (h1 : peek K ⟨prog, w.params⟩ (checkBuiltinCall "object.__new__" ⟨[.ref C], []⟩) = some ()) (h2 : (peek2 K ⟨prog, w.params⟩ (Builtin.«object.__new__» ⟨[.ref C], []⟩)).map (·.1) = some emptyDict)
    (hg : ∀ D, ((peek2 K ⟨prog, w.params⟩ (Builtin.«object.__new__» ⟨[.ref C], []⟩)).bind fun z => z.2 D).map (·.1) = some (instObj C D))
    (hg2 : ∀ D D', ((peek2 K ⟨prog, w.params⟩ (Builtin.«object.__new__» ⟨[.ref C], []⟩)).bind fun z => z.2 D).bind (fun z => z.2 D') = some (.done (.ret (.ref D'))))
    (h : ∀ x dx h', Fr h₀ L h' m → News h₀ L h' ((x, instObj C dx) :: (dx, emptyDict) :: news) → (∀ p ∈ news, p.1 < dx) → dx < x → Q (.ref x) { s with heap := h' }) :
    wpAny (model prog w) A (call (.builtin "object.__new__") [.ref C]) Q E s := by
  obtain ⟨⟨o, g⟩, h2, rfl⟩ := Option.map_eq_some_iff.mp h2
  rw [h2] at hg hg2
  have hg' : ∀ D, ∃ g2, g D = some (instObj C D, g2) := fun D => by
    obtain ⟨⟨o', g2⟩, e, e2⟩ := Option.map_eq_some_iff.mp (hg D)
    dsimp only at e2
    subst e2
    exact ⟨g2, e⟩
  have hgg : ∀ D, g D = some (instObj C D, Classical.choose (hg' D)) := fun D => Classical.choose_spec (hg' D)
  have hg2' : ∀ D D', Classical.choose (hg' D) D' = some (.done (.ret (.ref D'))) := fun D D' => by
    have : (g D).bind (fun z => z.2 D') = some (.done (.ret (.ref D'))) := hg2 D D'
    rw [hgg D, Option.bind_some] at this
    exact this
  have X' := X.keeps F.keep
  have FF := PySem.F.objNew
  refine wpAny_call ?_
  refine codeAny_call_builtin_code (Code.quiet_builtin _ FF.quiet) ?_
  refine (Looks.of_peek X' h1).here ?_
  refine codeAny_builtin FF.entry ?_
  obtain ⟨hh, gn, d, t, os⟩ := s
  refine peek2Q (s := ⟨hh, gn, d, t, os⟩) (o := emptyDict) (o₂ := fun D => instObj C D) (r := fun _ D' => .done (.ret (.ref D'))) X' ?_ _ g (fun D => Classical.choose (hg' D)) h2 (fun D => hgg D) hg2'
  have := (N.push F emptyDict).push (F.push _) (instObj C hh.objs.size)
  rw [Heap.size_push] at this
  exact h _ hh.objs.size _ ((F.push _).push _) this (fun p hp => Heap.lt_size (N p hp).1) (Nat.lt_succ_self _)
end
section
variable {prog : Program} {w : World} {A : Around} {K : Frag} {C fN fI : Addr} {s : Shared} {h₀ : Heap} {L : Addr} {m : Str → Option Value} {news : List (Addr × Obj)} {R : Result → Shared → Prop} {E : Value → Shared → Prop}
/-- a class with a __new__ of its own (a plain def, kept as a static method) -/
theorem make_Q {rest : List Value} {kw : List (Str × Value)} {l : List Value} {oc : Value} {od : Option Addr} {cd : ClassData} {sl : Array (Option Value)} (X : K.In s.heap)
    (hobj : K.lookup C = some ⟨oc, od, .cls cd, sl⟩) (hc : peek K ⟨prog, w.params⟩ (specialOf (.ref C) "__call__") = some (some (.builtin "type.__call__")))
    (ht : peek K ⟨prog, w.params⟩ (isInstance (.ref C) (.type "type")) = some true) (hm : peek K ⟨prog, w.params⟩ (mroOf (.ref C)) = some l) (hl : l.isEmpty = false)
    (hb : peek K ⟨prog, w.params⟩ (Bind.madeBy (.ref C)) = some none) (hs : peek K ⟨prog, w.params⟩ (isSubtype (.ref C) (.ref C)) = some true) (hi : peek K ⟨prog, w.params⟩ (typeLookup (.ref C) "__init__") = some (some (.ref fI)))
    (hf : typeIn K (.ref fI) = some (.type "function"))
    (hnew : wpAny (model prog w) (A.under (.builtin "type.__call__" ⟨.ref C :: rest, kw⟩)) (getAttr (.ref C) "__new__") (fun v s₁ => v = .ref fN ∧
      wpAny (model prog w) (A.under (.builtin "type.__call__" ⟨.ref C :: rest, kw⟩)) (call (.ref fN) (.ref C :: rest) kw) (fun v s₂ => ∃ x dx, v = .ref x ∧ s₂.heap.get? x = some (instObj C dx) ∧ K.In s₂.heap ∧
        codeAny (model prog w) (A.under (.builtin "type.__call__" ⟨.ref C :: rest, kw⟩)) (.call (.ref fI) ⟨.ref x :: rest, kw⟩) (InitBack x R) s₂) (fun _ _ => False) s₁) (fun _ _ => False) s) :
    codeAny (model prog w) A (.call (.ref C) ⟨rest, kw⟩) R s := by
  refine codeAny_of_tree ?_
  show wpAny _ _ (callAny (.ref C) _) _ _ _
  refine nd_load (X _ _ hobj) ?_
  show wpAny _ _ (callAny.viaDunder (.ref C) _) _ _ _
  unfold callAny.viaDunder
  refine wpAny_bind ((Looks.of_peek X hc).here ?_)
  dsimp only
  rw [tc_bind]
  refine wpAny_bind (wpAny_pure (wpAny_bind (wpAny_pure ?_)))
  refine wpAny_pure (a := Fin.again (.call (.builtin "type.__call__") ⟨.ref C :: rest, kw⟩)) (And.intro rfl ?_)
  refine codeAny_call_builtin_at (Code.quiet_builtin _ (by decide +kernel)) entry_typeCall (check_slot tc_kind tc_split (Looks.of_peek X ht) (tc_args _ _ _) ?_)
  unfold Builtin.«type.__call__»
  have hmL : Looks (model prog w) s.heap (mroOf (.ref C)) l := Looks.of_peek X hm
  have hbL : Looks (model prog w) s.heap (Bind.madeBy (.ref C)) none := Looks.of_peek X hb
  refine wpAny_bind (hmL.here ?_)
  rw [hl]
  refine wpAny_bind (hbL.here ?_)
  dsimp only
  refine wpAny_bind (wpAny_mono hnew (fun v s₁ z => ?_) fun _ _ z => z.elim)
  obtain ⟨rfl, z⟩ := z
  refine wpAny_bind (wpAny_holding (wpAny_mono z (fun v s₂ z => ?_) fun _ _ z => z.elim))
  obtain ⟨x, dx, rfl, hx, X2, hq⟩ := z
  obtain ⟨h2, g2, d2, t2, os2⟩ := s₂
  have t1 : Looks (model prog w) h2 (typeOf (.ref x)) (.ref C) := (Looks.ld hx).andThen .now
  have s1 : Looks (model prog w) h2 (isSubtype (.ref C) (.ref C)) true := Looks.of_peek X2 hs
  have i1 : Looks (model prog w) h2 (typeLookup (.ref C) "__init__") (some (.ref fI)) := Looks.of_peek X2 hi
  have b1 := bind_fn (M := model prog w) X2 (.ref x) hf
  unfold isInstance callSpecial? specialOf
  repeat (first | with_reducible refine wpAny_call ?_ | lk)
  refine codeAny_mono hq fun r s' z => ?_
  rcases r with e | (v | _ | _ | _) <;> first | exact z | exact z.elim | skip
  obtain ⟨rfl, z⟩ := z
  exact wpAny_pure (wpAny_pure z)
end
end Mine
end
section
open PySem PySem.W PyProof.Rows PySem.Spec PySem.Calls
namespace Mine
section
variable {prog : Program} {w : World} {A₀ A : Around} {s : Shared} {base h₀ : Heap} {outer : List Env} {L : Addr} {m mg mb : Str → Option Value} {env : Env} {K : Frag} {p : Program} {loose : List Str} {mean : ExcName → Option Value}
  {R : Result → Shared → Prop} {name qual : Str} {params : Arguments} {body : List Stmt} {scope : Scope} {dV kV doc pm cdv ct oc : Value} {an od : Option Addr} {osl : Array (Option Value)} {f : Addr} {args : Args} {binds : List (Str × Value)} {ms : List (Addr × Obj)}
/-- entering a def that may write the objects ms: they leave the ground and stand on its ledger -/
theorem code_defM (B : Below A₀ base outer h₀) (F : Fr h₀ L s.heap m) (N : News h₀ L s.heap ms) (X₀ : K.In h₀) (T : Top p loose mean mg mb h₀) (hA : A.frames = some (env :: outer)) (hf : env.frame = some L) (hke : env.scope.kind = .function)
    (ho : K.lookup f = some ⟨oc, od, .func (fnOf name qual params body scope dV kV doc pm an cdv ct), osl⟩) (hcd : codeIn K cdv qual = true) (hroom : A.depth < recursionLimit)
    (hbind : BindsTo s (fnOf name qual params body scope dV kV doc pm an cdv ct) args binds) (hloc : ∀ y ∈ binds, scope.names.lookup y.1 = some .local)
    (h : ∀ g L' h₁, g = hideAll s.heap (ms.map (·.1)) → Fr g L' h₁ (fun y => binds.reverse.lookup y) → News g L' h₁ ms → Below A base (env :: outer) g → K.In g → Top p loose mean mg mb g →
      wpAny (model prog w) (A.deeper (envOf qual scope L' f cdv)) (execs body (envOf qual scope L' f cdv))
        (fun fl s' => LeaveQ g R (match fl with | .ret v => v | _ => .none) s')
        (fun e s' => wpAny (model prog w) (A.deeper (envOf qual scope L' f cdv)) (leaving (envOf qual scope L' f cdv) e) (fun _ s'' => R (.error e) s'') (fun e' s'' => R (.error e') s'') s')
        { s with heap := h₁, toks := s.toks + binds.length })
    (hco : scope.isCoroutine = false) (hgen : scope.isGenerator = false) (hk : scope.kind = .function)
    (hcell : ∀ x ∈ scope.names, x.2 ≠ .cell) : codeAny (model prog w) A (.call (.ref f) args) R s := by
  obtain ⟨_, BG, st, _⟩ := groundX (A := A) (R := R) B F N hA hf hke
  refine codeAny_call_def (fd := fnOf name qual params body scope dV kV doc pm an cdv ct) (body := body) (binds := binds) hroom ((X₀.keeps F.keep) _ _ ho) rfl (T.nolimit.keeps F.keep) (codeRec_of (X₀.keeps F.keep) hcd) rfl hbind hcell hloc (fun h₁ hns hk₁ => ?_) hco hgen hk
  refine wpAny_mono (h _ s.heap.objs.size h₁ rfl ⟨hns, fun b o e => hk₁ b o (of_hideAll _ e), by rw [hideAll_size]; exact Nat.le_refl _⟩ (fun q hq => ⟨hk₁ _ _ (N q hq).1, Nat.ne_of_lt (Heap.lt_size (N q hq).1), hideAll_none _ (List.mem_map_of_mem hq)⟩) BG (X₀.keeps st) (T.keeps st)) (fun fl s' hl => hl.done) fun _ _ y => y
end
/-- all that stood stands, but for the objects ms -/
noncomputable def KeptM (ms : List (Addr × Obj)) (g h : Heap) : Prop := ∀ b o, g.get? b = some o → b ∉ ms.map (·.1) → h.get? b = some o
noncomputable def RetM (ms : List (Addr × Obj)) (Post : Value → Heap → Prop) (s : Shared) (Q : Value → Shared → Prop) : Prop :=
  ∀ r h' tk', Post r h' → KeptM ms s.heap h' → Q r { s with heap := h', toks := tk' }
theorem RetM.go {ms : List (Addr × Obj)} {Post : Value → Heap → Prop} {s : Shared} {Q : Value → Shared → Prop} {r : Value} {g h' : Heap} {tk' : Nat}
    (R : RetM ms Post s Q) (k1 : g = hideAll s.heap (ms.map (·.1))) (k2 : Kept g h') (hp : Post r h') : Q r { s with heap := h', toks := tk' } :=
  R r h' tk' hp fun b o e n => k2 b o (by rw [k1]; exact hideAll_get _ e n)
/-- a contract of a def that writes the objects ms, and no other -/
noncomputable def CtM (w : World) (D : Nat) (f : Addr) (vs : List Value) (kw : List (Str × Value)) (ms : List (Addr × Obj)) (Post : Value → Heap → Prop) : Prop :=
  ∀ (p : Program) (loose : List Str) (mean : ExcName → Option Value) (mg mb : Str → Option Value) (dp un : Nat) (gd : Option (List Code)) (cn : Str) (sn : List (Str × NameKind)) (sg sc : Bool) (sm : List (Str × Const)) (a : Addr) (ccd : Value) (cl : List (Str × Addr)) (outer : List Env)
    (A₀ : Around) (base h₀ : Heap) (L : Addr) (m : Str → Option Value) (s : Shared) (Q : Value → Shared → Prop),
    Below A₀ base outer h₀ → Fr h₀ L s.heap m → News h₀ L s.heap ms → (Mine.hd.heap_1 w.params).In h₀ → Top p loose mean mg mb h₀ → dp + D < recursionLimit → un + 8 * D < cLine →
    RetM ms Post s Q →
    wpAny (model PySem.Challenge.rw_ik0089_01.prog w) (ktrTop dp un gd cn ⟨.function, sn, sg, sc, sm⟩ L a ccd cl outer) (call (.ref f) vs kw) Q (fun _ _ => False) s
/-- the caller's ledger behind it: ms with new contents, the rest as it was -/
theorem KeptM.news {h₀ h h' : Heap} {L : Addr} {ms ms' rest : List (Addr × Obj)} (k : KeptM ms h h') (N : News h₀ L h (ms ++ rest)) (ne : ∀ p ∈ rest, p.1 ∉ ms.map (·.1)) (e : ms'.map (·.1) = ms.map (·.1)) (hm : ∀ p ∈ ms', h'.get? p.1 = some p.2) : News h₀ L h' (ms' ++ rest) := by
  intro p hp
  rcases List.mem_append.mp hp with hp | hp
  · have : p.1 ∈ ms.map (·.1) := e ▸ List.mem_map_of_mem hp
    obtain ⟨q, hq, eq⟩ := List.mem_map.mp this
    have z := N q (List.mem_append_left _ hq)
    rw [eq] at z
    exact ⟨hm p hp, z.2⟩
  · have z := N p (List.mem_append_right _ hp)
    exact ⟨k _ _ z.1 (ne p hp), z.2⟩
theorem KeptM.fr {h₀ h h' : Heap} {L : Addr} {m : Str → Option Value} {ms : List (Addr × Obj)} (k : KeptM ms h h') (F : Fr h₀ L h m) (N : News h₀ L h ms) : Fr h₀ L h' m := by
  obtain ⟨oL, es, ep, hL, hLd, hLk, hLf⟩ := F.ns
  refine ⟨⟨oL, es, ep, k _ _ hL fun q => ?_, hLd, hLk, hLf⟩, fun b o e => k _ _ (F.keep b o e) fun q => ?_, F.above⟩
  · obtain ⟨p, hp, e⟩ := List.mem_map.mp q
    exact (N p hp).2.1 e
  · obtain ⟨p, hp, e2⟩ := List.mem_map.mp q
    have := (N p hp).2.2
    rw [e2, e] at this
    cases this
theorem CtM.use {w : World} {D : Nat} {f : Addr} {vs : List Value} {kw : List (Str × Value)} {ms : List (Addr × Obj)} {Post : Value → Heap → Prop} (C : CtM w D f vs kw ms Post)
   {p : Program} {loose : List Str} {mean : ExcName → Option Value} {mg mb : Str → Option Value} {dp un : Nat} {gd : Option (List Code)} {cn : Str} {sn : List (Str × NameKind)} {sg sc : Bool} {sm : List (Str × Const)} {a : Addr} {ccd : Value} {cl : List (Str × Addr)} {outer : List Env}
    {A₀ : Around} {base h₀ : Heap} {L : Addr} {m : Str → Option Value} {news : List (Addr × Obj)} {s : Shared} {Q E : Value → Shared → Prop}
    (B : Below A₀ base outer h₀) (F : Fr h₀ L s.heap m) (X : (Mine.hd.heap_1 w.params).In h₀) (N : News h₀ L s.heap news) (T : Top p loose mean mg mb h₀) (sub : ∀ q ∈ ms, q ∈ news) (hd : dp + D < recursionLimit) (hu : un + 8 * D < cLine)
    (h : ∀ r h' tk', Post r h' → (∀ (ms' rest : List (Addr × Obj)), News h₀ L s.heap rest → (∀ p ∈ rest, p.1 ∉ ms.map (·.1)) → ms'.map (·.1) = ms.map (·.1) → (∀ p ∈ ms', h'.get? p.1 = some p.2) → News h₀ L h' (ms' ++ rest)) → Fr h₀ L h' m → Q r { s with heap := h', toks := tk' }) :
    wpAny (model PySem.Challenge.rw_ik0089_01.prog w) (ktrTop dp un gd cn ⟨.function, sn, sg, sc, sm⟩ L a ccd cl outer) (call (.ref f) vs kw) Q E s := by
  have Nm : News h₀ L s.heap ms := fun q hq => N q (sub q hq)
  refine wpAny_mono (C p loose mean mg mb dp un gd cn sn sg sc sm a ccd cl outer A₀ base h₀ L m s Q B F Nm X T hd hu (fun r h' tk' hp k => h r h' tk' hp (fun ms' rest Nr ne e hm => k.news (fun q hq => ?_) ne e hm) (k.fr F Nm))) (fun _ _ x => x) fun _ _ x => x.elim
  rcases List.mem_append.mp hq with hq | hq
  · exact Nm q hq
  · exact Nr q hq
end Mine
end
section
open PySem PySem.W PyProof.Rows PySem.Spec PySem.Calls
namespace Mine
noncomputable abbrev dqT : String := "collections.deque"
noncomputable abbrev dqO : Obj := { cls := .type "collections.deque", data := .fields #[.none, rawInt 0] }
theorem dq_mro : mroOf (.type "collections.deque") = pure [.type "collections.deque", .type "object"] := by rw [mroOf_type]; kernel_rfl
theorem dq_new : typeLookup (.type "collections.deque") "__new__" = pure (some (.builtin "collections.deque.__new__")) := by rw [typeLookup_type, builtinLookup_eq_fast]; kernel_rfl
theorem dq_init : Slot "collections.deque" "__init__" "collections.deque.__init__" := .of (owner := "collections.deque") (n := "__init__") (by rw [typeLookup_type, builtinLookup_eq_fast]; kernel_rfl) (by decide +kernel) (by decide +kernel) (by decide +kernel)
  (by first | exact .inl (by decide +kernel) | exact .inr (by decide +kernel)) (by rw [isSubtype_type]; kernel_rfl)
theorem dq_sub : isSubtype (.type "collections.deque") (.type "collections.deque") = pure true := by rw [isSubtype_type]; kernel_rfl
theorem dq_called : TypeCalled "collections.deque" "collections.deque.__new__" "collections.deque.__init__" :=
  ⟨by decide +kernel, by decide +kernel, ⟨_, _, dq_mro⟩, madeBy_type dq_mro dq_new (by decide +kernel), by decide +kernel, dq_sub, dq_init⟩
theorem dq_entryN : entryFor table "collections.deque.__new__" = some Builtin.«collections.deque.__new__» := entryFor_of_tree (by kernel_rfl)
theorem dq_entryI : entryFor table "collections.deque.__init__" = some Builtin.«collections.deque.__init__» := entryFor_of_tree (by kernel_rfl)
theorem dq_hct : checkTypeCall "collections.deque" ⟨[], []⟩ = pure () := by kernel_rfl
theorem dq_hcn : checkBuiltinCall "collections.deque.__new__" ⟨[.type "collections.deque"], []⟩ = pure () := by kernel_rfl
theorem dq_argsI (o : Value) : argsOk "collections.deque.__init__" ⟨[o], []⟩ := by unfold argsOk; kernel_rfl
theorem dq_args : Builtin.Deque.newArgs Builtin.Deque.ty ⟨[.type "collections.deque"], []⟩ = pure (.type "collections.deque", []) := by
  show (isSubtype (.type "collections.deque") (.type "collections.deque") >>= _) = _
  rw [dq_sub]; rfl
theorem dq_meetsN : Meets (Builtin.«collections.deque.__new__» ⟨[.type "collections.deque"], []⟩) (fun _ R s => R (.ok (.ret (.ref s.heap.objs.size))) { s with heap := s.heap.push dqO }) :=
  .of_wp fun prog w A R s h => by
    obtain ⟨hp, g, d, tk, os⟩ := s
    unfold Builtin.«collections.deque.__new__»
    refine wpAny_bind (wpAny_of_eq dq_args ?_)
    dsimp only
    unfold Builtin.Deque.new
    repeat (any_goals (first | (with_reducible refine wpAny_newObj_type ?_ (by size_fits)) | wp_step))
    all_goals exact ⟨_, rfl, h⟩
theorem dq_meetsI (a : Addr) : Meets (Builtin.«collections.deque.__init__» ⟨[.ref a], []⟩) (fun _ R s => s.heap.get? a = some dqO ∧ ∀ h', h'.get? a = some dqO → (∀ y o, y ≠ a → s.heap.get? y = some o → h'.get? y = some o) → R (.ok (.ret .none)) { s with heap := h' }) :=
  .of_wp fun prog w A R s h => by
    obtain ⟨hp, g, d, tk, os⟩ := s
    obtain ⟨ha, hq⟩ := h
    unfold Builtin.«collections.deque.__init__»
    dsimp only
    refine wpAny_bind (wpAny_of_eq (a := PUnit.unit) (by first | rfl | kernel_rfl) ?_)
    refine wpAny_bind (wpAny_of_eq (a := PUnit.unit) (by first | rfl | kernel_rfl) ?_)
    show wpAny _ _ (do
      setField (.ref a) 0 .none
      Builtin.Deque.clear (.ref a)
      ret .none) _ _ _
    refine wpAny_bind (wpAny_setField_rec ha (by simp) fun h1 e1 s1 => ?_)
    have e2 : h1.get? a = some dqO := by simpa using e1
    unfold Builtin.Deque.clear Builtin.Deque.items
    refine wpAny_bind (wpAny_bind (wpAny_bind (wpAny_fieldsOf e2 rfl (wpAny_pure ?_))))
    refine wpAny_pure (wpAny_pure ⟨_, rfl, hq h1 e2 fun y o hy e => (s1.2 y hy).trans e⟩)
section
variable {prog : Program} {w : World} {A : Around} {E : Value → Shared → Prop} {s : Shared} {Q : Value → Shared → Prop} {h₀ : Heap} {L : Addr} {m : Str → Option Value} {news : List (Addr × Obj)}
theorem dq_call (F : Fr h₀ L s.heap m) (N : News h₀ L s.heap news) (h : ∀ l h', Fr h₀ L h' m → News h₀ L h' ((l, dqO) :: news) → (∀ p ∈ news, p.1 < l) → Q (.ref l) { s with heap := h' }) :
    wpAny (model prog w) A (call (.type "collections.deque") [] []) Q E s := by
  refine callType_meets (args := []) (Q₁ := fun v s' => v = .ref s.heap.objs.size ∧ s' = { s with heap := s.heap.push dqO }) dq_called dq_hct dq_hcn dq_entryN dq_entryI dq_meetsN ⟨rfl, rfl⟩ ?_
  rintro obj s₁ ⟨rfl, rfl⟩
  have hg : (s.heap.push dqO).get? s.heap.objs.size = some dqO := Heap.get?_push_at rfl rfl
  refine ⟨⟨_, hg, rfl⟩, dq_argsI _, _, dq_meetsI s.heap.objs.size, hg, fun h' e k => ⟨rfl, ?_⟩⟩
  have k' : ∀ y o, s.heap.get? y = some o → h'.get? y = some o := fun y o ey => k y o (Nat.ne_of_lt (Heap.lt_size ey)) (Heap.get?_push_of_some _ ey)
  have F1 := F.push dqO
  have N1 := N.push F dqO
  refine h _ h' ⟨F.ns.keeps k', fun b o e => k' b o (F.keep b o e), F.above⟩ (fun p hp => ?_) (fun p hp => Heap.lt_size (N p hp).1)
  rcases List.mem_cons.mp hp with rfl | hp
  · exact ⟨e, (N1 _ (.head _)).2⟩
  · exact ⟨k' _ _ (N p hp).1, (N p hp).2⟩
end
theorem dq_slotLen : Slot "collections.deque" "__len__" "collections.deque.__len__" := .of (owner := "collections.deque") (n := "__len__") (by rw [typeLookup_type, builtinLookup_eq_fast]; kernel_rfl) (by decide +kernel) (by decide +kernel) (by decide +kernel)
  (by first | exact .inl (by decide +kernel) | exact .inr (by decide +kernel)) (by rw [isSubtype_type]; kernel_rfl)
theorem dq_noBool : typeLookup (.type "collections.deque") "__bool__" = pure none := by rw [typeLookup_type, builtinLookup_eq_fast]; kernel_rfl
theorem dq_entryL : entryFor table "collections.deque.__len__" = some Builtin.«collections.deque.__len__» := entryFor_of_tree (by kernel_rfl)
theorem dq_argsL (o : Value) : argsOk "collections.deque.__len__" ⟨[o], []⟩ := by unfold argsOk; kernel_rfl
section
variable {prog : Program} {w : World} {A : Around} {E : Value → Shared → Prop} {s : Shared}
theorem dq_lenBody {l : Addr} {Q : Value → Shared → Prop} (hl : s.heap.get? l = some dqO) (h : Q (.int 0 (s.toks + 1)) { s with toks := s.toks + 1 + 1 }) :
    wpAny (model prog w) A (Builtin.«len» ⟨[.ref l], []⟩) (fun fin s' => ∃ r, fin = .done (.ret r) ∧ Q r s') E s := by
  have ht : s.TypeIs (.ref l) "collections.deque" := ⟨_, hl, rfl⟩
  unfold Builtin.«len»
  refine wpAny_bind (m := oneArg "len" _) (wpAny_pure ?_)
  refine wpAny_bind (m := callSpecial? (.ref l) (Str.ofString "__len__")) (wpAny_callSpecial?_slot (name := Str.ofString "__len__") ht dq_slotLen
    (wpAny_call_entry dq_slotLen ht dq_entryL ?_ (dq_argsL _)))
  show wpAny _ _ (do retInt (← Builtin.Deque.size (.ref l))) _ _ s
  unfold Builtin.Deque.size
  refine wpAny_bind (wpAny_bind (wpAny_fieldsOf hl rfl (wpAny_pure ?_)))
  refine wpAny_bind (wpAny_mkInt (wpAny_pure ⟨_, rfl, ?_⟩))
  refine wpAny_bind (wpAny_holding (wpAny_pure ?_))
  refine wpAny_bind (wpAny_letGo ?_)
  exact wpAny_bind (wpAny_mkInt (wpAny_pure ⟨_, rfl, h⟩))
theorem dq_truthy {l : Addr} {Q : Bool → Shared → Prop} (hl : s.heap.get? l = some dqO) (h : Q false { s with toks := s.toks + 1 + 1 }) : wpAny (model prog w) A (truthy (.ref l)) Q E s := by
  have ht : s.TypeIs (.ref l) "collections.deque" := ⟨_, hl, rfl⟩
  have key : wpAny (model prog w) A (runValue (.builtin "len" ⟨[.ref l], []⟩)) (fun r s' => r = .int 0 (s.toks + 1) ∧ Q false s') E s := by
    refine wpAny_runValue (codeAny_builtin entry_len ?_)
    rw [Around.under_plainId plain_len _]
    exact wpAny_mono (dq_lenBody (Q := fun r s' => r = .int 0 (s.toks + 1) ∧ Q false s') hl ⟨rfl, h⟩)
      (fun fin s' h' => by obtain ⟨r, rfl, hq⟩ := h'; exact hq) fun _ _ e => e
  unfold truthy
  first
    | refine wpAny_bind (wpAny_callSpecial?_none (name := Str.ofString "__bool__") ht dq_noBool ?_)
    | refine wpAny_bind (wpAny_pure (wpAny_bind (wpAny_callSpecial?_none (name := Str.ofString "__bool__") ht dq_noBool ?_)))
  first
    | refine wpAny_bind (wpAny_specialOf (name := Str.ofString "__len__") ht dq_slotLen.lookup ?_)
    | refine wpAny_bind (wpAny_pure (wpAny_bind (wpAny_specialOf (name := Str.ofString "__len__") ht dq_slotLen.lookup ?_)))
  exact wpAny_bind (wpAny_mono key (fun r s' h' => by obtain ⟨rfl, hq⟩ := h'; exact wpAny_pure hq) fun _ _ e => e)
theorem dq_truthyN {h₀ : Heap} {L l : Addr} {news : List (Addr × Obj)} {Q : Bool → Shared → Prop} (N : News h₀ L s.heap news) (hm : (l, dqO) ∈ news) (h : Q false { s with toks := s.toks + 1 + 1 }) : wpAny (model prog w) A (truthy (.ref l)) Q E s := dq_truthy (N _ hm).1 h
end
end Mine
end
section
open PySem PySem.W PyProof.Rows PySem.Spec PySem.Calls
namespace Mine
/-- what read_token does on the lines of the law: a plain machine over code points (none: a line the law does not build) -/
inductive LexSt
  | sp | wd | sq | dq
noncomputable def safeC (c : Nat) : Bool := (65 ≤ c && c ≤ 90) || (97 ≤ c && c ≤ 122) || (48 ≤ c && c ≤ 57) || c == 95 || c == 64 || c == 37 || c == 43 || c == 61 || c == 58 || c == 44 || c == 46 || c == 47 || c == 45
/-- token, was anything quoted, is the text at its end, what is left -/
noncomputable def lexRun : List Nat → LexSt → List Nat → Bool → Option (List Nat × Bool × Bool × List Nat)
  | [], .sp, tok, q => some (tok, q, true, [])
  | [], .wd, tok, q => some (tok, q, true, [])
  | [], _, _, _ => none
  | c :: r, .sp, tok, q => if c = 39 then lexRun r .sq tok q else if safeC c = true then lexRun r .wd [c] q else none
  | c :: r, .wd, tok, q => if c = 32 then (if tok = [] ∧ q = false then none else some (tok, q, false, r)) else if c = 39 then lexRun r .sq tok q else if c = 34 then lexRun r .dq tok q else if safeC c = true then lexRun r .wd (tok ++ [c]) q else none
  | c :: r, .sq, tok, _ => if c = 39 then lexRun r .wd tok true else lexRun r .sq (tok ++ [c]) true
  | c :: r, .dq, tok, _ => if c = 34 then lexRun r .wd tok true else if c = 39 then lexRun r .dq (tok ++ [c]) true else none
end Mine
end
section
open PySem PySem.W PyProof.Rows PySem.Spec PySem.Calls
namespace Mine
theorem pk2 {A B C : Prop} (h : A ∧ B ∧ C) : B := h.2.1
theorem pk3 {A B C D : Prop} (h : A ∧ B ∧ C ∧ D) : C := h.2.2.1
theorem pk4 {A B C D E : Prop} (h : A ∧ B ∧ C ∧ D ∧ E) : D := h.2.2.2.1
theorem pk5 {A B C D E F : Prop} (h : A ∧ B ∧ C ∧ D ∧ E ∧ F) : E := h.2.2.2.2.1
theorem pk6 {A B C D E F G : Prop} (h : A ∧ B ∧ C ∧ D ∧ E ∧ F ∧ G) : F := h.2.2.2.2.2.1
theorem pl3 {A B C : Prop} (h : A ∧ B ∧ C) : C := h.2.2
theorem pl4 {A B C D : Prop} (h : A ∧ B ∧ C ∧ D) : D := h.2.2.2
theorem pl5 {A B C D E : Prop} (h : A ∧ B ∧ C ∧ D ∧ E) : E := h.2.2.2.2
theorem pl6 {A B C D E F : Prop} (h : A ∧ B ∧ C ∧ D ∧ E ∧ F) : F := h.2.2.2.2.2
theorem pl7 {A B C D E F G : Prop} (h : A ∧ B ∧ C ∧ D ∧ E ∧ F ∧ G) : G := h.2.2.2.2.2.2
theorem pk7 {A B C D E F G H : Prop} (h : A ∧ B ∧ C ∧ D ∧ E ∧ F ∧ G ∧ H) : G := h.2.2.2.2.2.2.1
theorem pk8 {A B C D E F G H I : Prop} (h : A ∧ B ∧ C ∧ D ∧ E ∧ F ∧ G ∧ H ∧ I) : H := h.2.2.2.2.2.2.2.1
theorem pk9 {A B C D E F G H I J : Prop} (h : A ∧ B ∧ C ∧ D ∧ E ∧ F ∧ G ∧ H ∧ I ∧ J) : I := h.2.2.2.2.2.2.2.2.1
theorem pl8 {A B C D E F G H : Prop} (h : A ∧ B ∧ C ∧ D ∧ E ∧ F ∧ G ∧ H) : H := h.2.2.2.2.2.2.2
theorem pl9 {A B C D E F G H I : Prop} (h : A ∧ B ∧ C ∧ D ∧ E ∧ F ∧ G ∧ H ∧ I) : I := h.2.2.2.2.2.2.2.2
theorem pl10 {A B C D E F G H I J : Prop} (h : A ∧ B ∧ C ∧ D ∧ E ∧ F ∧ G ∧ H ∧ I ∧ J) : J := h.2.2.2.2.2.2.2.2.2
theorem rm0 {d a : Nat} (h : d + a < recursionLimit) : d < recursionLimit := Nat.lt_of_le_of_lt (Nat.le_add_right _ _) h
theorem rm2 {d a b : Nat} (h : d + a < recursionLimit) (q : b ≤ a) : d + b < recursionLimit := Nat.lt_of_le_of_lt (Nat.add_le_add_left q _) h
theorem rm1 {d a k b : Nat} (h : d + a < recursionLimit) (q : k + b ≤ a) : d + k + b < recursionLimit := by rw [Nat.add_assoc]; exact rm2 h q
theorem un0 {u a k : Nat} (h : u + 8 * a < cLine) (q : k ≤ 8 * a) : u + k < cLine := Nat.lt_of_le_of_lt (Nat.add_le_add_left q _) h
theorem un1 {u a k b : Nat} (h : u + 8 * a < cLine) (q : k + 8 * b ≤ 8 * a) : u + k + 8 * b < cLine := by rw [Nat.add_assoc]; exact un0 h q
theorem un2 {u a k j b : Nat} (h : u + 8 * a < cLine) (q : k + (j + 8 * b) ≤ 8 * a) : u + k + j + 8 * b < cLine := by rw [Nat.add_assoc, Nat.add_assoc]; exact un0 h q
theorem un3 {u a k j : Nat} (h : u + 8 * a < cLine) (q : k + j ≤ 8 * a) : u + k + j < cLine := by rw [Nat.add_assoc]; exact un0 h q
/-- the tokens of a state, made a letter -/
theorem genT {α : Type} {M : Model} {A : Around} {t : Sem α} {Q : α → Shared → Prop} {E : Value → Shared → Prop} {h : Heap} {gs : Array GenState} {dr : Drawn} {os : OsState} {tk : Nat} (k : ∀ tk', wpAny M A t Q E ⟨h, gs, dr, tk', os⟩) : wpAny M A t Q E ⟨h, gs, dr, tk, os⟩ := k tk
/-- the place of a walk, named once -/
theorem genAE {M : Model} {A : Around} {ts : List Stmt} {env : Env} {Q : Flow → Shared → Prop} {E : Value → Shared → Prop} {s : Shared} (k : let A' := A; let env' := env; wpAny M A' (execs ts env') Q E s) : wpAny M A (execs ts env) Q E s := k
/-- a frame's contents, named once -/
theorem genM {h₀ h : Heap} {L : Addr} {m : Str → Option Value} {G : Prop} (F : Fr h₀ L h m) (k : let m' := m; Fr h₀ L h m' → G) : G := k F
/-- a store into a local, the new frame named -/
theorem storeX_LL {M : Model} {A : Around} {E : Value → Shared → Prop} {h₀ hp : Heap} {L a : Addr} {m : Str → Option Value} {cn : Str} {cs : Scope} {ccd : Value} {cl : List (Str × Addr)} {x : Str} {v : Value} {news : List (Addr × Obj)} {Q : Unit → Shared → Prop} {gs : Array GenState} {dr : Drawn} {tk : Nat} {os : OsState} (F : Fr h₀ L hp m) (N : News h₀ L hp news)
    (h : ∀ h' tk', let m' := (fun y => if y = x then some v else m y); Fr h₀ L h' m' → News h₀ L h' news → Q () ⟨h', gs, dr, tk', os⟩) (hk : cs.kind = .function) (hx : (envX cn cs L a ccd cl).kindOf x = some .local) : wpAny M A (storeName (envX cn cs L a ccd cl) x v) Q E ⟨hp, gs, dr, tk, os⟩ := storeX_L F N (fun h' F' N' => h h' _ F' N') hk hx
theorem const_strC {M : Model} {A : Around} {env : Env} {x : Str} {k : Nat} {pos : Pos} {Q E : Value → Shared → Prop} {h : Heap} {gs : Array GenState} {dr : Drawn} {os : OsState} {tk : Nat} (q : Q (.str x tk) ⟨h, gs, dr, tk + 1, os⟩) : wpAny M A (eval (.Constant (.str x) k pos) env) Q E ⟨h, gs, dr, tk, os⟩ := Constant_str q
theorem const_intC {M : Model} {A : Around} {env : Env} {x : Int} {k : Nat} {pos : Pos} {Q E : Value → Shared → Prop} {h : Heap} {gs : Array GenState} {dr : Drawn} {os : OsState} {tk : Nat} (q : Q (.int x tk) ⟨h, gs, dr, tk + 1, os⟩) : wpAny M A (eval (.Constant (.int x) k pos) env) Q E ⟨h, gs, dr, tk, os⟩ := wpAny_Constant_int q
section
variable {w : World} {D : Nat} {f : Addr} {vs : List Value} {kw : List (Str × Value)}
   {p : Program} {loose : List Str} {mean : ExcName → Option Value} {mg mb : Str → Option Value} {dp un : Nat} {gd : Option (List Code)} {cn : Str} {sn : List (Str × NameKind)} {sg sc : Bool} {sm : List (Str × Const)} {a : Addr} {ccd : Value} {cl : List (Str × Addr)} {outer : List Env}
    {A₀ : Around} {base h₀ : Heap} {L : Addr} {m : Str → Option Value} {news : List (Addr × Obj)} {hp : Heap} {gs : Array GenState} {dr : Drawn} {tk : Nat} {os : OsState} {Q E : Value → Shared → Prop}
/-- a contract at a call: the result is a value but for its token -/
theorem Ct.useX {V : Tok → Value} (C : Ct w D f vs kw (fun _ r _ => ∃ u, r = V u)) (h : ∀ u h' tk', Fr h₀ L h' m → News h₀ L h' news → Q (V u) ⟨h', gs, dr, tk', os⟩)
    (B : Below A₀ base outer h₀ := by k_asm) (F : Fr h₀ L hp m := by k_asm) (X : (Mine.hd.heap_1 w.params).In h₀ := by k_asm) (N : News h₀ L hp news := by k_asm) (T : Top p loose mean mg mb h₀ := by k_asm) (hd : dp + D < recursionLimit := by ktr_room) (hu : un + 8 * D < cLine := by ktr_units) :
    wpAny (model PySem.Challenge.rw_ik0089_01.prog w) (ktrTop dp un gd cn ⟨.function, sn, sg, sc, sm⟩ L a ccd cl outer) (call (.ref f) vs kw) Q E ⟨hp, gs, dr, tk, os⟩ :=
  Ct.use C B F X N T hd hu fun r h' tk' hp9 _ _ _ F' N' => by
    obtain ⟨u, rfl⟩ := hp9
    exact h u h' tk' F' N'
/-- the result is a value -/
theorem Ct.useE {V : Value} (C : Ct w D f vs kw (fun _ r _ => r = V)) (h : ∀ (u : Tok) h' tk', Fr h₀ L h' m → News h₀ L h' news → Q V ⟨h', gs, dr, tk', os⟩)
    (B : Below A₀ base outer h₀ := by k_asm) (F : Fr h₀ L hp m := by k_asm) (X : (Mine.hd.heap_1 w.params).In h₀ := by k_asm) (N : News h₀ L hp news := by k_asm) (T : Top p loose mean mg mb h₀ := by k_asm) (hd : dp + D < recursionLimit := by ktr_room) (hu : un + 8 * D < cLine := by ktr_units) :
    wpAny (model PySem.Challenge.rw_ik0089_01.prog w) (ktrTop dp un gd cn ⟨.function, sn, sg, sc, sm⟩ L a ccd cl outer) (call (.ref f) vs kw) Q E ⟨hp, gs, dr, tk, os⟩ :=
  Ct.use C B F X N T hd hu fun r h' tk' hp9 _ _ _ F' N' => by
    subst hp9
    exact h 0 h' tk' F' N'
/-- the result is a new list -/
theorem Ct.useL {P : Array Value → Prop} (C : Ct w D f vs kw (fun g r h' => ∃ l its c, r = .ref l ∧ Made g l (W.listOf its c) h' ∧ P its)) (h : ∀ l its c h' tk', P its → AllNe l news → Fr h₀ L h' m → News h₀ L h' ((l, W.listOf its c) :: news) → Q (.ref l) ⟨h', gs, dr, tk', os⟩)
    (B : Below A₀ base outer h₀ := by k_asm) (F : Fr h₀ L hp m := by k_asm) (X : (Mine.hd.heap_1 w.params).In h₀ := by k_asm) (N : News h₀ L hp news := by k_asm) (T : Top p loose mean mg mb h₀ := by k_asm) (hd : dp + D < recursionLimit := by ktr_room) (hu : un + 8 * D < cLine := by ktr_units) :
    wpAny (model PySem.Challenge.rw_ik0089_01.prog w) (ktrTop dp un gd cn ⟨.function, sn, sg, sc, sm⟩ L a ccd cl outer) (call (.ref f) vs kw) Q E ⟨hp, gs, dr, tk, os⟩ :=
  Ct.use C B F X N T hd hu fun r h' tk' hp9 _ mk ne F' N' => by
    obtain ⟨l, its, c, rfl, hm, hP⟩ := hp9
    exact h l its c h' tk' hP (allNe_of (ne hm.2)) F' (mk hm.1 hm.2)
end
end Mine
end
open PySem PySem.W PyProof.Rows PySem.Spec PySem.Calls Mine
local macro_rules | `(tactic| walk_at "call builtin:issubclass") => `(tactic| (k_dflt (refine issub_K (by k_asm) (by k_mem) ?_; k_whole; intros)))
local macro_rules | `(tactic| k_room) => `(tactic| ktr_room)
local macro_rules | `(tactic| k_units) => `(tactic| ktr_units)
local macro_rules | `(tactic| walk_at "LeaveQ") => `(tactic| (k_dflt (refine leaveQ_ (by k_asm) (by k_asm) ?_; k_whole); intros; (try dsimp only)))
local macro_rules | `(tactic| walk_at "exec Try") => `(tactic| (refine try_quiet ?_))
local macro_rules | `(tactic| walk_at "call builtin:list.pop") => `(tactic| ((with_reducible show wpAny _ _ (call (Value.builtin _) [Value.ref _]) _ _ _); k_dflt (refine pop_L (by k_asm) (by k_asm) (by k_asm) (by omega) (by k_upd) ?_; k_whole); intros; (try k_sweep)))
local macro_rules | `(tactic| walk_at "subscriptTail Name UnaryOp ref int") => `(tactic| (k_dflt (refine item_lastL (by k_asm) (by k_mem) (by k_asm) (by k_asm) (by with_unfolding_all rfl) ?_; k_whole; intros)))
local macro_rules | `(tactic| walk_at "truthy ref") => `(tactic| ((with_reducible show wpAny _ _ (truthy (Value.ref _)) _ _ _); k_dflt (refine truthy_L (by k_asm) (by k_mem) (by omega) ?_; k_whole)))
local macro_rules | `(tactic| walk_at "call builtin:str.join") => `(tactic| (k_dflt (refine join_L (by k_asm) (by k_mem) (by k_asm) (by decide +kernel) (by omega) ?_; k_whole); intros))
local macro_rules | `(tactic| walk_at "truthy ref") => `(tactic| ((with_reducible show wpAny _ _ (truthy (Value.ref _)) _ _ _); k_dflt (refine dq_truthyN (by k_asm) (by k_mem) ?_; k_whole)))
local macro_rules | `(tactic| walk_at "execs cons") => `(tactic| (k_dflt ((try dsimp only); refine genT ?_; intros); (with_reducible refine wpAny_execs_cons ?_); (try k_dflt k_fold)))
local macro_rules | `(tactic| lsm_bools) => `(tactic| with_reducible first | assumption | exact And.left (by with_reducible assumption) | exact And.right (by with_reducible assumption) | exact pk2 (by with_reducible assumption) | exact pl3 (by with_reducible assumption) | exact pk3 (by with_reducible assumption) | exact pl4 (by with_reducible assumption) | exact pk4 (by with_reducible assumption) | exact pl5 (by with_reducible assumption) | exact pk5 (by with_reducible assumption) | exact pl6 (by with_reducible assumption) | exact pk6 (by with_reducible assumption) | exact pl7 (by with_reducible assumption) | exact pk7 (by with_reducible assumption) | exact pl8 (by with_reducible assumption) | exact pk8 (by with_reducible assumption) | exact pl9 (by with_reducible assumption) | exact pk9 (by with_reducible assumption) | exact pl10 (by with_reducible assumption))
local macro_rules | `(tactic| k_ne) => `(tactic| (refine neN ?_; (try dsimp only); first | lsm_bools | (refine Ne.symm ?_; lsm_bools) | (refine Nat.ne_of_lt ?_; lsm_bools) | (refine Nat.ne_of_gt ?_; lsm_bools)))
local macro_rules | `(tactic| walk_at "eval Constant str") => `(tactic| with_reducible refine const_strC ?_)
local macro_rules | `(tactic| walk_at "eval Constant int") => `(tactic| with_reducible refine const_intC ?_)
local macro_rules | `(tactic| ktr_room) => `(tactic| k_dflt (first | exact rm1 (by assumption) (by decide) | exact rm2 (by assumption) (by decide) | exact rm0 (by assumption) | decide))
local macro_rules | `(tactic| ktr_units) => `(tactic| k_dflt (first | exact un1 (by assumption) (by decide) | exact un2 (by assumption) (by decide) | exact un3 (by assumption) (by decide) | exact un0 (by assumption) (by decide) | decide))
local macro_rules | `(tactic| walk_at "storeName") => `(tactic| first | ktx_write | (k_dflt (refine storeX_LL (by k_asm) (by k_asm) ?_ (by rfl) (by rfl); k_whole); intros; (try k_sweep)))
section
namespace Mine
theorem ct_fspath {w : World} (x : Str) (t : Tok) : Ct w 2 117 [.str x t] [] (fun _ r _ => r = .str x t) := by
  unfold Ct
  k_fill
  intros
  (refine wpAny_call ?_; k_dflt (first
  | (refine' code_defQ ?k1 ?k2 ?k3 ?k5 ?kA ?kF ?kK ?k6 ?k7 ?k8 ?k9 ?kB ?_ ?c2 ?c3 ?c4 ?c5; (case kA => exact rfl); (case kF => exact rfl); (case kK => exact rfl); (case k1 => k_asm); (case k2 => k_asm); (case k3 => k_asm); (case k5 => k_asm); (case k6 => k_is); (case k7 => k_is); (case k8 => k_room); (case k9 => (first | exact BindsTo.of_eq rfl | exact binds_K (by k_in) rfl (by k_is) rfl rfl rfl | (refine' kp_binds ?kx ?ke; (case kx => k_in); (case ke => exact fun _ => rfl)))); (case c5 => decide); (case kB => exact locs rfl); (case c2 => exact rfl); (case c3 => exact rfl); (case c4 => exact rfl); k_whole; intro g' L' h' kp' kn' F' N' B' X' T'; (try dsimp only); (try k_fold); refine genM F' ?_; clear F'; intro m9 F')
  | (refine' code_defCQ ?k1 ?k2 ?k3 ?k5 ?kA ?kF ?kK ?k6 ?k7 ?k8 ?k9 ?kB ?kD ?_ ?c2 ?c3 ?c4; (case kA => exact rfl); (case kF => exact rfl); (case kK => exact rfl); (case k1 => k_asm); (case k2 => k_asm); (case k3 => k_asm); (case k5 => k_asm); (case k6 => k_is); (case k7 => k_is); (case k8 => k_room); (case k9 => (first | exact BindsTo.of_eq rfl | exact binds_K (by k_in) rfl (by k_is) rfl rfl rfl | (refine' kp_binds ?kx ?ke; (case kx => k_in); (case ke => exact fun _ => rfl)))); (case kB => exact rfl); (case kD => decide +kernel); (case c2 => exact rfl); (case c3 => exact rfl); (case c4 => exact rfl); k_whole; intro g' L' h' tk' cells' kp' kn' F' N' Y' B' X' T'; k_cells Y'; (try simp only [List.cons_append, List.nil_append] at N'); (try dsimp only); (try k_fold); refine genM F' ?_; clear F'; intro m9 F')
  | (refine' kp_restQ ?k1 ?k2 ?k3 ?k5 ?kA ?kF ?kK ?k6 ?k7 ?k8 ?kV ?kP ?kG ?kB ?_ ?c2 ?c3 ?c4 ?c5; (case kA => exact rfl); (case kF => exact rfl); (case kK => exact rfl); (case k1 => k_asm); (case k2 => k_asm); (case k3 => k_asm); (case k5 => k_asm); (case k6 => k_is); (case k7 => k_is); (case k8 => k_room); (case kV => first | kl_lit | exact rfl); (case kP => exact rfl); (case kG => exact fun _ => rfl); (case kB => exact fun _ => locs rfl); (case c5 => decide); (case c2 => exact rfl); (case c3 => exact rfl); (case c4 => exact rfl); k_whole; intro D' g' L' h' kp' l1 l2 F' N' B' X' T'; (try dsimp only); (try k_fold); refine genM F' ?_; clear F'; intro m9 F')))
  k_steps
  all_goals (refine' Ret.go (by assumption) ?e1 ?e2 ?e3; (case e1 => assumption); (case e2 => assumption); (case e3 => first | rfl | exact ⟨_, rfl⟩))
theorem ct_sep {w : World} (x : Str) (t : Tok) : Ct w 2 131 [.str x t] [] (fun _ r _ => ∃ u, r = .str (Str.ofString "/") u) := by
  unfold Ct
  k_fill
  intros
  (refine wpAny_call ?_; k_dflt (first
  | (refine' code_defQ ?k1 ?k2 ?k3 ?k5 ?kA ?kF ?kK ?k6 ?k7 ?k8 ?k9 ?kB ?_ ?c2 ?c3 ?c4 ?c5; (case kA => exact rfl); (case kF => exact rfl); (case kK => exact rfl); (case k1 => k_asm); (case k2 => k_asm); (case k3 => k_asm); (case k5 => k_asm); (case k6 => k_is); (case k7 => k_is); (case k8 => k_room); (case k9 => (first | exact BindsTo.of_eq rfl | exact binds_K (by k_in) rfl (by k_is) rfl rfl rfl | (refine' kp_binds ?kx ?ke; (case kx => k_in); (case ke => exact fun _ => rfl)))); (case c5 => decide); (case kB => exact locs rfl); (case c2 => exact rfl); (case c3 => exact rfl); (case c4 => exact rfl); k_whole; intro g' L' h' kp' kn' F' N' B' X' T'; (try dsimp only); (try k_fold); refine genM F' ?_; clear F'; intro m9 F')
  | (refine' code_defCQ ?k1 ?k2 ?k3 ?k5 ?kA ?kF ?kK ?k6 ?k7 ?k8 ?k9 ?kB ?kD ?_ ?c2 ?c3 ?c4; (case kA => exact rfl); (case kF => exact rfl); (case kK => exact rfl); (case k1 => k_asm); (case k2 => k_asm); (case k3 => k_asm); (case k5 => k_asm); (case k6 => k_is); (case k7 => k_is); (case k8 => k_room); (case k9 => (first | exact BindsTo.of_eq rfl | exact binds_K (by k_in) rfl (by k_is) rfl rfl rfl | (refine' kp_binds ?kx ?ke; (case kx => k_in); (case ke => exact fun _ => rfl)))); (case kB => exact rfl); (case kD => decide +kernel); (case c2 => exact rfl); (case c3 => exact rfl); (case c4 => exact rfl); k_whole; intro g' L' h' tk' cells' kp' kn' F' N' Y' B' X' T'; k_cells Y'; (try simp only [List.cons_append, List.nil_append] at N'); (try dsimp only); (try k_fold); refine genM F' ?_; clear F'; intro m9 F')
  | (refine' kp_restQ ?k1 ?k2 ?k3 ?k5 ?kA ?kF ?kK ?k6 ?k7 ?k8 ?kV ?kP ?kG ?kB ?_ ?c2 ?c3 ?c4 ?c5; (case kA => exact rfl); (case kF => exact rfl); (case kK => exact rfl); (case k1 => k_asm); (case k2 => k_asm); (case k3 => k_asm); (case k5 => k_asm); (case k6 => k_is); (case k7 => k_is); (case k8 => k_room); (case kV => first | kl_lit | exact rfl); (case kP => exact rfl); (case kG => exact fun _ => rfl); (case kB => exact fun _ => locs rfl); (case c5 => decide); (case c2 => exact rfl); (case c3 => exact rfl); (case c4 => exact rfl); k_whole; intro D' g' L' h' kp' l1 l2 F' N' B' X' T'; (try dsimp only); (try k_fold); refine genM F' ?_; clear F'; intro m9 F')))
  k_steps
  all_goals (refine' Ret.go (by assumption) ?e1 ?e2 ?e3; (case e1 => assumption); (case e2 => assumption); (case e3 => first | rfl | exact ⟨_, rfl⟩))

end Mine
end
local macro_rules | `(tactic| walk_at "call ref") => `(tactic| (k_dflt (first | refine Ct.useE (ct_fspath _ _) ?_ | refine Ct.useX (ct_sep _ _) ?_); intros; (try k_fold)))
section
namespace Mine
theorem ct_basename {w : World} (x : Str) (t : Tok) (hx : x.length ≤ 65536) : Ct w 4 152 [.str x t] [] (fun _ r _ => ∃ u, r = .str (Txt.slice x (some (Txt.rfind x (Str.ofString "/") + 1)) none) u) := by
  unfold Ct
  k_fill
  intros
  (refine wpAny_call ?_; k_dflt (first
  | (refine' code_defQ ?k1 ?k2 ?k3 ?k5 ?kA ?kF ?kK ?k6 ?k7 ?k8 ?k9 ?kB ?_ ?c2 ?c3 ?c4 ?c5; (case kA => exact rfl); (case kF => exact rfl); (case kK => exact rfl); (case k1 => k_asm); (case k2 => k_asm); (case k3 => k_asm); (case k5 => k_asm); (case k6 => k_is); (case k7 => k_is); (case k8 => k_room); (case k9 => (first | exact BindsTo.of_eq rfl | exact binds_K (by k_in) rfl (by k_is) rfl rfl rfl | (refine' kp_binds ?kx ?ke; (case kx => k_in); (case ke => exact fun _ => rfl)))); (case c5 => decide); (case kB => exact locs rfl); (case c2 => exact rfl); (case c3 => exact rfl); (case c4 => exact rfl); k_whole; intro g' L' h' kp' kn' F' N' B' X' T'; (try dsimp only); (try k_fold); refine genM F' ?_; clear F'; intro m9 F')
  | (refine' code_defCQ ?k1 ?k2 ?k3 ?k5 ?kA ?kF ?kK ?k6 ?k7 ?k8 ?k9 ?kB ?kD ?_ ?c2 ?c3 ?c4; (case kA => exact rfl); (case kF => exact rfl); (case kK => exact rfl); (case k1 => k_asm); (case k2 => k_asm); (case k3 => k_asm); (case k5 => k_asm); (case k6 => k_is); (case k7 => k_is); (case k8 => k_room); (case k9 => (first | exact BindsTo.of_eq rfl | exact binds_K (by k_in) rfl (by k_is) rfl rfl rfl | (refine' kp_binds ?kx ?ke; (case kx => k_in); (case ke => exact fun _ => rfl)))); (case kB => exact rfl); (case kD => decide +kernel); (case c2 => exact rfl); (case c3 => exact rfl); (case c4 => exact rfl); k_whole; intro g' L' h' tk' cells' kp' kn' F' N' Y' B' X' T'; k_cells Y'; (try simp only [List.cons_append, List.nil_append] at N'); (try dsimp only); (try k_fold); refine genM F' ?_; clear F'; intro m9 F')
  | (refine' kp_restQ ?k1 ?k2 ?k3 ?k5 ?kA ?kF ?kK ?k6 ?k7 ?k8 ?kV ?kP ?kG ?kB ?_ ?c2 ?c3 ?c4 ?c5; (case kA => exact rfl); (case kF => exact rfl); (case kK => exact rfl); (case k1 => k_asm); (case k2 => k_asm); (case k3 => k_asm); (case k5 => k_asm); (case k6 => k_is); (case k7 => k_is); (case k8 => k_room); (case kV => first | kl_lit | exact rfl); (case kP => exact rfl); (case kG => exact fun _ => rfl); (case kB => exact fun _ => locs rfl); (case c5 => decide); (case c2 => exact rfl); (case c3 => exact rfl); (case c4 => exact rfl); k_whole; intro D' g' L' h' kp' l1 l2 F' N' B' X' T'; (try dsimp only); (try k_fold); refine genM F' ?_; clear F'; intro m9 F')))
  k_steps
  all_goals (refine' Ret.go (by assumption) ?e1 ?e2 ?e3; (case e1 => assumption); (case e2 => assumption); (case e3 => first | rfl | exact ⟨_, rfl⟩))

end Mine
end
section
namespace Mine
noncomputable def sl1 : Str := Str.ofString "/"
noncomputable def rootOf (x : Str) : Str := if (Txt.slice x none (some 1) != Str.ofString "/") = true then Str.ofString "" else if (Txt.slice x (some 1) (some 2) != Str.ofString "/") = true ∨ (Txt.slice x (some 2) (some 3) == Str.ofString "/") = true then Str.ofString "/" else Txt.slice x none (some 2)
noncomputable def restOf (x : Str) : Str := if (Txt.slice x none (some 1) != Str.ofString "/") = true then x else if (Txt.slice x (some 1) (some 2) != Str.ofString "/") = true ∨ (Txt.slice x (some 2) (some 3) == Str.ofString "/") = true then Txt.slice x (some 1) none else Txt.slice x (some 2) none
theorem root_1 {x : Str} (h : (Txt.slice x none (some 1) != Str.ofString "/") = true) : rootOf x = Str.ofString "" ∧ restOf x = x := by unfold rootOf restOf; rw [if_pos h, if_pos h]; exact ⟨rfl, rfl⟩
theorem root_2 {x : Str} (h : (Txt.slice x none (some 1) != Str.ofString "/") = false) (h2 : (Txt.slice x (some 1) (some 2) != Str.ofString "/") = true) : rootOf x = Str.ofString "/" ∧ restOf x = Txt.slice x (some 1) none := by
  unfold rootOf restOf; rw [if_neg (by rw [h]; exact Bool.false_ne_true), if_pos (.inl h2), if_neg (by rw [h]; exact Bool.false_ne_true), if_pos (.inl h2)]; exact ⟨rfl, rfl⟩
theorem root_3 {x : Str} (h : (Txt.slice x none (some 1) != Str.ofString "/") = false) (h2 : (Txt.slice x (some 2) (some 3) == Str.ofString "/") = true) : rootOf x = Str.ofString "/" ∧ restOf x = Txt.slice x (some 1) none := by
  unfold rootOf restOf; rw [if_neg (by rw [h]; exact Bool.false_ne_true), if_pos (.inr h2), if_neg (by rw [h]; exact Bool.false_ne_true), if_pos (.inr h2)]; exact ⟨rfl, rfl⟩
theorem root_4 {x : Str} (h : (Txt.slice x none (some 1) != Str.ofString "/") = false) (h2 : (Txt.slice x (some 1) (some 2) != Str.ofString "/") = false) (h3 : (Txt.slice x (some 2) (some 3) == Str.ofString "/") = false) : rootOf x = Txt.slice x none (some 2) ∧ restOf x = Txt.slice x (some 2) none := by
  have n : ¬ ((Txt.slice x (some 1) (some 2) != Str.ofString "/") = true ∨ (Txt.slice x (some 2) (some 3) == Str.ofString "/") = true) := by rw [h2, h3]; simp
  unfold rootOf restOf; rw [if_neg (by rw [h]; exact Bool.false_ne_true), if_neg n, if_neg (by rw [h]; exact Bool.false_ne_true), if_neg n]; exact ⟨rfl, rfl⟩
noncomputable def Tup3 (a b c : Str) (g : Heap) (r : Value) (h' : Heap) : Prop := ∃ l n t1 t2 t3, r = .ref l ∧ Made g l { cls := .type "tuple", data := .seq #[.str a t1, .str b t2, .str c t3] n } h'
theorem tup3_of {a b c a' b' c' : Str} {g : Heap} {r : Value} {h' : Heap} (h : Tup3 a b c g r h') (e1 : a' = a) (e2 : b' = b) (e3 : c' = c) : Tup3 a' b' c' g r h' := by rw [e1, e2, e3]; exact h
theorem ct_splitroot {w : World} (x : Str) (t : Tok) (hx : x.length ≤ 200000) : Ct w 4 145 [.str x t] [] (Tup3 (Str.ofString "") (rootOf x) (restOf x)) := by
  unfold Ct
  k_fill
  intros
  (refine wpAny_call ?_; k_dflt (first
  | (refine' code_defQ ?k1 ?k2 ?k3 ?k5 ?kA ?kF ?kK ?k6 ?k7 ?k8 ?k9 ?kB ?_ ?c2 ?c3 ?c4 ?c5; (case kA => exact rfl); (case kF => exact rfl); (case kK => exact rfl); (case k1 => k_asm); (case k2 => k_asm); (case k3 => k_asm); (case k5 => k_asm); (case k6 => k_is); (case k7 => k_is); (case k8 => k_room); (case k9 => (first | exact BindsTo.of_eq rfl | exact binds_K (by k_in) rfl (by k_is) rfl rfl rfl | (refine' kp_binds ?kx ?ke; (case kx => k_in); (case ke => exact fun _ => rfl)))); (case c5 => decide); (case kB => exact locs rfl); (case c2 => exact rfl); (case c3 => exact rfl); (case c4 => exact rfl); k_whole; intro g' L' h' kp' kn' F' N' B' X' T'; (try dsimp only); (try k_fold); refine genM F' ?_; clear F'; intro m9 F')
  | (refine' code_defCQ ?k1 ?k2 ?k3 ?k5 ?kA ?kF ?kK ?k6 ?k7 ?k8 ?k9 ?kB ?kD ?_ ?c2 ?c3 ?c4; (case kA => exact rfl); (case kF => exact rfl); (case kK => exact rfl); (case k1 => k_asm); (case k2 => k_asm); (case k3 => k_asm); (case k5 => k_asm); (case k6 => k_is); (case k7 => k_is); (case k8 => k_room); (case k9 => (first | exact BindsTo.of_eq rfl | exact binds_K (by k_in) rfl (by k_is) rfl rfl rfl | (refine' kp_binds ?kx ?ke; (case kx => k_in); (case ke => exact fun _ => rfl)))); (case kB => exact rfl); (case kD => decide +kernel); (case c2 => exact rfl); (case c3 => exact rfl); (case c4 => exact rfl); k_whole; intro g' L' h' tk' cells' kp' kn' F' N' Y' B' X' T'; k_cells Y'; (try simp only [List.cons_append, List.nil_append] at N'); (try dsimp only); (try k_fold); refine genM F' ?_; clear F'; intro m9 F')
  | (refine' kp_restQ ?k1 ?k2 ?k3 ?k5 ?kA ?kF ?kK ?k6 ?k7 ?k8 ?kV ?kP ?kG ?kB ?_ ?c2 ?c3 ?c4 ?c5; (case kA => exact rfl); (case kF => exact rfl); (case kK => exact rfl); (case k1 => k_asm); (case k2 => k_asm); (case k3 => k_asm); (case k5 => k_asm); (case k6 => k_is); (case k7 => k_is); (case k8 => k_room); (case kV => first | kl_lit | exact rfl); (case kP => exact rfl); (case kG => exact fun _ => rfl); (case kB => exact fun _ => locs rfl); (case c5 => decide); (case c2 => exact rfl); (case c3 => exact rfl); (case c4 => exact rfl); k_whole; intro D' g' L' h' kp' l1 l2 F' N' B' X' T'; (try dsimp only); (try k_fold); refine genM F' ?_; clear F'; intro m9 F')))
  k_steps
  all_goals first | (have e := root_1 (x := x) (by assumption)) | (have e := root_2 (x := x) (by assumption) (by assumption)) | (have e := root_3 (x := x) (by assumption) (by assumption)) | (have e := root_4 (x := x) (by assumption) (by assumption) (by assumption))
  all_goals (refine' Ret.go (by assumption) ?e1 ?e2 ?e3; (case e1 => assumption); (case e2 => assumption); (case e3 => exact tup3_of ⟨_, _, _, _, _, rfl, Made.of (by assumption) (AllMade.at (by assumption) (by k_mem))⟩ rfl e.1 e.2))
theorem splitroot_use {w : World} {x : Str} {t : Tok} {p : Program} {loose : List Str} {mean : ExcName → Option Value} {mg mb : Str → Option Value} {dp un : Nat} {gd : Option (List Code)} {cn : Str} {sn : List (Str × NameKind)} {sg sc : Bool} {sm : List (Str × Const)} {a : Addr} {ccd : Value} {cl : List (Str × Addr)} {outer : List Env}
    {A₀ : Around} {base h₀ : Heap} {L : Addr} {m : Str → Option Value} {news : List (Addr × Obj)} {hp : Heap} {gs : Array GenState} {dr : Drawn} {tk : Nat} {os : OsState} {Q E : Value → Shared → Prop} (hx : x.length ≤ 200000)
    (h : ∀ l n t1 t2 t3 h' tk', AllNe l news → Fr h₀ L h' m → News h₀ L h' ((l, { cls := .type "tuple", data := .seq #[.str (Str.ofString "") t1, .str (rootOf x) t2, .str (restOf x) t3] n }) :: news) → Q (.ref l) ⟨h', gs, dr, tk', os⟩)
    (B : Below A₀ base outer h₀ := by k_asm) (F : Fr h₀ L hp m := by k_asm) (X : (Mine.hd.heap_1 w.params).In h₀ := by k_asm) (N : News h₀ L hp news := by k_asm) (T : Top p loose mean mg mb h₀ := by k_asm) (hd : dp + 4 < recursionLimit := by ktr_room) (hu : un + 8 * 4 < cLine := by ktr_units) :
    wpAny (model PySem.Challenge.rw_ik0089_01.prog w) (ktrTop dp un gd cn ⟨.function, sn, sg, sc, sm⟩ L a ccd cl outer) (call (.ref 145) [.str x t] []) Q E ⟨hp, gs, dr, tk, os⟩ :=
  Ct.use (ct_splitroot x t hx) B F X N T hd hu fun r h' tk' hp9 _ mk ne F' N' => by
    obtain ⟨l, n, t1, t2, t3, rfl, hm⟩ := hp9
    exact h l n t1 t2 t3 h' tk' (allNe_of (ne hm.2)) F' (mk hm.1 hm.2)

end Mine
end
section
namespace Mine
local macro_rules | `(tactic| walk_at "exec For Name Name cons nil") => `(tactic| ((rename Fr _ _ _ _ => lF'); (with_unfolding_all refine For_invVF lF' (by exact rfl) (by exact rfl) ?_; k_whole)))
local macro_rules | `(tactic| walk_at "pyIter ref") => `(tactic| (refine Halt.go ?_))
-- the loop's turns, alike for every number of parts
local macro_rules | `(tactic| kwd_less) => `(tactic| (
  (rename Fr _ _ _ _ => F2); (rename News _ _ _ _ => N2);
  (refine' turn_end (_, _) F2 N2 ?hI ?sub ?off ?hk ?hp);
  (case hk => kst_all); (case hI => k_mem); (case sub => kst_in); (case off => exact List.forall_mem_cons.mpr ⟨Or.inl (by first | assumption | omega), List.forall_mem_nil _⟩)))
theorem ct_joinL {w : World} (x : Str) (t : Tok) (vs : List Value) (ps : List Str) (hS0 : StrVals vs ps) (hl0 : vs.length ≤ 3) (hb0 : x.length + (ps.map fun y => y.length + 1).sum ≤ 200000) : Ct w 4 138 (.str x t :: vs) [] (fun _ r _ => ∃ u, r = .str (joinAll x ps) u) := by
  unfold Ct
  k_fill
  intros
  refine wpAny_call ?_
  refine' kp_restQ (vs := vs) (g₁ := fun D => some [(Str.ofString "a", .str x t), (Str.ofString "p", .ref D)]) (binds := fun D => [(Str.ofString "a", .str x t), (Str.ofString "p", .ref D)]) ?k1 ?k2 ?k3 ?k5 ?kA ?kF ?kK ?k6 ?k7 ?k8 ?kV ?kP ?kG ?kB ?_ ?c2 ?c3 ?c4 ?c5
  case kA => exact rfl
  case kF => exact rfl
  case kK => exact rfl
  case k1 => k_asm
  case k2 => k_asm
  case k3 => k_asm
  case k5 => k_asm
  case k6 => k_is
  case k7 => k_is
  case k8 => k_room
  case kV => exact rfl
  case kP =>
    match vs, hl0 with
    | [], _ => exact rfl
    | [_], _ => exact rfl
    | [_, _], _ => exact rfl
    | [_, _, _], _ => exact rfl
    | _ :: _ :: _ :: _ :: r, h9 => exact absurd h9 (by simp only [List.length_cons]; omega)
  case kG => exact fun _ => rfl
  case kB => exact fun _ => locs rfl
  case c5 => decide
  case c2 => exact rfl
  case c3 => exact rfl
  case c4 => exact rfl
  k_whole
  intro D' g' L' h' kp' l1 l2 F' N' B' X' T'
  (try dsimp only)
  (try k_fold)
  refine genM F' ?_
  clear F'
  intro m9 F'
  k_steps
  rename Fr _ _ _ _ => F1
  rename News _ _ _ _ => N1
  unfold Halt
  with_unfolding_all refine tup_loop (σ := Str × Tok) (fun _ => _) (fun c => [("path", .str c.1 c.2), ("sep", .str (Str.ofString "/") _)]) (fun vs c => ∃ ys, StrVals vs ys ∧ c.1.length + (ys.map fun y => y.length + 1).sum ≤ 200000 ∧ joinAll c.1 ys = joinAll x ps) (x, t) (by rfl) F1 N1 (fun _ => by k_mem) (by rfl) (by rfl) (by kst_all) ⟨ps, hS0, hb0, rfl⟩ ?_ ?_
  · clear F1 N1
    rintro v r ⟨c1, c2⟩ u' it I h tk hit hI ⟨ys, hS, hlen, hJ⟩ F N
    cases hS with
    | cons z tz hS' =>
      rename_i zs
      dsimp only at F N hlen hJ
      simp only [List.map_cons, List.sum_cons] at hlen
      have hjl := joinL_len c1 z
      k_lt hI
      k_steps
      all_goals kwd_less
      all_goals (first | (have e := joinL_1 (x := c1) (y := z) (by assumption)) | (have e := joinL_2 (x := c1) (y := z) (by assumption)) | (have e := joinL_3 (x := c1) (y := z) (by assumption) (by assumption) (by assumption)) | (have e := joinL_4 (x := c1) (y := z) (by assumption) (by assumption) (by assumption)))
      all_goals (rw [joinAll, e] at hJ; rw [e] at hjl; exact ⟨zs, hS', by (try dsimp only); omega, hJ⟩)
  · intro c u' h tk hP F N
    clear F1 N1
    obtain ⟨c1, c2⟩ := c
    obtain ⟨ys, hS, hlen, hJ⟩ := hP
    cases hS
    dsimp only at F N hlen hJ
    obtain rfl : c1 = _ := hJ
    k_steps
    all_goals (refine' Ret.go (by assumption) ?e1 ?e2 ?e3; (case e1 => assumption); (case e2 => assumption); (case e3 => first | rfl | exact ⟨_, rfl⟩))
theorem ct_join1 {w : World} (x y : Str) (t u : Tok) (hx : x.length ≤ 65536) (hy : y.length ≤ 65536) : Ct w 4 138 [.str x t, .str y u] [] (fun _ r _ => ∃ u, r = .str (joinAll x [y]) u) := ct_joinL x t _ [y] (.cons _ _ .nil) (Nat.le_of_ble_eq_true rfl) (by simp; omega)
theorem ct_join2 {w : World} (x y1 y2 : Str) (t u1 u2 : Tok) (hx : x.length ≤ 65536) (hy1 : y1.length ≤ 8192) (hy2 : y2.length ≤ 8192) : Ct w 4 138 [.str x t, .str y1 u1, .str y2 u2] [] (fun _ r _ => ∃ u, r = .str (joinAll x [y1, y2]) u) := ct_joinL x t _ [y1, y2] (.cons _ _ (.cons _ _ .nil)) (Nat.le_of_ble_eq_true rfl) (by simp; omega)
theorem ct_join3 {w : World} (x y1 y2 y3 : Str) (t u1 u2 u3 : Tok) (hx : x.length ≤ 65536) (hy1 : y1.length ≤ 8192) (hy2 : y2.length ≤ 8192) (hy3 : y3.length ≤ 8192) : Ct w 4 138 [.str x t, .str y1 u1, .str y2 u2, .str y3 u3] [] (fun _ r _ => ∃ u, r = .str (joinAll x [y1, y2, y3]) u) := ct_joinL x t _ [y1, y2, y3] (.cons _ _ (.cons _ _ (.cons _ _ .nil))) (Nat.le_of_ble_eq_true rfl) (by simp; omega)

local macro_rules | `(tactic| walk_at "call ref") => `(tactic| (k_dflt (refine splitroot_use (by l_fit) ?_); intro l9 n9 t91 t92 t93 h9 tk9 hm9 F9 N9; (try simp only [AllNe, and_true] at hm9); (try k_fold)))
noncomputable def npStep (k : Nat) (acc : List Str) (y : Str) : List Str :=
  if y.length = 0 ∨ (y == Str.ofString ".") = true then acc
  else if (y != Str.ofString "..") = true ∨ (k = 0 ∧ acc.length = 0) ∨ (acc.length ≠ 0 ∧ (acc.getLastD Str.empty == Str.ofString "..") = true) then acc ++ [y] else acc.dropLast
section
variable {k : Nat} {c : List Str} {z : Str} {a : Array Value}
theorem np_1 (h : ((z.length : Nat) : Int) = 0) : npStep k c z = c := by unfold npStep; rw [if_pos (.inl (by omega))]
theorem np_2 (h : (z == Str.ofString ".") = true) : npStep k c z = c := by unfold npStep; rw [if_pos (.inr h)]
theorem np_aux (h0 : ((z.length : Nat) : Int) ≠ 0) (h1 : (z == Str.ofString ".") = false) : ¬ (z.length = 0 ∨ (z == Str.ofString ".") = true) := by
  rw [h1]; intro q; rcases q with q | q
  · omega
  · cases q
theorem np_emp (hT : StrsAre a.toList c) : (a.isEmpty = true ↔ c.length = 0) := by
  have := hT.length
  rw [Array.length_toList] at this
  rw [Array.isEmpty_iff_size_eq_zero]; omega
theorem np_3 (h0 : ((z.length : Nat) : Int) ≠ 0) (h1 : (z == Str.ofString ".") = false) (h2 : (z != Str.ofString "..") = true) : npStep k c z = c ++ [z] := by
  unfold npStep; rw [if_neg (np_aux h0 h1), if_pos (.inl h2)]
theorem np_4 (h0 : ((z.length : Nat) : Int) ≠ 0) (h1 : (z == Str.ofString ".") = false) (h3 : ((k : Nat) : Int) = 0) (h4 : a.isEmpty = true) (hT : StrsAre a.toList c) : npStep k c z = c ++ [z] := by
  unfold npStep; rw [if_neg (np_aux h0 h1), if_pos (.inr (.inl ⟨by omega, (np_emp hT).mp h4⟩))]
theorem np_ne (h4 : a.isEmpty = false) (hT : StrsAre a.toList c) : c.length ≠ 0 := fun e => by rw [(np_emp hT).mpr e] at h4; cases h4
theorem np_5 (h0 : ((z.length : Nat) : Int) ≠ 0) (h1 : (z == Str.ofString ".") = false) (h4 : a.isEmpty = false) (hT : StrsAre a.toList c) (h5 : (c.getLastD Str.empty == Str.ofString "..") = true) : npStep k c z = c ++ [z] := by
  unfold npStep; rw [if_neg (np_aux h0 h1), if_pos (.inr (.inr ⟨np_ne h4 hT, h5⟩))]
theorem np_6 (h0 : ((z.length : Nat) : Int) ≠ 0) (h1 : (z == Str.ofString ".") = false) (h2 : (z != Str.ofString "..") = false) (h4 : a.isEmpty = false) (hT : StrsAre a.toList c) (h5 : (c.getLastD Str.empty == Str.ofString "..") = false) : npStep k c z = c.dropLast := by
  have n := np_ne h4 hT
  unfold npStep; rw [if_neg (np_aux h0 h1), if_neg]
  rw [h2, h5]; intro q; rcases q with q | q | q
  · cases q
  · exact n q.2
  · cases q.2
theorem np_7 (h0 : ((z.length : Nat) : Int) ≠ 0) (h1 : (z == Str.ofString ".") = false) (h2 : (z != Str.ofString "..") = false) (h3 : ((k : Nat) : Int) ≠ 0) (h4 : a.isEmpty = true) (hT : StrsAre a.toList c) : npStep k c z = c := by
  have n := (np_emp hT).mp h4
  have n' : c = [] := List.eq_nil_of_length_eq_zero n
  unfold npStep; rw [if_neg (np_aux h0 h1), if_neg, n']
  · rfl
  · rw [h2]; intro q; rcases q with q | q | q
    · cases q
    · exact absurd q.1 (by omega)
    · exact q.1 n
end
noncomputable def npIn (x : Str) : Str := rootOf x ++ Txt.join (Str.ofString "/") ((Txt.split (restOf x) (Str.ofString "/")).foldl (npStep (rootOf x).length) [])
noncomputable def npOut (x : Str) : Str := if x.length = 0 then Str.ofString "." else if (npIn x).length = 0 then Str.ofString "." else npIn x
theorem npo_1 {x : Str} (h : ((x.length : Nat) : Int) = 0) : npOut x = Str.ofString "." := by unfold npOut; rw [if_pos (by omega)]
theorem npo_2 {x y : Str} (h : ((x.length : Nat) : Int) ≠ 0) (e : npIn x = y) (h2 : ((y.length : Nat) : Int) = 0) : npOut x = Str.ofString "." := by unfold npOut; rw [if_neg (by omega), if_pos (by rw [e]; omega)]
theorem npo_3 {x y : Str} (h : ((x.length : Nat) : Int) ≠ 0) (e : npIn x = y) (h2 : ((y.length : Nat) : Int) ≠ 0) : npOut x = y := by unfold npOut; rw [if_neg (by omega), if_neg (by rw [e]; omega), e]
theorem ct_normpath {w : World} (x : Str) (t : Tok) (hx : x.length ≤ 65536) (hs : lenSum (Txt.split (restOf x) (Str.ofString "/")) ≤ 70000) : Ct w 6 166 [.str x t] [] (fun _ r _ => ∃ u, r = .str (npOut x) u) := by
  have hrl : (restOf x).length ≤ x.length := by unfold restOf; split <;> first | exact Nat.le_refl _ | (split <;> exact PySem.Txt.slice_le _ _ _)
  have hro : (rootOf x).length ≤ x.length + 1 := by
    unfold rootOf
    split
    · exact Nat.zero_le _
    · split
      · exact Nat.le_add_left 1 _
      · exact Nat.le_succ_of_le (PySem.Txt.slice_le _ _ _)
  unfold Ct
  k_fill
  intros
  (refine wpAny_call ?_; k_dflt (first
  | (refine' code_defQ ?k1 ?k2 ?k3 ?k5 ?kA ?kF ?kK ?k6 ?k7 ?k8 ?k9 ?kB ?_ ?c2 ?c3 ?c4 ?c5; (case kA => exact rfl); (case kF => exact rfl); (case kK => exact rfl); (case k1 => k_asm); (case k2 => k_asm); (case k3 => k_asm); (case k5 => k_asm); (case k6 => k_is); (case k7 => k_is); (case k8 => k_room); (case k9 => (first | exact BindsTo.of_eq rfl | exact binds_K (by k_in) rfl (by k_is) rfl rfl rfl | (refine' kp_binds ?kx ?ke; (case kx => k_in); (case ke => exact fun _ => rfl)))); (case c5 => decide); (case kB => exact locs rfl); (case c2 => exact rfl); (case c3 => exact rfl); (case c4 => exact rfl); k_whole; intro g' L' h' kp' kn' F' N' B' X' T'; (try dsimp only); (try k_fold); refine genM F' ?_; clear F'; intro m9 F')
  | (refine' code_defCQ ?k1 ?k2 ?k3 ?k5 ?kA ?kF ?kK ?k6 ?k7 ?k8 ?k9 ?kB ?kD ?_ ?c2 ?c3 ?c4; (case kA => exact rfl); (case kF => exact rfl); (case kK => exact rfl); (case k1 => k_asm); (case k2 => k_asm); (case k3 => k_asm); (case k5 => k_asm); (case k6 => k_is); (case k7 => k_is); (case k8 => k_room); (case k9 => (first | exact BindsTo.of_eq rfl | exact binds_K (by k_in) rfl (by k_is) rfl rfl rfl | (refine' kp_binds ?kx ?ke; (case kx => k_in); (case ke => exact fun _ => rfl)))); (case kB => exact rfl); (case kD => decide +kernel); (case c2 => exact rfl); (case c3 => exact rfl); (case c4 => exact rfl); k_whole; intro g' L' h' tk' cells' kp' kn' F' N' Y' B' X' T'; k_cells Y'; (try simp only [List.cons_append, List.nil_append] at N'); (try dsimp only); (try k_fold); refine genM F' ?_; clear F'; intro m9 F')
  | (refine' kp_restQ ?k1 ?k2 ?k3 ?k5 ?kA ?kF ?kK ?k6 ?k7 ?k8 ?kV ?kP ?kG ?kB ?_ ?c2 ?c3 ?c4 ?c5; (case kA => exact rfl); (case kF => exact rfl); (case kK => exact rfl); (case k1 => k_asm); (case k2 => k_asm); (case k3 => k_asm); (case k5 => k_asm); (case k6 => k_is); (case k7 => k_is); (case k8 => k_room); (case kV => first | kl_lit | exact rfl); (case kP => exact rfl); (case kG => exact fun _ => rfl); (case kB => exact fun _ => locs rfl); (case c5 => decide); (case c2 => exact rfl); (case c3 => exact rfl); (case c4 => exact rfl); k_whole; intro D' g' L' h' kp' l1 l2 F' N' B' X' T'; (try dsimp only); (try k_fold); refine genM F' ?_; clear F'; intro m9 F')))
  k_steps
  rename Fr _ _ _ _ => F1
  rename News _ _ _ _ => N1
  unfold Halt
  rename StrsAre _ _ => S1
  rename List.map _ _ = Txt.split _ _ => hE1
  with_unfolding_all refine list_loop (σ := Array Value × List Str × Nat) (fun c => [(_, W.listOf c.1 c.2.2), _, _]) (fun c => [("new_comps", .ref _), ("initial_slashes", .str (rootOf x) _), ("sep", .str (Str.ofString "/") _), ("dot", .str (Str.ofString ".") _), ("dotdot", .str (Str.ofString "..") _)]) (fun vs c => StrsAre c.1.toList c.2.1 ∧ ∃ ys, StrsAre vs ys ∧ lenSum c.2.1 + lenSum ys ≤ 70000 ∧ ys.foldl (npStep (rootOf x).length) c.2.1 = (Txt.split (restOf x) (Str.ofString "/")).foldl (npStep (rootOf x).length) []) (#[], [], 0) (by rfl) F1 N1 (fun _ => by k_mem) (by rfl) (by rfl) (by kst_all) ⟨.nil, _, S1, by rw [hE1]; show 0 + _ ≤ _; omega, by rw [hE1]⟩ ?_ ?_
  · clear F1 N1
    rintro v r ⟨c1, c2, c3⟩ u' it I h tk hit hI ⟨hT, ys, hS, hlen, hJ⟩ F N
    cases hS with
    | cons z tz hS' =>
      rename_i zs
      dsimp only at F N hT hlen hJ
      k_lt hI
      rw [lenSum_cons] at hlen
      have hcs : c1.size ≤ 70000 := Nat.le_trans (strs_size hT) (by omega)
      have hcs2 : c1.size ≤ sizeLine := Nat.le_trans hcs (by decide +kernel)
      have hz : z.length ≤ 70000 := by omega
      k_steps
      all_goals (first | (have e := np_1 (k := (rootOf x).length) (c := c2) (z := z) (by assumption)) | (have e := np_2 (k := (rootOf x).length) (c := c2) (z := z) (by assumption)) | (have e := np_3 (k := (rootOf x).length) (c := c2) (z := z) (by assumption) (by assumption) (by assumption)) | (have e := np_4 (k := (rootOf x).length) (z := z) (by assumption) (by assumption) (by assumption) (by assumption) hT) | (have e := np_5 (k := (rootOf x).length) (z := z) (by assumption) (by assumption) (by assumption) hT (by assumption)) | (have e := np_6 (k := (rootOf x).length) (z := z) (by assumption) (by assumption) (by assumption) (by assumption) hT (by assumption)) | (have e := np_7 (k := (rootOf x).length) (z := z) (by assumption) (by assumption) (by assumption) (by assumption) (by assumption) hT) | fail "end")
      all_goals rw [List.foldl_cons, e] at hJ
      all_goals (rename Fr _ _ _ _ => F2; rename News _ _ _ _ => N2)
      all_goals first | (refine' turn_end (c1, c2, c3) F2 N2 ?hI ?sub ?off ?hk ?hp; (case hk => kst_all); (case hI => k_mem); (case sub => kst_in); (case off => exact List.forall_mem_cons.mpr ⟨Or.inl hI.1, List.forall_mem_cons.mpr ⟨Or.inl hI.2.1, List.forall_mem_cons.mpr ⟨Or.inl hI.2.2, List.forall_mem_nil _⟩⟩⟩); (case hp => exact ⟨hT, zs, hS', by dsimp only; omega, hJ⟩)) | (refine' turn_end (c1.push (.str z tz), c2 ++ [z], c3 + 1) F2 N2 ?hI ?sub ?off ?hk ?hp; (case hk => kst_all); (case hI => k_mem); (case sub => kst_in); (case off => exact List.forall_mem_cons.mpr ⟨Or.inl hI.1, List.forall_mem_cons.mpr ⟨Or.inl hI.2.1, List.forall_mem_cons.mpr ⟨Or.inl hI.2.2, List.forall_mem_nil _⟩⟩⟩); (case hp => exact ⟨strsAre_push hT, zs, hS', by dsimp only; rw [lenSum_app, lenSum_cons]; show _ + (_ + 0) + _ ≤ _; omega, hJ⟩)) | (refine' turn_end (c1.pop, c2.dropLast, c3 + 1) F2 N2 ?hI ?sub ?off ?hk ?hp; (case hk => kst_all); (case hI => k_mem); (case sub => kst_in); (case off => exact List.forall_mem_cons.mpr ⟨Or.inl hI.1, List.forall_mem_cons.mpr ⟨Or.inl hI.2.1, List.forall_mem_cons.mpr ⟨Or.inl hI.2.2, List.forall_mem_nil _⟩⟩⟩); (case hp => exact ⟨strsAre_pop hT, zs, hS', by dsimp only; have := lenSum_drop c2; omega, hJ⟩)) | fail "end"
  · intro c u' h tk hP F N
    clear F1 N1
    obtain ⟨c1, c2, c3⟩ := c
    obtain ⟨hT, ys, hS, hlen, hJ⟩ := hP
    cases hS
    dsimp only at F N hT hlen hJ
    rw [List.foldl_nil] at hJ
    k_steps
    all_goals (have hin : npIn x = rootOf x ++ Txt.join (Str.ofString "/") c2 := by unfold npIn; rw [← hJ])
    all_goals first | (have e := npo_2 (x := x) (by assumption) hin (by assumption)) | (have e := npo_3 (x := x) (by assumption) hin (by assumption))
    all_goals (refine' Ret.go (by assumption) ?e1 ?e2 ?e3; (case e1 => assumption); (case e2 => assumption); (case e3 => exact ⟨_, by rw [e]⟩))
  have e := npo_1 (x := x) (by assumption)
  refine' Ret.go (by assumption) ?e1 ?e2 ?e3; (case e1 => assumption); (case e2 => assumption); (case e3 => exact ⟨_, by rw [e]⟩)


end Mine
end
section
namespace Mine
noncomputable def cutOf (x : Str) : Str := Txt.slice x none (some (Txt.rfind x (Str.ofString "/") + 1))
noncomputable def dirOf (x : Str) : Str := if (cutOf x).length = 0 then cutOf x else if (cutOf x != Txt.mul (Str.ofString "/") ((cutOf x).length : Nat)) = true then Txt.rstripChars (cutOf x) (Str.ofString "/") else cutOf x
theorem dir_1 {x : Str} (h : (((cutOf x).length : Nat) : Int) = 0) : dirOf x = cutOf x := by unfold dirOf; rw [if_pos (by omega)]
theorem dir_2 {x : Str} (h : (((cutOf x).length : Nat) : Int) ≠ 0) (h2 : (cutOf x != Txt.mul (Str.ofString "/") ((cutOf x).length : Nat)) = true) : dirOf x = Txt.rstripChars (cutOf x) (Str.ofString "/") := by unfold dirOf; rw [if_neg (by omega), if_pos h2]
theorem dir_3 {x : Str} (h : (((cutOf x).length : Nat) : Int) ≠ 0) (h2 : (cutOf x != Txt.mul (Str.ofString "/") ((cutOf x).length : Nat)) = false) : dirOf x = cutOf x := by unfold dirOf; rw [if_neg (by omega), if_neg (by rw [h2]; exact Bool.false_ne_true)]
theorem ct_dirname {w : World} (x : Str) (t : Tok) (hx : x.length ≤ 65536) : Ct w 4 159 [.str x t] [] (fun _ r _ => ∃ u, r = .str (dirOf x) u) := by
  unfold Ct
  k_fill
  intros
  (refine wpAny_call ?_; k_dflt (first
  | (refine' code_defQ ?k1 ?k2 ?k3 ?k5 ?kA ?kF ?kK ?k6 ?k7 ?k8 ?k9 ?kB ?_ ?c2 ?c3 ?c4 ?c5; (case kA => exact rfl); (case kF => exact rfl); (case kK => exact rfl); (case k1 => k_asm); (case k2 => k_asm); (case k3 => k_asm); (case k5 => k_asm); (case k6 => k_is); (case k7 => k_is); (case k8 => k_room); (case k9 => (first | exact BindsTo.of_eq rfl | exact binds_K (by k_in) rfl (by k_is) rfl rfl rfl | (refine' kp_binds ?kx ?ke; (case kx => k_in); (case ke => exact fun _ => rfl)))); (case c5 => decide); (case kB => exact locs rfl); (case c2 => exact rfl); (case c3 => exact rfl); (case c4 => exact rfl); k_whole; intro g' L' h' kp' kn' F' N' B' X' T'; (try dsimp only); (try k_fold); refine genM F' ?_; clear F'; intro m9 F')
  | (refine' code_defCQ ?k1 ?k2 ?k3 ?k5 ?kA ?kF ?kK ?k6 ?k7 ?k8 ?k9 ?kB ?kD ?_ ?c2 ?c3 ?c4; (case kA => exact rfl); (case kF => exact rfl); (case kK => exact rfl); (case k1 => k_asm); (case k2 => k_asm); (case k3 => k_asm); (case k5 => k_asm); (case k6 => k_is); (case k7 => k_is); (case k8 => k_room); (case k9 => (first | exact BindsTo.of_eq rfl | exact binds_K (by k_in) rfl (by k_is) rfl rfl rfl | (refine' kp_binds ?kx ?ke; (case kx => k_in); (case ke => exact fun _ => rfl)))); (case kB => exact rfl); (case kD => decide +kernel); (case c2 => exact rfl); (case c3 => exact rfl); (case c4 => exact rfl); k_whole; intro g' L' h' tk' cells' kp' kn' F' N' Y' B' X' T'; k_cells Y'; (try simp only [List.cons_append, List.nil_append] at N'); (try dsimp only); (try k_fold); refine genM F' ?_; clear F'; intro m9 F')
  | (refine' kp_restQ ?k1 ?k2 ?k3 ?k5 ?kA ?kF ?kK ?k6 ?k7 ?k8 ?kV ?kP ?kG ?kB ?_ ?c2 ?c3 ?c4 ?c5; (case kA => exact rfl); (case kF => exact rfl); (case kK => exact rfl); (case k1 => k_asm); (case k2 => k_asm); (case k3 => k_asm); (case k5 => k_asm); (case k6 => k_is); (case k7 => k_is); (case k8 => k_room); (case kV => first | kl_lit | exact rfl); (case kP => exact rfl); (case kG => exact fun _ => rfl); (case kB => exact fun _ => locs rfl); (case c5 => decide); (case c2 => exact rfl); (case c3 => exact rfl); (case c4 => exact rfl); k_whole; intro D' g' L' h' kp' l1 l2 F' N' B' X' T'; (try dsimp only); (try k_fold); refine genM F' ?_; clear F'; intro m9 F')))
  k_steps
  all_goals first | (have e := dir_1 (x := x) (by assumption)) | (have e := dir_2 (x := x) (by assumption) (by assumption)) | (have e := dir_3 (x := x) (by assumption) (by assumption))
  all_goals (refine' Ret.go (by assumption) ?e1 ?e2 ?e3; (case e1 => assumption); (case e2 => assumption); (case e3 => exact ⟨_, by rw [e]; rfl⟩))

end Mine
end
section
namespace Mine
local macro_rules | `(tactic| walk_at "call builtin:object.__new__") => `(tactic| ((with_reducible show wpAny _ _ (call (Value.builtin _) [Value.ref _] _) _ _ _); k_dflt (refine objnew_Q (by k_asm) (by k_asm) (by k_asm) (by kernel_rfl) (by kernel_rfl) (by (intro D; kernel_rfl)) (by (intros; kernel_rfl)) ?_; k_whole); intros))
noncomputable def NewOf (C : Addr) (g : Heap) (r : Value) (h' : Heap) : Prop := ∃ i d, r = .ref i ∧ d < i ∧ Made g d (dictOf [] 0) h' ∧ Made g i (instObj C d) h'
theorem ct_new {w : World} (x : Str) (t : Tok) : Ct w 3 242 [.ref 749, .str x t] [] (NewOf 749) := by
  unfold Ct
  k_fill
  intros
  refine wpAny_call ?_
  refine' kp_rest2Q ?k1 ?k2 ?k3 ?k5 ?kA ?kF ?kK ?k6 ?k7 ?k8 ?kP ?kG ?kG2 ?kB ?_ ?c2 ?c3 ?c4 ?c5
  case kA => exact rfl
  case kF => exact rfl
  case kK => exact rfl
  case k1 => k_asm
  case k2 => k_asm
  case k3 => k_asm
  case k5 => k_asm
  case k6 => k_is
  case k7 => k_is
  case k8 => k_room
  case kP => exact rfl
  case kG => exact fun _ => rfl
  case kG2 => exact fun _ _ => rfl
  case kB => exact fun _ _ => locs rfl
  case c5 => decide
  case c2 => exact rfl
  case c3 => exact rfl
  case c4 => exact rfl
  k_whole
  intro D' g' L' h' kp' F' N' B' X' T'
  dsimp only
  k_steps
  all_goals (refine' Ret.go (by assumption) ?e1 ?e2 ?e3; (case e1 => assumption); (case e2 => assumption); (case e3 => exact ⟨_, _, rfl, by assumption, Made.of (by assumption) (AllMade.at (by assumption) (by k_mem)), Made.of (by assumption) (AllMade.at (by assumption) (by k_mem))⟩))
section
variable {w : World} {p : Program} {loose : List Str} {mean : ExcName → Option Value} {mg mb : Str → Option Value} {dp un : Nat} {gd : Option (List Code)} {cn : Str} {sn : List (Str × NameKind)} {sg sc : Bool} {sm : List (Str × Const)} {a : Addr} {ccd : Value} {cl : List (Str × Addr)} {outer : List Env}
  {A₀ : Around} {base h₀ : Heap} {L : Addr} {m : Str → Option Value} {news : List (Addr × Obj)} {s : Shared} {Q E : Value → Shared → Prop}
/-- StringIO(x) up to its __init__ -/
theorem make_SIO {x : Str} {t : Tok}
    (B : Below A₀ base outer h₀) (F : Fr h₀ L s.heap m) (X : (Mine.hd.heap_1 w.params).In h₀) (N : News h₀ L s.heap news) (T : Top p loose mean mg mb h₀) (hd : dp + 5 < recursionLimit) (hu : un + 48 < cLine)
    (h : ∀ i d h' tk', Fr h₀ L h' m → News h₀ L h' ((i, instObj 749 d) :: (d, dictOf [] 0) :: news) → AllNe d news → AllNe i news → d < i →
      codeAny (model PySem.Challenge.rw_ik0089_01.prog w) ((ktrTop dp un gd cn ⟨.function, sn, sg, sc, sm⟩ L a ccd cl outer).under (.builtin "type.__call__" ⟨.ref 749 :: [.str x t], []⟩)) (.call (.ref 519) ⟨.ref i :: [.str x t], []⟩) (InitBack i fun r s' => match r with | .ok (.ret v) => Q v s' | .ok _ => False | .error e => E e s') { s with heap := h', toks := tk' }) :
    wpAny (model PySem.Challenge.rw_ik0089_01.prog w) (ktrTop dp un gd cn ⟨.function, sn, sg, sc, sm⟩ L a ccd cl outer) (call (.ref 749) [.str x t] []) Q E s := by
  refine wpAny_call (make_Q (K := Mine.hd.heap_1 w.params) (fN := 242) (fI := 519) (X.keeps F.keep) rfl (by kernel_rfl) (by kernel_rfl) (l := [.ref 749, .ref 272, .ref 245, .type "object"]) (by kernel_rfl) rfl (by kernel_rfl) (by kernel_rfl) (by kernel_rfl) (by kernel_rfl) ?_)
  refine cls_sm (K := Mine.hd.heap_1 w.params) (mc := .type "type") (p := 246) (rest := []) F X (by kernel_rfl) (by kernel_rfl) (by kernel_rfl) (by kernel_rfl) (by kernel_rfl) ⟨rfl, ?_⟩
  refine Ct.use (ct_new x t) (dp := dp + 1) (un := un + 1) B F X N T (by omega) (by omega) ?_
  rintro r h' tk' ⟨i, d, rfl, hdi, hm1, hm2⟩ kp mk ne F' N'
  refine ⟨i, d, rfl, hm2.1, X.keeps F'.keep, ?_⟩
  exact h i d h' tk' F' (news_made F (mk hm1.1 hm1.2) hm2.1 hm2.2) (allNe_of (ne hm1.2)) (allNe_of (ne hm2.2)) hdi
end

end Mine
end
section
namespace Mine
noncomputable abbrev ent (w : World) (k : String) (t : Tok) (v : Value) : DictEntry := { hash := PyData.keyHash w.params (Str.ofString k), key := .str (Str.ofString k) t, val := v }
noncomputable abbrev sioD (w : World) (k1 k2 k3 tn t : Tok) (x : Str) (pos : Int) (tp : Tok) : Obj := dictOf [ent w "_StringIO__newline" k1 (.str (Str.ofString "\n") tn), ent w "_StringIO__buf" k2 (.str x t), ent w "_StringIO__pos" k3 (.int pos tp)] 3
noncomputable def rdCh (x : Str) (pos : Int) : Str := if (x.length : Int) ≤ pos then Str.ofString "" else if pos + 1 < (x.length : Int) then Txt.slice (Txt.slice x (some pos) (some (pos + 1)) ++ Str.ofString " ") none (some (-1)) else Txt.slice (Txt.slice x (some pos) (some (x.length : Int)) ++ Str.ofString " ") none (some (-1))
noncomputable def rdPos (x : Str) (pos : Int) : Int := if (x.length : Int) ≤ pos then pos else if pos + 1 < (x.length : Int) then pos + 1 else (x.length : Int)
theorem rd_1 {x : Str} {pos : Int} (h : (x.length : Int) ≤ pos) : rdCh x pos = Str.ofString "" ∧ rdPos x pos = pos := by unfold rdCh rdPos; rw [if_pos h, if_pos h]; exact ⟨rfl, rfl⟩
theorem rd_2 {x : Str} {pos : Int} (h : ¬ (x.length : Int) ≤ pos) (h2 : pos + 1 < (x.length : Int)) : rdCh x pos = Txt.slice (Txt.slice x (some pos) (some (pos + 1)) ++ Str.ofString " ") none (some (-1)) ∧ rdPos x pos = pos + 1 := by
  unfold rdCh rdPos; rw [if_neg h, if_neg h, if_pos h2, if_pos h2]; exact ⟨rfl, rfl⟩
theorem rd_3 {x : Str} {pos : Int} (h : ¬ (x.length : Int) ≤ pos) (h2 : ¬ pos + 1 < (x.length : Int)) : rdCh x pos = Txt.slice (Txt.slice x (some pos) (some (x.length : Int)) ++ Str.ofString " ") none (some (-1)) ∧ rdPos x pos = (x.length : Int) := by
  unfold rdCh rdPos; rw [if_neg h, if_neg h, if_neg h2, if_neg h2]; exact ⟨rfl, rfl⟩
noncomputable def RdPost (w : World) (j e : Addr) (k1 k2 k3 tn t : Tok) (x : Str) (c : Str) (pos : Int) (r : Value) (h' : Heap) : Prop := ∃ tc tp, r = .str c tc ∧ h'.get? j = some (instObj 749 e) ∧ h'.get? e = some (sioD w k1 k2 k3 tn t x pos tp)
theorem RdPost.of {w : World} {j e : Addr} {k1 k2 k3 tn t : Tok} {x : Str} {c c' : Str} {pos pos' : Int} {r : Value} {h' : Heap} (h : RdPost w j e k1 k2 k3 tn t x c pos r h') (q : c' = c ∧ pos' = pos) : RdPost w j e k1 k2 k3 tn t x c' pos' r h' := by rw [q.1, q.2]; exact h
theorem ct_read {w : World} (j e : Addr) (x : Str) (pos : Int) (k1 k2 k3 tn t tp u : Tok) (hej : @LT.lt Nat _ e j) (h0 : 0 ≤ pos) (h1 : pos ≤ x.length) (hx : x.length ≤ 1000) :
    CtM w 5 695 [.ref j, .int 1 u] [] [(j, instObj 749 e), (e, sioD w k1 k2 k3 tn t x pos tp)] (RdPost w j e k1 k2 k3 tn t x (rdCh x pos) (rdPos x pos)) := by
  unfold CtM
  k_fill
  intros
  refine wpAny_call ?_
  refine' code_defM ?k1 ?k2 ?kN ?k3 ?k5 ?kA ?kF ?kK ?k6 ?k7 ?k8 ?k9 ?kB ?_ ?c2 ?c3 ?c4 ?c5
  case kA => exact rfl
  case kF => exact rfl
  case kK => exact rfl
  case k1 => k_asm
  case k2 => k_asm
  case kN => k_asm
  case k3 => k_asm
  case k5 => k_asm
  case k6 => k_is
  case k7 => k_is
  case k8 => k_room
  case k9 => (first | exact BindsTo.of_eq rfl | exact binds_K (by k_in) rfl (by k_is) rfl rfl rfl | (refine' kp_binds ?kx ?ke; (case kx => k_in); (case ke => exact fun _ => rfl)))
  case c5 => decide
  case kB => exact locs rfl
  case c2 => exact rfl
  case c3 => exact rfl
  case c4 => exact rfl
  k_whole
  intro g' L' h' kp' F' N' B' X' T'
  (try dsimp only)
  (try k_fold)
  k_steps
  all_goals first | (have e := rd_1 (x := x) (pos := pos) (by assumption)) | (have e := rd_2 (x := x) (pos := pos) (by assumption) (by assumption)) | (have e := rd_3 (x := x) (pos := pos) (by assumption) (by assumption))
  all_goals (refine' RetM.go (by assumption) kp' ?e2 ?e3; (case e2 => assumption); (case e3 => exact RdPost.of ⟨_, _, rfl, (AllMade.at (by assumption) (by k_mem)).1, (AllMade.at (by assumption) (by k_mem)).1⟩ e))
theorem ct_readC {w : World} (j e : Addr) (x ch : Str) (pos pos' : Int) (k1 k2 k3 tn t tp u : Tok) (hej : @LT.lt Nat _ e j) (h0 : 0 ≤ pos) (h1 : pos ≤ x.length) (hx : x.length ≤ 1000) (hc : rdCh x pos = ch) (hp : rdPos x pos = pos') :
    CtM w 5 695 [.ref j, .int 1 u] [] [(j, instObj 749 e), (e, sioD w k1 k2 k3 tn t x pos tp)] (RdPost w j e k1 k2 k3 tn t x ch pos') := by
  have := ct_read (w := w) j e x pos k1 k2 k3 tn t tp u hej h0 h1 hx
  rwa [hc, hp] at this

end Mine
end
section
open PySem PySem.W PyProof.Rows PySem.Spec PySem.Calls
namespace Mine
/-- use of a contract that writes one listed object (e) and reads another (j): the ledger behind it by Upd -/
theorem CtM.use1 {w : World} {D : Nat} {f : Addr} {vs : List Value} {kw : List (Str × Value)} {j e : Addr} {oj oe : Obj} {oe' : Tok → Obj} {V : Tok → Value} {Post : Value → Heap → Prop}
   (C : CtM w D f vs kw [(j, oj), (e, oe)] Post) (hP : ∀ r h', Post r h' → ∃ tc tp, r = V tc ∧ h'.get? j = some oj ∧ h'.get? e = some (oe' tp))
   {p : Program} {loose : List Str} {mean : ExcName → Option Value} {mg mb : Str → Option Value} {dp un : Nat} {gd : Option (List Code)} {cn : Str} {sn : List (Str × NameKind)} {sg sc : Bool} {sm : List (Str × Const)} {a : Addr} {ccd : Value} {cl : List (Str × Addr)} {outer : List Env}
    {A₀ : Around} {base h₀ : Heap} {L : Addr} {m : Str → Option Value} {news : List (Addr × Obj)} {news' : Tok → List (Addr × Obj)} {s : Shared} {Q E : Value → Shared → Prop}
    (B : Below A₀ base outer h₀) (F : Fr h₀ L s.heap m) (X : (Mine.hd.heap_1 w.params).In h₀) (N : News h₀ L s.heap news) (T : Top p loose mean mg mb h₀) (hj : (j, oj) ∈ news) (U : ∀ tp, Upd e oe (oe' tp) news (news' tp)) (hd : dp + D < recursionLimit) (hu : un + 8 * D < cLine)
    (h : ∀ tc tp h' tk', Fr h₀ L h' m → News h₀ L h' (news' tp) → Q (V tc) { s with heap := h', toks := tk' }) :
    wpAny (model PySem.Challenge.rw_ik0089_01.prog w) (ktrTop dp un gd cn ⟨.function, sn, sg, sc, sm⟩ L a ccd cl outer) (call (.ref f) vs kw) Q E s := by
  obtain ⟨pre0, post0, e1, -, -, -⟩ := (U 0).split
  have he : (e, oe) ∈ news := by rw [e1]; exact List.mem_append_right _ (.head _)
  have Nm : News h₀ L s.heap [(j, oj), (e, oe)] := fun q hq => by
    rcases List.mem_cons.mp hq with rfl | hq
    · exact N _ hj
    · rw [List.mem_singleton.mp hq]; exact N _ he
  refine wpAny_mono (C p loose mean mg mb dp un gd cn sn sg sc sm a ccd cl outer A₀ base h₀ L m s Q B F Nm X T hd hu (fun r h' tk' hp k => ?_)) (fun _ _ x => x) fun _ _ x => x.elim
  obtain ⟨tc, tp, rfl, g1, g2⟩ := hP _ _ hp
  refine h tc tp h' tk' (k.fr F Nm) ?_
  obtain ⟨pre, post, q1, q2, n1, n2⟩ := (U tp).split
  rw [q2]
  have key : ∀ p ∈ news, p.1 ≠ e → h'.get? p.1 = some p.2 ∧ p.1 ≠ L ∧ h₀.get? p.1 = none := fun p hp hne => by
    have z := N p hp
    refine ⟨?_, z.2⟩
    by_cases hpj : p.1 = j
    · have := z.1
      rw [hpj, (N _ hj).1] at this
      rw [hpj, g1, this]
    · refine k _ _ z.1 ?_
      simp [hpj, hne]
  intro p hp
  rcases List.mem_append.mp hp with hp | hp
  · exact key p (by rw [q1]; exact List.mem_append_left _ hp) (n1 p hp)
  · rcases List.mem_cons.mp hp with rfl | hp
    · exact ⟨g2, (N _ he).2⟩
    · exact key p (by rw [q1]; exact List.mem_append_right _ (.tail _ hp)) (n2 p hp)
end Mine
end
section
namespace Mine
noncomputable def wcS : Str := Str.ofString "abcdfeghijklmnopqrstuvwxyzABCDEFGHIJKLMNOPQRSTUVWXYZ0123456789_ßàáâãäåæçèéêëìíîïðñòóôõöøùúûüýþÿÀÁÂÃÄÅÆÇÈÉÊËÌÍÎÏÐÑÒÓÔÕÖØÙÚÛÜÝÞ"
set_option genInjectivity false
set_option genSizeOfSpec false
/-- what changes in a shlex object and its stream -/
structure LexC where
  pos : Int
  tp : Tok
  v14 : Tok
  v16 : Tok
  sv : Value
  ln : Int
  tok : Str
noncomputable def lexE (w : World) (κ : Nat → Tok) (ρ : Nat → Addr) (c : LexC) : List DictEntry := [ent w "instream" (κ 1) (.ref (ρ 2)), ent w "infile" (κ 2) (.none), ent w "posix" (κ 3) (.bool true), ent w "eof" (κ 4) (.none), ent w "commenters" (κ 5) (.str (Str.ofString "") (κ 20)), ent w "wordchars" (κ 6) (.str wcS (κ 21)), ent w "whitespace" (κ 7) (.str (Str.ofString " \t\r\n") (κ 22)), ent w "whitespace_split" (κ 8) (.bool true), ent w "quotes" (κ 9) (.str (Str.ofString "'\"") (κ 23)), ent w "escape" (κ 10) (.str (Str.ofString "\\") (κ 24)), ent w "escapedquotes" (κ 11) (.str (Str.ofString "\"") (κ 25)), ent w "state" (κ 12) (c.sv), ent w "pushback" (κ 13) (.ref (ρ 4)), ent w "lineno" (κ 14) (.int c.ln c.v14), ent w "debug" (κ 15) (.int 0 (κ 26)), ent w "token" (κ 16) (.str c.tok c.v16), ent w "filestack" (κ 17) (.ref (ρ 5)), ent w "source" (κ 18) (.none), ent w "_punctuation_chars" (κ 19) (.str (Str.ofString "") (κ 27))]
/-- the addresses: 0 the shlex object, 1 its dict, 2 the stream, 3 its dict, 4 and 5 the deques -/
structure RhoOk (ρ : Nat → Addr) : Prop where
  hDX : @LT.lt Nat _ (ρ 1) (ρ 0)
  hXe : @Ne Nat (ρ 0) (ρ 3)
  hDe : @Ne Nat (ρ 1) (ρ 3)
  hXi : @Ne Nat (ρ 0) (ρ 2)
  hDi : @Ne Nat (ρ 1) (ρ 2)
  hei : @LT.lt Nat _ (ρ 3) (ρ 2)
  hip : @LT.lt Nat _ (ρ 2) (ρ 4)
  hXp : @LT.lt Nat _ (ρ 0) (ρ 4)
  hpf : @LT.lt Nat _ (ρ 4) (ρ 5)
noncomputable def rtMs (w : World) (κ : Nat → Tok) (ρ : Nat → Addr) (x : Str) (c : LexC) : List (Addr × Obj) := [(ρ 5, dqO), (ρ 4, dqO), (ρ 2, instObj 749 (ρ 3)), (ρ 3, sioD w (κ 28) (κ 29) (κ 30) (κ 31) (κ 32) x c.pos c.tp), (ρ 0, instObj 884 (ρ 1)), (ρ 1, dictOf (lexE w κ ρ c) 19)]
section
variable {w : World} {κ : Nat → Tok} {ρ : Nat → Addr} {x : Str} {c : LexC}
theorem rt_X : (ρ 0, instObj 884 (ρ 1)) ∈ rtMs w κ ρ x c := .tail _ (.tail _ (.tail _ (.tail _ (.head _))))
theorem rt_D : (ρ 1, dictOf (lexE w κ ρ c) 19) ∈ rtMs w κ ρ x c := .tail _ (.tail _ (.tail _ (.tail _ (.tail _ (.head _)))))
theorem rt_i : (ρ 2, instObj 749 (ρ 3)) ∈ rtMs w κ ρ x c := .tail _ (.tail _ (.head _))
theorem rt_e (r : RhoOk ρ) (pos : Int) (tp : Tok) : Upd (ρ 3) (sioD w (κ 28) (κ 29) (κ 30) (κ 31) (κ 32) x c.pos c.tp) (sioD w (κ 28) (κ 29) (κ 30) (κ 31) (κ 32) x pos tp) (rtMs w κ ρ x c) (rtMs w κ ρ x { c with pos := pos, tp := tp }) := by
  obtain ⟨a1, a2, a3, a4, a5, a6, a7, a8, a9⟩ := r
  unfold rtMs
  k_upd
theorem rt_d (r : RhoOk ρ) (c' : LexC) (h1 : c'.pos = c.pos) (h2 : c'.tp = c.tp) : Upd (ρ 1) (dictOf (lexE w κ ρ c) 19) (dictOf (lexE w κ ρ c') 19) (rtMs w κ ρ x c) (rtMs w κ ρ x c') := by
  obtain ⟨a1, a2, a3, a4, a5, a6, a7, a8, a9⟩ := r
  unfold rtMs
  rw [h1, h2]
  k_upd
end
section
variable {w : World} {κ : Nat → Tok} {ρ : Nat → Addr} {x : Str} {c : LexC} {A : Around} {E : Value → Shared → Prop} {s : Shared} {h₀ : Heap} {L a : Addr} {m : Str → Option Value} {cn : Str} {cs : Scope} {ccd : Value} {cl : List (Str × Addr)}
/-- a load of an own attribute -/
theorem ga_self {attr : Str} {v : Value} {ex : Bool} {Q : Value → Shared → Prop} (F : Fr h₀ L s.heap m) (N : News h₀ L s.heap (rtMs w κ ρ x c)) (X₀ : (Mine.hd.heap_1 w.params).In h₀)
   (hg : plainGet (Mine.hd.heap_1 w.params) 884 attr = true) (ha : findIn (Mine.hd.heap_1 w.params) (.ref 884) attr = some none) (hl : getL attr (lexE w κ ρ c) = some (some v)) (hv : handedIn v = true)
   (h : ∀ tk, Q v { s with toks := tk }) : wpAny (model PySem.Challenge.rw_ik0089_01.prog w) A (getAttr (.ref (ρ 0)) attr ex) Q E s := by
  revert X₀; k_fill; intro X₀
  exact get_own F X₀ (InstAt.of_news N rt_X rt_D) hg (by k_is) ha (by rfl) hl hv (h _)
theorem ld_self {attr : Str} {v : Value} {p1 p2 : Pos} {Q : Value → Shared → Prop} (F : Fr h₀ L s.heap m) (N : News h₀ L s.heap (rtMs w κ ρ x c)) (X₀ : (Mine.hd.heap_1 w.params).In h₀) (hs : m (Str.ofString "self") = some (.ref (ρ 0)))
   (hg : plainGet (Mine.hd.heap_1 w.params) 884 attr = true) (ha : findIn (Mine.hd.heap_1 w.params) (.ref 884) attr = some none) (hl : getL attr (lexE w κ ρ c) = some (some v)) (hv : handedIn v = true)
   (hk : cs.kind = .function) (hx : (envX cn cs L a ccd cl).kindOf (Str.ofString "self") = some .local)
   (h : ∀ tk, Q v { s with toks := tk }) : wpAny (model PySem.Challenge.rw_ik0089_01.prog w) A (eval ((Expr.Name (Str.ofString "self") p1).Attribute attr p2) (envX cn cs L a ccd cl)) Q E s :=
  Attribute_Name_ (nameX_L F hs (ga_self F N X₀ hg ha hl hv h) hk hx)
/-- a store into an own attribute that is there -/
theorem st_self {attr : Str} {v : Value} {c' : LexC} {Q : Unit → Shared → Prop} (r : RhoOk ρ) (F : Fr h₀ L s.heap m) (N : News h₀ L s.heap (rtMs w κ ρ x c)) (X₀ : (Mine.hd.heap_1 w.params).In h₀)
   (ht : takerIn (Mine.hd.heap_1 w.params) 884 attr = some none) (hl : (getL attr (lexE w κ ρ c)).isSome = true) (e : ∀ t, (putL attr (PyData.keyHash w.params attr) (.str attr t) v (lexE w κ ρ c), putN attr (lexE w κ ρ c) 19) = (lexE w κ ρ c', 19)) (h1 : c'.pos = c.pos) (h2 : c'.tp = c.tp)
   (h : ∀ h' tk, Fr h₀ L h' m → News h₀ L h' (rtMs w κ ρ x c') → Q () { s with heap := h', toks := tk }) : wpAny (model PySem.Challenge.rw_ik0089_01.prog w) A (setAttr (.ref (ρ 0)) attr v) Q E s := by
  revert X₀; k_fill; intro X₀
  exact set_dict F X₀ N (InstAt.of_news N rt_X rt_D) rfl (by k_is) (by k_is) ht (by k_is) hl (e _) (rt_d r c' h1 h2) (by show (19 : Nat) ≤ 1000; decide) fun h' F' N' => h h' _ F' N'
end
/-- where read_token runs -/
structure RtG where
  w : World
  κ : Nat → Tok
  ρ : Nat → Addr
  x : Str
  pr : Program
  loose : List Str
  mean : ExcName → Option Value
  mg : Str → Option Value
  mb : Str → Option Value
  dp : Nat
  un : Nat
  gd : Option (List Code)
  cn : Str
  sn : List (Str × NameKind)
  sg : Bool
  sc : Bool
  sm : List (Str × Const)
  a : Addr
  ccd : Value
  cl : List (Str × Addr)
  outer : List Env
  A₀ : Around
  base : Heap
  h₀ : Heap
  L : Addr
  E : Value → Shared → Prop
  gs : Array GenState
  dr : Drawn
  os : OsState
  u : Str → Option Value
noncomputable abbrev RtG.cs (G : RtG) : Scope := ⟨.function, G.sn, G.sg, G.sc, G.sm⟩
noncomputable abbrev RtG.env (G : RtG) : Env := envX G.cn G.cs G.L G.a G.ccd G.cl
noncomputable abbrev RtG.A (G : RtG) : Around := ktrTop G.dp G.un G.gd G.cn G.cs G.L G.a G.ccd G.cl G.outer
noncomputable abbrev RtG.st (G : RtG) (h : Heap) (tk : Nat) : Shared := ⟨h, G.gs, G.dr, tk, G.os⟩
structure RtG.Good (G : RtG) : Prop where
  r : RhoOk G.ρ
  B : Below G.A₀ G.base G.outer G.h₀
  X : (Mine.hd.heap_1 G.w.params).In G.h₀
  T : Top G.pr G.loose G.mean G.mg G.mb G.h₀
  hd : G.dp + 6 < recursionLimit
  hu : G.un + 8 * 6 < cLine
  hx : G.x.length ≤ 1000
  k1 : G.env.kindOf (Str.ofString "self") = some .local
  k2 : G.env.kindOf (Str.ofString "quoted") = some .local
  k3 : G.env.kindOf (Str.ofString "nextchar") = some .local
/-- what read_token changes -/
structure RtV where
  pos : Nat
  sv : Option Str
  tok : Str
  ln : Int
  q : Bool
  nc : Option Str
noncomputable def svV : Option Str → Tok → Value
  | none, _ => .none
  | some y, t => .str y t
noncomputable def RtOk (G : RtG) (σ : RtV) (h : Heap) : Prop :=
  ∃ (m : Str → Option Value) (tp v14 v16 vs : Tok), Fr G.h₀ G.L h m ∧ News G.h₀ G.L h (rtMs G.w G.κ G.ρ G.x ⟨σ.pos, tp, v14, v16, svV σ.sv vs, σ.ln, σ.tok⟩) ∧
    m (Str.ofString "self") = some (.ref (G.ρ 0)) ∧ m (Str.ofString "quoted") = some (.bool σ.q) ∧ (∀ y, σ.nc = some y → ∃ t, m (Str.ofString "nextchar") = some (.str y t)) ∧
    ∀ z, z ≠ Str.ofString "self" → z ≠ Str.ofString "quoted" → z ≠ Str.ofString "nextchar" → m z = G.u z
/-- a test's answer; nothing changes -/
noncomputable def Tst (G : RtG) (σ : RtV) (e : PySem.Expr) (b : Bool) : Prop :=
  ∀ h tk (Q : Bool → Shared → Prop), RtOk G σ h → (∀ h' tk', RtOk G σ h' → Q b (G.st h' tk')) → wpAny (model PySem.Challenge.rw_ik0089_01.prog G.w) G.A (isTrue e G.env (eval e G.env)) Q G.E (G.st h tk)
noncomputable def TstL (G : RtG) (σ : RtV) (op : BoolOp) (es : List PySem.Expr) (b : Bool) : Prop :=
  ∀ pos whole h tk (Q : Bool → Shared → Prop), RtOk G σ h → (∀ h' tk', RtOk G σ h' → Q b (G.st h' tk')) → wpAny (model PySem.Challenge.rw_ik0089_01.prog G.w) G.A (isTrue (.BoolOp op es pos) G.env whole) Q G.E (G.st h tk)
/-- a statement's end, and what it leaves -/
noncomputable def Run (G : RtG) (σ : RtV) (t : Stmt) (f : Flow) (σ' : RtV) : Prop :=
  ∀ h tk (Q : Flow → Shared → Prop), RtOk G σ h → (∀ h' tk', RtOk G σ' h' → Q f (G.st h' tk')) → wpAny (model PySem.Challenge.rw_ik0089_01.prog G.w) G.A (exec t G.env) Q G.E (G.st h tk)
noncomputable def Runs (G : RtG) (σ : RtV) (ts : List Stmt) (f : Flow) (σ' : RtV) : Prop :=
  ∀ h tk (Q : Flow → Shared → Prop), RtOk G σ h → (∀ h' tk', RtOk G σ' h' → Q f (G.st h' tk')) → wpAny (model PySem.Challenge.rw_ik0089_01.prog G.w) G.A (execs ts G.env) Q G.E (G.st h tk)
section
variable {G : RtG} {σ σ1 σ2 : RtV} {p1 p2 p3 p4 p5 p6 : Pos} {e : PySem.Expr} {es : List PySem.Expr} {b : Bool} {f : Flow} {t : Stmt} {ts us : List Stmt} {y z ch attr : Str}
theorem Runs.nil : Runs G σ [] .next σ := fun h tk _ o k => wpAny_execs_nil (k h tk o)
theorem Runs.cons (h1 : Run G σ t .next σ1) (h2 : Runs G σ1 ts f σ2) : Runs G σ (t :: ts) f σ2 := fun h tk Q o k => wpAny_execs_cons (h1 h tk _ o fun h' tk' o' => h2 h' tk' Q o' k)
theorem Runs.brk (h1 : Run G σ t .brk σ1) : Runs G σ (t :: ts) .brk σ1 := fun h tk _ o k => wpAny_execs_cons (h1 h tk _ o fun h' tk' o' => k h' tk' o')
theorem Run.brk : Run G σ (.Break p1) .brk σ := fun h tk _ o k => wpAny_Break (k h tk o)
theorem Run.iteT (c : Tst G σ e true) (h : Runs G σ ts f σ1) : Run G σ (.If e ts us p1) f σ1 := fun hp tk Q o k => wpAny_If (c hp tk _ o fun h' tk' o' => by rw [if_pos rfl]; exact h h' tk' Q o' k)
theorem Run.iteF (c : Tst G σ e false) (h : Runs G σ us f σ1) : Run G σ (.If e ts us p1) f σ1 := fun hp tk Q o k => wpAny_If (c hp tk _ o fun h' tk' o' => by rw [if_neg (by decide)]; exact h h' tk' Q o' k)
theorem Tst.boolOp {op : BoolOp} (c : TstL G σ op es b) : Tst G σ (.BoolOp op es p1) b := fun h tk Q o k => c p1 _ h tk Q o k
theorem TstL.andNil : TstL G σ .And [] true := fun _ _ h tk _ o k => isTrue_and_nil (k h tk o)
theorem TstL.andF (c : Tst G σ e false) : TstL G σ .And (e :: es) false := fun _ _ h tk _ o k => isTrue_and (c h tk _ o fun h' tk' o' => by rw [if_neg (by decide)]; exact k h' tk' o')
theorem TstL.andT (c : Tst G σ e true) (d : TstL G σ .And es b) : TstL G σ .And (e :: es) b := fun _ _ h tk Q o k => isTrue_and (c h tk _ o fun h' tk' o' => by rw [if_pos rfl]; exact d _ _ h' tk' Q o' k)
theorem TstL.orT (c : Tst G σ e true) : TstL G σ .Or (e :: es) true := fun _ _ h tk _ o k => isTrue_or (c h tk _ o fun h' tk' o' => by rw [if_pos rfl]; exact k h' tk' o')
theorem TstL.orF (c : Tst G σ e false) (d : TstL G σ .Or es b) : TstL G σ .Or (e :: es) b := fun _ _ h tk Q o k => isTrue_or (c h tk _ o fun h' tk' o' => by rw [if_neg (by decide)]; exact d _ _ h' tk' Q o' k)
theorem Tst.not (c : Tst G σ e b) : Tst G σ (.UnaryOp .Not e p1) (!b) := fun h tk _ o k => isTrue_not (c h tk _ o fun h' tk' o' => k h' tk' o')
theorem Tst.nc (g : G.Good) (hn : σ.nc = some ch) (hl : ch.length ≤ 16777216) (hb : ((ch.length : Int) != 0) = b) : Tst G σ (.Name (Str.ofString "nextchar") p1) b := fun h tk Q o k => by
  have o9 := o
  obtain ⟨m, tp, v14, v16, vs, F, N, hs, hq, hc, hu⟩ := o
  obtain ⟨t, ht⟩ := hc _ hn
  exact isTrue_plain (nameX_L F ht (KXt.truthy hb hl fun k9 => k _ _ o9) rfl g.k3)
theorem Tst.quoted (g : G.Good) : Tst G σ (.Name (Str.ofString "quoted") p1) σ.q := fun h tk Q o k => by
  have o9 := o
  obtain ⟨m, tp, v14, v16, vs, F, N, hs, hq, hc, hu⟩ := o
  exact isTrue_plain (nameX_L F hq (wpAny_truthy_bool (k _ _ o9)) rfl g.k2)
theorem Tst.fldB (g : G.Good) (hg : plainGet (Mine.hd.heap_1 G.w.params) 884 attr = true) (ha : findIn (Mine.hd.heap_1 G.w.params) (.ref 884) attr = some none) (hl : ∀ c, getL attr (lexE G.w G.κ G.ρ c) = some (some (.bool b))) :
    Tst G σ ((PySem.Expr.Name (Str.ofString "self") p1).Attribute attr p2) b := fun h tk Q o k => by
  have o9 := o
  obtain ⟨m, tp, v14, v16, vs, F, N, hs, hq, hc, hu⟩ := o
  exact isTrue_plain (ld_self F N g.X hs hg ha (hl _) rfl rfl g.k1 fun _ => wpAny_truthy_bool (k _ _ o9))
theorem Tst.ncIn (g : G.Good) (hn : σ.nc = some ch) (hg : plainGet (Mine.hd.heap_1 G.w.params) 884 attr = true) (ha : findIn (Mine.hd.heap_1 G.w.params) (.ref 884) attr = some none) (hl : ∀ c, ∃ t, getL attr (lexE G.w G.κ G.ρ c) = some (some (.str y t)))
   (hb : (!(Builtin.Str.occurrences y ch 0 y.length 1).isEmpty) = b) : Tst G σ (.Compare (.Name (Str.ofString "nextchar") p1) [.In] [(PySem.Expr.Name (Str.ofString "self") p2).Attribute attr p3] p4) b := fun h tk Q o k => by
  have o9 := o
  obtain ⟨m, tp, v14, v16, vs, F, N, hs, hq, hc, hu⟩ := o
  obtain ⟨t, ht⟩ := hc _ hn
  obtain ⟨t2, h2⟩ := hl ⟨σ.pos, tp, v14, v16, svV σ.sv vs, σ.ln, σ.tok⟩
  refine wpAny_isTrue_Compare1 (nameX_L F ht (ld_self F N g.X hs hg ha h2 rfl rfl g.k1 fun _ => in_str ?_) rfl g.k3)
  rw [hb]
  exact wpAny_truthy_bool (k _ _ o9)
theorem Tst.stIn (g : G.Good) (hn : σ.sv = some ch) (hg : plainGet (Mine.hd.heap_1 G.w.params) 884 attr = true) (ha : findIn (Mine.hd.heap_1 G.w.params) (.ref 884) attr = some none) (hl : ∀ c, ∃ t, getL attr (lexE G.w G.κ G.ρ c) = some (some (.str y t)))
   (hb : (!(Builtin.Str.occurrences y ch 0 y.length 1).isEmpty) = b) : Tst G σ (.Compare ((PySem.Expr.Name (Str.ofString "self") p1).Attribute (Str.ofString "state") p5) [.In] [(PySem.Expr.Name (Str.ofString "self") p2).Attribute attr p3] p4) b := fun h tk Q o k => by
  have o9 := o
  obtain ⟨m, tp, v14, v16, vs, F, N, hs, hq, hc, hu⟩ := o
  obtain ⟨t2, h2⟩ := hl ⟨σ.pos, tp, v14, v16, svV σ.sv vs, σ.ln, σ.tok⟩
  have X₀ := g.X
  rw [hn] at N h2
  revert X₀; k_fill; intro X₀
  refine wpAny_isTrue_Compare1 (ld_self (v := .str ch vs) F N X₀ hs (by k_is) (by k_is) (by rfl) rfl rfl g.k1 fun _ => ld_self F N X₀ hs hg ha h2 rfl rfl g.k1 fun _ => in_str ?_)
  rw [hb]
  exact wpAny_truthy_bool (k _ _ o9)
theorem Tst.stEq (g : G.Good) (hn : σ.sv = some ch) (hb : (ch == y) = b) {k : Nat} : Tst G σ (.Compare ((PySem.Expr.Name (Str.ofString "self") p1).Attribute (Str.ofString "state") p2) [.Eq] [.Constant (.str y) k p3] p4) b := fun h tk Q o kk => by
  have o9 := o
  obtain ⟨m, tp, v14, v16, vs, F, N, hs, hq, hc, hu⟩ := o
  have X₀ := g.X
  revert X₀; k_fill; intro X₀
  rw [hn] at N
  refine wpAny_isTrue_Compare1 (ld_self (v := .str ch vs) F N X₀ hs (by k_is) (by k_is) (by rfl) rfl rfl g.k1 fun _ => Constant_str (eq_str ?_))
  rw [hb]
  exact wpAny_truthy_bool (kk _ _ o9)
theorem Tst.stNone (g : G.Good) (hn : σ.sv = some ch) {k : Nat} : Tst G σ (.Compare ((PySem.Expr.Name (Str.ofString "self") p1).Attribute (Str.ofString "state") p2) [.Is] [.Constant .none k p3] p4) false := fun h tk Q o kk => by
  have o9 := o
  obtain ⟨m, tp, v14, v16, vs, F, N, hs, hq, hc, hu⟩ := o
  have X₀ := g.X
  revert X₀; k_fill; intro X₀
  rw [hn] at N
  exact wpAny_isTrue_Compare1 (ld_self (v := .str ch vs) F N X₀ hs (by k_is) (by k_is) (by rfl) rfl rfl g.k1 fun _ => wpAny_Constant_none (is_str_none (wpAny_truthy_bool (kk _ _ o9))))
theorem Tst.stNone2 (g : G.Good) (hn : σ.sv = none) {k : Nat} : Tst G σ (.Compare ((PySem.Expr.Name (Str.ofString "self") p1).Attribute (Str.ofString "state") p2) [.Is] [.Constant .none k p3] p4) true := fun h tk Q o kk => by
  have o9 := o
  obtain ⟨m, tp, v14, v16, vs, F, N, hs, hq, hc, hu⟩ := o
  have X₀ := g.X
  revert X₀; k_fill; intro X₀
  rw [hn] at N
  exact wpAny_isTrue_Compare1 (ld_self (v := .none) F N X₀ hs (by k_is) (by k_is) (by rfl) rfl rfl g.k1 fun _ => wpAny_Constant_none (is_none_none (wpAny_truthy_bool (kk _ _ o9))))
theorem Tst.ncSt (g : G.Good) (hn : σ.sv = some y) (hm : σ.nc = some ch) (hb : (ch == y) = b) : Tst G σ (.Compare (.Name (Str.ofString "nextchar") p3) [.Eq] [((PySem.Expr.Name (Str.ofString "self") p1).Attribute (Str.ofString "state") p2)] p4) b := fun h tk Q o kk => by
  have o9 := o
  obtain ⟨m, tp, v14, v16, vs, F, N, hs, hq, hc, hu⟩ := o
  have X₀ := g.X
  revert X₀; k_fill; intro X₀
  obtain ⟨t, ht⟩ := hc _ hm
  rw [hn] at N
  refine wpAny_isTrue_Compare1 (nameX_L F ht (ld_self (v := .str y vs) F N X₀ hs (by k_is) (by k_is) (by rfl) rfl rfl g.k1 fun _ => eq_str ?_) rfl g.k3)
  rw [hb]
  exact wpAny_truthy_bool (kk _ _ o9)
theorem Tst.tok (g : G.Good) (hl : σ.tok.length ≤ 16777216) (hb : ((σ.tok.length : Int) != 0) = b) : Tst G σ ((PySem.Expr.Name (Str.ofString "self") p1).Attribute (Str.ofString "token") p2) b := fun h tk Q o kk => by
  have o9 := o
  obtain ⟨m, tp, v14, v16, vs, F, N, hs, hq, hc, hu⟩ := o
  have X₀ := g.X
  revert X₀; k_fill; intro X₀
  exact isTrue_plain (ld_self (v := .str σ.tok v16) F N X₀ hs (by k_is) (by k_is) (by rfl) rfl rfl g.k1 fun _ => KXt.truthy hb hl fun _ => kk _ _ o9)
theorem Tst.dbg (g : G.Good) {n : Int} (hb : decide (n ≤ 0) = b) {k : Nat} : Tst G σ (.Compare ((PySem.Expr.Name (Str.ofString "self") p1).Attribute (Str.ofString "debug") p2) [.GtE] [.Constant (.int n) k p3] p4) b := fun h tk Q o kk => by
  have o9 := o
  obtain ⟨m, tp, v14, v16, vs, F, N, hs, hq, hc, hu⟩ := o
  have X₀ := g.X
  revert X₀; k_fill; intro X₀
  refine wpAny_isTrue_Compare1 (ld_self (v := .int 0 (G.κ 26)) F N X₀ hs (by k_is) (by k_is) (by rfl) rfl rfl g.k1 fun _ => wpAny_Constant_int (ge_int ?_))
  rw [hb]
  exact wpAny_truthy_bool (kk _ _ o9)
theorem Tst.stTup (g : G.Good) (hn : σ.sv = some ch) {z1 z2 : Str} {k1 k2 k3 : Nat} (hb : ([z1, z2].any fun z => z == ch) = b) : Tst G σ (.Compare ((PySem.Expr.Name (Str.ofString "self") p1).Attribute (Str.ofString "state") p2) [.In] [.Tuple [.Constant (.str z1) k1 p3, .Constant (.str z2) k2 p4] k3 p5] p6) b := fun h tk Q o kk => by
  have o9 := o
  obtain ⟨m, tp, v14, v16, vs, F, N, hs, hq, hc, hu⟩ := o
  have X₀ := g.X
  revert X₀; k_fill; intro X₀
  rw [hn] at N
  refine wpAny_isTrue_Compare1 (ld_self (v := .str ch vs) F N X₀ hs (by k_is) (by k_is) (by rfl) rfl rfl g.k1 fun _ => Tuple_ (args_cons (Constant_str (args_cons (Constant_str (args_nil (kup_newTuple F N (fun D h' F' N' l1 => ?_) (by show (2 : Nat) ≤ sizeLine; decide))))))))
  refine in_tuple_strs (News.isTup N' (.head _)) (.cons _ _ (.cons _ _ .nil)) ?_
  rw [hb]
  refine wpAny_truthy_bool (kk _ _ ⟨m, tp, v14, v16, vs, F', ?_, hs, hq, hc, hu⟩)
  rw [hn]
  exact fun p hp => N' p (.tail _ hp)
theorem Run.st (g : G.Good) {k : Nat} : Run G σ (.Assign [((PySem.Expr.Name (Str.ofString "self") p1).Attribute (Str.ofString "state") p2)] (.Constant (.str y) k p3) p4) .next { σ with sv := some y } := fun h tk Q o kk => by
  have o9 := o
  obtain ⟨m, tp, v14, v16, vs, F, N, hs, hq, hc, hu⟩ := o
  have X₀ := g.X
  revert X₀; k_fill; intro X₀
  exact plainObj_wpAny_Assign_Attribute (Constant_str (nameX_L F hs (st_self (v := .str y _) (c' := ⟨σ.pos, tp, v14, v16, .str y _, σ.ln, σ.tok⟩) g.r F N X₀ (by k_is) (by rfl) (fun _ => by rfl) rfl rfl fun h' tk F' N' => kk _ _ ⟨m, tp, v14, v16, _, F', N', hs, hq, hc, hu⟩) rfl g.k1))
theorem Run.stN (g : G.Good) {k : Nat} : Run G σ (.Assign [((PySem.Expr.Name (Str.ofString "self") p1).Attribute (Str.ofString "state") p2)] (.Constant .none k p3) p4) .next { σ with sv := none } := fun h tk Q o kk => by
  have o9 := o
  obtain ⟨m, tp, v14, v16, vs, F, N, hs, hq, hc, hu⟩ := o
  have X₀ := g.X
  revert X₀; k_fill; intro X₀
  exact plainObj_wpAny_Assign_Attribute (wpAny_Constant_none (nameX_L F hs (st_self (v := .none) (c' := ⟨σ.pos, tp, v14, v16, .none, σ.ln, σ.tok⟩) g.r F N X₀ (by k_is) (by rfl) (fun _ => by rfl) rfl rfl fun h' tk F' N' => kk _ _ ⟨m, tp, v14, v16, 0, F', N', hs, hq, hc, hu⟩) rfl g.k1))
theorem Run.stC (g : G.Good) (hm : σ.nc = some ch) : Run G σ (.Assign [((PySem.Expr.Name (Str.ofString "self") p1).Attribute (Str.ofString "state") p2)] (.Name (Str.ofString "nextchar") p3) p4) .next { σ with sv := some ch } := fun h tk Q o kk => by
  have o9 := o
  obtain ⟨m, tp, v14, v16, vs, F, N, hs, hq, hc, hu⟩ := o
  have X₀ := g.X
  revert X₀; k_fill; intro X₀
  obtain ⟨t, ht⟩ := hc _ hm
  exact plainObj_wpAny_Assign_Attribute (nameX_L F ht (nameX_L F hs (st_self (v := .str ch t) (c' := ⟨σ.pos, tp, v14, v16, .str ch t, σ.ln, σ.tok⟩) g.r F N X₀ (by k_is) (by rfl) (fun _ => by rfl) rfl rfl fun h' tk F' N' => kk _ _ ⟨m, tp, v14, v16, t, F', N', hs, hq, hc, hu⟩) rfl g.k1) rfl g.k3)
theorem Run.tok (g : G.Good) {k : Nat} : Run G σ (.Assign [((PySem.Expr.Name (Str.ofString "self") p1).Attribute (Str.ofString "token") p2)] (.Constant (.str y) k p3) p4) .next { σ with tok := y } := fun h tk Q o kk => by
  have o9 := o
  obtain ⟨m, tp, v14, v16, vs, F, N, hs, hq, hc, hu⟩ := o
  have X₀ := g.X
  revert X₀; k_fill; intro X₀
  exact plainObj_wpAny_Assign_Attribute (Constant_str (nameX_L F hs (st_self (v := .str y _) (c' := ⟨σ.pos, tp, v14, _, svV σ.sv vs, σ.ln, y⟩) g.r F N X₀ (by k_is) (by rfl) (fun _ => by rfl) rfl rfl fun h' tk F' N' => kk _ _ ⟨m, tp, v14, _, vs, F', N', hs, hq, hc, hu⟩) rfl g.k1))
theorem Run.tokC (g : G.Good) (hm : σ.nc = some ch) : Run G σ (.Assign [((PySem.Expr.Name (Str.ofString "self") p1).Attribute (Str.ofString "token") p2)] (.Name (Str.ofString "nextchar") p3) p4) .next { σ with tok := ch } := fun h tk Q o kk => by
  have o9 := o
  obtain ⟨m, tp, v14, v16, vs, F, N, hs, hq, hc, hu⟩ := o
  have X₀ := g.X
  revert X₀; k_fill; intro X₀
  obtain ⟨t, ht⟩ := hc _ hm
  exact plainObj_wpAny_Assign_Attribute (nameX_L F ht (nameX_L F hs (st_self (v := .str ch t) (c' := ⟨σ.pos, tp, v14, t, svV σ.sv vs, σ.ln, ch⟩) g.r F N X₀ (by k_is) (by rfl) (fun _ => by rfl) rfl rfl fun h' tk F' N' => kk _ _ ⟨m, tp, v14, t, vs, F', N', hs, hq, hc, hu⟩) rfl g.k1) rfl g.k3)
theorem Run.tokAdd (g : G.Good) (hm : σ.nc = some ch) (hz : σ.tok.length + ch.length ≤ sizeLine) : Run G σ (.AugAssign ((PySem.Expr.Name (Str.ofString "self") p1).Attribute (Str.ofString "token") p2) .Add (.Name (Str.ofString "nextchar") p3) p4) .next { σ with tok := σ.tok ++ ch } := fun h tk Q o kk => by
  have o9 := o
  obtain ⟨m, tp, v14, v16, vs, F, N, hs, hq, hc, hu⟩ := o
  have X₀ := g.X
  revert X₀; k_fill; intro X₀
  obtain ⟨t, ht⟩ := hc _ hm
  exact wpAny_AugAssign_AttributeAny (nameX_L F hs (ga_self (v := .str σ.tok v16) F N X₀ (by k_is) (by k_is) (by rfl) rfl fun _ => nameX_L F ht (SBL.iadd (fun t' k' _ => st_self (v := .str (σ.tok ++ ch) t') (c' := ⟨σ.pos, tp, v14, t', svV σ.sv vs, σ.ln, σ.tok ++ ch⟩) g.r F N X₀ (by k_is) (by rfl) (fun _ => by rfl) rfl rfl fun h' tk F' N' => kk _ _ ⟨m, tp, v14, t', vs, F', N', hs, hq, hc, hu⟩) hz) rfl g.k3) rfl g.k1)
theorem Run.line (g : G.Good) {n : Int} {k : Nat} : Run G σ (.AugAssign ((PySem.Expr.Name (Str.ofString "self") p1).Attribute (Str.ofString "lineno") p2) .Add (.Constant (.int n) k p3) p4) .next { σ with ln := σ.ln + n } := fun h tk Q o kk => by
  have o9 := o
  obtain ⟨m, tp, v14, v16, vs, F, N, hs, hq, hc, hu⟩ := o
  have X₀ := g.X
  revert X₀; k_fill; intro X₀
  exact wpAny_AugAssign_AttributeAny (nameX_L F hs (ga_self (v := .int σ.ln v14) F N X₀ (by k_is) (by k_is) (by rfl) rfl fun _ => wpAny_Constant_int (iadd_int (st_self (v := .int (σ.ln + n) _) (c' := ⟨σ.pos, tp, _, v16, svV σ.sv vs, σ.ln + n, σ.tok⟩) g.r F N X₀ (by k_is) (by rfl) (fun _ => by rfl) rfl rfl fun h' tk F' N' => kk _ _ ⟨m, tp, _, v16, vs, F', N', hs, hq, hc, hu⟩))) rfl g.k1)
theorem Tst.ncEq (g : G.Good) (hm : σ.nc = some ch) {k : Nat} (hb : (ch == y) = b) : Tst G σ (.Compare (.Name (Str.ofString "nextchar") p1) [.Eq] [.Constant (.str y) k p2] p3) b := fun h tk Q o kk => by
  have o9 := o
  obtain ⟨m, tp, v14, v16, vs, F, N, hs, hq, hc, hu⟩ := o
  obtain ⟨t, ht⟩ := hc _ hm
  refine wpAny_isTrue_Compare1 (nameX_L F ht (Constant_str (eq_str ?_)) rfl g.k3)
  rw [hb]
  exact wpAny_truthy_bool (kk _ _ o9)
theorem Run.quoted (g : G.Good) {k : Nat} : Run G σ (.Assign [.Name (Str.ofString "quoted") p1] (.Constant (.bool b) k p2) p3) .next { σ with q := b } := fun h tk Q o kk => by
  obtain ⟨m, tp, v14, v16, vs, F, N, hs, hq, hc, hu⟩ := o
  refine wpAny_Assign_Name (wpAny_Constant_bool (storeX_L F N (fun h' F' N' => kk _ _ ⟨_, tp, v14, v16, vs, F', N', ?_, ?_, ?_, ?_⟩) rfl g.k2))
  · exact (if_neg (by decide)).trans hs
  · exact if_pos rfl
  · intro y e
    obtain ⟨t, ht⟩ := hc y e
    exact ⟨t, (if_neg (by decide)).trans ht⟩
  · intro z z1 z2 z3
    exact (if_neg z2).trans (hu z z1 z2 z3)
end

end Mine
end
section
namespace Mine
theorem rd_end {x : Str} {pos : Nat} (hp : pos ≤ x.length) (hd : x.cps.toList.drop pos = []) : rdCh x (pos : Int) = Str.ofString "" ∧ rdPos x (pos : Int) = (pos : Int) := by
  have : x.cps.toList.length ≤ pos := List.drop_eq_nil_iff.mp hd
  rw [Array.length_toList] at this
  exact rd_1 (by show ((x.cps.size : Nat) : Int) ≤ _; omega)
theorem rd_sign {x : Str} {pos c : Nat} {r : List Nat} (hd : x.cps.toList.drop pos = c :: r) : rdCh x (pos : Int) = ⟨#[c]⟩ ∧ rdPos x (pos : Int) = ((pos + 1 : Nat) : Int) ∧ pos + 1 ≤ x.length ∧ x.cps.toList.drop (pos + 1) = r := by
  have hlt : pos < x.cps.toList.length := by
    rcases Nat.lt_or_ge pos x.cps.toList.length with h | h
    · exact h
    · rw [List.drop_eq_nil_iff.mpr h] at hd; cases hd
  have hlt' : pos < x.length := by rw [Array.length_toList] at hlt; exact hlt
  have hc : x.cps.getD pos 0 = c ∧ x.cps.toList.drop (pos + 1) = r := by
    rw [List.drop_eq_getElem_cons hlt] at hd
    obtain ⟨e1, e2⟩ := List.cons.inj hd
    refine ⟨?_, e2⟩
    rw [← e1, Array.getElem_toList]
    simp only [Array.getD]
    exact dif_pos hlt'
  have one := beq_iff_eq.mp (slice_one_closes (x := x) (n := (pos : Int)) (by omega) (by omega))
  rw [Int.toNat_natCast, hc.1] at one
  have cut : Txt.slice ((⟨#[c]⟩ : Str) ++ Str.ofString " ") none (some (-1)) = ⟨#[c]⟩ := by
    have := beq_iff_eq.mp (slice_closes_to_neg (x := (⟨#[c]⟩ : Str) ++ Str.ofString " ") (j := -1) (k := 1) (by decide) (by show -((2 : Nat) : Int) ≤ -1; decide) (by show (1 : Int) = -1 + ((2 : Nat) : Int); decide))
    rw [this]; rfl
  have h0 : ¬ (x.length : Int) ≤ (pos : Int) := by omega
  by_cases h2 : (pos : Int) + 1 < (x.length : Int)
  · obtain ⟨a, b⟩ := rd_2 h0 h2
    rw [one, cut] at a
    exact ⟨a, by rw [b]; rfl, hlt', hc.2⟩
  · obtain ⟨a, b⟩ := rd_3 h0 h2
    have e : (x.length : Int) = (pos : Int) + 1 := by omega
    rw [e, one, cut] at a
    exact ⟨a, by rw [b, e]; rfl, hlt', hc.2⟩
theorem read_use {w : World} {j e : Addr} {x ch : Str} {pos pos' : Int} {k1 k2 k3 tn t tp0 u : Tok} (hc : rdCh x pos = ch) (hp : rdPos x pos = pos') (h0 : 0 ≤ pos) (h1 : pos ≤ x.length) (hx : x.length ≤ 1000) (hej : @LT.lt Nat _ e j)
   {p : Program} {loose : List Str} {mean : ExcName → Option Value} {mg mb : Str → Option Value} {dp un : Nat} {gd : Option (List Code)} {cn : Str} {sn : List (Str × NameKind)} {sg sc : Bool} {sm : List (Str × Const)} {a : Addr} {ccd : Value} {cl : List (Str × Addr)} {outer : List Env}
    {A₀ : Around} {base h₀ : Heap} {L : Addr} {m : Str → Option Value} {news : List (Addr × Obj)} {news' : Tok → List (Addr × Obj)} {s : Shared} {Q E : Value → Shared → Prop}
    (B : Below A₀ base outer h₀) (F : Fr h₀ L s.heap m) (X : (Mine.hd.heap_1 w.params).In h₀) (N : News h₀ L s.heap news) (T : Top p loose mean mg mb h₀) (hj : (j, instObj 749 e) ∈ news) (U : ∀ tp, Upd e (sioD w k1 k2 k3 tn t x pos tp0) (sioD w k1 k2 k3 tn t x pos' tp) news (news' tp)) (hd : dp + 5 < recursionLimit) (hu : un + 8 * 5 < cLine)
    (h : ∀ tc tp h' tk', Fr h₀ L h' m → News h₀ L h' (news' tp) → Q (.str ch tc) { s with heap := h', toks := tk' }) :
    wpAny (model PySem.Challenge.rw_ik0089_01.prog w) (ktrTop dp un gd cn ⟨.function, sn, sg, sc, sm⟩ L a ccd cl outer) (call (.ref 695) [.ref j, .int 1 u] []) Q E s :=
  CtM.use1 (V := fun tc => .str ch tc) (oe' := fun tp => sioD w k1 k2 k3 tn t x pos' tp) (ct_readC j e x ch pos pos' k1 k2 k3 tn t tp0 u hej h0 h1 hx hc hp) (fun _ _ h => h) B F X N T hj U hd hu h
local macro_rules | `(tactic| walk_at "call ref") => `(tactic| (k_dflt (refine read_use (by with_reducible assumption) (by with_reducible assumption) (by omega) (by omega) (by with_reducible assumption) (by with_reducible assumption) (by k_asm) (by k_asm) (by k_asm) (by k_asm) (by k_asm) (by k_mem) (by (intro tp; k_upd)) (by ktr_room) (by ktr_units) ?_; intros; (try k_sweep); (try k_fold))))
section
variable {G : RtG} {σ : RtV} {p1 p2 p3 p4 p5 p6 p7 p8 p9 : Pos} {ch y : Str}
theorem ld_punct (g : G.Good) {h : Heap} {tk : Nat} {Q : Value → Shared → Prop} (o : RtOk G σ h) (kk : ∀ h' tk' u, RtOk G σ h' → Q (.str (Str.ofString "") u) (G.st h' tk')) :
    wpAny (model PySem.Challenge.rw_ik0089_01.prog G.w) G.A (eval ((PySem.Expr.Name (Str.ofString "self") p1).Attribute (Str.ofString "punctuation_chars") p2) G.env) Q G.E (G.st h tk) := by
  obtain ⟨m, tp, v14, v16, vs, F, N, hs, hq, hc, hu⟩ := o
  obtain ⟨⟨a1, a2, a3, a4, a5, a6, a7, a8, a9⟩, B, X₀, T, hd, hu9, hx, k1, k2, k3⟩ := g
  revert X₀; k_fill; intro X₀
  refine Attribute_Name_ (nameX_L F hs ?_ rfl k1)
  unfold rtMs lexE at N
  dsimp only [RtG.st]
  k_steps
  rename News _ _ _ _ => N9
  exact kk _ _ _ ⟨m, tp, v14, v16, vs, by k_asm, N9, hs, hq, hc, hu⟩
theorem Run.read (g : G.Good) {k : Nat} {pos' : Nat} {pl : Sem Bool} (hc9 : rdCh G.x (σ.pos : Int) = ch) (hp : rdPos G.x (σ.pos : Int) = (pos' : Int)) (hle : σ.pos ≤ G.x.length)
    (he : eval (.Call (.Attribute ((PySem.Expr.Name (Str.ofString "self") p2).Attribute (Str.ofString "instream") p3) (Str.ofString "read") p4) [.Constant (.int 1) k p5] [] p6) G.env = (do
      let ov ← eval ((PySem.Expr.Name (Str.ofString "self") p2).Attribute (Str.ofString "instream") p3) G.env
      standAt p4.atName
      let (f, first) ← holding [ov] (getMethod ov (Str.ofString "read") pl)
      callWith p6 f first (backTo p6 (starEach [.Constant (.int 1) k p5] G.env)) []))
    (hsw : swapsWith (.Call (.Attribute ((PySem.Expr.Name (Str.ofString "self") p2).Attribute (Str.ofString "instream") p3) (Str.ofString "read") p4) [.Constant (.int 1) k p5] [] p6) (some (.Name (Str.ofString "nextchar") p1)) p7.line G.env = pure false) :
    Run G σ (.Assign [.Name (Str.ofString "nextchar") p1] (.Call (.Attribute ((PySem.Expr.Name (Str.ofString "self") p2).Attribute (Str.ofString "instream") p3) (Str.ofString "read") p4) [.Constant (.int 1) k p5] [] p6) p7) .next { σ with pos := pos', nc := some ch } := fun h tk Q o kk => by
  obtain ⟨m, tp, v14, v16, vs, F, N, hs, hq, hc, hu⟩ := o
  obtain ⟨⟨a1, a2, a3, a4, a5, a6, a7, a8, a9⟩, B, X₀, T, hd, hu9, hx, k1, k2, k3⟩ := g
  revert X₀; k_fill; intro X₀
  refine wpAny_Assign_Name (MethodCall_ (ld_self (v := .ref (G.ρ 2)) F N X₀ hs (by k_is) (by k_is) (by rfl) rfl rfl k1 fun _ => ?_) he) hsw
  unfold rtMs lexE at N
  dsimp only [RtG.st]
  k_steps
  rename News _ _ _ _ => N9
  rename Fr _ _ _ _ => F9
  refine storeX_L F9 N9 (fun h' F' N' => kk _ _ ⟨_, _, v14, v16, vs, F', N', ?_, ?_, ?_, ?_⟩) rfl k3
  · exact (if_neg (by decide)).trans hs
  · exact (if_neg (by decide)).trans hq
  · intro y e
    cases e
    exact ⟨_, if_pos rfl⟩
  · intro z z1 z2 z3
    exact (if_neg z3).trans (hu z z1 z2 z3)
theorem Tst.punct (g : G.Good) : Tst G σ ((PySem.Expr.Name (Str.ofString "self") p1).Attribute (Str.ofString "punctuation_chars") p2) false := fun h tk Q o kk => isTrue_plain (ld_punct g o fun h' tk' u o' => KXt.truthy (b := false) (by decide +kernel) (by decide +kernel) fun _ => kk _ _ o')
theorem Tst.ncPunct (g : G.Good) (hm : σ.nc = some ch) {b : Bool} (hb : (!(Builtin.Str.occurrences (Str.ofString "") ch 0 (Str.ofString "").length 1).isEmpty) = b) : Tst G σ (.Compare (.Name (Str.ofString "nextchar") p3) [.In] [(PySem.Expr.Name (Str.ofString "self") p1).Attribute (Str.ofString "punctuation_chars") p2] p4) b := fun h tk Q o kk => by
  have o9 := o
  obtain ⟨m, tp, v14, v16, vs, F, N, hs, hq, hc, hu⟩ := o
  obtain ⟨t, ht⟩ := hc _ hm
  refine wpAny_isTrue_Compare1 (nameX_L F ht (ld_punct g o9 fun h' tk' u o' => in_str ?_) rfl g.k3)
  rw [hb]
  exact wpAny_truthy_bool (kk _ _ o')
theorem Run.nl (g : G.Good) (hm : σ.nc = some ch) {n : Int} {k k2 : Nat} : Run G σ (.If (.Compare (.Name (Str.ofString "nextchar") p1) [.Eq] [.Constant (.str y) k p2] p3) [.AugAssign ((PySem.Expr.Name (Str.ofString "self") p4).Attribute (Str.ofString "lineno") p5) .Add (.Constant (.int n) k2 p6) p7] [] p8) .next { σ with ln := if (ch == y) = true then σ.ln + n else σ.ln } := by
  cases e : ch == y with
  | true =>
    rw [if_pos rfl]
    exact Run.iteT (Tst.ncEq g hm e) (Runs.cons (Run.line g) Runs.nil)
  | false =>
    rw [if_neg (by decide)]
    exact Run.iteF (Tst.ncEq g hm e) Runs.nil
theorem Runs.go {σ' : RtV} {ts : List Stmt} {f : Flow} {h : Heap} {tk : Nat} {Q : Flow → Shared → Prop} (R : Runs G σ ts f σ') (o : RtOk G σ h) (k : ∀ h' tk', RtOk G σ' h' → Q f (G.st h' tk')) : wpAny (model PySem.Challenge.rw_ik0089_01.prog G.w) G.A (execs ts G.env) Q G.E (G.st h tk) := R h tk Q o k
end

end Mine
end
section
namespace Mine
noncomputable def inC (T ch : Str) : Bool := !(Builtin.Str.occurrences T ch 0 T.length 1).isEmpty
section
variable {G : RtG} {σ σ1 : RtV} {p1 p2 p3 p4 p5 p6 p7 p8 p9 : Pos} {ch y : Str} {b : Bool} {e : PySem.Expr} {f : Flow} {t : Stmt}
theorem Tst.notT (c : Tst G σ e false) : Tst G σ (.UnaryOp .Not e p1) true := Tst.not c
theorem Tst.notF (c : Tst G σ e true) : Tst G σ (.UnaryOp .Not e p1) false := Tst.not c
theorem Runs.oneN (h : Run G σ t .next σ1) : Runs G σ [t] .next σ1 := Runs.cons h Runs.nil
theorem Tst.ws (g : G.Good) (hn : σ.nc = some ch) (hb : inC (Str.ofString " \t\r\n") ch = b) : Tst G σ (.Compare (.Name (Str.ofString "nextchar") p1) [.In] [((PySem.Expr.Name (Str.ofString "self") p2).Attribute (Str.ofString "whitespace") p3)] p4) b := by
  have X₀ := g.X
  revert X₀; unfold Tst; k_fill; intro X₀
  exact Tst.ncIn g hn (by k_is) (by k_is) (fun _ => ⟨_, by rfl⟩) hb
theorem Tst.cm (g : G.Good) (hn : σ.nc = some ch) (hb : inC (Str.ofString "") ch = b) : Tst G σ (.Compare (.Name (Str.ofString "nextchar") p1) [.In] [((PySem.Expr.Name (Str.ofString "self") p2).Attribute (Str.ofString "commenters") p3)] p4) b := by
  have X₀ := g.X
  revert X₀; unfold Tst; k_fill; intro X₀
  exact Tst.ncIn g hn (by k_is) (by k_is) (fun _ => ⟨_, by rfl⟩) hb
theorem Tst.es (g : G.Good) (hn : σ.nc = some ch) (hb : inC (Str.ofString "\\") ch = b) : Tst G σ (.Compare (.Name (Str.ofString "nextchar") p1) [.In] [((PySem.Expr.Name (Str.ofString "self") p2).Attribute (Str.ofString "escape") p3)] p4) b := by
  have X₀ := g.X
  revert X₀; unfold Tst; k_fill; intro X₀
  exact Tst.ncIn g hn (by k_is) (by k_is) (fun _ => ⟨_, by rfl⟩) hb
theorem Tst.wc (g : G.Good) (hn : σ.nc = some ch) (hb : inC wcS ch = b) : Tst G σ (.Compare (.Name (Str.ofString "nextchar") p1) [.In] [((PySem.Expr.Name (Str.ofString "self") p2).Attribute (Str.ofString "wordchars") p3)] p4) b := by
  have X₀ := g.X
  revert X₀; unfold Tst; k_fill; intro X₀
  exact Tst.ncIn g hn (by k_is) (by k_is) (fun _ => ⟨_, by rfl⟩) hb
theorem Tst.qu (g : G.Good) (hn : σ.nc = some ch) (hb : inC (Str.ofString "'\"") ch = b) : Tst G σ (.Compare (.Name (Str.ofString "nextchar") p1) [.In] [((PySem.Expr.Name (Str.ofString "self") p2).Attribute (Str.ofString "quotes") p3)] p4) b := by
  have X₀ := g.X
  revert X₀; unfold Tst; k_fill; intro X₀
  exact Tst.ncIn g hn (by k_is) (by k_is) (fun _ => ⟨_, by rfl⟩) hb
theorem Tst.squ (g : G.Good) (hn : σ.sv = some ch) (hb : inC (Str.ofString "'\"") ch = b) : Tst G σ (.Compare ((PySem.Expr.Name (Str.ofString "self") p1).Attribute (Str.ofString "state") p5) [.In] [((PySem.Expr.Name (Str.ofString "self") p2).Attribute (Str.ofString "quotes") p3)] p4) b := by
  have X₀ := g.X
  revert X₀; unfold Tst; k_fill; intro X₀
  exact Tst.stIn g hn (by k_is) (by k_is) (fun _ => ⟨_, by rfl⟩) hb
theorem Tst.ses (g : G.Good) (hn : σ.sv = some ch) (hb : inC (Str.ofString "\\") ch = b) : Tst G σ (.Compare ((PySem.Expr.Name (Str.ofString "self") p1).Attribute (Str.ofString "state") p5) [.In] [((PySem.Expr.Name (Str.ofString "self") p2).Attribute (Str.ofString "escape") p3)] p4) b := by
  have X₀ := g.X
  revert X₀; unfold Tst; k_fill; intro X₀
  exact Tst.stIn g hn (by k_is) (by k_is) (fun _ => ⟨_, by rfl⟩) hb
theorem Tst.seq (g : G.Good) (hn : σ.sv = some ch) (hb : inC (Str.ofString "\"") ch = b) : Tst G σ (.Compare ((PySem.Expr.Name (Str.ofString "self") p1).Attribute (Str.ofString "state") p5) [.In] [((PySem.Expr.Name (Str.ofString "self") p2).Attribute (Str.ofString "escapedquotes") p3)] p4) b := by
  have X₀ := g.X
  revert X₀; unfold Tst; k_fill; intro X₀
  exact Tst.stIn g hn (by k_is) (by k_is) (fun _ => ⟨_, by rfl⟩) hb
theorem Tst.posix (g : G.Good) : Tst G σ ((PySem.Expr.Name (Str.ofString "self") p1).Attribute (Str.ofString "posix") p2) true := by
  have X₀ := g.X
  revert X₀; unfold Tst; k_fill; intro X₀
  exact Tst.fldB g (by k_is) (by k_is) (fun _ => by rfl)
theorem Tst.wss (g : G.Good) : Tst G σ ((PySem.Expr.Name (Str.ofString "self") p1).Attribute (Str.ofString "whitespace_split") p2) true := by
  have X₀ := g.X
  revert X₀; unfold Tst; k_fill; intro X₀
  exact Tst.fldB g (by k_is) (by k_is) (fun _ => by rfl)
end
theorem safe_lt {c : Nat} (h : safeC c = true) : c < 128 := by
  simp only [safeC, Bool.or_eq_true, Bool.and_eq_true, decide_eq_true_eq, beq_iff_eq] at h
  rcases h with (((((((((((h | h) | h) | h) | h) | h) | h) | h) | h) | h) | h) | h) | h
  all_goals first | exact Nat.lt_of_le_of_lt h.2 (by decide) | (rw [h]; decide)
theorem safe_all : ∀ c, c < 128 → safeC c = true → inC (Str.ofString " \t\r\n") ⟨#[c]⟩ = false ∧ inC (Str.ofString "") ⟨#[c]⟩ = false ∧ inC (Str.ofString "\\") ⟨#[c]⟩ = false ∧ inC (Str.ofString "'\"") ⟨#[c]⟩ = false := by decide +kernel
theorem safe_facts {c : Nat} (h : safeC c = true) : inC (Str.ofString " \t\r\n") ⟨#[c]⟩ = false ∧ inC (Str.ofString "") ⟨#[c]⟩ = false ∧ inC (Str.ofString "\\") ⟨#[c]⟩ = false ∧ inC (Str.ofString "'\"") ⟨#[c]⟩ = false := safe_all c (safe_lt h) h
theorem sgn_len (c : Nat) : ((((⟨#[c]⟩ : Str).length : Nat) : Int) != 0) = true := rfl
theorem cat_tok (tok : List Nat) (c : Nat) : (⟨tok.toArray⟩ : Str) ++ ⟨#[c]⟩ = ⟨(tok ++ [c]).toArray⟩ := by
  show (⟨tok.toArray ++ #[c]⟩ : Str) = _
  simp
theorem sgn_ne {c d : Nat} (h : ¬ c = d) : ((⟨#[c]⟩ : Str) == ⟨#[d]⟩) = false := by
  rw [beq_eq_false_iff_ne]
  intro e
  injection e with e
  exact h (by simpa using e)
theorem str_39 : Str.ofString "'" = (⟨#[39]⟩ : Str) := by kernel_rfl
theorem str_34 : Str.ofString "\"" = (⟨#[34]⟩ : Str) := by kernel_rfl
theorem str_32 : Str.ofString " " = (⟨#[32]⟩ : Str) := by kernel_rfl
theorem str_no : Str.ofString "" = (⟨#[]⟩ : Str) := by kernel_rfl
noncomputable def rtVal (g : List Nat × Bool × Bool × List Nat) (u : Tok) : Value := if g.1 = [] ∧ g.2.1 = false then .none else .str ⟨g.1.toArray⟩ u
section
variable {tk gr : List Nat} {q e : Bool} {u : Tok}
theorem rv1 (h : q = true) : Value.str ⟨tk.toArray⟩ u = rtVal (tk, q, e, gr) u := by
  unfold rtVal
  rw [if_neg]
  rintro ⟨_, b⟩
  dsimp only at b
  rw [h] at b
  cases b
theorem tok_nil (h : ((⟨tk.toArray⟩ : Str) == Str.ofString "") = true) : tk = [] := by
  have := beq_iff_eq.mp h
  rw [show Str.ofString "" = (⟨#[]⟩ : Str) by kernel_rfl] at this
  injection this with e
  exact by simpa using e
theorem tok_len (h : (((⟨tk.toArray⟩ : Str).length : Nat) : Int) = 0) : tk = [] := by
  have h : ((tk.toArray.size : Nat) : Int) = 0 := h
  rw [List.size_toArray] at h
  exact List.length_eq_zero_iff.mp (by omega)
theorem rv2 (h : q = false) (h2 : ((⟨tk.toArray⟩ : Str) == Str.ofString "") = true) : Value.none = rtVal (tk, q, e, gr) u := by unfold rtVal; rw [if_pos ⟨tok_nil h2, h⟩]
theorem rv3 (h2 : ((⟨tk.toArray⟩ : Str) == Str.ofString "") = false) : Value.str ⟨tk.toArray⟩ u = rtVal (tk, q, e, gr) u := by
  unfold rtVal
  rw [if_neg]
  rintro ⟨a, _⟩
  dsimp only at a
  subst a
  revert h2
  decide +kernel
end
noncomputable def RtPost (w : World) (κ : Nat → Tok) (ρ : Nat → Addr) (x : Str) (g : List Nat × Bool × Bool × List Nat) (r : Value) (h' : Heap) : Prop :=
  ∃ (pos : Nat) (tp v14 v16 vs u : Tok) (ln : Int), pos ≤ x.length ∧ x.cps.toList.drop pos = g.2.2.2 ∧ r = rtVal g u ∧ ∀ q ∈ rtMs w κ ρ x ⟨pos, tp, v14, v16, if g.2.2.1 = true then .none else .str (Str.ofString " ") vs, ln, Str.ofString ""⟩, h'.get? q.1 = some q.2
noncomputable def stS : LexSt → Str
  | .sp => Str.ofString " "
  | .wd => Str.ofString "a"
  | .sq => Str.ofString "'"
  | .dq => Str.ofString "\""
/-- how a turn of the loop ends -/
noncomputable def RtOut (x : Str) (pos : Nat) (target : List Nat × Bool × Bool × List Nat) (f : Flow) (σ : RtV) : Prop :=
  (f = .next ∧ ∃ st tok, σ.sv = some (stS st) ∧ σ.tok = ⟨tok.toArray⟩ ∧ σ.pos ≤ x.length ∧ lexRun (x.cps.toList.drop σ.pos) st tok σ.q = some target ∧ tok.length ≤ σ.pos ∧ pos < σ.pos) ∨
  (f = .brk ∧ ∃ tok e r, target = (tok, σ.q, e, r) ∧ σ.tok = ⟨tok.toArray⟩ ∧ tok.length ≤ 1000 ∧ σ.pos ≤ x.length ∧ x.cps.toList.drop σ.pos = r ∧ σ.sv = (if e = true then none else some (Str.ofString " ")))
theorem turn_go {G : RtG} {x : Str} (g : G.Good) {σ : RtV} {ts : List Stmt} {h : Heap} {tk : Nat} {Q : Flow → Shared → Prop} {Out : Flow → RtV → Prop} (o : RtOk G σ h) (hx : G.x = x) (k : ∀ f σ' h' tk', Out f σ' → RtOk G σ' h' → Q f (G.st h' tk'))
    (R : ∀ G : RtG, G.Good → G.x = x → ∃ f σ', Runs G σ ts f σ' ∧ Out f σ') : wpAny (model PySem.Challenge.rw_ik0089_01.prog G.w) G.A (execs ts G.env) Q G.E (G.st h tk) := by
  obtain ⟨f, σ', r, q⟩ := R G g hx
  exact r h tk Q o fun h' tk' o' => k f σ' h' tk' q o'
noncomputable def RtRun (x : Str) (target : List Nat × Bool × Bool × List Nat) (pos : Nat) (st : Option LexSt) (tok : List Nat) (q : Bool) : Prop :=
  match st with
  | some st => lexRun (x.cps.toList.drop pos) st tok q = some target
  | none => x.cps.toList.drop pos = [] ∧ target = ([], q, true, [])
structure RtS where
  pos : Nat
  st : Option LexSt
  tok : List Nat
  q : Bool
  ln : Int
  tp : Tok
  vs : Tok
  v14 : Tok
  v16 : Tok
noncomputable abbrev RtS.led (w : World) (κ : Nat → Tok) (ρ : Nat → Addr) (x : Str) (c : RtS) : List (Addr × Obj) := rtMs w κ ρ x ⟨c.pos, c.tp, c.v14, c.v16, svV (c.st.map stS) c.vs, c.ln, ⟨c.tok.toArray⟩⟩
noncomputable abbrev RtS.ps (ρ : Nat → Addr) (c : RtS) : List (Str × Value) := [(Str.ofString "self", .ref (ρ 0)), (Str.ofString "quoted", .bool c.q)]
noncomputable abbrev RtS.P (x : Str) (target : List Nat × Bool × Bool × List Nat) (c : RtS) : Prop := c.pos ≤ x.length ∧ RtRun x target c.pos c.st c.tok c.q ∧ c.tok.length ≤ c.pos
theorem rt_fr {ρ : Nat → Addr} {u m₀ : Str → Option Value} {c : RtS} {z : Str} (z1 : z ≠ Str.ofString "self") (z2 : z ≠ Str.ofString "quoted") (z3 : z ≠ Str.ofString "nextchar") : kstB (fun z => if [Str.ofString "nextchar"].contains z = true then u z else m₀ z) (c.ps ρ) z = m₀ z := by
  unfold kstB kstB kstB
  rw [if_neg z1, if_neg z2, if_neg]
  simp only [List.contains_cons, List.contains_nil, Bool.or_false, beq_iff_eq]
  exact z3
theorem rt_next {G : RtG} {σ : RtV} {h' : Heap} {tk' : Nat} {c : RtS} {target : List Nat × Bool × Bool × List Nat} {s : Shared} {st : LexSt} {tok : List Nat} (o : RtOk G σ h') (e1 : σ.sv = some (stS st)) (e2 : σ.tok = ⟨tok.toArray⟩) (e3 : σ.pos ≤ G.x.length) (e4 : lexRun (G.x.cps.toList.drop σ.pos) st tok σ.q = some target) (e5 : tok.length ≤ σ.pos) (e6 : c.pos < σ.pos) :
    KswEnd G.h₀ G.L s (RtS.led G.w G.κ G.ρ G.x) (RtS.ps G.ρ) (fun _ => True) [Str.ofString "nextchar"] G.u (RtS.P G.x target) (fun c => G.x.length + 1 - c.pos) c { s with heap := h', toks := tk' } := by
  obtain ⟨m, tp, v14, v16, vs, F, N, hs, hq, hc, hu⟩ := o
  rw [e1, e2] at N
  refine ksw_end ⟨σ.pos, some st, tok, σ.q, σ.ln, tp, vs, v14, v16⟩ F N (fun _ hp => hp) trivial (fun p hp => ?_) (fun z z1 z2 => ?_) ⟨e3, e4, e5⟩ (by show G.x.length + 1 - σ.pos < G.x.length + 1 - c.pos; omega)
  · rcases List.mem_cons.mp hp with rfl | hp
    · exact hs
    · rw [List.mem_singleton.mp hp]; exact hq
  · refine hu z (z1 _ (.head _)) (z1 _ (.tail _ (.head _))) fun e => ?_
    rw [e] at z2
    exact absurd z2 (by decide)

end Mine
end
section
namespace Mine
theorem Tst.quotedT {G : RtG} {σ : RtV} {p1 : Pos} {b : Bool} (g : G.Good) (h : σ.q = b) : Tst G σ (.Name (Str.ofString "quoted") p1) b := h ▸ Tst.quoted g
theorem Tst.ncNotPunct {G : RtG} {σ : RtV} {p1 p2 p3 p4 : Pos} {ch : Str} {b : Bool} (g : G.Good) (hm : σ.nc = some ch) (hb : inC (Str.ofString "") ch = !b) : Tst G σ (.Compare (.Name (Str.ofString "nextchar") p3) [.NotIn] [(PySem.Expr.Name (Str.ofString "self") p1).Attribute (Str.ofString "punctuation_chars") p2] p4) b := fun h tk Q o kk => by
  have o9 := o
  obtain ⟨m, tp, v14, v16, vs, F, N, hs, hq, hc, hu⟩ := o
  obtain ⟨t, ht⟩ := hc _ hm
  refine wpAny_isTrue_Compare1 (nameX_L F ht (ld_punct g o9 fun h' tk' u o' => notIn_str ?_) rfl g.k3)
  unfold inC at hb
  rw [hb, Bool.not_not]
  exact wpAny_truthy_bool (kk _ _ o')
theorem cut_next {M : Model} {A : Around} {t : Sem Flow} {Q : Flow → Shared → Prop} {E : Value → Shared → Prop} {s : Shared} (T : (Flow → Shared → Prop) → Shared → Prop) (a : T Q s) (b : T Q s → wpAny M A t Q E s) : wpAny M A t Q E s := b a
theorem RtPost.of {w : World} {κ : Nat → Tok} {ρ : Nat → Addr} {x : Str} {g : List Nat × Bool × Bool × List Nat} {r : Value} {g0 h' : Heap} {news : List (Addr × Obj)} {pos : Nat} {tp v14 v16 vs u : Tok} {ln : Int} {gk : List Nat} {gq ge : Bool} {gr : List Nat}
   (km : AllMade g0 h' news) (hg : g = (gk, gq, ge, gr)) (hp : pos ≤ x.length) (hd : x.cps.toList.drop pos = gr) (hr : r = rtVal (gk, gq, ge, gr) u) (hm : ∀ q ∈ rtMs w κ ρ x ⟨pos, tp, v14, v16, if ge = true then .none else .str (Str.ofString " ") vs, ln, Str.ofString ""⟩, q ∈ news) : RtPost w κ ρ x g r h' := by
  subst hg
  exact ⟨pos, tp, v14, v16, vs, u, ln, hp, hd, hr, fun q hq => (km q (hm q hq)).1⟩
local macro_rules | `(tactic| walk_at "exec While") => `(tactic| (refine Halt.go ?_))
local macro_rules | `(tactic| walk_at "ite") => `(tactic| first | with_reducible refine ite_tt ?_ | with_reducible refine ite_ff ?_ | with_reducible refine split_not ?_ | (refine ite_isFalse (by with_reducible assumption) ?_) | (refine ite_pos (by with_reducible assumption) ?_) | (refine ite_neg (by with_reducible assumption) ?_) | (k_closed; k_dflt (first | refine ite_pos (by decide) ?_ | refine ite_neg (by decide) ?_)) | (with_reducible refine split_ine ?_ ?_ <;> intro _) | (with_reducible refine split_ieq ?_ ?_ <;> intro _) | (refine split_dec ?_ ?_ <;> intro _) | (refine split_bool ?_ ?_ <;> intros))
local macro_rules | `(tactic| walk_at "exec If") => `(tactic| refine wpAny_If ?_)
local macro_rules | `(tactic| walk_at "eval Name") => `(tactic| k_dflt (refine nameX_L (by k_asm) (by first | with_reducible assumption | rfl | ((repeat refine (if_neg (by decide)).trans ?_); with_reducible assumption)) ?_))
theorem ct_rt {w : World} (κ : Nat → Tok) (ρ : Nat → Addr) (x : Str) (pos : Nat) (tp v14 v16 vs : Tok) (ln : Int) (st : Option LexSt) (target : List Nat × Bool × Bool × List Nat) (hpos : pos ≤ x.length) (hrun : RtRun x target pos st [] false) (r : RhoOk ρ) (hx : x.length ≤ 1000) :
    CtM w 9 852 [.ref (ρ 0)] [] (rtMs w κ ρ x ⟨pos, tp, v14, v16, svV (st.map stS) vs, ln, Str.ofString ""⟩) (RtPost w κ ρ x target) := by
  unfold CtM
  k_fill
  intros
  refine wpAny_call ?_
  refine' code_defM ?k1 ?k2 ?kN ?k3 ?k5 ?kA ?kF ?kK ?k6 ?k7 ?k8 ?k9 ?kB ?_ ?c2 ?c3 ?c4 ?c5
  case kA => exact rfl
  case kF => exact rfl
  case kK => exact rfl
  case k1 => k_asm
  case k2 => k_asm
  case kN => k_asm
  case k3 => k_asm
  case k5 => k_asm
  case k6 => k_is
  case k7 => k_is
  case k8 => k_room
  case k9 => (first | exact BindsTo.of_eq rfl | exact binds_K (by k_in) rfl (by k_is) rfl rfl rfl | (refine' kp_binds ?kx ?ke; (case kx => k_in); (case ke => exact fun _ => rfl)))
  case c5 => decide
  case kB => exact locs rfl
  case c2 => exact rfl
  case c3 => exact rfl
  case c4 => exact rfl
  k_whole
  intro g' L' h' kp' F' N' B' X' T'
  (try dsimp only)
  (try k_fold)
  k_steps
  unfold Halt
  rename Fr _ _ _ _ => F1
  rename News _ _ _ _ => N1
  obtain ⟨m₀, F2, e1, e2⟩ : ∃ m₀, Fr g' L' _ m₀ ∧ m₀ (Str.ofString "self") = some (.ref (ρ 0)) ∧ m₀ (Str.ofString "quoted") = some (.bool false) := ⟨_, F1, rfl, rfl⟩
  clear F1
  refine cut_next (fun Q s => ∀ (pos : Nat) (tok : List Nat) (q e : Bool) (r : List Nat) (ln : Int) (tp v14 v16 vs : Tok) (h : Heap) (tk : Nat) (m : Str → Option Value), target = (tok, q, e, r) → (⟨tok.toArray⟩ : Str).length ≤ 1000 → pos ≤ x.length → x.cps.toList.drop pos = r → Fr g' L' h m →
    News g' L' h (rtMs w κ ρ x ⟨pos, tp, v14, v16, if e = true then .none else .str (Str.ofString " ") vs, ln, ⟨tok.toArray⟩⟩) → m (Str.ofString "self") = some (.ref (ρ 0)) → m (Str.ofString "quoted") = some (.bool q) → Q .next ⟨h, s.gens, s.drawn, tk, s.os⟩) ?tail ?main
  case tail =>
    clear F2 N1 e1 e2
    dsimp only
    intro pos tok q e rr ln tp v14 v16 vs h tk m ht hb1 hp hd F N hs hq
    obtain ⟨a1, a2, a3, a4, a5, a6, a7, a8, a9⟩ := r
    unfold rtMs lexE at N
    k_steps
    --DBG
    all_goals (refine' RetM.go (by assumption) kp' ?e2 (RtPost.of (vs := vs) (by assumption) ht hp hd ?p3 ?p5); (case e2 => assumption); (case p3 => first | exact rv1 (by assumption) | exact rv2 (u := v16) (by assumption) (by assumption) | exact rv3 (by assumption)); (case p5 => (unfold rtMs lexE; kst_in)))
  case main =>
    intro tail
    refine ksw_while (RtS.led w κ ρ x) (RtS.ps ρ) (fun _ => True) [Str.ofString "nextchar"] (RtS.P x target) (fun c => x.length + 1 - c.pos) ⟨pos, st, [], false, ln, tp, vs, v14, v16⟩ F2 N1 trivial (fun p hp => by rcases List.mem_cons.mp hp with rfl | hp; exact e1; rw [List.mem_singleton.mp hp]; exact e2) ⟨hpos, hrun, Nat.zero_le _⟩ ?_ ?_
    · rintro c u h tk _ ⟨hp, hr, hb⟩ FT NT
      refine isTrue_plain (wpAny_Constant_bool (wpAny_truthy_bool ?_))
      rw [if_pos rfl]
      refine turn_go (G := ⟨w, κ, ρ, x, _, _, _, _, _, _, _, _, _, _, _, _, _, _, _, _, _, _, _, _, _, _, _, _, _, m₀⟩) (Out := RtOut x c.pos target) (σ := ⟨c.pos, c.st.map stS, ⟨c.tok.toArray⟩, c.ln, c.q, none⟩) ⟨r, B', X', T', by ktr_room, by ktr_units, hx, rfl, rfl, rfl⟩ ⟨_, c.tp, c.v14, c.v16, c.vs, FT, NT, rfl, rfl, (fun _ e => nomatch e), fun z z1 z2 z3 => rt_fr z1 z2 z3⟩ rfl ?k ?R
      case k =>
        rintro f σ' h' tk' (⟨rfl, st, tok, q1, q2, q3, q4, q5, q6⟩ | ⟨rfl, tok, e, rr, q1, q2, q3, q4, q5, q6⟩) o
        · exact rt_next (c := c) o q1 q2 q3 q4 q5 q6
        · obtain ⟨m, tp, v14, v16, vs, F, N, hs, hq, hc, hu⟩ := o
          rw [q6, q2] at N
          refine tail σ'.pos tok σ'.q e rr σ'.ln tp v14 v16 vs h' tk' m q1 (by show tok.toArray.size ≤ 1000; rw [List.size_toArray]; exact q3) q4 q5 F ?_ hs hq
          cases e <;> exact N
      case R =>
        clear tail F2 N1 FT NT
        intro G g hx9
        obtain ⟨pos, st, tok, q, ln, tp, vs, v14, v16⟩ := c
        dsimp only at hp hr hb ⊢
        have hbl : tok.length ≤ 1000 := by omega
        have hb1 : (⟨tok.toArray⟩ : Str).length ≤ 16777216 := by show tok.toArray.size ≤ _; rw [List.size_toArray]; omega
        have hz : ∀ c, (⟨tok.toArray⟩ : Str).length + (⟨#[c]⟩ : Str).length ≤ sizeLine := fun c => by show tok.toArray.size + 1 ≤ _; rw [List.size_toArray, sizeLine_eq]; omega
        cases st with
        | none =>
          obtain ⟨hd, ht⟩ := hr
          obtain ⟨rc, rp⟩ := rd_end hp hd
          exact ⟨_, _, Runs.cons (Run.iteF (Tst.boolOp (TstL.andF (Tst.punct g))) (Runs.oneN (Run.read g (ch := (Str.ofString "")) (pos' := pos) (by rw [hx9]; exact rc) (by rw [hx9]; exact rp) (by rw [hx9]; exact hp) (by rfl) (by rfl)))) (Runs.cons (Run.nl g rfl) (Runs.cons (Run.iteF (Tst.dbg g (by decide)) Runs.nil) (Runs.brk (Run.iteT (Tst.stNone2 g rfl) (Runs.cons (Run.tok g) (Runs.brk Run.brk)))))), .inr ⟨rfl, [], true, [], ht, str_no, Nat.zero_le _, hp, hd, rfl⟩⟩
        | some st =>
          dsimp only [RtRun] at hr
          cases hd : x.cps.toList.drop pos with
          | nil =>
            obtain ⟨rc, rp⟩ := rd_end hp hd
            rw [hd] at hr
            cases st with
            | sp =>
              unfold lexRun at hr
              exact ⟨_, _, Runs.cons (Run.iteF (Tst.boolOp (TstL.andF (Tst.punct g))) (Runs.oneN (Run.read g (ch := (Str.ofString "")) (pos' := pos) (by rw [hx9]; exact rc) (by rw [hx9]; exact rp) (by rw [hx9]; exact hp) (by rfl) (by rfl)))) (Runs.cons (Run.nl g rfl) (Runs.cons (Run.iteF (Tst.dbg g (by decide)) Runs.nil) (Runs.brk (Run.iteF (Tst.stNone g rfl) (Runs.brk (Run.iteT (Tst.stEq g rfl (by decide +kernel)) (Runs.brk (Run.iteT (Tst.notT (Tst.nc g rfl (by decide +kernel) (by decide +kernel))) (Runs.cons (Run.stN g) (Runs.brk Run.brk)))))))))), .inr ⟨rfl, tok, true, [], (Option.some.inj hr).symm, rfl, hbl, hp, hd, rfl⟩⟩
            | wd =>
              unfold lexRun at hr
              exact ⟨_, _, Runs.cons (Run.iteF (Tst.boolOp (TstL.andF (Tst.punct g))) (Runs.oneN (Run.read g (ch := (Str.ofString "")) (pos' := pos) (by rw [hx9]; exact rc) (by rw [hx9]; exact rp) (by rw [hx9]; exact hp) (by rfl) (by rfl)))) (Runs.cons (Run.nl g rfl) (Runs.cons (Run.iteF (Tst.dbg g (by decide)) Runs.nil) (Runs.brk (Run.iteF (Tst.stNone g rfl) (Runs.brk (Run.iteF (Tst.stEq g rfl (by decide +kernel)) (Runs.brk (Run.iteF (Tst.squ g rfl (by decide +kernel)) (Runs.brk (Run.iteF (Tst.ses g rfl (by decide +kernel)) (Runs.brk (Run.iteT (Tst.stTup g rfl (by decide +kernel)) (Runs.brk (Run.iteT (Tst.notT (Tst.nc g rfl (by decide +kernel) (by decide +kernel))) (Runs.cons (Run.stN g) (Runs.brk Run.brk)))))))))))))))), .inr ⟨rfl, tok, true, [], (Option.some.inj hr).symm, rfl, hbl, hp, hd, rfl⟩⟩
            | sq => unfold lexRun at hr; cases hr
            | dq => unfold lexRun at hr; cases hr
          | cons c r =>
            obtain ⟨rc, rp, hp1, hd1⟩ := rd_sign hd
            rw [hd] at hr
            cases st with
            | sp =>
              unfold lexRun at hr
              by_cases h1 : c = 39
              · rw [if_pos h1] at hr
                subst h1
                rw [← str_39] at rc
                exact ⟨_, _, Runs.cons (Run.iteF (Tst.boolOp (TstL.andF (Tst.punct g))) (Runs.oneN (Run.read g (ch := (Str.ofString "'")) (pos' := pos + 1) (by rw [hx9]; exact rc) (by rw [hx9]; exact rp) (by rw [hx9]; exact hp) (by rfl) (by rfl)))) (Runs.cons (Run.nl g rfl) (Runs.cons (Run.iteF (Tst.dbg g (by decide)) Runs.nil) (Runs.oneN (Run.iteF (Tst.stNone g rfl) (Runs.oneN (Run.iteT (Tst.stEq g rfl (by decide +kernel)) (Runs.oneN (Run.iteF (Tst.notF (Tst.nc g rfl (by decide +kernel) (by decide +kernel))) (Runs.oneN (Run.iteF (Tst.ws g rfl (by decide +kernel)) (Runs.oneN (Run.iteF (Tst.cm g rfl (by decide +kernel)) (Runs.oneN (Run.iteF (Tst.boolOp (TstL.andT (Tst.posix g) (TstL.andF (Tst.es g rfl (by decide +kernel))))) (Runs.oneN (Run.iteF (Tst.wc g rfl (by decide +kernel)) (Runs.oneN (Run.iteF (Tst.ncPunct g rfl (by decide +kernel)) (Runs.oneN (Run.iteT (Tst.qu g rfl (by decide +kernel)) (Runs.cons (Run.iteF (Tst.notF (Tst.posix g)) Runs.nil) (Runs.oneN (Run.stC g rfl))))))))))))))))))))))), .inl ⟨rfl, .sq, tok, rfl, rfl, hp1, (by show lexRun (x.cps.toList.drop (pos + 1)) _ _ _ = _; rw [hd1]; exact hr), (by show _ ≤ pos + 1; omega), Nat.lt_succ_self _⟩⟩
              · rw [if_neg h1] at hr
                by_cases h2 : safeC c = true
                · rw [if_pos h2] at hr
                  obtain ⟨g2, g3, g4, g5⟩ := safe_facts h2
                  cases gw : inC wcS ⟨#[c]⟩ with
                  | true =>
                    exact ⟨_, _, Runs.cons (Run.iteF (Tst.boolOp (TstL.andF (Tst.punct g))) (Runs.oneN (Run.read g (ch := ⟨#[c]⟩) (pos' := pos + 1) (by rw [hx9]; exact rc) (by rw [hx9]; exact rp) (by rw [hx9]; exact hp) (by rfl) (by rfl)))) (Runs.cons (Run.nl g rfl) (Runs.cons (Run.iteF (Tst.dbg g (by decide)) Runs.nil) (Runs.oneN (Run.iteF (Tst.stNone g rfl) (Runs.oneN (Run.iteT (Tst.stEq g rfl (by decide +kernel)) (Runs.oneN (Run.iteF (Tst.notF (Tst.nc g rfl (by show (1 : Nat) ≤ 16777216; decide) (sgn_len _))) (Runs.oneN (Run.iteF (Tst.ws g rfl g2) (Runs.oneN (Run.iteF (Tst.cm g rfl g3) (Runs.oneN (Run.iteF (Tst.boolOp (TstL.andT (Tst.posix g) (TstL.andF (Tst.es g rfl g4)))) (Runs.oneN (Run.iteT (Tst.wc g rfl gw) (Runs.cons (Run.tokC g rfl) (Runs.oneN (Run.st g))))))))))))))))))), .inl ⟨rfl, .wd, [c], rfl, rfl, hp1, (by show lexRun (x.cps.toList.drop (pos + 1)) _ _ _ = _; rw [hd1]; exact hr), (by show (1 : Nat) ≤ pos + 1; omega), Nat.lt_succ_self _⟩⟩
                  | false =>
                    exact ⟨_, _, Runs.cons (Run.iteF (Tst.boolOp (TstL.andF (Tst.punct g))) (Runs.oneN (Run.read g (ch := ⟨#[c]⟩) (pos' := pos + 1) (by rw [hx9]; exact rc) (by rw [hx9]; exact rp) (by rw [hx9]; exact hp) (by rfl) (by rfl)))) (Runs.cons (Run.nl g rfl) (Runs.cons (Run.iteF (Tst.dbg g (by decide)) Runs.nil) (Runs.oneN (Run.iteF (Tst.stNone g rfl) (Runs.oneN (Run.iteT (Tst.stEq g rfl (by decide +kernel)) (Runs.oneN (Run.iteF (Tst.notF (Tst.nc g rfl (by show (1 : Nat) ≤ 16777216; decide) (sgn_len _))) (Runs.oneN (Run.iteF (Tst.ws g rfl g2) (Runs.oneN (Run.iteF (Tst.cm g rfl g3) (Runs.oneN (Run.iteF (Tst.boolOp (TstL.andT (Tst.posix g) (TstL.andF (Tst.es g rfl g4)))) (Runs.oneN (Run.iteF (Tst.wc g rfl gw) (Runs.oneN (Run.iteF (Tst.ncPunct g rfl g3) (Runs.oneN (Run.iteF (Tst.qu g rfl g5) (Runs.oneN (Run.iteT (Tst.wss g) (Runs.cons (Run.tokC g rfl) (Runs.oneN (Run.st g))))))))))))))))))))))))), .inl ⟨rfl, .wd, [c], rfl, rfl, hp1, (by show lexRun (x.cps.toList.drop (pos + 1)) _ _ _ = _; rw [hd1]; exact hr), (by show (1 : Nat) ≤ pos + 1; omega), Nat.lt_succ_self _⟩⟩
                · rw [if_neg h2] at hr; cases hr
            | wd =>
              unfold lexRun at hr
              by_cases h1 : c = 32
              · rw [if_pos h1] at hr
                subst h1
                by_cases hz9 : tok = [] ∧ q = false
                · rw [if_pos hz9] at hr; cases hr
                · rw [if_neg hz9] at hr
                  cases hr
                  cases gt : ((((⟨tok.toArray⟩ : Str).length : Nat) : Int) != 0) with
                  | true =>
                    exact ⟨_, _, Runs.cons (Run.iteF (Tst.boolOp (TstL.andF (Tst.punct g))) (Runs.oneN (Run.read g (ch := ⟨#[32]⟩) (pos' := pos + 1) (by rw [hx9]; exact rc) (by rw [hx9]; exact rp) (by rw [hx9]; exact hp) (by rfl) (by rfl)))) (Runs.cons (Run.nl g rfl) (Runs.cons (Run.iteF (Tst.dbg g (by decide)) Runs.nil) (Runs.brk (Run.iteF (Tst.stNone g rfl) (Runs.brk (Run.iteF (Tst.stEq g rfl (by decide +kernel)) (Runs.brk (Run.iteF (Tst.squ g rfl (by decide +kernel)) (Runs.brk (Run.iteF (Tst.ses g rfl (by decide +kernel)) (Runs.brk (Run.iteT (Tst.stTup g rfl (by decide +kernel)) (Runs.brk (Run.iteF (Tst.notF (Tst.nc g rfl (by decide +kernel) (by decide +kernel))) (Runs.brk (Run.iteT (Tst.ws g rfl (by decide +kernel)) (Runs.cons (Run.iteF (Tst.dbg g (by decide)) Runs.nil) (Runs.cons (Run.st g) (Runs.brk (Run.iteT (Tst.boolOp (TstL.orT (Tst.tok g hb1 gt))) (Runs.brk Run.brk))))))))))))))))))))), .inr ⟨rfl, tok, false, _, rfl, rfl, hbl, hp1, hd1, rfl⟩⟩
                  | false =>
                    have gq : q = true := by
                      cases q with
                      | true => rfl
                      | false => exact absurd ⟨tok_len (by simpa using gt), rfl⟩ hz9
                    exact ⟨_, _, Runs.cons (Run.iteF (Tst.boolOp (TstL.andF (Tst.punct g))) (Runs.oneN (Run.read g (ch := ⟨#[32]⟩) (pos' := pos + 1) (by rw [hx9]; exact rc) (by rw [hx9]; exact rp) (by rw [hx9]; exact hp) (by rfl) (by rfl)))) (Runs.cons (Run.nl g rfl) (Runs.cons (Run.iteF (Tst.dbg g (by decide)) Runs.nil) (Runs.brk (Run.iteF (Tst.stNone g rfl) (Runs.brk (Run.iteF (Tst.stEq g rfl (by decide +kernel)) (Runs.brk (Run.iteF (Tst.squ g rfl (by decide +kernel)) (Runs.brk (Run.iteF (Tst.ses g rfl (by decide +kernel)) (Runs.brk (Run.iteT (Tst.stTup g rfl (by decide +kernel)) (Runs.brk (Run.iteF (Tst.notF (Tst.nc g rfl (by decide +kernel) (by decide +kernel))) (Runs.brk (Run.iteT (Tst.ws g rfl (by decide +kernel)) (Runs.cons (Run.iteF (Tst.dbg g (by decide)) Runs.nil) (Runs.cons (Run.st g) (Runs.brk (Run.iteT (Tst.boolOp (TstL.orF (Tst.tok g hb1 gt) (TstL.orT (Tst.boolOp (TstL.andT (Tst.posix g) (TstL.andT (Tst.quotedT g gq) TstL.andNil)))))) (Runs.brk Run.brk))))))))))))))))))))), .inr ⟨rfl, tok, false, _, rfl, rfl, hbl, hp1, hd1, rfl⟩⟩
              · rw [if_neg h1] at hr
                by_cases h2 : c = 39
                · rw [if_pos h2] at hr
                  subst h2
                  rw [← str_39] at rc
                  exact ⟨_, _, Runs.cons (Run.iteF (Tst.boolOp (TstL.andF (Tst.punct g))) (Runs.oneN (Run.read g (ch := (Str.ofString "'")) (pos' := pos + 1) (by rw [hx9]; exact rc) (by rw [hx9]; exact rp) (by rw [hx9]; exact hp) (by rfl) (by rfl)))) (Runs.cons (Run.nl g rfl) (Runs.cons (Run.iteF (Tst.dbg g (by decide)) Runs.nil) (Runs.oneN (Run.iteF (Tst.stNone g rfl) (Runs.oneN (Run.iteF (Tst.stEq g rfl (by decide +kernel)) (Runs.oneN (Run.iteF (Tst.squ g rfl (by decide +kernel)) (Runs.oneN (Run.iteF (Tst.ses g rfl (by decide +kernel)) (Runs.oneN (Run.iteT (Tst.stTup g rfl (by decide +kernel)) (Runs.oneN (Run.iteF (Tst.notF (Tst.nc g rfl (by decide +kernel) (by decide +kernel))) (Runs.oneN (Run.iteF (Tst.ws g rfl (by decide +kernel)) (Runs.oneN (Run.iteF (Tst.cm g rfl (by decide +kernel)) (Runs.oneN (Run.iteF (Tst.stEq g rfl (by decide +kernel)) (Runs.oneN (Run.iteT (Tst.boolOp (TstL.andT (Tst.posix g) (TstL.andT (Tst.qu g rfl (by decide +kernel)) TstL.andNil))) (Runs.oneN (Run.stC g rfl)))))))))))))))))))))))), .inl ⟨rfl, .sq, tok, rfl, rfl, hp1, (by show lexRun (x.cps.toList.drop (pos + 1)) _ _ _ = _; rw [hd1]; exact hr), (by show _ ≤ pos + 1; omega), Nat.lt_succ_self _⟩⟩
                · rw [if_neg h2] at hr
                  by_cases h3 : c = 34
                  · rw [if_pos h3] at hr
                    subst h3
                    rw [← str_34] at rc
                    exact ⟨_, _, Runs.cons (Run.iteF (Tst.boolOp (TstL.andF (Tst.punct g))) (Runs.oneN (Run.read g (ch := (Str.ofString "\"")) (pos' := pos + 1) (by rw [hx9]; exact rc) (by rw [hx9]; exact rp) (by rw [hx9]; exact hp) (by rfl) (by rfl)))) (Runs.cons (Run.nl g rfl) (Runs.cons (Run.iteF (Tst.dbg g (by decide)) Runs.nil) (Runs.oneN (Run.iteF (Tst.stNone g rfl) (Runs.oneN (Run.iteF (Tst.stEq g rfl (by decide +kernel)) (Runs.oneN (Run.iteF (Tst.squ g rfl (by decide +kernel)) (Runs.oneN (Run.iteF (Tst.ses g rfl (by decide +kernel)) (Runs.oneN (Run.iteT (Tst.stTup g rfl (by decide +kernel)) (Runs.oneN (Run.iteF (Tst.notF (Tst.nc g rfl (by decide +kernel) (by decide +kernel))) (Runs.oneN (Run.iteF (Tst.ws g rfl (by decide +kernel)) (Runs.oneN (Run.iteF (Tst.cm g rfl (by decide +kernel)) (Runs.oneN (Run.iteF (Tst.stEq g rfl (by decide +kernel)) (Runs.oneN (Run.iteT (Tst.boolOp (TstL.andT (Tst.posix g) (TstL.andT (Tst.qu g rfl (by decide +kernel)) TstL.andNil))) (Runs.oneN (Run.stC g rfl)))))))))))))))))))))))), .inl ⟨rfl, .dq, tok, rfl, rfl, hp1, (by show lexRun (x.cps.toList.drop (pos + 1)) _ _ _ = _; rw [hd1]; exact hr), (by show _ ≤ pos + 1; omega), Nat.lt_succ_self _⟩⟩
                  · rw [if_neg h3] at hr
                    by_cases h4 : safeC c = true
                    · rw [if_pos h4] at hr
                      obtain ⟨g2, g3, g4, g5⟩ := safe_facts h4
                      cases gw : inC wcS ⟨#[c]⟩ with
                      | true =>
                        exact ⟨_, _, Runs.cons (Run.iteF (Tst.boolOp (TstL.andF (Tst.punct g))) (Runs.oneN (Run.read g (ch := ⟨#[c]⟩) (pos' := pos + 1) (by rw [hx9]; exact rc) (by rw [hx9]; exact rp) (by rw [hx9]; exact hp) (by rfl) (by rfl)))) (Runs.cons (Run.nl g rfl) (Runs.cons (Run.iteF (Tst.dbg g (by decide)) Runs.nil) (Runs.oneN (Run.iteF (Tst.stNone g rfl) (Runs.oneN (Run.iteF (Tst.stEq g rfl (by decide +kernel)) (Runs.oneN (Run.iteF (Tst.squ g rfl (by decide +kernel)) (Runs.oneN (Run.iteF (Tst.ses g rfl (by decide +kernel)) (Runs.oneN (Run.iteT (Tst.stTup g rfl (by decide +kernel)) (Runs.oneN (Run.iteF (Tst.notF (Tst.nc g rfl (by show (1 : Nat) ≤ 16777216; decide) (sgn_len _))) (Runs.oneN (Run.iteF (Tst.ws g rfl g2) (Runs.oneN (Run.iteF (Tst.cm g rfl g3) (Runs.oneN (Run.iteF (Tst.stEq g rfl (by decide +kernel)) (Runs.oneN (Run.iteF (Tst.boolOp (TstL.andT (Tst.posix g) (TstL.andF (Tst.qu g rfl g5)))) (Runs.oneN (Run.iteF (Tst.boolOp (TstL.andT (Tst.posix g) (TstL.andF (Tst.es g rfl g4)))) (Runs.oneN (Run.iteT (Tst.boolOp (TstL.orT (Tst.wc g rfl gw))) (Runs.oneN (Run.tokAdd g rfl (hz _))))))))))))))))))))))))))))), .inl ⟨rfl, .wd, (tok ++ [c]), rfl, (cat_tok tok _), hp1, (by show lexRun (x.cps.toList.drop (pos + 1)) _ _ _ = _; rw [hd1]; exact hr), (by simp only [List.length_append, List.length_cons, List.length_nil]; omega), Nat.lt_succ_self _⟩⟩
                      | false =>
                        exact ⟨_, _, Runs.cons (Run.iteF (Tst.boolOp (TstL.andF (Tst.punct g))) (Runs.oneN (Run.read g (ch := ⟨#[c]⟩) (pos' := pos + 1) (by rw [hx9]; exact rc) (by rw [hx9]; exact rp) (by rw [hx9]; exact hp) (by rfl) (by rfl)))) (Runs.cons (Run.nl g rfl) (Runs.cons (Run.iteF (Tst.dbg g (by decide)) Runs.nil) (Runs.oneN (Run.iteF (Tst.stNone g rfl) (Runs.oneN (Run.iteF (Tst.stEq g rfl (by decide +kernel)) (Runs.oneN (Run.iteF (Tst.squ g rfl (by decide +kernel)) (Runs.oneN (Run.iteF (Tst.ses g rfl (by decide +kernel)) (Runs.oneN (Run.iteT (Tst.stTup g rfl (by decide +kernel)) (Runs.oneN (Run.iteF (Tst.notF (Tst.nc g rfl (by show (1 : Nat) ≤ 16777216; decide) (sgn_len _))) (Runs.oneN (Run.iteF (Tst.ws g rfl g2) (Runs.oneN (Run.iteF (Tst.cm g rfl g3) (Runs.oneN (Run.iteF (Tst.stEq g rfl (by decide +kernel)) (Runs.oneN (Run.iteF (Tst.boolOp (TstL.andT (Tst.posix g) (TstL.andF (Tst.qu g rfl g5)))) (Runs.oneN (Run.iteF (Tst.boolOp (TstL.andT (Tst.posix g) (TstL.andF (Tst.es g rfl g4)))) (Runs.oneN (Run.iteT (Tst.boolOp (TstL.orF (Tst.wc g rfl gw) (TstL.orF (Tst.qu g rfl g5) (TstL.orT (Tst.boolOp (TstL.andT (Tst.wss g) (TstL.andT (Tst.ncNotPunct g rfl g3) TstL.andNil))))))) (Runs.oneN (Run.tokAdd g rfl (hz _))))))))))))))))))))))))))))), .inl ⟨rfl, .wd, (tok ++ [c]), rfl, (cat_tok tok _), hp1, (by show lexRun (x.cps.toList.drop (pos + 1)) _ _ _ = _; rw [hd1]; exact hr), (by simp only [List.length_append, List.length_cons, List.length_nil]; omega), Nat.lt_succ_self _⟩⟩
                    · rw [if_neg h4] at hr; cases hr
            | sq =>
              unfold lexRun at hr
              by_cases h1 : c = 39
              · rw [if_pos h1] at hr
                subst h1
                exact ⟨_, _, Runs.cons (Run.iteF (Tst.boolOp (TstL.andF (Tst.punct g))) (Runs.oneN (Run.read g (ch := ⟨#[39]⟩) (pos' := pos + 1) (by rw [hx9]; exact rc) (by rw [hx9]; exact rp) (by rw [hx9]; exact hp) (by rfl) (by rfl)))) (Runs.cons (Run.nl g rfl) (Runs.cons (Run.iteF (Tst.dbg g (by decide)) Runs.nil) (Runs.oneN (Run.iteF (Tst.stNone g rfl) (Runs.oneN (Run.iteF (Tst.stEq g rfl (by decide +kernel)) (Runs.oneN (Run.iteT (Tst.squ g rfl (by decide +kernel)) (Runs.cons (Run.quoted g) (Runs.cons (Run.iteF (Tst.notF (Tst.nc g rfl (by show (1 : Nat) ≤ 16777216; decide) (sgn_len _))) Runs.nil) (Runs.oneN (Run.iteT (Tst.ncSt g rfl rfl (by decide +kernel)) (Runs.oneN (Run.iteF (Tst.notF (Tst.posix g)) (Runs.oneN (Run.st g)))))))))))))))), .inl ⟨rfl, .wd, tok, rfl, rfl, hp1, (by show lexRun (x.cps.toList.drop (pos + 1)) _ _ _ = _; rw [hd1]; exact hr), (by show _ ≤ pos + 1; omega), Nat.lt_succ_self _⟩⟩
              · rw [if_neg h1] at hr
                cases ge : inC (Str.ofString "\\") ⟨#[c]⟩ with
                | true =>
                  exact ⟨_, _, Runs.cons (Run.iteF (Tst.boolOp (TstL.andF (Tst.punct g))) (Runs.oneN (Run.read g (ch := ⟨#[c]⟩) (pos' := pos + 1) (by rw [hx9]; exact rc) (by rw [hx9]; exact rp) (by rw [hx9]; exact hp) (by rfl) (by rfl)))) (Runs.cons (Run.nl g rfl) (Runs.cons (Run.iteF (Tst.dbg g (by decide)) Runs.nil) (Runs.oneN (Run.iteF (Tst.stNone g rfl) (Runs.oneN (Run.iteF (Tst.stEq g rfl (by decide +kernel)) (Runs.oneN (Run.iteT (Tst.squ g rfl (by decide +kernel)) (Runs.cons (Run.quoted g) (Runs.cons (Run.iteF (Tst.notF (Tst.nc g rfl (by show (1 : Nat) ≤ 16777216; decide) (sgn_len _))) Runs.nil) (Runs.oneN (Run.iteF (Tst.ncSt g rfl rfl (by show ((⟨#[c]⟩ : Str) == Str.ofString "'") = false; rw [str_39]; exact sgn_ne h1)) (Runs.oneN (Run.iteF (Tst.boolOp (TstL.andT (Tst.posix g) (TstL.andT (Tst.es g rfl ge) (TstL.andF (Tst.seq g rfl (by decide +kernel)))))) (Runs.oneN (Run.tokAdd g rfl (hz _))))))))))))))))), .inl ⟨rfl, .sq, (tok ++ [c]), rfl, (cat_tok tok _), hp1, (by show lexRun (x.cps.toList.drop (pos + 1)) _ _ _ = _; rw [hd1]; exact hr), (by simp only [List.length_append, List.length_cons, List.length_nil]; omega), Nat.lt_succ_self _⟩⟩
                | false =>
                  exact ⟨_, _, Runs.cons (Run.iteF (Tst.boolOp (TstL.andF (Tst.punct g))) (Runs.oneN (Run.read g (ch := ⟨#[c]⟩) (pos' := pos + 1) (by rw [hx9]; exact rc) (by rw [hx9]; exact rp) (by rw [hx9]; exact hp) (by rfl) (by rfl)))) (Runs.cons (Run.nl g rfl) (Runs.cons (Run.iteF (Tst.dbg g (by decide)) Runs.nil) (Runs.oneN (Run.iteF (Tst.stNone g rfl) (Runs.oneN (Run.iteF (Tst.stEq g rfl (by decide +kernel)) (Runs.oneN (Run.iteT (Tst.squ g rfl (by decide +kernel)) (Runs.cons (Run.quoted g) (Runs.cons (Run.iteF (Tst.notF (Tst.nc g rfl (by show (1 : Nat) ≤ 16777216; decide) (sgn_len _))) Runs.nil) (Runs.oneN (Run.iteF (Tst.ncSt g rfl rfl (by show ((⟨#[c]⟩ : Str) == Str.ofString "'") = false; rw [str_39]; exact sgn_ne h1)) (Runs.oneN (Run.iteF (Tst.boolOp (TstL.andT (Tst.posix g) (TstL.andF (Tst.es g rfl ge)))) (Runs.oneN (Run.tokAdd g rfl (hz _))))))))))))))))), .inl ⟨rfl, .sq, (tok ++ [c]), rfl, (cat_tok tok _), hp1, (by show lexRun (x.cps.toList.drop (pos + 1)) _ _ _ = _; rw [hd1]; exact hr), (by simp only [List.length_append, List.length_cons, List.length_nil]; omega), Nat.lt_succ_self _⟩⟩
            | dq =>
              unfold lexRun at hr
              by_cases h1 : c = 34
              · rw [if_pos h1] at hr
                subst h1
                exact ⟨_, _, Runs.cons (Run.iteF (Tst.boolOp (TstL.andF (Tst.punct g))) (Runs.oneN (Run.read g (ch := ⟨#[34]⟩) (pos' := pos + 1) (by rw [hx9]; exact rc) (by rw [hx9]; exact rp) (by rw [hx9]; exact hp) (by rfl) (by rfl)))) (Runs.cons (Run.nl g rfl) (Runs.cons (Run.iteF (Tst.dbg g (by decide)) Runs.nil) (Runs.oneN (Run.iteF (Tst.stNone g rfl) (Runs.oneN (Run.iteF (Tst.stEq g rfl (by decide +kernel)) (Runs.oneN (Run.iteT (Tst.squ g rfl (by decide +kernel)) (Runs.cons (Run.quoted g) (Runs.cons (Run.iteF (Tst.notF (Tst.nc g rfl (by show (1 : Nat) ≤ 16777216; decide) (sgn_len _))) Runs.nil) (Runs.oneN (Run.iteT (Tst.ncSt g rfl rfl (by decide +kernel)) (Runs.oneN (Run.iteF (Tst.notF (Tst.posix g)) (Runs.oneN (Run.st g)))))))))))))))), .inl ⟨rfl, .wd, tok, rfl, rfl, hp1, (by show lexRun (x.cps.toList.drop (pos + 1)) _ _ _ = _; rw [hd1]; exact hr), (by show _ ≤ pos + 1; omega), Nat.lt_succ_self _⟩⟩
              · rw [if_neg h1] at hr
                by_cases h2 : c = 39
                · rw [if_pos h2] at hr
                  subst h2
                  exact ⟨_, _, Runs.cons (Run.iteF (Tst.boolOp (TstL.andF (Tst.punct g))) (Runs.oneN (Run.read g (ch := ⟨#[39]⟩) (pos' := pos + 1) (by rw [hx9]; exact rc) (by rw [hx9]; exact rp) (by rw [hx9]; exact hp) (by rfl) (by rfl)))) (Runs.cons (Run.nl g rfl) (Runs.cons (Run.iteF (Tst.dbg g (by decide)) Runs.nil) (Runs.oneN (Run.iteF (Tst.stNone g rfl) (Runs.oneN (Run.iteF (Tst.stEq g rfl (by decide +kernel)) (Runs.oneN (Run.iteT (Tst.squ g rfl (by decide +kernel)) (Runs.cons (Run.quoted g) (Runs.cons (Run.iteF (Tst.notF (Tst.nc g rfl (by show (1 : Nat) ≤ 16777216; decide) (sgn_len _))) Runs.nil) (Runs.oneN (Run.iteF (Tst.ncSt g rfl rfl (by decide +kernel)) (Runs.oneN (Run.iteF (Tst.boolOp (TstL.andT (Tst.posix g) (TstL.andF (Tst.es g rfl (by decide +kernel))))) (Runs.oneN (Run.tokAdd g rfl (hz _))))))))))))))))), .inl ⟨rfl, .dq, (tok ++ [39]), rfl, (cat_tok tok _), hp1, (by show lexRun (x.cps.toList.drop (pos + 1)) _ _ _ = _; rw [hd1]; exact hr), (by simp only [List.length_append, List.length_cons, List.length_nil]; omega), Nat.lt_succ_self _⟩⟩
                · rw [if_neg h2] at hr; cases hr
    · passes_own

end Mine
end
section
open PySem PySem.W PyProof.Rows PySem.Spec PySem.Calls
namespace Mine
section
variable {M : Model} {A : Around} {E : Value → Shared → Prop} {s' : Shared} {base g h : Heap} {l : List Env} {L a e : Addr} {m : Str → Option Value} {name : Str} {scope : Scope} {cd : Value} {Q : Unit → Shared → Prop}
/-- a builtin exception, just made, leaves the def in which it was raised: all but the frames below stands still -/
theorem leaveX {cls : String} (K : Below A base l g) (hx : Heap.MadeExc h s'.heap e cls []) (F : Fr g L h m)
    (hQ : ∀ h', (∃ ob, h'.get? e = some ob ∧ ob.cls = .type cls) → (∀ b o, g.get? b = some o → b ∉ l.filterMap (·.frame) → h'.get? b = some o) → g.UpToSlots h' → Q () { s' with heap := h' }) (hk : scope.kind = .function := by rfl) :
    wpAny M (A.deeper (envOf name scope L a cd)) (leaving (envOf name scope L a cd) (.ref e)) Q E s' := by
  have K' := K.push (name := name) (a := a) (cd := cd) F hk
  have hin : ∀ env ∈ (envOf name scope L a cd :: l), ∀ b, env.frame = some b → b ∈ (envOf name scope L a cd :: l).filterMap (·.frame) := fun env he b hb => List.mem_filterMap.mpr ⟨env, he, hb⟩
  have hx' := Heap.MadeExc.of hx
  refine wpAny_leaves_madeW K'.stack rfl (fun b o q => of_hideAll _ q) (funFrames_hide K'.frames hin) hx' fun h' t x1 x2 x3 x4 => ?_
  refine hQ h' x1.there (fun b o e1 n => ?_) (((Heap.UpToSlots.of_keeps F.keep).trans (Heap.UpToSlots.of_keeps hx'.keeps)).trans x4)
  refine x1.1 b o (hideAll_get _ (F.keep b o e1) fun hm => ?_)
  obtain ⟨env, he, hf⟩ := List.mem_filterMap.mp hm
  rcases List.mem_cons.mp he with rfl | he
  · have e2 : L = b := Option.some.inj hf
    subst e2
    exact absurd (Heap.lt_size e1) (Nat.not_lt.mpr F.above)
  · exact n (List.mem_filterMap.mpr ⟨env, he, hf⟩)
end
/-- a contract of a def that raises a builtin exception, having written the objects ms -/
noncomputable def CtX (w : World) (D : Nat) (f : Addr) (vs : List Value) (kw : List (Str × Value)) (ms : List (Addr × Obj)) (cls : String) : Prop :=
  ∀ (p : Program) (loose : List Str) (mean : ExcName → Option Value) (mg mb : Str → Option Value) (dp un : Nat) (gd : Option (List Code)) (cn : Str) (sn : List (Str × NameKind)) (sg sc : Bool) (sm : List (Str × Const)) (a : Addr) (ccd : Value) (cl : List (Str × Addr)) (outer : List Env)
    (A₀ : Around) (base h₀ : Heap) (L : Addr) (m : Str → Option Value) (s : Shared) (Q E : Value → Shared → Prop),
    Below A₀ base outer h₀ → Fr h₀ L s.heap m → News h₀ L s.heap ms → (Mine.hd.heap_1 w.params).In h₀ → Top p loose mean mg mb h₀ → dp + D < recursionLimit → un + 8 * D < cLine →
    (∀ e h' tk', (∃ ob, h'.get? e = some ob ∧ ob.cls = .type cls) → (∀ b o, s.heap.get? b = some o → b ∉ ms.map (·.1) → b ≠ L → b ∉ outer.filterMap (·.frame) → h'.get? b = some o) → (hideAll s.heap (ms.map (·.1))).UpToSlots h' → E (.ref e) { s with heap := h', toks := tk' }) →
    wpAny (model PySem.Challenge.rw_ik0089_01.prog w) (ktrTop dp un gd cn ⟨.function, sn, sg, sc, sm⟩ L a ccd cl outer) (call (.ref f) vs kw) Q E s
end Mine
end
section
namespace Mine
set_option linter.unusedSimpArgs false
set_option linter.unusedVariables false
theorem RtPost.mk9 {w : World} {κ : Nat → Tok} {ρ : Nat → Addr} {x : Str} {g : List Nat × Bool × Bool × List Nat} {r : Value} {h' : Heap} (h : ∃ (pos : Nat) (tp v14 v16 vs u : Tok) (ln : Int), pos ≤ x.length ∧ x.cps.toList.drop pos = g.2.2.2 ∧ r = rtVal g u ∧ ∀ q ∈ rtMs w κ ρ x ⟨pos, tp, v14, v16, if g.2.2.1 = true then .none else .str (Str.ofString " ") vs, ln, Str.ofString ""⟩, h'.get? q.1 = some q.2) : RtPost w κ ρ x g r h' := h
theorem lx_use {w : World} {κ : Nat → Tok} {ρ : Nat → Addr} {x : Str} {tp v14 v16 : Tok} {pos : Nat} {ln : Int} {sv : Value} {g : List Nat × Bool × Bool × List Nat} {dep : Nat} {fa : Addr} {V : Tok → Value} (C : CtM w dep fa [.ref (ρ 0)] [] (rtMs w κ ρ x ⟨pos, tp, v14, v16, sv, ln, Str.ofString ""⟩) (RtPost w κ ρ x g)) (hv : ∀ u, rtVal g u = V u)
   {pr : Program} {loose : List Str} {mean : ExcName → Option Value} {mg mb : Str → Option Value} {dp un : Nat} {gd : Option (List Code)} {cn : Str} {sn : List (Str × NameKind)} {sg sc : Bool} {sm : List (Str × Const)} {a : Addr} {ccd : Value} {cl : List (Str × Addr)} {outer : List Env}
    {A₀ : Around} {base h₀ : Heap} {L : Addr} {m : Str → Option Value} {s : Shared} {Q E : Value → Shared → Prop}
    (B : Below A₀ base outer h₀) (F : Fr h₀ L s.heap m) (XX : (Mine.hd.heap_1 w.params).In h₀) (N : News h₀ L s.heap (rtMs w κ ρ x ⟨pos, tp, v14, v16, sv, ln, Str.ofString ""⟩)) (T : Top pr loose mean mg mb h₀) (hd : dp + dep < recursionLimit) (hu : un + 8 * dep < cLine)
    (h : ∀ (pos' : Nat) (tp' v14' v16' vs' u : Tok) (ln' : Int) h' tk', pos' ≤ x.length → x.cps.toList.drop pos' = g.2.2.2 → Fr h₀ L h' m → News h₀ L h' (rtMs w κ ρ x ⟨pos', tp', v14', v16', if g.2.2.1 = true then .none else .str (Str.ofString " ") vs', ln', Str.ofString ""⟩) → Q (V u) { s with heap := h', toks := tk' }) :
    wpAny (model PySem.Challenge.rw_ik0089_01.prog w) (ktrTop dp un gd cn ⟨.function, sn, sg, sc, sm⟩ L a ccd cl outer) (call (.ref fa) [.ref (ρ 0)] []) Q E s :=
  CtM.use C B F XX N T (fun _ hq => hq) hd hu fun r h' tk' hp up F' => by
    obtain ⟨pos', tp', v14', v16', vs', u, ln', h1, h2, rfl, h3⟩ := hp
    rw [hv u]
    refine h pos' tp' v14' v16' vs' u ln' h' tk' h1 h2 F' ?_
    have z := up (rtMs w κ ρ x ⟨pos', tp', v14', v16', if g.2.2.1 = true then .none else .str (Str.ofString " ") vs', ln', Str.ofString ""⟩) [] News.nil (fun _ hq => nomatch hq) rfl h3
    rwa [List.append_nil] at z
local macro_rules | `(tactic| walk_at "call ref") => `(tactic| ((try dsimp only [List.append_nil, List.cons_append, List.nil_append]); (with_reducible show wpAny _ _ (call (Value.ref _) [_] _) _ _ _); k_dflt (refine lx_use (by with_reducible assumption) (by with_reducible assumption) (by k_asm) (by k_asm) (by k_asm) (by k_asm) (by k_asm) (by ktr_room) (by ktr_units) ?_; intro pos9 tp9 v149 v169 vs9 u9 ln9 h9 tk9 hp9 hd9 F9 N9; unfold rtMs lexE at N9; (try dsimp only at N9); (try k_sweep); (try k_fold))))
theorem ct_gt {w : World} {κ : Nat → Tok} {ρ : Nat → Addr} {x : Str} {tp v14 v16 : Tok} {pos : Nat} {ln : Int} {sv : Value} {g : List Nat × Bool × Bool × List Nat} (r : RhoOk ρ) (hx : x.length ≤ 1000) (C : CtM w 9 852 [.ref (ρ 0)] [] (rtMs w κ ρ x ⟨pos, tp, v14, v16, sv, ln, Str.ofString ""⟩) (RtPost w κ ρ x g)) :
    CtM w 10 845 [.ref (ρ 0)] [] (rtMs w κ ρ x ⟨pos, tp, v14, v16, sv, ln, Str.ofString ""⟩) (RtPost w κ ρ x g) := by
  unfold CtM
  k_fill
  intros
  refine wpAny_call ?_
  refine' code_defM ?k1 ?k2 ?kN ?k3 ?k5 ?kA ?kF ?kK ?k6 ?k7 ?k8 ?k9 ?kB ?_ ?c2 ?c3 ?c4 ?c5
  case kA => exact rfl
  case kF => exact rfl
  case kK => exact rfl
  case k1 => k_asm
  case k2 => k_asm
  case kN => k_asm
  case k3 => k_asm
  case k5 => k_asm
  case k6 => k_is
  case k7 => k_is
  case k8 => k_room
  case k9 => (first | exact BindsTo.of_eq rfl | exact binds_K (by k_in) rfl (by k_is) rfl rfl rfl | (refine' kp_binds ?kx ?ke; (case kx => k_in); (case ke => exact fun _ => rfl)))
  case c5 => decide
  case kB => exact locs rfl
  case c2 => exact rfl
  case c3 => exact rfl
  case c4 => exact rfl
  k_whole
  intro g' L' h' kp' F' N' B' X' T'
  (try dsimp only)
  (try k_fold)
  refine genM F' ?_
  clear F'
  intro m9 F'
  obtain ⟨a1, a2, a3, a4, a5, a6, a7, a8, a9⟩ := r
  unfold rtMs lexE at N'
  (try dsimp only at N')
  by_cases hz : g.1 = [] ∧ g.2.1 = false
  · have hv : ∀ u, rtVal g u = (fun _ => Value.none) u := fun u => if_pos hz
    k_steps
    all_goals (rename (∀ u, rtVal _ u = _) => hv9; rename AllMade _ _ _ => km9; refine' RetM.go (by assumption) kp' ?e2 (RtPost.mk9 ⟨_, _, _, _, _, 0, _, ?e3, ?e4, (hv9 0).symm, fun q hq => (km9 q hq).1⟩); (case e2 => assumption); (case e3 => with_reducible assumption); (case e4 => with_reducible assumption))
  · have hv : ∀ u, rtVal g u = (fun u => Value.str ⟨g.1.toArray⟩ u) u := fun u => if_neg hz
    k_steps
    all_goals (rename (∀ u, rtVal _ u = _) => hv9; rename AllMade _ _ _ => km9; refine' RetM.go (by assumption) kp' ?e2 (RtPost.mk9 ⟨_, _, _, _, _, _, _, ?e3, ?e4, (hv9 _).symm, fun q hq => (km9 q hq).1⟩); (case e2 => assumption); (case e3 => with_reducible assumption); (case e4 => with_reducible assumption))
theorem ct_nx {w : World} {κ : Nat → Tok} {ρ : Nat → Addr} {x : Str} {tp v14 v16 : Tok} {pos : Nat} {ln : Int} {sv : Value} {g : List Nat × Bool × Bool × List Nat} (r : RhoOk ρ) (hx : x.length ≤ 1000) (C : CtM w 10 845 [.ref (ρ 0)] [] (rtMs w κ ρ x ⟨pos, tp, v14, v16, sv, ln, Str.ofString ""⟩) (RtPost w κ ρ x g)) (hz : ¬ (g.1 = [] ∧ g.2.1 = false)) :
    CtM w 11 881 [.ref (ρ 0)] [] (rtMs w κ ρ x ⟨pos, tp, v14, v16, sv, ln, Str.ofString ""⟩) (RtPost w κ ρ x g) := by
  unfold CtM
  k_fill
  intros
  refine wpAny_call ?_
  refine' code_defM ?k1 ?k2 ?kN ?k3 ?k5 ?kA ?kF ?kK ?k6 ?k7 ?k8 ?k9 ?kB ?_ ?c2 ?c3 ?c4 ?c5
  case kA => exact rfl
  case kF => exact rfl
  case kK => exact rfl
  case k1 => k_asm
  case k2 => k_asm
  case kN => k_asm
  case k3 => k_asm
  case k5 => k_asm
  case k6 => k_is
  case k7 => k_is
  case k8 => k_room
  case k9 => (first | exact BindsTo.of_eq rfl | exact binds_K (by k_in) rfl (by k_is) rfl rfl rfl | (refine' kp_binds ?kx ?ke; (case kx => k_in); (case ke => exact fun _ => rfl)))
  case c5 => decide
  case kB => exact locs rfl
  case c2 => exact rfl
  case c3 => exact rfl
  case c4 => exact rfl
  k_whole
  intro g' L' h' kp' F' N' B' X' T'
  (try dsimp only)
  (try k_fold)
  refine genM F' ?_
  clear F'
  intro m9 F'
  obtain ⟨a1, a2, a3, a4, a5, a6, a7, a8, a9⟩ := r
  unfold rtMs lexE at N'
  (try dsimp only at N')
  have hv : ∀ u, rtVal g u = (fun u => Value.str ⟨g.1.toArray⟩ u) u := fun u => if_neg hz
  k_steps
  all_goals (rename (∀ u, rtVal _ u = _) => hv9; rename AllMade _ _ _ => km9; refine' RetM.go (by assumption) kp' ?e2 (RtPost.mk9 ⟨_, _, _, _, _, _, _, ?e3, ?e4, (hv9 _).symm, fun q hq => (km9 q hq).1⟩); (case e2 => assumption); (case e3 => with_reducible assumption); (case e4 => with_reducible assumption))
local macro_rules | `(tactic| walk_at "leaving ref") => `(tactic| (refine Halt.go ?_))
theorem ct_nxX {w : World} {κ : Nat → Tok} {ρ : Nat → Addr} {x : Str} {tp v14 v16 : Tok} {pos : Nat} {ln : Int} {sv : Value} {g : List Nat × Bool × Bool × List Nat} (r : RhoOk ρ) (hx : x.length ≤ 1000) (C : CtM w 10 845 [.ref (ρ 0)] [] (rtMs w κ ρ x ⟨pos, tp, v14, v16, sv, ln, Str.ofString ""⟩) (RtPost w κ ρ x g)) (hz : g.1 = [] ∧ g.2.1 = false) :
    CtX w 11 881 [.ref (ρ 0)] [] (rtMs w κ ρ x ⟨pos, tp, v14, v16, sv, ln, Str.ofString ""⟩) "StopIteration" := by
  unfold CtX
  k_fill
  intros
  rename_i hE9
  refine wpAny_call ?_
  refine' code_defM ?k1 ?k2 ?kN ?k3 ?k5 ?kA ?kF ?kK ?k6 ?k7 ?k8 ?k9 ?kB ?_ ?c2 ?c3 ?c4 ?c5
  case kA => exact rfl
  case kF => exact rfl
  case kK => exact rfl
  case k1 => k_asm
  case k2 => k_asm
  case kN => k_asm
  case k3 => k_asm
  case k5 => k_asm
  case k6 => k_is
  case k7 => k_is
  case k8 => k_room
  case k9 => (first | exact BindsTo.of_eq rfl | exact binds_K (by k_in) rfl (by k_is) rfl rfl rfl | (refine' kp_binds ?kx ?ke; (case kx => k_in); (case ke => exact fun _ => rfl)))
  case c5 => decide
  case kB => exact locs rfl
  case c2 => exact rfl
  case c3 => exact rfl
  case c4 => exact rfl
  k_whole
  intro g' L' h' kp' F' N' B' X' T'
  (try dsimp only)
  (try k_fold)
  refine genM F' ?_
  clear F'
  intro m9 F'
  obtain ⟨a1, a2, a3, a4, a5, a6, a7, a8, a9⟩ := r
  unfold rtMs lexE at N'
  (try dsimp only at N')
  have hv : ∀ u, rtVal g u = (fun _ => Value.none) u := fun u => if_pos hz
  k_steps
  rename Heap.MadeExc _ _ _ _ _ => hx9
  unfold Halt
  refine' leaveX B' hx9 ?kF ?_
  case kF => assumption
  intro h9 ho9 x1 x2
  refine hE9 _ h9 _ ho9 (fun b o e1 n nL nf => x1 b o (by rw [kp']; exact hideAll_get _ e1 n) fun hm => ?_) (by rw [kp'] at x2; exact x2)
  rcases List.mem_cons.mp hm with e2 | hm
  · exact nL e2
  · exact nf hm

end Mine
end
section
open PySem PySem.W PyProof.Rows PySem.Spec PySem.Calls
namespace Mine
noncomputable abbrev lsO (acc : Array Value) (c : Nat) : Obj := { cls := .type "list", dict := none, data := .seq acc c, slots := #[] }
section
variable {prog : Program} {w : World} {A : Around} {I S C : Addr} {n : Nat} {P : Nat → Value → Prop} {St : Nat → Heap → Prop} {Dn : Heap → Heap → Prop}
/-- list.extend's loop over an iterator of the program's own; the walk's last step may leave another ground (Dn) -/
theorem own_loop {R : Result → Shared → Prop} (upd : ∀ i h h', St i h → (∀ b o, b ≠ S → h.get? b = some o → h'.get? b = some o) → St i h')
    (item : ∀ i (s : Shared) (Q : Option Value → Shared → Prop) (E : Value → Shared → Prop), i < n → St i s.heap → (∀ v h' tk', P i v → St (i + 1) h' → (∀ o, s.heap.get? S = some o → h'.get? S = some o) → Q (some v) { s with heap := h', toks := tk' }) → wpAny (model prog w) A.in1 (pyNext (.ref I)) Q E s)
    (done : ∀ (s : Shared) (Q : Option Value → Shared → Prop) (E : Value → Shared → Prop), St n s.heap → (∀ h' tk', Dn s.heap h' → (∀ o, s.heap.get? S = some o → h'.get? S = some o) → Q none { s with heap := h', toks := tk' }) → wpAny (model prog w) A.in1 (pyNext (.ref I)) Q E s)
    (hn : n ≤ sizeLine) (res : Value) : ∀ (k i : Nat) (s : Shared) (acc : Array Value) (c : Nat), n - i = k → i ≤ n → St i s.heap → s.heap.get? S = some (lsO acc c) → ItemsOf P acc i →
    (∀ h1 h' tk' acc' c', St n h1 → Dn h1 h' → h'.get? S = some (lsO acc' c') → ItemsOf P acc' n → R (.ok (.ret res)) { s with heap := h', toks := tk' }) →
    codeAny (model prog w) A (.builtin "list.extend.loop" ⟨[.ref S, .ref I, res], []⟩) R s := by
  intro k
  induction k with
  | zero =>
    intro i s acc c hk hi hst hS hacc hR
    have hin : i = n := by omega
    subst hin
    refine codeAny_builtin PySem.F.entry_extend_loop ?_
    rw [Around.under_plainId PySem.F.plain_extend_loop _]
    show wpAny _ A.in1 (pyNext (.ref I) >>= _) _ _ s
    refine wpAny_bind (done s _ _ hst fun h' tk' hd hk' => ?_)
    exact wpAny_pure (hR _ h' tk' acc c hst hd (hk' _ hS) hacc)
  | succ k ih =>
    intro i s acc c hk hi hst hS hacc hR
    have hlt : i < n := by omega
    refine codeAny_builtin PySem.F.entry_extend_loop ?_
    rw [Around.under_plainId PySem.F.plain_extend_loop _]
    show wpAny _ A.in1 (pyNext (.ref I) >>= _) _ _ s
    refine wpAny_bind (item i s _ _ hlt hst fun v h' tk' hP hst' hk' => ?_)
    have hS' := hk' _ hS
    show wpAny _ A.in1 (updateSeq S (·.push v) >>= _) _ _ _
    refine wpAny_bind ?_
    refine wpAny_updateSeq hS' rfl (wpAny_pure ⟨plainId_quiet PySem.F.plain_extend_loop _, ih (i + 1) _ (acc.push v) _ (by omega) hlt (upd _ _ _ hst' fun b o hb e => ?_) (Heap.get?_update_self _ hS' rfl) (hacc.push hP) fun h1 h'' tk'' acc' c' q1 q2 q3 q4 => ?_⟩)
      (by rw [hacc.1]; omega) (by show (acc.push v).size ≤ sizeLine + 1; rw [Array.size_push, hacc.1]; omega)
    · exact (Heap.get?_update_other _ _ (Ne.symm hb)).trans e
    · exact hR h1 h'' tk'' acc' c' q1 q2 q3 q4
theorem own_extend {R : Result → Shared → Prop} {s : Shared} (upd : ∀ i h h', St i h → (∀ b o, b ≠ S → h.get? b = some o → h'.get? b = some o) → St i h')
    (item : ∀ i (s : Shared) (Q : Option Value → Shared → Prop) (E : Value → Shared → Prop), i < n → St i s.heap → (∀ v h' tk', P i v → St (i + 1) h' → (∀ o, s.heap.get? S = some o → h'.get? S = some o) → Q (some v) { s with heap := h', toks := tk' }) → wpAny (model prog w) A.in1 (pyNext (.ref I)) Q E s)
    (done : ∀ (s : Shared) (Q : Option Value → Shared → Prop) (E : Value → Shared → Prop), St n s.heap → (∀ h' tk', Dn s.heap h' → (∀ o, s.heap.get? S = some o → h'.get? S = some o) → Q none { s with heap := h', toks := tk' }) → wpAny (model prog w) A.in1 (pyNext (.ref I)) Q E s)
    (ty : ∀ (A : Around) (E : Value → Shared → Prop) (s : Shared) (Q : Value → Shared → Prop), St 0 s.heap → Q (.ref C) s → wpAny (model prog w) A (typeOf (.ref I)) Q E s)
    (hint : ∀ (A : Around) (E : Value → Shared → Prop) (s : Shared) (Q : Bool → Shared → Prop), St 0 s.heap → Q true s → wpAny (model prog w) A (Builtin.List.listLengthHint (.ref I)) Q E s)
    (self : ∀ (s : Shared) (Q : Value → Shared → Prop) (E : Value → Shared → Prop), St 0 s.heap → (∀ h' tk', St 0 h' → (∀ o, s.heap.get? S = some o → h'.get? S = some o) → Q (.ref I) { s with heap := h', toks := tk' }) → wpAny (model prog w) A.in1 (pyIter (.ref I)) Q E s)
    (hn : n ≤ sizeLine) (res : Value) (hSI : S ≠ I) (c₀ : Nat) (hst : St 0 s.heap) (hS : s.heap.get? S = some (lsO #[] c₀))
    (hR : ∀ h1 h' tk' acc' c', St n h1 → Dn h1 h' → h'.get? S = some (lsO acc' c') → ItemsOf P acc' n → R (.ok (.ret res)) { s with heap := h', toks := tk' }) :
    wpAny (model prog w) A.in1 (Builtin.List.listExtendWith (.ref S) (.ref I) res)
      (fun fin s' => match fin with | .done f => R (.ok f) s' | .again c' => c'.quiet = true ∧ codeAny (model prog w) A c' R s') (fun e s' => R (.error e) s') s := by
  unfold Builtin.List.listExtendWith
  refine wpAny_bind (ty _ _ _ _ hst ?_)
  have h1 : Builtin.List.listSameRef (.ref S) (.ref I) = false := by simp [Builtin.List.listSameRef, hSI]
  have h2 : (Value.ref C == Value.type "list") = false := rfl
  have h3 : (Value.ref C == Value.type "tuple") = false := rfl
  simp only [h1, h2, h3, Bool.or_false, Bool.false_eq_true, if_false]
  refine wpAny_bind (self _ _ _ hst fun h' tk' hst' hk' => ?_)
  have hS' := hk' _ hS
  refine wpAny_bind (wpAny_holding (hint _ _ _ _ hst' ?_))
  show wpAny _ A.in1 (rule "list.extend.makes-room" >>= fun _ => Builtin.List.listTouch (.ref S) >>= fun _ =>
    again (.builtin "list.extend.loop" ⟨[.ref S, .ref I, res], []⟩)) _ _ _
  refine wpAny_bind (wpAny_rule ?_)
  refine wpAny_bind ?_
  show wpAny _ A.in1 (updateSeq S (·.push .none) >>= fun _ => updateSeq S (·.pop)) _ _ _
  refine wpAny_bind (wpAny_updateSeq hS' rfl ?_)
  have hS₂ := Heap.get?_update_self (Obj.mapSeq (·.push Value.none)) hS' rfl
  refine wpAny_updateSeq (hz := by seq_fits) hS₂ rfl ?_
  have hS₃ := Heap.get?_update_self (Obj.mapSeq (·.pop)) hS₂ rfl
  refine wpAny_pure ⟨plainId_quiet PySem.F.plain_extend_loop _, own_loop upd item done hn res n 0 _ _ _ rfl (Nat.zero_le _) (upd _ _ _ hst' fun b o hb e => ?_) hS₃ (ItemsOf.nil P) hR⟩
  exact (Heap.get?_update_other _ _ (Ne.symm hb)).trans ((Heap.get?_update_other _ _ (Ne.symm hb)).trans e)
theorem own_init {R : Result → Shared → Prop} {s : Shared} (upd : ∀ i h h', St i h → (∀ b o, b ≠ S → h.get? b = some o → h'.get? b = some o) → St i h')
    (item : ∀ i (s : Shared) (Q : Option Value → Shared → Prop) (E : Value → Shared → Prop), i < n → St i s.heap → (∀ v h' tk', P i v → St (i + 1) h' → (∀ o, s.heap.get? S = some o → h'.get? S = some o) → Q (some v) { s with heap := h', toks := tk' }) → wpAny (model prog w) A.in1 (pyNext (.ref I)) Q E s)
    (done : ∀ (s : Shared) (Q : Option Value → Shared → Prop) (E : Value → Shared → Prop), St n s.heap → (∀ h' tk', Dn s.heap h' → (∀ o, s.heap.get? S = some o → h'.get? S = some o) → Q none { s with heap := h', toks := tk' }) → wpAny (model prog w) A.in1 (pyNext (.ref I)) Q E s)
    (ty : ∀ (A : Around) (E : Value → Shared → Prop) (s : Shared) (Q : Value → Shared → Prop), St 0 s.heap → Q (.ref C) s → wpAny (model prog w) A (typeOf (.ref I)) Q E s)
    (hint : ∀ (A : Around) (E : Value → Shared → Prop) (s : Shared) (Q : Bool → Shared → Prop), St 0 s.heap → Q true s → wpAny (model prog w) A (Builtin.List.listLengthHint (.ref I)) Q E s)
    (self : ∀ (s : Shared) (Q : Value → Shared → Prop) (E : Value → Shared → Prop), St 0 s.heap → (∀ h' tk', St 0 h' → (∀ o, s.heap.get? S = some o → h'.get? S = some o) → Q (.ref I) { s with heap := h', toks := tk' }) → wpAny (model prog w) A.in1 (pyIter (.ref I)) Q E s)
    (hn : n ≤ sizeLine) (hSI : S ≠ I) (hst : St 0 s.heap) (hS : s.heap.get? S = some { cls := .type "list", data := .seq #[] })
    (hR : ∀ h1 h' tk' acc' c', St n h1 → Dn h1 h' → h'.get? S = some (lsO acc' c') → ItemsOf P acc' n → R (.ok (.ret .none)) { s with heap := h', toks := tk' }) :
    wpAny (model prog w) A.in1 (Builtin.«list.__init__» ⟨[.ref S, .ref I], []⟩)
      (fun fin s' => match fin with | .done f => R (.ok f) s' | .again c' => c'.quiet = true ∧ codeAny (model prog w) A c' R s') (fun e s' => R (.error e) s') s := by
  show wpAny _ A.in1 (do let old ← Builtin.List.listItems (.ref S); Builtin.List.listUpdate (.ref S) (fun _ => #[]); letGo old.toList.reverse; Builtin.List.listExtendWith (.ref S) (.ref I) .none) _ _ s
  refine wpAny_bind ?_
  unfold Builtin.List.listItems
  refine wpAny_bind (wpAny_seqItems hS rfl (wpAny_pure ?_))
  show wpAny _ A.in1 (updateSeq S (fun _ => #[]) >>= fun _ => letGo (#[] : Array Value).toList.reverse >>= fun _ => Builtin.List.listExtendWith (.ref S) (.ref I) .none) _ _ s
  refine wpAny_bind (wpAny_updateSeq hS rfl ?_)
  have hS₂ := Heap.get?_update_self (Obj.mapSeq (fun _ => (#[] : Array Value))) hS rfl
  refine wpAny_bind (wpAny_letGo ?_)
  exact own_extend upd item done ty hint self hn .none hSI _ (upd _ _ _ hst fun b o hb e => (Heap.get?_update_other _ _ (Ne.symm hb)).trans e) hS₂ hR
/-- list(x) over an object x of a class with its own __iter__ and __next__ -/
theorem own_list {E : Value → Shared → Prop} {s : Shared} {Q : Value → Shared → Prop} (hS0 : S = s.heap.objs.size) (hI : I < s.heap.objs.size) (upd : ∀ i h h', St i h → (∀ b o, b ≠ S → h.get? b = some o → h'.get? b = some o) → St i h')
    (item : ∀ i (s : Shared) (Q : Option Value → Shared → Prop) (E : Value → Shared → Prop), i < n → St i s.heap → (∀ v h' tk', P i v → St (i + 1) h' → (∀ o, s.heap.get? S = some o → h'.get? S = some o) → Q (some v) { s with heap := h', toks := tk' }) → wpAny (model prog w) A.in1.in1 (pyNext (.ref I)) Q E s)
    (done : ∀ (s : Shared) (Q : Option Value → Shared → Prop) (E : Value → Shared → Prop), St n s.heap → (∀ h' tk', Dn s.heap h' → (∀ o, s.heap.get? S = some o → h'.get? S = some o) → Q none { s with heap := h', toks := tk' }) → wpAny (model prog w) A.in1.in1 (pyNext (.ref I)) Q E s)
    (ty : ∀ (A : Around) (E : Value → Shared → Prop) (s : Shared) (Q : Value → Shared → Prop), St 0 s.heap → Q (.ref C) s → wpAny (model prog w) A (typeOf (.ref I)) Q E s)
    (hint : ∀ (A : Around) (E : Value → Shared → Prop) (s : Shared) (Q : Bool → Shared → Prop), St 0 s.heap → Q true s → wpAny (model prog w) A (Builtin.List.listLengthHint (.ref I)) Q E s)
    (self : ∀ (s : Shared) (Q : Value → Shared → Prop) (E : Value → Shared → Prop), St 0 s.heap → (∀ h' tk', St 0 h' → (∀ o, s.heap.get? S = some o → h'.get? S = some o) → Q (.ref I) { s with heap := h', toks := tk' }) → wpAny (model prog w) A.in1.in1 (pyIter (.ref I)) Q E s)
    (hn : n ≤ sizeLine) (hst : St 0 s.heap)
    (hQ : ∀ h1 h' tk' acc' c', St n h1 → Dn h1 h' → h'.get? S = some (lsO acc' c') → ItemsOf P acc' n → Q (.ref S) { s with heap := h', toks := tk' }) :
    wpAny (model prog w) A (call (.type "list") [.ref I]) Q E s := by
  subst hS0
  refine callType_codes (Q₁ := fun obj s₁ => obj = .ref s.heap.objs.size ∧ s₁ = { s with heap := s.heap.push { cls := .type "list", data := .seq #[] } }) PySem.F.called_list (PySem.F.typeCall_list_1 _) PySem.F.entry_list_init
    (code_list_new _ ⟨rfl, rfl⟩) fun obj s₁ h₁ => ?_
  obtain ⟨rfl, rfl⟩ := h₁
  have hS : (s.heap.push { cls := .type "list", data := .seq #[] }).get? s.heap.objs.size = some { cls := .type "list", data := .seq #[] } := Heap.get?_push_size _ rfl
  refine ⟨⟨_, hS, rfl⟩, PySem.F.args_list_init_2 _ _, own_init (A := A.in1) upd item done ty hint self hn (Nat.ne_of_gt hI) (upd _ _ _ hst fun b o _ e => Heap.get?_push_of_some _ e) hS fun h1 h' tk' acc' c' q1 q2 q3 q4 => ?_⟩
  exact ⟨rfl, hQ h1 h' tk' acc' c' q1 q2 q3 q4⟩
end
end Mine
end
section
namespace Mine
set_option linter.unusedSimpArgs false
set_option linter.unusedVariables false
/-- how the plain machine reads a whole line -/
inductive LexLine : List Nat → List (List Nat) → Prop
  | last {l t q} : lexRun l .sp [] false = some (t, q, true, []) → ¬ (t = [] ∧ q = false) → LexLine l [t]
  | more {l t q r ts} : lexRun l .sp [] false = some (t, q, false, r) → ¬ (t = [] ∧ q = false) → LexLine r ts → LexLine l (t :: ts)
theorem ct_iter {w : World} (X : Addr) : Ct w 1 874 [.ref X] [] (fun _ r _ => r = .ref X) := by
  unfold Ct
  k_fill
  intros
  (refine wpAny_call ?_; k_dflt (first
  | (refine' code_defQ ?k1 ?k2 ?k3 ?k5 ?kA ?kF ?kK ?k6 ?k7 ?k8 ?k9 ?kB ?_ ?c2 ?c3 ?c4 ?c5; (case kA => exact rfl); (case kF => exact rfl); (case kK => exact rfl); (case k1 => k_asm); (case k2 => k_asm); (case k3 => k_asm); (case k5 => k_asm); (case k6 => k_is); (case k7 => k_is); (case k8 => k_room); (case k9 => (first | exact BindsTo.of_eq rfl | exact binds_K (by k_in) rfl (by k_is) rfl rfl rfl | (refine' kp_binds ?kx ?ke; (case kx => k_in); (case ke => exact fun _ => rfl)))); (case c5 => decide); (case kB => exact locs rfl); (case c2 => exact rfl); (case c3 => exact rfl); (case c4 => exact rfl); k_whole; intro g' L' h' kp' kn' F' N' B' X' T'; (try dsimp only); (try k_fold); refine genM F' ?_; clear F'; intro m9 F')
  | (refine' code_defCQ ?k1 ?k2 ?k3 ?k5 ?kA ?kF ?kK ?k6 ?k7 ?k8 ?k9 ?kB ?kD ?_ ?c2 ?c3 ?c4; (case kA => exact rfl); (case kF => exact rfl); (case kK => exact rfl); (case k1 => k_asm); (case k2 => k_asm); (case k3 => k_asm); (case k5 => k_asm); (case k6 => k_is); (case k7 => k_is); (case k8 => k_room); (case k9 => (first | exact BindsTo.of_eq rfl | exact binds_K (by k_in) rfl (by k_is) rfl rfl rfl | (refine' kp_binds ?kx ?ke; (case kx => k_in); (case ke => exact fun _ => rfl)))); (case kB => exact rfl); (case kD => decide +kernel); (case c2 => exact rfl); (case c3 => exact rfl); (case c4 => exact rfl); k_whole; intro g' L' h' tk' cells' kp' kn' F' N' Y' B' X' T'; k_cells Y'; (try simp only [List.cons_append, List.nil_append] at N'); (try dsimp only); (try k_fold); refine genM F' ?_; clear F'; intro m9 F')
  | (refine' kp_restQ ?k1 ?k2 ?k3 ?k5 ?kA ?kF ?kK ?k6 ?k7 ?k8 ?kV ?kP ?kG ?kB ?_ ?c2 ?c3 ?c4 ?c5; (case kA => exact rfl); (case kF => exact rfl); (case kK => exact rfl); (case k1 => k_asm); (case k2 => k_asm); (case k3 => k_asm); (case k5 => k_asm); (case k6 => k_is); (case k7 => k_is); (case k8 => k_room); (case kV => first | kl_lit | exact rfl); (case kP => exact rfl); (case kG => exact fun _ => rfl); (case kB => exact fun _ => locs rfl); (case c5 => decide); (case c2 => exact rfl); (case c3 => exact rfl); (case c4 => exact rfl); k_whole; intro D' g' L' h' kp' l1 l2 F' N' B' X' T'; (try dsimp only); (try k_fold); refine genM F' ?_; clear F'; intro m9 F')))
  k_steps
  all_goals (refine' Ret.go (by assumption) ?e1 ?e2 ?e3; (case e1 => assumption); (case e2 => assumption); (case e3 => first | rfl | exact ⟨_, rfl⟩))
section
variable {w : World} {κ : Nat → Tok} {ρ : Nat → Addr} {x : Str}
theorem lex_list {ts : List (List Nat)}
   {pr : Program} {loose : List Str} {mean : ExcName → Option Value} {mg mb : Str → Option Value} {dp un : Nat} {gd : Option (List Code)} {cn : Str} {sn : List (Str × NameKind)} {sg sc : Bool} {sm : List (Str × Const)} {a : Addr} {ccd : Value} {cl : List (Str × Addr)} {outer : List Env}
    {A₀ : Around} {base h₀ : Heap} {L : Addr} {m : Str → Option Value} {s : Shared} {Q E : Value → Shared → Prop}
   (B : Below A₀ base outer h₀) (F : Fr h₀ L s.heap m) (XX : (Mine.hd.heap_1 w.params).In h₀) (T : Top pr loose mean mg mb h₀) (hd : dp + 12 < recursionLimit) (hu : un + 8 * 12 < cLine)
   {tp v14 v16 vs : Tok} {ln : Int} (N : News h₀ L s.heap (rtMs w κ ρ x ⟨((0 : Nat) : Int), tp, v14, v16, .str (Str.ofString " ") vs, ln, Str.ofString ""⟩))
   (rk : RhoOk ρ) (hx : x.length ≤ 1000) (hl : LexLine x.cps.toList ts) (hts : ts.length ≤ 1000) (hfr : ∀ b ∈ outer.filterMap (·.frame), (h₀.get? b).isSome = true)
   (hQ : ∀ h1 h' S tk' acc' c', Fr h₀ L h1 m → h₀.get? S = none → (∀ b o, h₀.get? b = some o → b ∉ outer.filterMap (·.frame) → h'.get? b = some o) → h₀.UpToSlots h' → h'.get? S = some (lsO acc' c') → ItemsOf (fun j v => ∃ u, v = .str ⟨(ts.getD j []).toArray⟩ u) acc' ts.length → Q (.ref S) { s with heap := h', toks := tk' }) :
    wpAny (model PySem.Challenge.rw_ik0089_01.prog w) (ktrTop dp un gd cn ⟨.function, sn, sg, sc, sm⟩ L a ccd cl outer) (call (.type "list") [.ref (ρ 0)]) Q E s := by
  have memX : ∀ {pos tp v14 v16 sv ln}, (ρ 0, instObj 884 (ρ 1)) ∈ rtMs w κ ρ x ⟨pos, tp, v14, v16, sv, ln, Str.ofString ""⟩ := by intros; exact rt_X
  have memD : ∀ {pos tp v14 v16 sv ln}, ∃ od, (ρ 1, od) ∈ rtMs w κ ρ x ⟨pos, tp, v14, v16, sv, ln, Str.ofString ""⟩ := by intros; exact ⟨_, rt_D⟩
  have adr : ∀ {pos tp v14 v16 sv ln pos' tp' v14' v16' sv' ln'}, (rtMs w κ ρ x ⟨pos, tp, v14, v16, sv, ln, Str.ofString ""⟩).map (·.1) = (rtMs w κ ρ x ⟨pos', tp', v14', v16', sv', ln', Str.ofString ""⟩).map (·.1) := rfl
  have hXlt : ρ 0 < s.heap.objs.size := Heap.lt_size (N _ memX).1
  obtain ⟨S, hS⟩ : ∃ S, S = s.heap.objs.size := ⟨_, rfl⟩
  have hSn : s.heap.get? S = none := by rw [hS]; exact Heap.get?_none_of_le (Nat.le_refl _)
  have hS0 : h₀.get? S = none := by
    cases q : h₀.get? S with
    | none => rfl
    | some o => rw [F.keep _ _ q] at hSn; cases hSn
  have hSL : S ≠ L := by
    obtain ⟨oL, _, _, hL, _⟩ := F.ns
    intro e
    rw [e, hL] at hSn
    cases hSn
  have hSm : ∀ {pos tp v14 v16 sv ln}, S ∉ (rtMs w κ ρ x ⟨pos, tp, v14, v16, sv, ln, Str.ofString ""⟩).map (·.1) := by
    intro pos tp' v14' v16' sv ln' q
    rw [adr (pos' := ((0 : Nat) : Int)) (tp' := tp) (v14' := v14) (v16' := v16) (sv' := .str (Str.ofString " ") vs) (ln' := ln)] at q
    obtain ⟨p, hp, e⟩ := List.mem_map.mp q
    have := (N p hp).1
    rw [e, hSn] at this
    cases this
  have hSf : S ∉ outer.filterMap (·.frame) := fun q => by
    have := hfr _ q
    rw [hS0] at this
    cases this
  let St : Nat → Heap → Prop := fun j h => Fr h₀ L h m ∧ ∃ (pos : Nat) (tp v14 v16 vs : Tok) (ln : Int) (sv : Value), pos ≤ x.length ∧ News h₀ L h (rtMs w κ ρ x ⟨(pos : Int), tp, v14, v16, sv, ln, Str.ofString ""⟩) ∧ (j < ts.length → sv = .str (Str.ofString " ") vs ∧ LexLine (x.cps.toList.drop pos) (ts.drop j)) ∧ (j = ts.length → sv = .none ∧ x.cps.toList.drop pos = [])
  have inst : ∀ {j h}, St j h → ∃ od, InstAt h (ρ 0) (instObj 884 (ρ 1)) 884 (some od) := fun st => by
    obtain ⟨_, _, _, _, _, _, _, _, _, N', _⟩ := st
    obtain ⟨od, ho⟩ := memD
    exact ⟨od, InstAt.of_news N' memX ho⟩
  have sKeep : ∀ {h h' : Heap} {pos tp v14 v16 sv ln} {o : Obj}, h.get? S = some o → (∀ (ms' rest : List (Addr × Obj)), News h₀ L h rest → (∀ z9 ∈ rest, z9.1 ∉ (rtMs w κ ρ x ⟨pos, tp, v14, v16, sv, ln, Str.ofString ""⟩).map (·.1)) → ms'.map (·.1) = (rtMs w κ ρ x ⟨pos, tp, v14, v16, sv, ln, Str.ofString ""⟩).map (·.1) → (∀ z9 ∈ ms', h'.get? z9.1 = some z9.2) → News h₀ L h' (ms' ++ rest)) → (∃ pos' tp' v14' v16' sv' ln', ∀ z9 ∈ rtMs w κ ρ x ⟨pos', tp', v14', v16', sv', ln', Str.ofString ""⟩, h'.get? z9.1 = some z9.2) → h'.get? S = some o := by
    intro h h' pos tp v14 v16 sv ln o e up hms
    obtain ⟨pos', tp', v14', v16', sv', ln', hms⟩ := hms
    have := up _ [(S, o)] (fun p hp => by rw [List.mem_singleton.mp hp]; exact ⟨e, hSL, hS0⟩) (fun p hp => by rw [List.mem_singleton.mp hp]; exact hSm) adr hms
    exact (this (S, o) (List.mem_append_right _ (.head _))).1
  refine own_list (A := ktrTop dp un gd cn ⟨.function, sn, sg, sc, sm⟩ L a ccd cl outer) (S := S) (C := 884) (n := ts.length) (P := fun j v => ∃ u, v = .str ⟨(ts.getD j []).toArray⟩ u) (St := St)
    (Dn := fun h h' => (∀ b o, h.get? b = some o → h₀.get? b = some o → b ∉ outer.filterMap (·.frame) → h'.get? b = some o) ∧ ∀ b o, h.get? b = some o → h₀.get? b = some o → (∀ vs, o.data ≠ .fields vs) → ∃ sl, h'.get? b = some { o with slots := sl })
    hS hXlt ?upd ?item ?done ?ty ?hint ?self (by rw [sizeLine_eq]; omega) ?st ?q
  case upd =>
    rintro j h h' ⟨F', pos, tp, v14, v16, vs, ln, sv, h1, N', h2, h3⟩ k
    refine ⟨?_, pos, tp, v14, v16, vs, ln, sv, h1, ?_, h2, h3⟩
    · obtain ⟨oL, es, ep, hL, hr⟩ := F'.ns
      refine ⟨⟨oL, es, ep, k _ _ (Ne.symm hSL) hL, hr⟩, fun b o e => k _ _ (fun q => ?_) (F'.keep b o e), F'.above⟩
      rw [q, hS0] at e; cases e
    · intro z9 hp
      refine ⟨k _ _ (fun q => ?_) (N' z9 hp).1, (N' z9 hp).2⟩
      refine hSm (pos := (pos : Int)) (tp := tp) (v14 := v14) (v16 := v16) (sv := sv) (ln := ln) ?_
      rw [← q]
      exact List.mem_map_of_mem hp
  case ty =>
    intro A' E' s' Q' st hq
    obtain ⟨od, I⟩ := inst st
    exact I.type.here hq
  case hint =>
    intro A' E' s' Q' st hq
    obtain ⟨od, I⟩ := inst st
    have X' := XX.keeps st.1.keep
    unfold Builtin.List.listLengthHint
    refine wpAny_bind (m := specialOf (.ref (ρ 0)) "__len__") (wpAny_bind (I.type.here ((looks_findIn (r := none) X' (by kernel_rfl)).here ?_)))
    refine wpAny_bind (m := specialOf (.ref (ρ 0)) "__length_hint__") (wpAny_bind (I.type.here ((looks_findIn (r := none) X' (by kernel_rfl)).here ?_)))
    exact wpAny_pure hq
  case self =>
    intro s' Q' E' st hq
    obtain ⟨od, I⟩ := inst st
    refine owit_iter (f := 874) st.1 XX I (by kernel_rfl) (by kernel_rfl) ?_
    refine Ct.use (ct_iter (ρ 0)) B st.1 XX News.nil T (by show dp + 1 < _; omega) (by show un + 1 + 1 + 8 * 1 < _; omega) fun r h' tk' hp kp _ _ F' _ => ?_
    subst hp
    have st' : St 0 h' := by
      obtain ⟨_, pos, tp, v14, v16, vs, ln, sv, h1, N', h2, h3⟩ := st
      exact ⟨F', pos, tp, v14, v16, vs, ln, sv, h1, kp.news N', h2, h3⟩
    obtain ⟨od', I'⟩ := inst st'
    exact owit_it (g := .ref 881) F' XX I' (by kernel_rfl) (hq h' tk' st' fun o e => kp _ _ e)
  case item =>
    intro j s' Q' E' hi st hq
    obtain ⟨od, I⟩ := inst st
    obtain ⟨F', pos, tp, v14, v16, vs, ln, sv, h1, N', h2, h3⟩ := st
    obtain ⟨rfl, hL⟩ := h2 hi
    refine owit_next (f := 881) F' XX I (by kernel_rfl) (by kernel_rfl) ?_
    have hdrop : ts.drop j = ts.getD j [] :: ts.drop (j + 1) := by
      rw [List.drop_eq_getElem_cons hi, List.getD_eq_getElem?_getD, List.getElem?_eq_getElem hi]; rfl
    rw [hdrop] at hL
    have fin : ∀ (q e' : Bool) (r : List Nat), lexRun (x.cps.toList.drop pos) .sp [] false = some (ts.getD j [], q, e', r) → ¬ (ts.getD j [] = [] ∧ q = false) → (e' = true → r = [] ∧ j + 1 = ts.length) → (e' = false → LexLine r (ts.drop (j + 1)) ∧ j + 1 < ts.length) →
        wpAny (model PySem.Challenge.rw_ik0089_01.prog w) (ktrTop dp un gd cn ⟨.function, sn, sg, sc, sm⟩ L a ccd cl outer).in1.in1 (call (.ref 881) [.ref (ρ 0)]) (fun v s' => Q' (some v) s') (OwitStop (model PySem.Challenge.rw_ik0089_01.prog w) (ktrTop dp un gd cn ⟨.function, sn, sg, sc, sm⟩ L a ccd cl outer).in1.in1 Q' E') s' := by
      intro q e' r hrun hz he1 he2
      have C := ct_nx (g := (ts.getD j [], q, e', r)) rk hx (ct_gt rk hx (ct_rt (w := w) κ ρ x pos tp v14 v16 vs ln (some .sp) _ h1 hrun rk hx)) hz
      refine CtM.use C B F' XX N' T (fun _ hq => hq) (by show dp + 11 < _; omega) (by show un + 1 + 1 + 8 * 11 < _; omega) fun v h' tk' hp up F2 => ?_
      obtain ⟨pos', tp', v14', v16', vs', u, ln', g1, g2, rfl, g3⟩ := hp
      have N2 := up (rtMs w κ ρ x ⟨(pos' : Int), tp', v14', v16', if e' = true then .none else .str (Str.ofString " ") vs', ln', Str.ofString ""⟩) [] News.nil (fun _ hq => nomatch hq) rfl g3
      rw [List.append_nil] at N2
      refine hq _ h' tk' ⟨u, if_neg hz⟩ ⟨F2, pos', tp', v14', v16', vs', ln', _, g1, N2, fun hlt => ?_, fun heq => ?_⟩ fun o e => sKeep e up ⟨_, _, _, _, _, _, g3⟩
      · cases e' with
        | true => have := (he1 rfl).2; omega
        | false => exact ⟨rfl, by rw [g2]; exact (he2 rfl).1⟩
      · cases e' with
        | true => exact ⟨rfl, by rw [g2]; exact (he1 rfl).1⟩
        | false => have := (he2 rfl).2; omega
    generalize hr : ts.drop (j + 1) = rest at hL
    generalize ht : ts.getD j [] = tt at hL fin hq
    have hlen : rest.length = ts.length - (j + 1) := by rw [← hr, List.length_drop]
    cases hL with
    | last hrun hz =>
      refine fin _ _ _ hrun hz (fun _ => ⟨rfl, ?_⟩) (fun e => by cases e)
      rw [List.length_nil] at hlen
      omega
    | more hrun hz hL' =>
      refine fin _ _ _ hrun hz (fun e => by cases e) (fun _ => ⟨by rw [hr]; exact hL', ?_⟩)
      have h0 : rest.length ≠ 0 := by cases hL' <;> (intro e; cases e)
      omega
  case done =>
    intro s' Q' E' st hq
    obtain ⟨od, I⟩ := inst st
    obtain ⟨F', pos, tp, v14, v16, vs, ln, sv, h1, N', h2, h3⟩ := st
    obtain ⟨rfl, hd0⟩ := h3 rfl
    refine owit_next (f := 881) F' XX I (by kernel_rfl) (by kernel_rfl) ?_
    have C := ct_nxX (g := ([], false, true, [])) rk hx (ct_gt rk hx (ct_rt (w := w) κ ρ x pos tp v14 v16 vs ln none _ h1 ⟨hd0, rfl⟩ rk hx)) ⟨rfl, rfl⟩
    refine C pr loose mean mg mb dp (un + 1 + 1) gd cn sn sg sc sm a ccd cl outer A₀ base h₀ L m s' _ _ B F' N' XX T (by omega) (by omega) fun e9 h' tk' ho kk1 kk2 => ?_
    obtain ⟨ob, ho1, ho2⟩ := ho
    unfold OwitStop
    refine wpAny_isInstance (b := true) (show ∃ o, h'.get? e9 = some o ∧ o.cls = .type "StopIteration" from ⟨ob, ho1, ho2⟩) (by rw [isSubtype_type]; kernel_rfl) ?_
    show (if true = true then _ else _)
    rw [if_pos rfl]
    have nm : ∀ b o, h₀.get? b = some o → b ∉ (rtMs w κ ρ x ⟨pos, tp, v14, v16, .none, ln, Str.ofString ""⟩).map (·.1) := fun b o e q => by
      obtain ⟨p, hp, e2⟩ := List.mem_map.mp q
      have := (N' p hp).2.2
      rw [e2, e] at this; cases this
    have nL : ∀ b o, h₀.get? b = some o → b ≠ L := fun b o e q => by
      subst q
      exact absurd (Heap.lt_size e) (Nat.not_lt.mpr F'.above)
    exact hq h' tk' ⟨fun b o e e0 nf => kk1 b o e (nm b o e0) (nL b o e0) nf, fun b o e e0 nd => kk2 b o (hideAll_get _ e (nm b o e0)) nd⟩ fun o e => kk1 _ _ e hSm hSL hSf
  case st =>
    refine ⟨F, 0, tp, v14, v16, vs, ln, _, Nat.zero_le _, N, fun _ => ⟨rfl, hl⟩, fun e => ?_⟩
    cases hl <;> cases e
  case q =>
    intro h1 h' tk' acc' c' st dn hg hi
    exact hQ h1 h' S tk' acc' c' st.1 hS0 (fun b o e nf => dn.1 b o (st.1.keep _ _ e) e nf) (fun b o e nd => dn.2 b o (st.1.keep _ _ e) e nd) hg hi
noncomputable abbrev lexD (w : World) (k1 k2 k3 k4 k5 k6 k7 k8 k9 k10 k11 k12 k13 k14 k15 k16 k17 k18 k19 : Tok) (v5 v6 v7 v9 v10 v11 v14 v15 v16 v19 : Tok) (i p f : Addr) (sv : Value) (ln : Int) (tok : Str) : Obj := dictOf [ent w "instream" k1 (.ref i), ent w "infile" k2 (.none), ent w "posix" k3 (.bool true), ent w "eof" k4 (.none), ent w "commenters" k5 (.str (Str.ofString "") v5), ent w "wordchars" k6 (.str wcS v6), ent w "whitespace" k7 (.str (Str.ofString " \t\r\n") v7), ent w "whitespace_split" k8 (.bool true), ent w "quotes" k9 (.str (Str.ofString "'\"") v9), ent w "escape" k10 (.str (Str.ofString "\\") v10), ent w "escapedquotes" k11 (.str (Str.ofString "\"") v11), ent w "state" k12 (sv), ent w "pushback" k13 (.ref p), ent w "lineno" k14 (.int ln v14), ent w "debug" k15 (.int 0 v15), ent w "token" k16 (.str tok v16), ent w "filestack" k17 (.ref f), ent w "source" k18 (.none), ent w "_punctuation_chars" k19 (.str (Str.ofString "") v19)] 19
/-- the same, the ledger written out -/
theorem lex_list0 {ts : List (List Nat)} {k1 k2 k3 k4 k5 k6 k7 k8 k9 k10 k11 k12 k13 k14 k15 k16 k17 k18 k19 v5 v6 v7 v9 v10 v11 v15 v19 q1 q2 q3 tn t : Tok} {X D i e p f : Addr}
   {pr : Program} {loose : List Str} {mean : ExcName → Option Value} {mg mb : Str → Option Value} {dp un : Nat} {gd : Option (List Code)} {cn : Str} {sn : List (Str × NameKind)} {sg sc : Bool} {sm : List (Str × Const)} {a : Addr} {ccd : Value} {cl : List (Str × Addr)} {outer : List Env}
    {A₀ : Around} {base h₀ : Heap} {L : Addr} {m : Str → Option Value} {s : Shared} {Q E : Value → Shared → Prop}
   (B : Below A₀ base outer h₀) (F : Fr h₀ L s.heap m) (XX : (Mine.hd.heap_1 w.params).In h₀) (T : Top pr loose mean mg mb h₀) (hd : dp + 12 < recursionLimit) (hu : un + 8 * 12 < cLine)
   {tp v14 v16 vs : Tok} {ln : Int} (N : News h₀ L s.heap [(f, dqO), (p, dqO), (i, instObj 749 e), (e, sioD w q1 q2 q3 tn t x ((0 : Nat) : Int) tp), (X, instObj 884 D), (D, lexD w k1 k2 k3 k4 k5 k6 k7 k8 k9 k10 k11 k12 k13 k14 k15 k16 k17 k18 k19 v5 v6 v7 v9 v10 v11 v14 v15 v16 v19 i p f (.str (Str.ofString " ") vs) ln (Str.ofString ""))])
   (hDX : @LT.lt Nat _ D X) (hXe : @Ne Nat X e) (hDe : @Ne Nat D e) (hXi : @Ne Nat X i) (hDi : @Ne Nat D i) (hei : @LT.lt Nat _ e i) (hip : @LT.lt Nat _ i p) (hXp : @LT.lt Nat _ X p) (hpf : @LT.lt Nat _ p f) (hx : x.length ≤ 1000) (hl : LexLine x.cps.toList ts) (hts : ts.length ≤ 1000) (hfr : ∀ b ∈ outer.filterMap (·.frame), (h₀.get? b).isSome = true)
   (hQ : ∀ h1 h' S tk' acc' c', Fr h₀ L h1 m → h₀.get? S = none → (∀ b o, h₀.get? b = some o → b ∉ outer.filterMap (·.frame) → h'.get? b = some o) → h₀.UpToSlots h' → h'.get? S = some (lsO acc' c') → ItemsOf (fun j v => ∃ u, v = .str ⟨(ts.getD j []).toArray⟩ u) acc' ts.length → Q (.ref S) { s with heap := h', toks := tk' }) :
    wpAny (model PySem.Challenge.rw_ik0089_01.prog w) (ktrTop dp un gd cn ⟨.function, sn, sg, sc, sm⟩ L a ccd cl outer) (call (.type "list") [.ref X]) Q E s :=
  lex_list (κ := fun n => [0, k1, k2, k3, k4, k5, k6, k7, k8, k9, k10, k11, k12, k13, k14, k15, k16, k17, k18, k19, v5, v6, v7, v9, v10, v11, v15, v19, q1, q2, q3, tn, t].getD n 0) (ρ := fun n => [X, D, i, e, p, f].getD n 0) B F XX T hd hu N ⟨hDX, hXe, hDe, hXi, hDi, hei, hip, hXp, hpf⟩ hx hl hts hfr hQ
end

end Mine
end
section
open PySem PySem.W PyProof.Rows PySem.Spec PySem.Calls
namespace Mine
section
variable {prog : Program} {w : World} {A₀ A : Around} {s : Shared} {base h₀ : Heap} {outer : List Env} {L : Addr} {m mg mb : Str → Option Value} {env : Env} {K : Frag} {p : Program} {loose : List Str} {mean : ExcName → Option Value}
  {R : Result → Shared → Prop} {name qual : Str} {params : Arguments} {body : List Stmt} {scope : Scope} {dV kV doc pm cdv ct oc : Value} {an od : Option Addr} {osl : Array (Option Value)} {f : Addr} {args : Args} {binds : List (Str × Value)}
/-- a def whose end is told by hand -/
theorem code_defR (B : Below A₀ base outer h₀) (F : Fr h₀ L s.heap m) (X₀ : K.In h₀) (T : Top p loose mean mg mb h₀) (hA : A.frames = some (env :: outer)) (hf : env.frame = some L) (hke : env.scope.kind = .function)
    (ho : K.lookup f = some ⟨oc, od, .func (fnOf name qual params body scope dV kV doc pm an cdv ct), osl⟩) (hcd : codeIn K cdv qual = true) (hroom : A.depth < recursionLimit)
    (hbind : BindsTo s (fnOf name qual params body scope dV kV doc pm an cdv ct) args binds) (hloc : ∀ y ∈ binds, scope.names.lookup y.1 = some .local)
    (h : ∀ g L' h₁, g = s.heap → Fr g L' h₁ (fun y => binds.reverse.lookup y) → News g L' h₁ [] → Below A base (env :: outer) g → K.In g → Top p loose mean mg mb g →
      wpAny (model prog w) (A.deeper (envOf qual scope L' f cdv)) (execs body (envOf qual scope L' f cdv))
        (fun fl s' => R (.ok (.ret (match fl with | .ret v => v | _ => .none))) s')
        (fun e s' => wpAny (model prog w) (A.deeper (envOf qual scope L' f cdv)) (leaving (envOf qual scope L' f cdv) e) (fun _ s'' => R (.error e) s'') (fun e' s'' => R (.error e') s'') s')
        { s with heap := h₁, toks := s.toks + binds.length })
    (hco : scope.isCoroutine = false) (hgen : scope.isGenerator = false) (hk : scope.kind = .function)
    (hcell : ∀ x ∈ scope.names, x.2 ≠ .cell) : codeAny (model prog w) A (.call (.ref f) args) R s := by
  obtain ⟨BG, st⟩ := groundQ (A := A) B F hA hf hke
  exact codeAny_call_def (fd := fnOf name qual params body scope dV kV doc pm an cdv ct) (body := body) (binds := binds) hroom ((X₀.keeps F.keep) _ _ ho) rfl (T.nolimit.keeps F.keep) (codeRec_of (X₀.keeps F.keep) hcd) rfl hbind hcell hloc (fun h₁ hns hk₁ => h _ s.heap.objs.size h₁ rfl ⟨hns, hk₁, Nat.le_refl _⟩ News.nil BG (X₀.keeps st) (T.keeps st)) hco hgen hk
end
/-- all that stood stands, but the frame's object L may carry other slots -/
noncomputable def KeptS (L : Addr) (g h : Heap) : Prop := (∀ b o, g.get? b = some o → b ≠ L → h.get? b = some o) ∧ g.UpToSlots h
theorem KeptS.fr {h₀ h h' : Heap} {L : Addr} {m : Str → Option Value} (k : KeptS L h h') (F : Fr h₀ L h m) : Fr h₀ L h' m :=
  ⟨k.2.ns F.ns, fun b o e => k.1 b o (F.keep b o e) fun q => by subst q; exact absurd (Heap.lt_size e) (Nat.not_lt.mpr F.above), F.above⟩
theorem KeptS.news {h₀ h h' : Heap} {L : Addr} {news : List (Addr × Obj)} (k : KeptS L h h') (N : News h₀ L h news) : News h₀ L h' news := fun p hp => ⟨k.1 _ _ (N p hp).1 (N p hp).2.1, (N p hp).2⟩
/-- a contract of a def called by the outermost frame, in which an exception came and went -/
noncomputable def CtS (w : World) (D : Nat) (f : Addr) (vs : List Value) (kw : List (Str × Value)) (Post : Heap → Value → Heap → Prop) : Prop :=
  ∀ (p : Program) (loose : List Str) (mean : ExcName → Option Value) (mg mb : Str → Option Value) (dp un : Nat) (gd : Option (List Code)) (cn : Str) (sn : List (Str × NameKind)) (sg sc : Bool) (sm : List (Str × Const)) (a : Addr) (ccd : Value) (cl : List (Str × Addr))
    (A₀ : Around) (base h₀ : Heap) (L : Addr) (m : Str → Option Value) (s : Shared) (Q : Value → Shared → Prop),
    Below A₀ base [] h₀ → Fr h₀ L s.heap m → (Mine.hd.heap_1 w.params).In h₀ → Top p loose mean mg mb h₀ → dp + D < recursionLimit → un + 8 * D < cLine →
    (∀ r h' tk', Post s.heap r h' → KeptS L s.heap h' → Q r { s with heap := h', toks := tk' }) →
    wpAny (model PySem.Challenge.rw_ik0089_01.prog w) (ktrTop dp un gd cn ⟨.function, sn, sg, sc, sm⟩ L a ccd cl []) (call (.ref f) vs kw) Q (fun _ _ => False) s
theorem CtS.use {w : World} {D : Nat} {f : Addr} {vs : List Value} {kw : List (Str × Value)} {Post : Heap → Value → Heap → Prop} (C : CtS w D f vs kw Post)
   {p : Program} {loose : List Str} {mean : ExcName → Option Value} {mg mb : Str → Option Value} {dp un : Nat} {gd : Option (List Code)} {cn : Str} {sn : List (Str × NameKind)} {sg sc : Bool} {sm : List (Str × Const)} {a : Addr} {ccd : Value} {cl : List (Str × Addr)}
    {A₀ : Around} {base h₀ : Heap} {L : Addr} {m : Str → Option Value} {news : List (Addr × Obj)} {s : Shared} {Q E : Value → Shared → Prop}
    (B : Below A₀ base [] h₀) (F : Fr h₀ L s.heap m) (X : (Mine.hd.heap_1 w.params).In h₀) (N : News h₀ L s.heap news) (T : Top p loose mean mg mb h₀) (hd : dp + D < recursionLimit) (hu : un + 8 * D < cLine)
    (h : ∀ r h' tk', Post s.heap r h' → (∀ {l o}, h'.get? l = some o → s.heap.get? l = none → News h₀ L h' ((l, o) :: news)) → (∀ {l}, s.heap.get? l = none → ∀ p ∈ news, p.1 ≠ l) → Fr h₀ L h' m → News h₀ L h' news → Q r { s with heap := h', toks := tk' }) :
    wpAny (model PySem.Challenge.rw_ik0089_01.prog w) (ktrTop dp un gd cn ⟨.function, sn, sg, sc, sm⟩ L a ccd cl []) (call (.ref f) vs kw) Q E s :=
  wpAny_mono (C p loose mean mg mb dp un gd cn sn sg sc sm a ccd cl A₀ base h₀ L m s Q B F X T hd hu (fun r h' tk' hp k => h r h' tk' hp (fun hl hn => news_made F (k.news N) hl hn) (fun hn => made_ne N hn) (k.fr F) (k.news N))) (fun _ _ x => x) fun _ _ x => x.elim
end Mine
end
section
namespace Mine
theorem set_dictG {prog : Program} {w : World} {A : Around} {E : Value → Shared → Prop} {K : Frag} {x C dx L : Addr} {h₀ hp : Heap} {gs : Array GenState} {dr : Drawn} {tk : Nat} {os : OsState} {m : Str → Option Value} {news : List (Addr × Obj)} {news' : Tok → List (Addr × Obj)} {ox : Obj} {es : List DictEntry} {es' : Tok → List DictEntry} {n n' : Nat} {name : Str} {v : Value} {Q : Unit → Shared → Prop}
   (F : Fr h₀ L hp m) (X₀ : K.In h₀) (N : News h₀ L hp news) (I : InstAt hp x ox C (some (dictOf es n))) (hd : ox.dict = some dx) (a1 : findIn K (.ref C) (Str.ofString "__setattr__") = some (some (.builtin "object.__setattr__"))) (a2 : plainOver K C = true) (a3 : takerIn K C name = some none) (a4 : hasDictIn K C = true) (a5 : (getL name es).isSome = true)
   (e : ∀ t, (putL name (PyData.keyHash w.params name) (.str name t) v es, putN name es n) = (es' t, n')) (U : ∀ t, Upd dx (dictOf es n) (dictOf (es' t) n') news (news' t)) (hz : ∀ t, (es' t).length ≤ 1000)
   (h : ∀ t tk' h', Fr h₀ L h' m → News h₀ L h' (news' t) → Q () ⟨h', gs, dr, tk', os⟩) : wpAny (model prog w) A (setAttr (.ref x) name v) Q E ⟨hp, gs, dr, tk, os⟩ :=
  set_dict F X₀ N I hd a1 a2 a3 a4 a5 (e _) (U _) (hz _) fun h' F' N' => h _ _ h' F' N'
local macro_rules | `(tactic| walk_at "setAttr ref") => `(tactic| first | ktx_write | (k_dflt (refine set_dictG (by k_asm) (by k_asm) (by k_asm) (by k_inst) (by exact rfl) (by k_is) (by k_is) (by k_is) (by k_is) (by k_get) (by intro t; k_put) (by intro t; k_upd) (by intros; exact Nat.le_of_ble_eq_true rfl) ?_; k_whole); intros; (try k_sweep)))
local macro_rules | `(tactic| walk_at "call type:collections.deque") => `(tactic| (k_dflt (refine dq_call (by k_asm) (by k_asm) ?_; k_whole); intro l' h' F' N' l1; (try k_lt l1); (try k_sweep)))
theorem un_kw (A : Around) (C : Addr) (vals : List Value) (kw : List (Str × Value)) : (A.under (.builtin "type.__call__" ⟨.ref C :: vals, kw⟩)).units = A.units + 1 := rfl
local macro_rules | `(tactic| walk_at "call ref") => `(tactic| (k_dflt (refine make_SIO (by k_asm) (by k_asm) (by k_asm) (by k_asm) (by k_asm) (by ktr_room) (by (have hcL9 := cLine_is; (try simp only [un_kw, units_in1, units_deeper, Around.mark_units, units_caller, cLine]); (try dsimp only [ktrTop]); omega)) ?_; intro i7 d7 h7 tk7 F7 N7 n7 n8 l7; (k_lt2 l7); (try simp only [AllNe, and_true] at n7 n8); (try k_fold); k_enter)))
local macro_rules | `(tactic| walk_at "call type:list") => `(tactic| (refine Halt.go ?_))
theorem ct_split {w : World} (x : Str) (t : Tok) (ts : List (List Nat)) (hx : x.length ≤ 1000) (hl : LexLine x.cps.toList ts) (hts : ts.length ≤ 1000) : CtS w 15 896 [.str x t] [] (fun g r h' => ∃ l acc c, r = .ref l ∧ Made g l (lsO acc c) h' ∧ ItemsOf (fun j v => ∃ u, v = .str ⟨(ts.getD j []).toArray⟩ u) acc ts.length) := by
  unfold CtS
  k_fill
  intros
  rename_i hQ9
  refine wpAny_call ?_
  refine' code_defR ?k1 ?k2 ?k3 ?k5 ?kA ?kF ?kK ?k6 ?k7 ?k8 ?k9 ?kB ?_ ?c2 ?c3 ?c4 ?c5
  case kA => exact rfl
  case kF => exact rfl
  case kK => exact rfl
  case k1 => k_asm
  case k2 => k_asm
  case k3 => k_asm
  case k5 => k_asm
  case k6 => k_is
  case k7 => k_is
  case k8 => k_room
  case k9 => (first | exact BindsTo.of_eq rfl | exact binds_K (by k_in) rfl (by k_is) rfl rfl rfl | (refine' kp_binds ?kx ?ke; (case kx => k_in); (case ke => exact fun _ => rfl)))
  case c5 => decide
  case kB => exact locs rfl
  case c2 => exact rfl
  case c3 => exact rfl
  case c4 => exact rfl
  k_whole
  intro g' L' h' kg' F' N' B' X' T'
  (try dsimp only)
  (try k_fold)
  k_steps
  unfold Halt
  rename News _ _ _ _ => N9
  have ew : Str.ofString "abcdfeghijklmnopqrstuvwxyzABCDEFGHIJKLMNOPQRSTUVWXYZ0123456789_ßàáâãäåæçèéêëìíîïðñòóôõöøùúûüýþÿÀÁÂÃÄÅÆÇÈÉÊËÌÍÎÏÐÑÒÓÔÕÖØÙÚÛÜÝÞ" = wcS := rfl
  rw [ew] at N9
  refine' lex_list0 (x := x) B' ?kF X' T' ?d1 ?d2 N9 ?h1 ?h2 ?h3 ?h4 ?h5 ?h6 ?h7 ?h8 ?h9 hx hl hts ?fr ?q
  case kF => k_asm
  case d1 => ktr_room
  case d2 => ktr_units
  case h1 => first | lsm_bools | k_ne | omega
  case h2 => first | lsm_bools | k_ne | omega
  case h3 => first | lsm_bools | k_ne | omega
  case h4 => first | lsm_bools | k_ne | omega
  case h5 => first | lsm_bools | k_ne | omega
  case h6 => first | lsm_bools | k_ne | omega
  case h7 => first | lsm_bools | k_ne | omega
  case h8 => first | lsm_bools | k_ne | omega
  case h9 => first | lsm_bools | k_ne | omega
  case fr =>
    intro b hb
    obtain ⟨o, ho, _⟩ := (B'.frames.mem hb).2
    rw [ho]; rfl
  case q =>
    intro h1 h2 S tk2 acc2 c2 F1 hS0 k1 k2 hg hi
    refine hQ9 _ h2 tk2 ⟨S, acc2, c2, rfl, ⟨hg, by rw [← kg']; exact hS0⟩, hi⟩ ⟨fun b o e n => k1 b o (by rw [kg']; exact e) fun hm => ?_, by rw [← kg']; exact k2⟩
    rcases List.mem_cons.mp hm with e2 | hm
    · exact n e2
    · cases hm

end Mine
end
section
open PySem PySem.W PyProof.Rows PySem.Spec PySem.Calls
namespace Mine
namespace Qr
noncomputable def code : Array Nat := #[14, 17, 4, 1, 1, 21, 9, 0, 604043296, 1, 0, 0, 0, 0, 0, 8, 4, 0, 13, 14, 21, 9, 0, 604043296, 1, 0, 0, 0, 0, 0, 8, 4, 0, 1]
theorem bits_small : ∀ c, c < 256 → ((code.getD (7 + c / 32) 0).testBit (c % 32) || Sre.isWord c) = safeC c := by decide +kernel
theorem safe_big {c : Nat} (h : ¬ c < 256) : safeC c = false ∧ Sre.isWord c = false := by
  constructor
  · cases e : safeC c with
    | false => rfl
    | true => simp only [safeC, Bool.or_eq_true, Bool.and_eq_true, decide_eq_true_eq, beq_iff_eq] at e; omega
  · cases e : Sre.isWord c with
    | false => rfl
    | true => simp only [Sre.isWord, Sre.isDigit, Bool.or_eq_true, Bool.and_eq_true, decide_eq_true_eq, beq_iff_eq] at e; omega
theorem cat (c : Nat) : Sre.category 4 c = .ok (Sre.isWord c) := by
  unfold Sre.category
  show Except.map (· != false) (Except.ok (Sre.isWord c)) = _
  show Except.ok (Sre.isWord c != false) = _
  rw [Bool.bne_false]
theorem set_at (c : Nat) (i : Nat) (hi : i = 5 ∨ i = 20) (s : Sre.Seen) : ∃ s', Sre.inSet code c 34 i true s = .ok (!safeC c, s') := by
  have e0 : Sre.inSet code c 34 i true s = Sre.inSet code c 33 (i + 1) false (s.add 21) := by rcases hi with rfl | rfl <;> rfl
  rw [e0]
  have e1 : ∀ s1, Sre.inSet code c 33 (i + 1) false s1 = if (decide (c < 256) && (code.getD (7 + c / 32) 0).testBit (c % 32)) = true then .ok (false, s1.add 9) else Sre.inSet code c 32 (i + 10) false (s1.add 9) := by
    intro s1
    have key : ∀ k, k ≤ 7 → code.getD (i + 1 + (1 + k)) 0 = code.getD (7 + k) 0 := by rcases hi with rfl | rfl <;> decide
    by_cases hc : c < 256
    · have hk : c / 32 ≤ 7 := by omega
      have := key _ hk
      rcases hi with rfl | rfl
      · show (if (decide (c < 256) && (code.getD (6 + (1 + c / 32)) 0).testBit (c % 32)) = true then _ else _) = _
        rw [this]; rfl
      · show (if (decide (c < 256) && (code.getD (21 + (1 + c / 32)) 0).testBit (c % 32)) = true then _ else _) = _
        rw [this]; rfl
    · rcases hi with rfl | rfl
      · show (if (decide (c < 256) && (code.getD (6 + (1 + c / 32)) 0).testBit (c % 32)) = true then _ else _) = _
        rw [decide_eq_false hc]; rfl
      · show (if (decide (c < 256) && (code.getD (21 + (1 + c / 32)) 0).testBit (c % 32)) = true then _ else _) = _
        rw [decide_eq_false hc]; rfl
  rw [e1]
  have e2 : ∀ s1, Sre.inSet code c 32 (i + 10) false s1 = (do if ← Sre.category 4 c then pure (false, (s1.add 8).add 59) else Sre.inSet code c 31 (i + 12) false ((s1.add 8).add 59)) := by intro s1; rcases hi with rfl | rfl <;> rfl
  have e3 : ∀ s1, Sre.inSet code c 31 (i + 12) false s1 = .ok (true, s1.add 0) := by intro s1; rcases hi with rfl | rfl <;> rfl
  rw [e2, cat, e3]
  by_cases hc : c < 256
  · have hb := bits_small c hc
    rw [decide_eq_true hc, Bool.true_and, ← hb]
    cases (code.getD (7 + c / 32) 0).testBit (c % 32) with
    | true => exact ⟨_, rfl⟩
    | false =>
      cases Sre.isWord c with
      | true => exact ⟨_, rfl⟩
      | false => exact ⟨_, rfl⟩
  · obtain ⟨h1, h2⟩ := safe_big hc
    rw [decide_eq_false hc, h1, h2]
    exact ⟨_, rfl⟩
theorem adm (m : Sre.M) (hm : m.code = code) : ∀ (fuel s : Nat) (seen : Sre.Seen), m.lim - s < fuel →
    (∃ s' seen', s ≤ s' ∧ s' < m.lim ∧ safeC (m.text.getD s' 0) = false ∧ m.admitted fuel s seen = .ok (some s', seen')) ∨ ((∀ k, s ≤ k → k < m.lim → safeC (m.text.getD k 0) = true) ∧ ∃ seen', m.admitted fuel s seen = .ok (none, seen')) := by
  intro fuel
  induction fuel with
  | zero => intro s seen h; omega
  | succ f ih =>
    intro s seen h
    unfold Sre.M.admitted
    by_cases hs : s ≥ m.lim
    · rw [if_pos hs]
      exact .inr ⟨fun k h1 h2 => absurd h2 (by omega), _, rfl⟩
    · rw [if_neg hs, hm]
      obtain ⟨seen1, e⟩ := set_at (m.text.getD s 0) 5 (.inl rfl) seen
      rw [show code.size = 34 from rfl, e]
      cases hq : safeC (m.text.getD s 0) with
      | false => exact .inl ⟨s, seen1, Nat.le_refl _, by omega, hq, rfl⟩
      | true =>
        rcases ih (s + 1) seen1 (by omega) with ⟨s', seen', a1, a2, a3, a4⟩ | ⟨a1, seen', a2⟩
        · exact .inl ⟨s', seen', by omega, a2, a3, a4⟩
        · refine .inr ⟨fun k h1 h2 => ?_, seen', a2⟩
          by_cases hk : k = s
          · rw [hk]; exact hq
          · exact a1 k (by omega) h2
noncomputable def m0 (text : Array Nat) : Sre.M := { code := code, text := text, lim := text.size, start := 0, pc := 18, pos := 0, handed := 0, marks := #[], mustAdvance := false, seen := ({} : Sre.Seen).add 14, lastStart := text.size }
theorem fs (text : Array Nat) (hn : text.size ≠ 0) : Sre.forSearch code text 0 0 text.size false = (m0 text).attemptFrom 0 true := by
  unfold Sre.forSearch
  have hc : (decide (0 > text.size) || decide (text.size - 0 < (Sre.header code).1)) = false := by
    rw [show (Sre.header code).1 = 1 from rfl, Bool.or_eq_false_iff]
    exact ⟨decide_eq_false (by omega), decide_eq_false (by omega)⟩
  rw [if_neg (by rw [hc]; decide)]
  rfl
theorem set_acc (c : Nat) (s : Sre.Seen) : ∃ s', Sre.accepts code 18 c s = .ok (!safeC c, s') := by
  obtain ⟨s', e⟩ := set_at c 20 (.inr rfl) s
  exact ⟨s', e⟩
/-- the search through a text, of which no sign is unsafe, or one is -/
theorem search_none (text : Array Nat) (hn : text.size ≠ 0) (h : ∀ k, k < text.size → safeC (text.getD k 0) = true) : ((Sre.forSearch code text 0 0 text.size false).runFor 4).outcome = some .failed := by
  rw [fs text hn]
  unfold Sre.M.attemptFrom
  rw [if_neg (by rw [show (m0 text).hasFirstSet = true from rfl]; decide)]
  rcases adm (m0 text) rfl (text.size + 1 - 0) 0 (m0 text).seen (by show text.size - 0 < _; omega) with ⟨s', seen', a1, a2, a3, a4⟩ | ⟨a1, seen', a2⟩
  · have := h s' a2
    have a3 : safeC (text.getD s' 0) = false := a3
    rw [this] at a3; cases a3
  · have a2 : (m0 text).admitted ((m0 text).lim + 1 - 0) 0 (m0 text).seen = .ok (none, seen') := a2
    rw [a2]
    rfl
theorem search_some (text : Array Nat) (hn : text.size ≠ 0) (h : ∃ k, k < text.size ∧ safeC (text.getD k 0) = false) : ((Sre.forSearch code text 0 0 text.size false).runFor 4).outcome = some .matched := by
  rw [fs text hn]
  unfold Sre.M.attemptFrom
  rw [if_neg (by rw [show (m0 text).hasFirstSet = true from rfl]; decide)]
  rcases adm (m0 text) rfl (text.size + 1 - 0) 0 (m0 text).seen (by show text.size - 0 < _; omega) with ⟨s', seen', a1, a2, a3, a4⟩ | ⟨a1, seen', a2⟩
  · have a4 : (m0 text).admitted ((m0 text).lim + 1 - 0) 0 (m0 text).seen = .ok (some s', seen') := a4
    have a2 : s' < text.size := a2
    have a3 : safeC (text.getD s' 0) = false := a3
    rw [a4]
    obtain ⟨seen2, e⟩ := set_acc (text.getD s' 0) (seen'.add 13)
    rw [a3] at e
    let m1 : Sre.M := { m0 text with mustAdvance := false, seen := seen', start := s', pos := s', handed := s', frames := [{ wait := .nextStart, pc := 18, pos := s', outermost := true }], weight := 1, pc := 18, outermost := true }
    have ha : Sre.accepts code 18 (text.getD s' 0) (seen'.add 13) = .ok (true, seen2) := e
    have e1 : m1.exec = { m1 with seen := seen2, pc := 18 + Sre.itemWidth code 18, pos := s' + 1 } := by
      refine (if_neg (show ¬ s' ≥ text.size by omega)).trans ?_
      erw [ha]
      rfl
    show (Sre.M.runFor 3 m1.exec).outcome = _
    rw [e1]
    rfl
  · obtain ⟨k, k1, k2⟩ := h
    have := a1 k (Nat.zero_le _) k1
    have k3 : safeC (text.getD k 0) = true := this
    rw [k2] at k3; cases k3
end Qr
end Mine
end
section
open PySem PySem.W PyProof.Rows PySem.Spec PySem.Calls
namespace Mine
namespace Qr
noncomputable def allSafe (x : Str) : Bool := x.cps.toList.all safeC
theorem allSafe_of {x : Str} (h : allSafe x = true) : ∀ k, k < x.cps.size → safeC (x.cps.getD k 0) = true := by
  intro k hk
  have := List.all_eq_true.mp h (x.cps[k]) (by rw [Array.mem_toList_iff]; exact Array.getElem_mem hk)
  simp only [Array.getD]
  rwa [dif_pos hk]
theorem notSafe_of {x : Str} (h : allSafe x = false) : ∃ k, k < x.cps.size ∧ safeC (x.cps.getD k 0) = false := by
  unfold allSafe at h
  rw [List.all_eq_false] at h
  obtain ⟨c, hc, hs⟩ := h
  rw [Array.mem_toList_iff] at hc
  obtain ⟨k, hk, e⟩ := Array.getElem_of_mem hc
  refine ⟨k, hk, ?_⟩
  simp only [Array.getD]
  rw [dif_pos hk]
  show safeC x.cps[k] = false
  rw [e]
  simpa using hs
noncomputable def patO : Obj := { cls := .type "re.Pattern", data := .fields #[.str (Str.ofString "[^\\w@%+=:,./-]") 555, .int 256 592, .int 0 0, .none, .none, .ref 200, .int 0 0] }
noncomputable def codO : Obj := { cls := .type "tuple", data := .seq (code.map fun (n : Nat) => Value.int (n : Int) 0) }
section
variable {prog : Program} {w : World} {A : Around} {E : Value → Shared → Prop} {s : Shared}
theorem drive {m : Sre.M} {Q : Sre.M → Shared → Prop} (ho : (m.runFor 4).outcome.isSome = true) (h : Q (m.runFor 4) s) : wpAny (model prog w) A (Builtin.Re.reDrive (2 ^ 64) m) Q E s := by
  show wpAny _ _ (Builtin.Re.reDrive (18446744073709551615 + 1) m) _ _ _
  unfold Builtin.Re.reDrive
  show wpAny _ _ (if (m.runFor 4).outcome.isSome = true then pure (m.runFor 4) else _) _ _ _
  rw [if_pos ho]
  exact wpAny_pure h
theorem toEnd {m : Sre.M} {oc : Sre.Outcome} {Q : Option Sre.M → Shared → Prop} (ho : (m.runFor 4).outcome = some oc) (h : match oc with | .matched => Q (some (m.runFor 4)) s | .failed => Q none s | .stuck _ => False) : wpAny (model prog w) A (Builtin.Re.reRunToEnd m) Q E s := by
  unfold Builtin.Re.reRunToEnd
  refine wpAny_bind (drive (by rw [ho]; rfl) ?_)
  refine wpAny_bind ?_
  refine wpAny_forIn_list _ (fun _ _ s' => s' = s) _ ?_ ?_ _ _ rfl
  · rintro k rest b s' rfl
    by_cases hb : ((m.runFor 4).seen.has k) = true
    · rw [if_pos hb]
      refine wpAny_bind (wpAny_rule (wpAny_pure rfl))
    · rw [if_neg hb]
      exact wpAny_pure rfl
  · rintro b s' rfl
    rw [ho]
    cases oc with
    | matched => exact wpAny_pure h
    | failed => exact wpAny_pure h
    | stuck why => exact h.elim
theorem target {x : Str} {t : Tok} {Q : Builtin.Re.ReTarget → Shared → Prop} (h1 : s.heap.get? 201 = some patO) (h2 : s.heap.get? 200 = some codO) (hx : x.length ≤ 1000)
    (h : Q { pattern := .ref 201, string := .str x t, code := code, text := x.cps, kind := 0, groups := 0, pos := 0, lim := x.cps.size } s) :
    wpAny (model prog w) A (Builtin.Re.reTarget "re.Pattern.search" "search" ⟨[.ref 201, .str x t], []⟩) Q E s := by
  unfold Builtin.Re.reTarget
  dsimp only
  refine wpAny_bind (wpAny_of_eq (a := [some (.str x t), none, none]) (by kernel_rfl) ?_)
  dsimp only
  refine wpAny_bind (wpAny_pure ?_)
  refine wpAny_bind (wpAny_pure ?_)
  refine wpAny_bind (wpAny_fieldsOf h1 rfl ?_)
  refine wpAny_bind (wpAny_of_eq (a := (x.cps, 0)) rfl ?_)
  dsimp only
  refine wpAny_bind (wpAny_of_eq (a := PUnit.unit) (by kernel_rfl) ?_)
  refine wpAny_bind ?_
  show wpAny _ _ (Builtin.Re.reRawItems (.ref 200)) _ _ _
  unfold Builtin.Re.reRawItems
  refine wpAny_bind (wpAny_seqItems h2 rfl (wpAny_pure ?_))
  refine wpAny_pure ?_
  have hlim : min (2 ^ 63 - 1 : Int).toNat x.cps.size = x.cps.size := by
    have : x.cps.size ≤ 1000 := hx
    rw [show ((2 ^ 63 - 1 : Int).toNat) = 9223372036854775807 from rfl]
    omega
  have hcode : Array.map (fun (z : Int) => z.toNat) (Array.map Builtin.Re.reRawOf ((some (code.map fun (n : Nat) => Value.int (n : Int) 0)).getD #[])) = code := by decide +kernel
  show Q { pattern := _, string := _, code := Array.map (fun (z : Int) => z.toNat) (Array.map Builtin.Re.reRawOf ((some (code.map fun (n : Nat) => Value.int (n : Int) 0)).getD #[])), text := _, kind := _, groups := _, pos := min 0 x.cps.size, lim := min (2 ^ 63 - 1 : Int).toNat x.cps.size } s
  rw [hlim, hcode, Nat.zero_min]
  exact h
theorem newMatch {m : Sre.M} {st x : Value} {n : Nat} {Q : Value → Shared → Prop} (h : ∀ o1 o2, Q (.ref (s.heap.objs.size + 1)) { s with heap := (s.heap.push o1).push o2 }) : wpAny (model prog w) A (Builtin.Re.reNewMatch st x 0 0 n m) Q E s := by
  unfold Builtin.Re.reNewMatch
  dsimp only
  unfold newFields
  refine wpAny_bind (wpAny_newTuple ?_ (by exact Nat.le_trans (show (2 : Nat) ≤ 1000 by decide) (by rw [sizeLine_eq]; decide)))
  refine wpAny_newObj_type ?_ (by size_fits)
  have e : ∀ o1, (s.heap.push o1).objs.size = s.heap.objs.size + 1 := fun _ => Heap.size_push ..
  show Q (.ref ((s.heap.push _).objs.size)) _
  rw [e]
  exact h _ _
theorem search {x : Str} {t : Tok} {P : Fin → Shared → Prop} (h1 : s.heap.get? 201 = some patO) (h2 : s.heap.get? 200 = some codO) (hx : x.length ≤ 1000) (hn : x.length ≠ 0)
    (hs : allSafe x = true → P (.done (.ret .none)) s) (hu : allSafe x = false → ∀ o1 o2, P (.done (.ret (.ref (s.heap.objs.size + 1)))) { s with heap := (s.heap.push o1).push o2 }) :
    wpAny (model prog w) A (Builtin.«re.Pattern.search» ⟨[.ref 201, .str x t], []⟩) P E s := by
  unfold Builtin.«re.Pattern.search»
  refine wpAny_bind (target h1 h2 hx ?_)
  unfold Builtin.Re.reAnswer
  cases e : allSafe x with
  | true =>
    refine wpAny_bind (toEnd (search_none x.cps hn (allSafe_of e)) ?_)
    exact wpAny_pure (hs e)
  | false =>
    refine wpAny_bind (toEnd (search_some x.cps hn (notSafe_of e)) ?_)
    dsimp only
    refine wpAny_bind (newMatch fun o1 o2 => ?_)
    exact wpAny_pure (hu e o1 o2)
theorem entry_search : entryFor table "re.Pattern.search" = some Builtin.«re.Pattern.search» := entryFor_of_tree (by kernel_rfl)
theorem quiet_search {as : Args} : (Code.builtin "re.Pattern.search" as).quiet = true := Code.quiet_builtin _ (by decide +kernel)
noncomputable def sgS : Manifest.Signature := { machinery := .keywords, full := "Pattern.search", short := "search", receiver := .self, params := [{ name := "string", kind := .posOrKw, required := true }, { name := "pos", kind := .posOrKw, required := false }, { name := "endpos", kind := .posOrKw, required := false }] }
theorem sig_search : Manifest.signature? "re.Pattern.search" = some sgS := by kernel_rfl
theorem kind_search : builtinKind "re.Pattern.search" = some .method := by kernel_rfl
theorem sub_pm : isSubtype (.type "re.Pattern") (.type "module") = pure false := by rw [isSubtype_type]; kernel_rfl
theorem chk_args {x : Str} {t : Tok} : Bind.checkArgs "re.Pattern.search" { sgS with full := s!"{Bind.lastOf "re.Pattern"}.{Bind.lastOf "re.Pattern.search"}" } ⟨[.ref 201, .str x t], []⟩ = pure () := by kernel_rfl
theorem check_search {x : Str} {t : Tok} {Q : Unit → Shared → Prop} (h1 : s.heap.get? 201 = some patO) (h : Q () s) : wpAny (model prog w) A (checkBoundCall "re.Pattern.search" ⟨[.ref 201, .str x t], []⟩) Q E s := by
  have hT : s.TypeIs (.ref 201) "re.Pattern" := ⟨_, h1, rfl⟩
  have e1 := sub_pm
  have e2 := @chk_args x t
  unfold checkBoundCall
  rw [sig_search, kind_search]
  dsimp only
  refine KFB.if_not rfl ?_
  refine wpAny_bind (wpAny_isInstance hT e1 ?_)
  refine KFB.if_not (by decide +kernel) ?_
  have k1 : wpAny (model prog w) A (isType (.ref 201)) (fun b s' => b = false ∧ s' = s) E s := by
    obtain ⟨hp, g, d, tk, os⟩ := s
    have h1 : hp.get? 201 = some patO := h1
    unfold isType
    repeat (any_goals (first | assumption | exact ⟨rfl, rfl⟩ | wp_step))
  refine wpAny_bind (wpAny_mono k1 (fun b s' hb => ?_) fun _ _ z => z)
  obtain ⟨rfl, rfl⟩ := hb
  refine wpAny_bind ?_
  show wpAny _ _ (typeOf (.ref 201)) _ _ _
  refine wpAny_typeOf hT ?_
  dsimp only
  exact wpAny_of_eq e2 h
noncomputable def bndO : Obj := { cls := .type "builtin_function_or_method", data := .fields #[.builtin "re.Pattern.search", .ref 201] }
theorem call_search {x : Str} {t : Tok} {Q : Value → Shared → Prop} (h0 : s.heap.get? 897 = some bndO) (h1 : s.heap.get? 201 = some patO) (h2 : s.heap.get? 200 = some codO) (hx : x.length ≤ 1000) (hn : x.length ≠ 0)
    (hs : allSafe x = true → Q .none s) (hu : allSafe x = false → ∀ o1 o2, Q (.ref (s.heap.objs.size + 1)) { s with heap := (s.heap.push o1).push o2 }) : wpAny (model prog w) A (call (.ref 897) [.str x t]) Q E s := by
  refine wpAny_call (codeAny_of_tree ?_)
  show wpAny _ A.in1 (callAny (.ref 897) ⟨[.str x t], []⟩) _ _ s
  simp only [callAny]
  refine wpAny_bind (wpAny_load h0 ?_)
  simp only [bndO, show (Value.type "builtin_function_or_method" == Value.type "method" || Value.type "builtin_function_or_method" == Value.type "builtin_function_or_method" || Value.type "builtin_function_or_method" == Value.type "method-wrapper") = true by decide, if_true]
  refine KFB.if_so (by decide) ?_
  refine wpAny_bind (check_search h1 ?_)
  refine wpAny_bind (wpAny_pure (wpAny_pure ?_))
  exact ⟨quiet_search, codeAny_builtin entry_search (search h1 h2 hx hn hs hu)⟩
end
section
variable {prog : Program} {w : World} {A : Around} {E : Value → Shared → Prop} {s : Shared} {h₀ : Heap} {L : Addr} {m : Str → Option Value} {news : List (Addr × Obj)}
theorem find_call {x : Str} {t : Tok} {Q : Value → Shared → Prop} (F : Fr h₀ L s.heap m) (N : News h₀ L s.heap news) (X₀ : (Mine.hd.heap_1 w.params).In h₀) (hx : x.length ≤ 1000) (hn : x.length ≠ 0)
    (hs : allSafe x = true → Q .none s) (hu : allSafe x = false → ∀ l h', Fr h₀ L h' m → News h₀ L h' news → Q (.ref l) { s with heap := h' }) : wpAny (model prog w) A (call (.ref 897) [.str x t]) Q E s :=
  call_search ((X₀.keeps F.keep) 897 _ (by kernel_rfl)) ((X₀.keeps F.keep) 201 _ (by kernel_rfl)) ((X₀.keeps F.keep) 200 _ (by kernel_rfl)) hx hn hs fun e o1 o2 => hu e _ _ ((F.push o1).push (h := s.heap.push o1) o2) fun p hp => by
    have z := N p hp
    exact ⟨Heap.get?_push_of_some _ (Heap.get?_push_of_some _ z.1), z.2⟩
theorem find_keep {M : Model} (h : Heap) (X : (Mine.hd.heap_1 M.w.params).In h) : ∃ k, (k = Keeper.frame ∨ k = Keeper.machine ∨ k = Keeper.boundFrame) ∧ Looks M h (keeperOf (.ref 897)) k :=
  ⟨.machine, .inr (.inl rfl), (Looks.ld (part := none) (X 897 bndO (by kernel_rfl))).andThen .now⟩
theorem find_callWith {pos : Pos} {env : Env} {e : Expr} {rest : List Expr} {Q : Value → Shared → Prop} (_X : (Mine.hd.heap_1 w.params).In h₀) (h : wpAny (model prog w) A (spliced (backTo pos (starEach (e :: rest) env))) (fun vs s₁ => (Mine.hd.heap_1 w.params).In s₁.heap ∧ wpAny (model prog w) A (call (.ref 897) ([] ++ vs)) Q E s₁) E s)
    (he : starEach (e :: rest) env = (false, eval e env) :: starEach rest env := by rfl) (hplain : (backTo pos (starEach rest env)).any (·.1) = false := by rfl) :
    wpAny (model prog w) A (callWith pos (.ref 897) [] (backTo pos (starEach (e :: rest) env)) []) Q E s := by
  rw [he] at h ⊢
  exact callWith_of (by show ((false || (backTo pos (starEach rest env)).any (·.1)) || false) = false; rw [hplain]; rfl) find_keep (evalArgs_plain h)
end
end Qr
end Mine
end
section
namespace Mine
local macro_rules | `(tactic| walk_at "callWith ref nil nil") => `(tactic| ((with_reducible show wpAny _ _ (callWith _ (Value.ref 897) [] (backTo _ (starEach (_ :: _) _)) []) _ _ _); k_dflt (refine Qr.find_callWith (by k_asm) ?_; k_whole)))
local macro_rules | `(tactic| walk_at "call ref") => `(tactic| ((try dsimp only [List.append_nil, List.cons_append, List.nil_append]); k_dflt (first | (refine Qr.find_call (by k_asm) (by k_asm) (by k_asm) (by omega) (by omega) (fun _ => ?_) (fun e5 => absurd e5 (by rw [(by with_reducible assumption : Qr.allSafe _ = true)]; decide))) | (refine Qr.find_call (by k_asm) (by k_asm) (by k_asm) (by omega) (by omega) (fun e5 => absurd e5 (by rw [(by with_reducible assumption : Qr.allSafe _ = false)]; decide)) (fun _ l5 h5 F5 N5 => ?_)))))
noncomputable def repQ (x : Str) : Str := Txt.replace x (Str.ofString "'") (Str.ofString "'\"'\"'")
noncomputable def quoteOf (x : Str) : Str := if x.length = 0 then Str.ofString "''" else if Qr.allSafe x = true then x else Str.ofString "'" ++ Txt.replace x (Str.ofString "'") (Str.ofString "'\"'\"'") ++ Str.ofString "'"
theorem qo_1 {x : Str} (h : ((x.length : Nat) : Int) = 0) : quoteOf x = Str.ofString "''" := by unfold quoteOf; rw [if_pos (by omega)]
theorem qo_2 {x : Str} (h : ((x.length : Nat) : Int) ≠ 0) (h2 : Qr.allSafe x = true) : quoteOf x = x := by unfold quoteOf; rw [if_neg (by omega), if_pos h2]
theorem qo_3 {x : Str} (h : ((x.length : Nat) : Int) ≠ 0) (h2 : Qr.allSafe x = false) : quoteOf x = Str.ofString "'" ++ Txt.replace x (Str.ofString "'") (Str.ofString "'\"'\"'") ++ Str.ofString "'" := by unfold quoteOf; rw [if_neg (by omega), if_neg (by rw [h2]; decide)]
theorem ct_quote {w : World} (x : Str) (t : Tok) (hx : x.length ≤ 1000) (hr : (repQ x).length ≤ 4000) : Ct w 8 904 [.str x t] [] (fun _ r _ => ∃ u, r = .str (quoteOf x) u) := by
  have hr : (Txt.replace x (Str.ofString "'") (Str.ofString "'\"'\"'")).length ≤ 4000 := hr
  unfold Ct
  k_fill
  intros
  cases hS : Qr.allSafe x
  · (refine wpAny_call ?_; k_dflt (first
  | (refine' code_defQ ?k1 ?k2 ?k3 ?k5 ?kA ?kF ?kK ?k6 ?k7 ?k8 ?k9 ?kB ?_ ?c2 ?c3 ?c4 ?c5; (case kA => exact rfl); (case kF => exact rfl); (case kK => exact rfl); (case k1 => k_asm); (case k2 => k_asm); (case k3 => k_asm); (case k5 => k_asm); (case k6 => k_is); (case k7 => k_is); (case k8 => k_room); (case k9 => (first | exact BindsTo.of_eq rfl | exact binds_K (by k_in) rfl (by k_is) rfl rfl rfl | (refine' kp_binds ?kx ?ke; (case kx => k_in); (case ke => exact fun _ => rfl)))); (case c5 => decide); (case kB => exact locs rfl); (case c2 => exact rfl); (case c3 => exact rfl); (case c4 => exact rfl); k_whole; intro g' L' h' kp' kn' F' N' B' X' T'; (try dsimp only); (try k_fold); refine genM F' ?_; clear F'; intro m9 F')
  | (refine' code_defCQ ?k1 ?k2 ?k3 ?k5 ?kA ?kF ?kK ?k6 ?k7 ?k8 ?k9 ?kB ?kD ?_ ?c2 ?c3 ?c4; (case kA => exact rfl); (case kF => exact rfl); (case kK => exact rfl); (case k1 => k_asm); (case k2 => k_asm); (case k3 => k_asm); (case k5 => k_asm); (case k6 => k_is); (case k7 => k_is); (case k8 => k_room); (case k9 => (first | exact BindsTo.of_eq rfl | exact binds_K (by k_in) rfl (by k_is) rfl rfl rfl | (refine' kp_binds ?kx ?ke; (case kx => k_in); (case ke => exact fun _ => rfl)))); (case kB => exact rfl); (case kD => decide +kernel); (case c2 => exact rfl); (case c3 => exact rfl); (case c4 => exact rfl); k_whole; intro g' L' h' tk' cells' kp' kn' F' N' Y' B' X' T'; k_cells Y'; (try simp only [List.cons_append, List.nil_append] at N'); (try dsimp only); (try k_fold); refine genM F' ?_; clear F'; intro m9 F')
  | (refine' kp_restQ ?k1 ?k2 ?k3 ?k5 ?kA ?kF ?kK ?k6 ?k7 ?k8 ?kV ?kP ?kG ?kB ?_ ?c2 ?c3 ?c4 ?c5; (case kA => exact rfl); (case kF => exact rfl); (case kK => exact rfl); (case k1 => k_asm); (case k2 => k_asm); (case k3 => k_asm); (case k5 => k_asm); (case k6 => k_is); (case k7 => k_is); (case k8 => k_room); (case kV => first | kl_lit | exact rfl); (case kP => exact rfl); (case kG => exact fun _ => rfl); (case kB => exact fun _ => locs rfl); (case c5 => decide); (case c2 => exact rfl); (case c3 => exact rfl); (case c4 => exact rfl); k_whole; intro D' g' L' h' kp' l1 l2 F' N' B' X' T'; (try dsimp only); (try k_fold); refine genM F' ?_; clear F'; intro m9 F')))
    k_steps
    all_goals (refine' Ret.go (by assumption) ?e1 ?e2 ?e3; (case e1 => assumption); (case e2 => assumption); (case e3 => first | exact ⟨_, congrArg (Value.str · _) (qo_1 (by assumption)).symm⟩ | exact ⟨_, congrArg (Value.str · _) (qo_3 (by assumption) (by assumption)).symm⟩))
  · (refine wpAny_call ?_; k_dflt (first
  | (refine' code_defQ ?k1 ?k2 ?k3 ?k5 ?kA ?kF ?kK ?k6 ?k7 ?k8 ?k9 ?kB ?_ ?c2 ?c3 ?c4 ?c5; (case kA => exact rfl); (case kF => exact rfl); (case kK => exact rfl); (case k1 => k_asm); (case k2 => k_asm); (case k3 => k_asm); (case k5 => k_asm); (case k6 => k_is); (case k7 => k_is); (case k8 => k_room); (case k9 => (first | exact BindsTo.of_eq rfl | exact binds_K (by k_in) rfl (by k_is) rfl rfl rfl | (refine' kp_binds ?kx ?ke; (case kx => k_in); (case ke => exact fun _ => rfl)))); (case c5 => decide); (case kB => exact locs rfl); (case c2 => exact rfl); (case c3 => exact rfl); (case c4 => exact rfl); k_whole; intro g' L' h' kp' kn' F' N' B' X' T'; (try dsimp only); (try k_fold); refine genM F' ?_; clear F'; intro m9 F')
  | (refine' code_defCQ ?k1 ?k2 ?k3 ?k5 ?kA ?kF ?kK ?k6 ?k7 ?k8 ?k9 ?kB ?kD ?_ ?c2 ?c3 ?c4; (case kA => exact rfl); (case kF => exact rfl); (case kK => exact rfl); (case k1 => k_asm); (case k2 => k_asm); (case k3 => k_asm); (case k5 => k_asm); (case k6 => k_is); (case k7 => k_is); (case k8 => k_room); (case k9 => (first | exact BindsTo.of_eq rfl | exact binds_K (by k_in) rfl (by k_is) rfl rfl rfl | (refine' kp_binds ?kx ?ke; (case kx => k_in); (case ke => exact fun _ => rfl)))); (case kB => exact rfl); (case kD => decide +kernel); (case c2 => exact rfl); (case c3 => exact rfl); (case c4 => exact rfl); k_whole; intro g' L' h' tk' cells' kp' kn' F' N' Y' B' X' T'; k_cells Y'; (try simp only [List.cons_append, List.nil_append] at N'); (try dsimp only); (try k_fold); refine genM F' ?_; clear F'; intro m9 F')
  | (refine' kp_restQ ?k1 ?k2 ?k3 ?k5 ?kA ?kF ?kK ?k6 ?k7 ?k8 ?kV ?kP ?kG ?kB ?_ ?c2 ?c3 ?c4 ?c5; (case kA => exact rfl); (case kF => exact rfl); (case kK => exact rfl); (case k1 => k_asm); (case k2 => k_asm); (case k3 => k_asm); (case k5 => k_asm); (case k6 => k_is); (case k7 => k_is); (case k8 => k_room); (case kV => first | kl_lit | exact rfl); (case kP => exact rfl); (case kG => exact fun _ => rfl); (case kB => exact fun _ => locs rfl); (case c5 => decide); (case c2 => exact rfl); (case c3 => exact rfl); (case c4 => exact rfl); k_whole; intro D' g' L' h' kp' l1 l2 F' N' B' X' T'; (try dsimp only); (try k_fold); refine genM F' ?_; clear F'; intro m9 F')))
    k_steps
    all_goals (refine' Ret.go (by assumption) ?e1 ?e2 ?e3; (case e1 => assumption); (case e2 => assumption); (case e3 => first | exact ⟨_, congrArg (Value.str · _) (qo_1 (by assumption)).symm⟩ | exact ⟨_, congrArg (Value.str · _) (qo_2 (by assumption) (by assumption)).symm⟩))

end Mine
end
section
open PySem PySem.W PyProof.Rows PySem.Spec PySem.Calls
namespace Mine
theorem and_shift {a b : Nat} (hb : b < 256) : a * 256 &&& b = 0 := by
  apply Nat.eq_of_testBit_eq
  intro i
  rw [Nat.testBit_and, Nat.zero_testBit, show (256 : Nat) = 2 ^ 8 from rfl, Nat.testBit_mul_two_pow]
  by_cases hi : i ≥ 8
  · have : b.testBit i = false := Nat.testBit_lt_two_pow (Nat.lt_of_lt_of_le hb (Nat.pow_le_pow_right (n := 2) (by decide) hi))
    rw [this, Bool.and_false]
  · rw [decide_eq_false hi]; rfl
theorem bitOr_shift {a b : Int} (ha : 0 ≤ a) (hb : 0 ≤ b) (hb2 : b < 256) : Builtin.bitOr (a * 256) b = a * 256 + b := by
  rw [bitOr_and]
  have : Builtin.bitAnd (a * 256) b = 0 := by
    unfold Builtin.bitAnd
    rw [decide_eq_true (by omega : 0 ≤ a * 256), decide_eq_true hb]
    show (((a * 256).toNat &&& b.toNat : Nat) : Int) = 0
    have e : (a * 256).toNat = a.toNat * 256 := by omega
    rw [e, and_shift (by omega)]; rfl
  omega
section
variable {prog : Program} {w : World} {A : Around} {E : Value → Shared → Prop} {s : Shared} {a b : Int} {t u : Tok} {Q : Value → Shared → Prop}
theorem and63 (h : Q (.int (a % 64) s.toks) { s with toks := s.toks + 1 }) : wpAny (model prog w) A (binaryOp .BitAnd (.int a t) (.int 63 u)) Q E s := and_int (by rw [bitAnd_m6]; exact h)
theorem and65535 (h : Q (.int (a % 65536) s.toks) { s with toks := s.toks + 1 }) : wpAny (model prog w) A (binaryOp .BitAnd (.int a t) (.int 65535 u)) Q E s := and_int (by rw [bitAnd_m16]; exact h)
theorem and3 (h : Q (.int (a % 4) s.toks) { s with toks := s.toks + 1 }) : wpAny (model prog w) A (binaryOp .BitAnd (.int a t) (.int 3 u)) Q E s := and_int (by rw [bitAnd_m2]; exact h)
theorem and15 (h : Q (.int (a % 16) s.toks) { s with toks := s.toks + 1 }) : wpAny (model prog w) A (binaryOp .BitAnd (.int a t) (.int 15 u)) Q E s := and_int (by rw [bitAnd_m4]; exact h)
theorem shl8 (ha : a.natAbs < 2 ^ 64) (h : Q (.int (a * 256) s.toks) { s with toks := s.toks + 1 }) : wpAny (model prog w) A (binaryOp .LShift (.int a t) (.int 8 u)) Q E s := lshift_int_small (by decide) (by decide) ha h
theorem shl4 (ha : a.natAbs < 2 ^ 64) (h : Q (.int (a * 16) s.toks) { s with toks := s.toks + 1 }) : wpAny (model prog w) A (binaryOp .LShift (.int a t) (.int 4 u)) Q E s := lshift_int_small (by decide) (by decide) ha h
theorem shl2 (ha : a.natAbs < 2 ^ 64) (h : Q (.int (a * 4) s.toks) { s with toks := s.toks + 1 }) : wpAny (model prog w) A (binaryOp .LShift (.int a t) (.int 2 u)) Q E s := lshift_int_small (by decide) (by decide) ha h
theorem or8 (ha : 0 ≤ a) (hb : 0 ≤ b) (hb2 : b < 256) (h : Q (.int (a * 256 + b) s.toks) { s with toks := s.toks + 1 }) : wpAny (model prog w) A (binaryOp .BitOr (.int (a * 256) t) (.int b u)) Q E s := or_int (by rw [bitOr_shift ha hb hb2]; exact h)
theorem shr {n k : Int} {p : Int} (hn : n = k) (hk : 0 ≤ k) (hp : 2 ^ k.toNat = p) (h : Q (.int (a.fdiv p) s.toks) { s with toks := s.toks + 1 }) : wpAny (model prog w) A (binaryOp .RShift (.int a t) (.int n u)) Q E s := by
  subst hn
  subst hp
  exact rshift_int hk h
end
noncomputable def tabB : List Int := [65, 66, 67, 68, 69, 70, 71, 72, 73, 74, 75, 76, 77, 78, 79, 80, 81, 82, 83, 84, 85, 86, 87, 88, 89, 90, 97, 98, 99, 100, 101, 102, 103, 104, 105, 106, 107, 108, 109, 110, 111, 112, 113, 114, 115, 116, 117, 118, 119, 120, 121, 122, 48, 49, 50, 51, 52, 53, 54, 55, 56, 57, 43, 47]
theorem make_A {prog : Program} {w : World} {A : Around} {E : Value → Shared → Prop} {s : Shared} {h₀ : Heap} {L D : Addr} {m : Str → Option Value} {news : List (Addr × Obj)} {its : Array Value} {n : Nat} {ns : List Int} {Q : Value → Shared → Prop} (F : Fr h₀ L s.heap m) (N : News h₀ L s.heap news) (hh : A.handled = none) (hm : (D, W.listOf its n) ∈ news) (hi : IntsAre its.toList ns) (hr : KBa.In ns) (hn : ns.length ≤ 100)
    (h : ∀ h' t' k, Fr h₀ L h' m → News h₀ L h' news → Q (.bytes (byteArr ns) t') { s with heap := h', toks := k }) : wpAny (model prog w) A (call (.type "bytes") [.ref D]) Q E s :=
  KBa.make_K F N hh (vs := its.toList) ⟨_, (N _ hm).1, rfl, n, by rw [Array.toArray_toList]⟩ hi hr (by omega) fun h' t' k F' N' _ => h h' t' k F' N'
noncomputable def b64one (c : Int) : List Int := [tabB.getD (c / 4).toNat 0, tabB.getD (c % 4 * 16).toNat 0, 61, 61]
noncomputable def b64two (c d : Int) : List Int := [tabB.getD (c / 4).toNat 0, tabB.getD (c % 4 * 16 + d / 16).toNat 0, tabB.getD (d % 16 * 4).toNat 0, 61]
theorem tab_in (i : Nat) : 0 ≤ tabB.getD i 0 ∧ tabB.getD i 0 < 256 := by
  rw [List.getD_eq_getElem?_getD]
  cases e : tabB[i]? with
  | none => exact ⟨by decide, by decide⟩
  | some v =>
    have : ∀ z ∈ tabB, 0 ≤ z ∧ z < 256 := by decide
    exact this v (List.mem_of_getElem? e)
theorem m0 {c : Int} (h0 : 0 ≤ c) (h1 : c < 256) : (0 * 256 + c) % 65536 = c := by rw [Int.zero_mul, Int.zero_add]; exact Int.emod_eq_of_lt h0 (Int.lt_trans h1 (by decide))
theorem m1 {c d : Int} (h0 : 0 ≤ c) (h1 : c < 256) (g0 : 0 ≤ d) (g1 : d < 256) : (c * 256 + d) % 65536 = c * 256 + d := Int.emod_eq_of_lt (by omega) (by omega)
theorem one_1 {c : Int} (h0 : 0 ≤ c) (h1 : c < 256) : (((0 * 256 + c) % 65536).fdiv 4 % 64).toNat = (c / 4).toNat := by rw [Int.fdiv_eq_ediv_of_nonneg _ (by decide), m0 h0 h1, Int.emod_eq_of_lt (Int.ediv_nonneg h0 (by decide)) (Int.ediv_lt_of_lt_mul (by decide) h1)]
theorem one_2 {c : Int} (h0 : 0 ≤ c) (h1 : c < 256) : ((0 * 256 + c) % 65536 % 4 * 16).toNat = (c % 4 * 16).toNat := by rw [m0 h0 h1]
theorem b_z {d : Int} (g0 : 0 ≤ d) (g1 : d < 256) : 0 ≤ d / 16 ∧ d / 16 < 16 := ⟨Int.ediv_nonneg g0 (by decide), Int.ediv_lt_of_lt_mul (by decide) g1⟩
theorem two_2 {c d : Int} (h0 : 0 ≤ c) (h1 : c < 256) (g0 : 0 ≤ d) (g1 : d < 256) : (((((0 * 256 + c) % 65536) * 256 + d) % 65536).fdiv 16 % 64).toNat = (c % 4 * 16 + d / 16).toNat := by
  rw [Int.fdiv_eq_ediv_of_nonneg _ (by decide), m0 h0 h1, m1 h0 h1 g0 g1, show c * 256 + d = d + c * 16 * 16 by rw [Int.mul_assoc, Int.add_comm]; rfl, Int.add_mul_ediv_right _ _ (by decide)]
  obtain ⟨e3, e2⟩ := b_z g0 g1
  generalize d / 16 = z at e2 e3
  clear h0 h1 g0 g1
  have := Int.emod_nonneg c (b := 4) (by decide)
  have := Int.emod_lt_of_pos c (b := 4) (by decide)
  have e : z + c * 16 = c % 4 * 16 + z + 64 * (c / 4) := by
    have q := Int.emod_add_mul_ediv c 4
    generalize c % 4 = x at q ⊢
    generalize c / 4 = y at q ⊢
    subst q
    omega
  rw [e, Int.add_mul_emod_self_left, Int.emod_eq_of_lt (by omega) (by omega)]
theorem two_3 {c d : Int} (h0 : 0 ≤ c) (h1 : c < 256) (g0 : 0 ≤ d) (g1 : d < 256) : (((((0 * 256 + c) % 65536) * 256 + d) % 65536) % 16 * 4).toNat = (d % 16 * 4).toNat := by
  rw [m0 h0 h1, m1 h0 h1 g0 g1, show c * 256 + d = d + c * 16 * 16 by rw [Int.mul_assoc, Int.add_comm]; rfl, Int.add_mul_emod_self_right]
theorem in_list {ns : List Int} (h : ∀ k ∈ ns, 0 ≤ k ∧ k < 256) : KBa.In ns := h
end Mine
end
section
namespace Mine
theorem mod_abs {x m : Int} (h0 : 0 < m) (h : m ≤ 2 ^ 63) : (x % m).natAbs < 2 ^ 64 := by
  have := Int.emod_nonneg x (Int.ne_of_gt h0)
  have := Int.emod_lt_of_pos x h0
  omega
local macro_rules | `(tactic| walk_at "call type:type") => `(tactic| ((with_reducible show wpAny _ _ (call _ [Value.bytes _ _]) _ _ _); refine call_type_of (Tx := "bytes") rfl (by decide +kernel) ?_))
local macro_rules | `(tactic| walk_at "pyIter bytes") => `(tactic| ((with_reducible show wpAny _ _ (pyIter (Value.bytes _ _)) (fun it s₂ => LoopAtV _ _ _ _ _ _ _ _ _ it s₂) _ _); (rename Fr _ _ _ _ => lF'); (rename News _ _ _ _ => lN'); (with_unfolding_all refine iter_bytesUnr (by rfl) lF' lN' (by with_reducible assumption) ?_); clear lF' lN'; intro i' l1; (try k_lt l1)))
local macro_rules | `(tactic| walk_at "binaryOp BitAnd int int") => `(tactic| (with_reducible first | refine and63 ?_ | refine and65535 ?_ | refine and3 ?_ | refine and15 ?_))
local macro_rules | `(tactic| walk_at "binaryOp LShift int int") => `(tactic| (with_reducible first | refine shl8 ?_ ?_ | refine shl4 ?_ ?_ | refine shl2 ?_ ?_); (focus first | exact mod_abs (by decide) (by decide) | exact Int.emod_nonneg _ (by decide) | exact Int.mul_nonneg (Int.emod_nonneg _ (by decide)) (by decide) | omega))
local macro_rules | `(tactic| walk_at "binaryOp BitOr int int") => `(tactic| (with_reducible refine or8 ?_ ?_ ?_ ?_); (focus first | exact mod_abs (by decide) (by decide) | exact Int.emod_nonneg _ (by decide) | exact Int.mul_nonneg (Int.emod_nonneg _ (by decide)) (by decide) | omega); (focus omega); (focus omega))
local macro_rules | `(tactic| walk_at "binaryOp RShift int int") => `(tactic| first | refine shr (k := 2) (p := 4) (by decide) (by decide) (by decide) ?_ | refine shr (k := 4) (p := 16) (by decide) (by decide) (by decide) ?_)
local macro_rules | `(tactic| walk_at "subscriptTail") => `(tactic| ((with_reducible show wpAny _ _ (subscriptTail _ _ (Value.bytes _ _) (Value.int _ _)) _ _ _); k_dflt (refine KBw.item_K (ks := tabB) (by kernel_rfl) (by decide) (by omega) (by (show _ < (64 : Int)); omega) ?_); intros))
local macro_rules | `(tactic| walk_at "call type:bytes") => `(tactic| ((with_reducible show wpAny _ _ (call (Value.type "bytes") [Value.ref _]) _ _ _); k_dflt (refine make_A (by k_asm) (by k_asm) (by rfl) (by k_mem) (by first | exact .cons _ _ (.cons _ _ (.cons _ _ (.cons _ _ .nil)))) (by (refine in_list ?_; (simp only [List.mem_cons, List.not_mem_nil, or_false, forall_eq_or_imp, forall_eq]); (refine ⟨tab_in _, tab_in _, ?_⟩); first | exact ⟨tab_in _, by decide, by decide⟩ | exact ⟨⟨by decide, by decide⟩, by decide, by decide⟩)) (by exact Nat.le_of_ble_eq_true rfl) ?_); intros; (try k_sweep)))
theorem ct_b2a1 {w : World} (d : Array UInt8) (c : Int) (t : Tok) (hd : KBw.bInts d = [c]) (h0 : 0 ≤ c) (h1 : c < 256) : Ct w 8 188 [.bytes d t] [(Str.ofString "newline", .bool false)] (fun _ r _ => ∃ u, r = .bytes (byteArr (b64one c)) u) := by
  unfold Ct
  k_fill
  intros
  (refine wpAny_call ?_; k_dflt (first
  | (refine' code_defQ ?k1 ?k2 ?k3 ?k5 ?kA ?kF ?kK ?k6 ?k7 ?k8 ?k9 ?kB ?_ ?c2 ?c3 ?c4 ?c5; (case kA => exact rfl); (case kF => exact rfl); (case kK => exact rfl); (case k1 => k_asm); (case k2 => k_asm); (case k3 => k_asm); (case k5 => k_asm); (case k6 => k_is); (case k7 => k_is); (case k8 => k_room); (case k9 => (first | exact BindsTo.of_eq rfl | exact binds_K (by k_in) rfl (by k_is) rfl rfl rfl | (refine' kp_binds ?kx ?ke; (case kx => k_in); (case ke => exact fun _ => rfl)))); (case c5 => decide); (case kB => exact locs rfl); (case c2 => exact rfl); (case c3 => exact rfl); (case c4 => exact rfl); k_whole; intro g' L' h' kp' kn' F' N' B' X' T'; (try dsimp only); (try k_fold); refine genM F' ?_; clear F'; intro m9 F')
  | (refine' code_defCQ ?k1 ?k2 ?k3 ?k5 ?kA ?kF ?kK ?k6 ?k7 ?k8 ?k9 ?kB ?kD ?_ ?c2 ?c3 ?c4; (case kA => exact rfl); (case kF => exact rfl); (case kK => exact rfl); (case k1 => k_asm); (case k2 => k_asm); (case k3 => k_asm); (case k5 => k_asm); (case k6 => k_is); (case k7 => k_is); (case k8 => k_room); (case k9 => (first | exact BindsTo.of_eq rfl | exact binds_K (by k_in) rfl (by k_is) rfl rfl rfl | (refine' kp_binds ?kx ?ke; (case kx => k_in); (case ke => exact fun _ => rfl)))); (case kB => exact rfl); (case kD => decide +kernel); (case c2 => exact rfl); (case c3 => exact rfl); (case c4 => exact rfl); k_whole; intro g' L' h' tk' cells' kp' kn' F' N' Y' B' X' T'; k_cells Y'; (try simp only [List.cons_append, List.nil_append] at N'); (try dsimp only); (try k_fold); refine genM F' ?_; clear F'; intro m9 F')
  | (refine' kp_restQ ?k1 ?k2 ?k3 ?k5 ?kA ?kF ?kK ?k6 ?k7 ?k8 ?kV ?kP ?kG ?kB ?_ ?c2 ?c3 ?c4 ?c5; (case kA => exact rfl); (case kF => exact rfl); (case kK => exact rfl); (case k1 => k_asm); (case k2 => k_asm); (case k3 => k_asm); (case k5 => k_asm); (case k6 => k_is); (case k7 => k_is); (case k8 => k_room); (case kV => first | kl_lit | exact rfl); (case kP => exact rfl); (case kG => exact fun _ => rfl); (case kB => exact fun _ => locs rfl); (case c5 => decide); (case c2 => exact rfl); (case c3 => exact rfl); (case c4 => exact rfl); k_whole; intro D' g' L' h' kp' l1 l2 F' N' B' X' T'; (try dsimp only); (try k_fold); refine genM F' ?_; clear F'; intro m9 F')))
  k_steps
  all_goals (refine' Ret.go (by assumption) ?e1 ?e2 ?e3; (case e1 => assumption); (case e2 => assumption); (case e3 => exact ⟨_, by unfold b64one; rw [one_1 h0 h1, one_2 h0 h1]⟩))
theorem ct_b2a2 {w : World} (d : Array UInt8) (c e : Int) (t : Tok) (hd : KBw.bInts d = [c, e]) (h0 : 0 ≤ c) (h1 : c < 256) (g0 : 0 ≤ e) (g1 : e < 256) : Ct w 8 188 [.bytes d t] [(Str.ofString "newline", .bool false)] (fun _ r _ => ∃ u, r = .bytes (byteArr (b64two c e)) u) := by
  unfold Ct
  k_fill
  intros
  (refine wpAny_call ?_; k_dflt (first
  | (refine' code_defQ ?k1 ?k2 ?k3 ?k5 ?kA ?kF ?kK ?k6 ?k7 ?k8 ?k9 ?kB ?_ ?c2 ?c3 ?c4 ?c5; (case kA => exact rfl); (case kF => exact rfl); (case kK => exact rfl); (case k1 => k_asm); (case k2 => k_asm); (case k3 => k_asm); (case k5 => k_asm); (case k6 => k_is); (case k7 => k_is); (case k8 => k_room); (case k9 => (first | exact BindsTo.of_eq rfl | exact binds_K (by k_in) rfl (by k_is) rfl rfl rfl | (refine' kp_binds ?kx ?ke; (case kx => k_in); (case ke => exact fun _ => rfl)))); (case c5 => decide); (case kB => exact locs rfl); (case c2 => exact rfl); (case c3 => exact rfl); (case c4 => exact rfl); k_whole; intro g' L' h' kp' kn' F' N' B' X' T'; (try dsimp only); (try k_fold); refine genM F' ?_; clear F'; intro m9 F')
  | (refine' code_defCQ ?k1 ?k2 ?k3 ?k5 ?kA ?kF ?kK ?k6 ?k7 ?k8 ?k9 ?kB ?kD ?_ ?c2 ?c3 ?c4; (case kA => exact rfl); (case kF => exact rfl); (case kK => exact rfl); (case k1 => k_asm); (case k2 => k_asm); (case k3 => k_asm); (case k5 => k_asm); (case k6 => k_is); (case k7 => k_is); (case k8 => k_room); (case k9 => (first | exact BindsTo.of_eq rfl | exact binds_K (by k_in) rfl (by k_is) rfl rfl rfl | (refine' kp_binds ?kx ?ke; (case kx => k_in); (case ke => exact fun _ => rfl)))); (case kB => exact rfl); (case kD => decide +kernel); (case c2 => exact rfl); (case c3 => exact rfl); (case c4 => exact rfl); k_whole; intro g' L' h' tk' cells' kp' kn' F' N' Y' B' X' T'; k_cells Y'; (try simp only [List.cons_append, List.nil_append] at N'); (try dsimp only); (try k_fold); refine genM F' ?_; clear F'; intro m9 F')
  | (refine' kp_restQ ?k1 ?k2 ?k3 ?k5 ?kA ?kF ?kK ?k6 ?k7 ?k8 ?kV ?kP ?kG ?kB ?_ ?c2 ?c3 ?c4 ?c5; (case kA => exact rfl); (case kF => exact rfl); (case kK => exact rfl); (case k1 => k_asm); (case k2 => k_asm); (case k3 => k_asm); (case k5 => k_asm); (case k6 => k_is); (case k7 => k_is); (case k8 => k_room); (case kV => first | kl_lit | exact rfl); (case kP => exact rfl); (case kG => exact fun _ => rfl); (case kB => exact fun _ => locs rfl); (case c5 => decide); (case c2 => exact rfl); (case c3 => exact rfl); (case c4 => exact rfl); k_whole; intro D' g' L' h' kp' l1 l2 F' N' B' X' T'; (try dsimp only); (try k_fold); refine genM F' ?_; clear F'; intro m9 F')))
  k_steps
  all_goals (refine' Ret.go (by assumption) ?e1 ?e2 ?e3; (case e1 => assumption); (case e2 => assumption); (case e3 => exact ⟨_, by unfold b64two; rw [one_1 h0 h1, two_2 h0 h1 g0 g1, two_3 h0 h1 g0 g1]⟩))

end Mine
end
section
open PySem PySem.W PyProof.Rows PySem.Spec PySem.Calls
namespace Mine
namespace Tr
open Builtin
/-- what bytes.maketrans(b'+/', two) makes -/
noncomputable def tbl (p q : UInt8) : Array UInt8 := ((((Array.range 256).map (·.toUInt8)).setIfInBounds 43 p).setIfInBounds 47 q)
noncomputable def tr1 (p q c : UInt8) : UInt8 := (tbl p q).getD c.toNat c
noncomputable def trans (p q : UInt8) (b : Array UInt8) : Array UInt8 := b.map (tr1 p q)
theorem tbl_size (p q : UInt8) : (tbl p q).size = 256 := by unfold tbl; simp
theorem slot_translate : Slot "bytes" "translate" "bytes.translate" := .of (owner := "bytes") (n := "translate") (by rw [typeLookup_type, builtinLookup_eq_fast]; kernel_rfl) (by decide +kernel) (by decide +kernel) (by decide +kernel)
  (by first | exact .inl (by decide +kernel) | exact .inr (by decide +kernel)) (by rw [isSubtype_type]; kernel_rfl)
theorem type_translate : typeOf (.builtin "bytes.translate") = pure (.type "method_descriptor") := by show builtinType _ = _; rw [builtinType_eq_fast]; kernel_rfl
theorem entry_translate : entryFor table "bytes.translate" = some Builtin.«bytes.translate» := entryFor_of_tree (by kernel_rfl)
theorem args_translate (a b : Value) : argsOk "bytes.translate" ⟨[a, b], []⟩ := by unfold argsOk; kernel_rfl
theorem plain_maketrans : plainId "bytes.maketrans" = true := by decide +kernel
theorem entry_maketrans : entryFor table "bytes.maketrans" = some Builtin.«bytes.maketrans» := entryFor_of_tree (by kernel_rfl)
theorem check_maketrans (a b : Value) : checkBuiltinCall "bytes.maketrans" ⟨[a, b], []⟩ = pure () := by kernel_rfl
section
variable {prog : Program} {w : World} {A : Around} {E : Value → Shared → Prop} {s : Shared} {t u : Tok} {p q : UInt8} {b : Array UInt8}
theorem maketrans {Q : Value → Shared → Prop} (h : ∀ t' k, Q (.bytes (tbl p q) t') { s with toks := k }) : wpAny (model prog w) A (call (.builtin "bytes.maketrans") [.bytes #[43, 47] t, .bytes #[p, q] u]) Q E s := by
  refine wpAny_call (codeAny_call_builtin plain_maketrans entry_maketrans (wpAny_of_eq (check_maketrans _ _) ?_))
  unfold «bytes.maketrans» Bytes.maketransM
  refine wpAny_bind (wpAny_of_eq (a := PUnit.unit) (by kernel_rfl) ?_)
  refine wpAny_bind (wpAny_of_eq (a := PUnit.unit) (by kernel_rfl) ?_)
  refine wpAny_bind (wpAny_of_eq (a := #[43, 47]) KBd.like_eq ?_)
  refine wpAny_bind (wpAny_of_eq (a := #[p, q]) KBd.like_eq ?_)
  refine KFB.if_not (by rfl) ?_
  refine wpAny_bind (wpAny_mkBytes ?_ (by show (tbl p q).size ≤ _; rw [tbl_size, sizeLine_eq]; decide))
  exact wpAny_pure (h _ _)
theorem translate {Q : Value → Shared → Prop} (hb : b.size ≤ 1000) (h : ∀ t' k, Q (.bytes (trans p q b) t') { s with toks := k }) : wpAny (model prog w) A (call (.builtin "bytes.translate") [.bytes b t, .bytes (tbl p q) u]) Q E s := by
  refine call_meets (S := fun _ R s => ∀ t' k, R (.ok (.ret (.bytes (trans p q b) t'))) { s with toks := k }) slot_translate (typeIs_bytes _ _ _) entry_translate (args_translate _ _) (.of_wp fun prog w A R s hS => ?_) h
  unfold «bytes.translate» Bytes.translateM
  dsimp only
  rw [if_neg (show ¬ ([Value.bytes (tbl p q) u].length + ([] : List (Str × Value)).length > 2) from (by decide : ¬ (1 + 0 > 2)))]
  rw [if_neg (by decide)]
  rw [if_neg (show ¬ ((Value.bytes (tbl p q) u == Value.none) = true) from fun h => by cases h)]
  refine wpAny_bind (wpAny_of_eq (a := tbl p q) KBd.like_eq ?_)
  refine KFB.if_not (by rw [tbl_size]; rfl) ?_
  refine wpAny_bind (wpAny_pure ?_)
  show wpAny _ _ (pure #[] >>= fun delete => _) _ _ _
  refine wpAny_bind (wpAny_pure ?_)
  refine wpAny_bind (wpAny_of_eq (a := b) rfl ?_)
  have hf : Array.filter (fun x => !(#[] : Array UInt8).contains x) b = b := by simp
  dsimp only
  rw [hf]
  show wpAny _ _ (if (trans p q b == b) = true then _ else _) _ _ _
  by_cases hq : (trans p q b == b) = true
  · rw [if_pos hq]
    refine wpAny_bind (wpAny_rule ?_)
    refine wpAny_bind (wpAny_of_eq (a := .bytes b t) (by rfl) ?_)
    have e : trans p q b = b := beq_iff_eq.mp hq
    have z := hS t s.toks
    rw [e] at z
    exact wpAny_pure ⟨_, rfl, z⟩
  · rw [if_neg hq]
    refine wpAny_bind (m := mkBytes (trans p q b)) (wpAny_mkBytes ?_ (by show (trans p q b).size ≤ _; unfold trans; rw [Array.size_map, sizeLine_eq]; omega))
    exact wpAny_pure ⟨_, rfl, hS _ _⟩
end
theorem run4 (id : String) (a b c d : UInt8) (ha : a.toNat < 128) (hb : b.toNat < 128) (hc : c.toNat < 128) (hd : d.toNat < 128) : _codecs.runDecoder id _codecs.asciiDecoder none true #[a, b, c, d] 0 [] = pure (#[a.toNat, b.toNat, c.toNat, d.toNat], 4) := by
  have f0 : _codecs.asciiDecoder.find true #[a, b, c, d] 0 = .text [a.toNat] 1 := by show (if a.toNat < 128 then _ else _) = _; rw [if_pos ha]; rfl
  have f1 : _codecs.asciiDecoder.find true #[a, b, c, d] 1 = .text [b.toNat] 2 := by show (if b.toNat < 128 then _ else _) = _; rw [if_pos hb]; rfl
  have f2 : _codecs.asciiDecoder.find true #[a, b, c, d] 2 = .text [c.toNat] 3 := by show (if c.toNat < 128 then _ else _) = _; rw [if_pos hc]; rfl
  have f3 : _codecs.asciiDecoder.find true #[a, b, c, d] 3 = .text [d.toNat] 4 := by show (if d.toNat < 128 then _ else _) = _; rw [if_pos hd]; rfl
  unfold _codecs.runDecoder
  simp only [Std.Legacy.Range.forIn_eq_forIn_range', Std.Legacy.Range.size]
  simp [List.range', List.forIn_cons, f0, f1, f2, f3, sizeLine_eq]
theorem entryA {c : UInt8} {cs : List UInt8} {t u : Tok} : «bytes.decode» ⟨[.bytes (c :: cs).toArray t, .str (PySem.Str.ofString "ascii") u], []⟩ = (mkStr (PySem.Str.ofString "utf-8") >>= fun _ => mkStr (PySem.Str.ofString "ascii") >>= fun e => mkStr (PySem.Str.ofString "bytes.decode") >>= fun d =>
    call (.builtin "_codecs.decode.text") [.bytes (c :: cs).toArray t, e, .none, d] >>= fun v => ret v) := by kernel_rfl
theorem roadA {id : String} {b : Array UInt8} : _codecs.decodeRoad id b (PySem.Str.ofString "ascii") none [] = (_codecs.runDecoder id _codecs.asciiDecoder none true b 0 [] >>= fun r => mkStr ⟨r.1⟩) := by kernel_rfl
theorem encA {t u : Tok} : «str.encode» ⟨[.str (PySem.Str.ofString "' ") t, .str (PySem.Str.ofString "ascii") u], []⟩ = (mkBytes #[39, 32] >>= fun v => ret v) := by kernel_rfl
theorem argsD (a b : Value) : argsOk "bytes.decode" ⟨[a, b], []⟩ := by unfold argsOk; kernel_rfl
theorem meets_textA {b : Array UInt8} {t t1 t2 : Tok} {d x : PySem.Str} {n : Nat} (hd : ∀ id, _codecs.runDecoder id _codecs.asciiDecoder none true b 0 [] = pure (x.cps, n)) :
    Meets («_codecs.decode.text» ⟨[.bytes b t, .str (PySem.Str.ofString "ascii") t1, .none, .str d t2], []⟩) (fun _ R s => x.length ≤ sizeLine ∧ R (.ok (.ret (.str x s.toks))) { s with toks := s.toks + 1 }) := by
  refine .of_wp fun prog w A R s hS => ?_
  obtain ⟨hsz, h⟩ := hS
  show wpAny _ _ (Bytes.bytesLike _ (.bytes b t) >>= fun r => _) _ _ s
  refine wpAny_bind (wpAny_of_eq KBd.like_eq ?_)
  refine wpAny_bind (wpAny_of_eq KBd.held_eq ?_)
  show wpAny _ _ (_codecs.decodeRoad _ b (PySem.Str.ofString "ascii") none [] >>= fun v => _) _ _ s
  rw [roadA, hd]
  refine wpAny_bind (wpAny_bind (wpAny_pure ?_))
  exact wpAny_mkStr (wpAny_pure ⟨_, rfl, h⟩) hsz
theorem meets_decA {c : UInt8} {cs : List UInt8} {t u : Tok} {x : PySem.Str} {n : Nat} (hd : ∀ id, _codecs.runDecoder id _codecs.asciiDecoder none true (c :: cs).toArray 0 [] = pure (x.cps, n)) :
    Meets («bytes.decode» ⟨[.bytes (c :: cs).toArray t, .str (PySem.Str.ofString "ascii") u], []⟩) (fun _ R s => x.length ≤ sizeLine ∧ ∀ t' k, R (.ok (.ret (.str x t'))) { s with toks := k }) := by
  refine .of_wp fun prog w A R s hS => ?_
  obtain ⟨hsz, h⟩ := hS
  rw [entryA]
  refine wpAny_bind (wpAny_mkStr ?_ (by decide))
  refine wpAny_bind (wpAny_mkStr ?_ (by decide))
  refine wpAny_bind (wpAny_mkStr ?_ (by decide))
  exact wpAny_bind (call_function_meets KBd.kind_text KBd.plain_text KBd.entry_text (KBd.args_text _ _ _ _) (meets_textA hd) ⟨hsz, wpAny_pure ⟨_, rfl, h _ _⟩⟩)
section
variable {prog : Program} {w : World} {A : Around} {E : Value → Shared → Prop} {s : Shared} {t u : Tok}
theorem decodeA {a b c d : UInt8} {Q : Value → Shared → Prop} (ha : a.toNat < 128) (hb : b.toNat < 128) (hc : c.toNat < 128) (hd : d.toNat < 128) (h : ∀ t' k, Q (.str ⟨#[a.toNat, b.toNat, c.toNat, d.toNat]⟩ t') { s with toks := k }) :
    wpAny (model prog w) A (call (.builtin "bytes.decode") [.bytes #[a, b, c, d] t, .str (PySem.Str.ofString "ascii") u]) Q E s :=
  call_meets PySem.W.FB.slot_bytes_decode (typeIs_bytes _ _ _) PySem.W.FB.entry_bytes_decode (argsD _ _) (meets_decA (cs := [b, c, d]) (x := ⟨#[a.toNat, b.toNat, c.toNat, d.toNat]⟩) (n := 4) fun id => run4 id a b c d ha hb hc hd) ⟨by show (4 : Nat) ≤ _; rw [sizeLine_eq]; decide, h⟩
theorem encodeA {m : PySem.Str} {bs : Array UInt8} {Q : Value → Shared → Prop} (e : ∀ t u, «str.encode» ⟨[.str m t, .str (PySem.Str.ofString "ascii") u], []⟩ = (mkBytes bs >>= fun v => ret v)) (hs : bs.size ≤ 100) (h : ∀ t' k, Q (.bytes bs t') { s with toks := k }) :
    wpAny (model prog w) A (call (.builtin "str.encode") [.str m t, .str (PySem.Str.ofString "ascii") u]) Q E s := by
  refine call_meets (S := fun _ R s => ∀ t' k, R (.ok (.ret (.bytes bs t'))) { s with toks := k }) PySem.F.slot_str_encode (typeIs_str _ _ _) PySem.F.entry_str_encode (PySem.F.args_str_encode_2 _ _) (.of_wp fun prog w A R s hS => ?_) h
  rw [e]
  refine wpAny_bind (wpAny_mkBytes ?_ (by rw [sizeLine_eq]; omega))
  exact wpAny_pure ⟨_, rfl, hS _ _⟩
theorem enc0 (t u : Tok) : «str.encode» ⟨[.str (PySem.Str.ofString "' ") t, .str (PySem.Str.ofString "ascii") u], []⟩ = (mkBytes #[39, 32] >>= fun v => ret v) := by kernel_rfl
theorem enc1 (t u : Tok) : «str.encode» ⟨[.str (PySem.Str.ofString "\"\\") t, .str (PySem.Str.ofString "ascii") u], []⟩ = (mkBytes #[34, 92] >>= fun v => ret v) := by kernel_rfl
theorem enc2 (t u : Tok) : «str.encode» ⟨[.str (PySem.Str.ofString "#\n") t, .str (PySem.Str.ofString "ascii") u], []⟩ = (mkBytes #[35, 10] >>= fun v => ret v) := by kernel_rfl
theorem noRefS {x : PySem.Str} {t : Tok} : ∀ a, Value.str x t = .ref a → ∃ o, s.heap.get? a = some o ∧ o.dict = none := fun _ e => nomatch e
theorem method_ofS {M : Model} {pl : Sem Bool} {Q : Value × List Value → Shared → Prop} {name : PySem.Str} {id : String} (v : Value) (hT : s.TypeIs v "str") (slot : Slot "str" name id) (ty : typeOf (.builtin id) = pure (.type "method_descriptor"))
    (hd : ∀ a, v = .ref a → ∃ o, s.heap.get? a = some o ∧ o.dict = none) (h : Q (.builtin id, [v]) s) : wpAny M A (getMethod v name pl) Q E s :=
  getMethod_builtin hT PySem.F.plainAttrs_str slot ty hd h
theorem methodE {M : Model} {x : PySem.Str} {pl : Sem Bool} {Q : Value × List Value → Shared → Prop} (h : Q (.builtin "str.encode", [.str x t]) s) : wpAny M A (getMethod (.str x t) "encode" pl) Q E s := by
  with_reducible exact method_ofS (.str x t) (typeIs_str _ _ _) PySem.F.slot_str_encode PySem.F.type_str_encode noRefS h
theorem methodT {M : Model} {b : Array UInt8} {pl : Sem Bool} {Q : Value × List Value → Shared → Prop} (h : Q (.builtin "bytes.translate", [.bytes b t]) s) : wpAny M A (getMethod (.bytes b t) "translate" pl) Q E s := by
  with_reducible exact KBd.method_of (.bytes b t) (typeIs_bytes _ _ _) slot_translate type_translate KBd.noRef h
end
theorem type_bytes : typeOf (.type "bytes") = pure (.type "type") := by first | rfl | kernel_rfl
end Tr
end Mine
end
section
namespace Mine
theorem b2a_use {w : World} {d : Array UInt8} {ns : List Int} (C : ∀ t : Tok, Ct w 8 188 [.bytes d t] [(Str.ofString "newline", .bool false)] (fun _ r _ => ∃ u, r = .bytes (byteArr ns) u)) {t : Tok}
   {p : Program} {loose : List Str} {mean : ExcName → Option Value} {mg mb : Str → Option Value} {dp un : Nat} {gd : Option (List Code)} {cn : Str} {sn : List (Str × NameKind)} {sg sc : Bool} {sm : List (Str × Const)} {a : Addr} {ccd : Value} {cl : List (Str × Addr)} {outer : List Env}
    {A₀ : Around} {base h₀ : Heap} {L : Addr} {m : Str → Option Value} {news : List (Addr × Obj)} {s : Shared} {Q E : Value → Shared → Prop}
    (B : Below A₀ base outer h₀) (F : Fr h₀ L s.heap m) (X : (Mine.hd.heap_1 w.params).In h₀) (N : News h₀ L s.heap news) (T : Top p loose mean mg mb h₀) (hd : dp + 8 < recursionLimit) (hu : un + 8 * 8 < cLine)
    (h : ∀ u h' tk', Fr h₀ L h' m → News h₀ L h' news → Q (.bytes (byteArr ns) u) { s with heap := h', toks := tk' }) :
    wpAny (model PySem.Challenge.rw_ik0089_01.prog w) (ktrTop dp un gd cn ⟨.function, sn, sg, sc, sm⟩ L a ccd cl outer) (call (.ref 188) [.bytes d t] [(Str.ofString "newline", .bool false)]) Q E s :=
  Ct.use (C t) B F X N T hd hu fun r h' tk' hp _ _ _ F' N' => by
    obtain ⟨u, rfl⟩ := hp
    exact h u h' tk' F' N'
local macro_rules | `(tactic| walk_at "call ref") => `(tactic| ((try dsimp only [List.append_nil, List.cons_append, List.nil_append]); k_dflt (refine b2a_use (by with_reducible assumption) (by k_asm) (by k_asm) (by k_asm) (by k_asm) (by k_asm) (by ktr_room) (by ktr_units) ?_; intros; (try k_sweep); (try k_fold))))
local macro_rules | `(tactic| walk_at "getMethod type:bytes") => `(tactic| ((with_reducible show wpAny _ _ (getMethod (Value.type "bytes") _ _) _ _ _); k_dflt (refine method_type (by k_asm) (by k_asm) Tr.type_bytes (by decide +kernel) (by k_is) (by k_handed) ?_)))
local macro_rules | `(tactic| walk_at "call builtin:bytes.maketrans") => `(tactic| (k_dflt (refine Tr.maketrans ?_); intros))
local macro_rules | `(tactic| walk_at "getMethod bytes") => `(tactic| (k_dflt (refine Tr.methodT ?_)))
local macro_rules | `(tactic| walk_at "call builtin:bytes.translate") => `(tactic| (k_dflt (refine Tr.translate (by with_reducible assumption) ?_); intros))
theorem byteArr_size (ns : List Int) : (byteArr ns).size = ns.length := by unfold byteArr; simp
theorem ct_b64e {w : World} (d : Array UInt8) (t : Tok) (p q : UInt8) (u : Tok) (ns : List Int) (C : ∀ t : Tok, Ct w 8 188 [.bytes d t] [(Str.ofString "newline", .bool false)] (fun _ r _ => ∃ u, r = .bytes (byteArr ns) u)) (hn : ns.length ≤ 8) : Ct w 10 196 [.bytes d t, .bytes #[p, q] u] [] (fun _ r _ => ∃ u, r = .bytes (Tr.trans p q (byteArr ns)) u) := by
  have hsz : (byteArr ns).size ≤ 1000 := by rw [byteArr_size]; omega
  have h2 : ((((#[p, q] : Array UInt8).size : Nat) : Int) == 2) = true := rfl
  have h3 : (((#[p, q] : Array UInt8).size : Nat) : Int) = 2 := rfl
  unfold Ct
  k_fill
  intros
  (refine wpAny_call ?_; k_dflt (first
  | (refine' code_defQ ?k1 ?k2 ?k3 ?k5 ?kA ?kF ?kK ?k6 ?k7 ?k8 ?k9 ?kB ?_ ?c2 ?c3 ?c4 ?c5; (case kA => exact rfl); (case kF => exact rfl); (case kK => exact rfl); (case k1 => k_asm); (case k2 => k_asm); (case k3 => k_asm); (case k5 => k_asm); (case k6 => k_is); (case k7 => k_is); (case k8 => k_room); (case k9 => (first | exact BindsTo.of_eq rfl | exact binds_K (by k_in) rfl (by k_is) rfl rfl rfl | (refine' kp_binds ?kx ?ke; (case kx => k_in); (case ke => exact fun _ => rfl)))); (case c5 => decide); (case kB => exact locs rfl); (case c2 => exact rfl); (case c3 => exact rfl); (case c4 => exact rfl); k_whole; intro g' L' h' kp' kn' F' N' B' X' T'; (try dsimp only); (try k_fold); refine genM F' ?_; clear F'; intro m9 F')
  | (refine' code_defCQ ?k1 ?k2 ?k3 ?k5 ?kA ?kF ?kK ?k6 ?k7 ?k8 ?k9 ?kB ?kD ?_ ?c2 ?c3 ?c4; (case kA => exact rfl); (case kF => exact rfl); (case kK => exact rfl); (case k1 => k_asm); (case k2 => k_asm); (case k3 => k_asm); (case k5 => k_asm); (case k6 => k_is); (case k7 => k_is); (case k8 => k_room); (case k9 => (first | exact BindsTo.of_eq rfl | exact binds_K (by k_in) rfl (by k_is) rfl rfl rfl | (refine' kp_binds ?kx ?ke; (case kx => k_in); (case ke => exact fun _ => rfl)))); (case kB => exact rfl); (case kD => decide +kernel); (case c2 => exact rfl); (case c3 => exact rfl); (case c4 => exact rfl); k_whole; intro g' L' h' tk' cells' kp' kn' F' N' Y' B' X' T'; k_cells Y'; (try simp only [List.cons_append, List.nil_append] at N'); (try dsimp only); (try k_fold); refine genM F' ?_; clear F'; intro m9 F')
  | (refine' kp_restQ ?k1 ?k2 ?k3 ?k5 ?kA ?kF ?kK ?k6 ?k7 ?k8 ?kV ?kP ?kG ?kB ?_ ?c2 ?c3 ?c4 ?c5; (case kA => exact rfl); (case kF => exact rfl); (case kK => exact rfl); (case k1 => k_asm); (case k2 => k_asm); (case k3 => k_asm); (case k5 => k_asm); (case k6 => k_is); (case k7 => k_is); (case k8 => k_room); (case kV => first | kl_lit | exact rfl); (case kP => exact rfl); (case kG => exact fun _ => rfl); (case kB => exact fun _ => locs rfl); (case c5 => decide); (case c2 => exact rfl); (case c3 => exact rfl); (case c4 => exact rfl); k_whole; intro D' g' L' h' kp' l1 l2 F' N' B' X' T'; (try dsimp only); (try k_fold); refine genM F' ?_; clear F'; intro m9 F')))
  k_steps

  all_goals (refine' Ret.go (by assumption) ?e1 ?e2 ?e3; (case e1 => assumption); (case e2 => assumption); (case e3 => first | rfl | exact ⟨_, rfl⟩))

end Mine
end
section
open PySem PySem.W PyProof.Rows PySem.Spec PySem.Calls
namespace Mine
section
variable {prog : Program} {w : World} {A : Around} {s : Shared} {h₀ : Heap} {L : Addr} {m : Str → Option Value} {env : Env} {elt : Expr} {x : Str} {scope : Scope} {cl : List (Str × Addr)} {S : List (Addr × Obj) → Prop} {P : Nat → Value → Prop}
  {Fin : List Value → List (Addr × Obj) → Prop}
/-- the turns of a comprehension by an invariant of one's own -/
theorem comp_ind (J : Nat → List Value → List (Addr × Obj) → Prop) (n : Nat)
    (turn : ∀ i v ys news I oI C oC D m₂ h tk (E' : Value → Shared → Prop), i < n → P i v → J i ys news → LCg.NsObj oC m₂ → m₂ x = some v → Fr h₀ L h m → News h₀ L h ((I, oI) :: (C, oC) :: (D, LCg.lst ys) :: news) → LCg.Off3 I C D news → ((@Ne Nat I C) ∧ (@Ne Nat I D) ∧ (@Ne Nat C D)) →
      wpAny (model prog w) A (eval elt (compEnvC scope cl C env)) (LCg.CompEnd h₀ L m { s with heap := h, toks := tk } I oI C oC D (LCg.lst ys) S (fun y news' => J (i + 1) (ys ++ [y]) news')) E' { s with heap := h, toks := tk })
    (fin : ∀ ys news, J n ys news → Fin ys news) : ∀ k i ys news, i + k = n → J i ys news → LCg.CompRest prog w A h₀ L m env elt x scope cl s S P Fin k i ys news := by
  intro k
  induction k with
  | zero =>
    intro i ys news e j
    have : i = n := by omega
    subst this
    exact LCg.CompRest.zero (fin _ _ j)
  | succ k ih =>
    intro i ys news e j
    refine LCg.CompRest.succ fun v I oI C oC D m₂ h tk E' p1 p2 p3 p4 p5 p6 p7 => ?_
    refine wpAny_mono (turn i v ys news I oI C oC D m₂ h tk E' (by omega) p1 j p2 p3 p4 p5 p6 p7) (fun y s₂ q => ?_) fun _ _ z => z
    obtain ⟨h', tk', news', e1, F', N', off, hS, r⟩ := q
    exact ⟨h', tk', news', e1, F', N', off, hS, ih (i + 1) _ _ (by omega) r⟩
end
section
variable {prog : Program} {w : World} {A : Around} {E : Value → Shared → Prop} {s : Shared} {t u : Tok} {Q : Value → Shared → Prop}
theorem pow0 (h : Q (.int 1 s.toks) { s with toks := s.toks + 1 }) : wpAny (model prog w) A (binaryOp .Pow (.int 65536 t) (.int 0 u)) Q E s := pow_int_small (by decide) (by decide) (by decide) h
theorem pow1 (h : Q (.int 65536 s.toks) { s with toks := s.toks + 1 }) : wpAny (model prog w) A (binaryOp .Pow (.int 65536 t) (.int 1 u)) Q E s := pow_int_small (by decide) (by decide) (by decide) h
end
theorem ints_snoc {ys : List Value} {ns : List Int} (h : IntsAre ys ns) (n : Int) (t : Tok) : IntsAre (ys ++ [.int n t]) (ns ++ [n]) := by
  induction h with
  | nil => exact .cons _ _ .nil
  | cons k u _ ih => exact .cons _ _ ih
/-- a row's number, and the row -/
@[irreducible] noncomputable def valOf (n : Int) (k : Nat) : Int := ((n.fdiv 3).fdiv (65536 ^ k)).fmod 65536
@[irreducible] noncomputable def valsOf (n : Int) (i : Nat) : List Int := (List.range i).map (valOf n)
theorem valsOf_succ (n : Int) (i : Nat) : valsOf n (i + 1) = valsOf n i ++ [valOf n i] := by unfold valsOf; rw [List.range_succ, List.map_append]; rfl
theorem val_in (n : Int) (k : Nat) : 0 ≤ valOf n k ∧ valOf n k < 65536 := by
  unfold valOf
  exact ⟨Int.fmod_nonneg_of_pos _ (by decide), Int.fmod_lt_of_pos _ (by decide)⟩
noncomputable def rowOf (v : Int) : List Int := if v < 256 then [v.fmod 256] else [v.fmod 256, v.fdiv 256]
/-- values that are the bytes of the rows -/
inductive RowsAre : List Value → List (List Int) → Prop
  | nil : RowsAre [] []
  | cons (r : List Int) (t : Tok) {vs rs} : RowsAre vs rs → RowsAre (.bytes (byteArr r) t :: vs) (r :: rs)
theorem rows_snoc {ys : List Value} {rs : List (List Int)} (h : RowsAre ys rs) (r : List Int) (t : Tok) : RowsAre (ys ++ [.bytes (byteArr r) t]) (rs ++ [r]) := by
  induction h with
  | nil => exact .cons _ _ .nil
  | cons k u _ ih => exact .cons _ _ ih
theorem val_0 (n : Int) : valOf n 0 = ((n.fdiv 3).fdiv 1).fmod 65536 := by unfold valOf; rfl
theorem val_1 (n : Int) : valOf n 1 = ((n.fdiv 3).fdiv 65536).fmod 65536 := by unfold valOf; rfl
theorem ints_at {vs : List Value} {ns : List Int} (h : IntsAre vs ns) : ∀ (i : Nat) (v : Value), vs[i]? = some v → ∃ z t, v = .int z t ∧ ns[i]? = some z := by
  induction h with
  | nil => intro i v e; simp at e
  | cons k u _ ih =>
    intro i v e
    cases i with
    | zero => exact ⟨k, u, (Option.some.inj e).symm, rfl⟩
    | succ j => exact ih j v e
theorem vals_in {n z : Int} {k i : Nat} (h : (valsOf n k)[i]? = some z) : 0 ≤ z ∧ z < 65536 := by
  unfold valsOf at h
  obtain ⟨j, _, rfl⟩ := List.mem_map.mp (List.mem_of_getElem? h)
  exact val_in n j
theorem take_succ' {α : Type} {l : List α} {i : Nat} {a : α} (h : l[i]? = some a) : l.take (i + 1) = l.take i ++ [a] := by
  rw [List.take_add_one, h]; rfl
theorem row_1 {z : Int} (h : z < 256) : rowOf z = [z.fmod 256] := if_pos h
theorem row_2 {z : Int} (h : ¬ z < 256) : rowOf z = [z.fmod 256, z.fdiv 256] := if_neg h
theorem mod_in (z : Int) : 0 ≤ z.fmod 256 ∧ z.fmod 256 < 256 := ⟨Int.fmod_nonneg_of_pos _ (by decide), Int.fmod_lt_of_pos _ (by decide)⟩
theorem div_in {z : Int} (h0 : 0 ≤ z) (h1 : z < 65536) : 0 ≤ z.fdiv 256 ∧ z.fdiv 256 < 256 := by
  rw [Int.fdiv_eq_ediv_of_nonneg _ (by decide)]
  omega
theorem valsOf_zero (n : Int) : valsOf n 0 = [] := by unfold valsOf; rfl
theorem valsOf_len (n : Int) (k : Nat) : (valsOf n k).length = k := by unfold valsOf; rw [List.length_map, List.length_range]
theorem vals_1 (n : Int) : valsOf n (0 + 1) = valsOf n 0 ++ [((n.fdiv 3).fdiv 1).fmod 65536] := by rw [valsOf_succ, val_0]
theorem vals_2 (n : Int) : valsOf n (1 + 1) = valsOf n 1 ++ [((n.fdiv 3).fdiv 65536).fmod 65536] := by rw [valsOf_succ, val_1]
theorem ints_to {vs : List Value} {ns ns' : List Int} (e : ns' = ns) (h : IntsAre vs ns) : IntsAre vs ns' := by rw [e]; exact h
noncomputable def rowsOf (n : Int) : List (List Int) := (valsOf n (n.fmod 3).toNat).map rowOf
end Mine
end
local macro_rules | `(tactic| walk_at "exec Assign cons ListComp") => `(tactic| (k_dflt (refine LCg.Assign_ListComp_U (F₀ := by k_asm) (by rfl) (by with_unfolding_all rfl) (by with_unfolding_all rfl) (by decide) (by rfl) (by decide) (by rfl) (by rfl) (by rfl) ?_)))
local macro_rules | `(tactic| walk_at "eval ListComp") => `(tactic| (k_dflt (refine LCg.ListComp_U (F₀ := by k_asm) (by with_unfolding_all rfl) (by decide) (by rfl) (by decide) (by rfl) ?_)))
local macro_rules | `(tactic| walk_at "CompSrc") => `(tactic| (refine Halt.go ?_))
local macro_rules | `(tactic| walk_at "CompEnd") => `(tactic| (refine Halt.go ?_))
local macro_rules | `(tactic| walk_at "call type:bytes") => `(tactic| ((with_reducible show wpAny _ _ (call (Value.type "bytes") [Value.ref _]) _ _ _); k_dflt (refine make_A (by k_asm) (by k_asm) (by rfl) (by k_mem) (by first | exact .cons _ _ .nil | exact .cons _ _ (.cons _ _ .nil)) (by (refine in_list ?_; (simp only [List.mem_cons, List.not_mem_nil, or_false, forall_eq_or_imp, forall_eq]); first | with_reducible assumption | exact ⟨by with_reducible assumption, by with_reducible assumption⟩)) (by exact Nat.le_of_ble_eq_true rfl) ?_); intros; (try k_sweep)))
section
namespace Mine
local macro_rules | `(tactic| walk_at "binaryOp Pow int int") => `(tactic| (first | (with_reducible refine pow0 ?_) | (with_reducible refine pow1 ?_)))
theorem ct_rows {w : World} (n : Int) (t : Tok) : Ct w 4 909 [.int n t] [] (fun g r h' => ∃ l its c, r = .ref l ∧ Made g l (W.listOf its c) h' ∧ RowsAre its.toList (rowsOf n)) := by
  have hf0 : 0 ≤ n.fmod 3 := Int.fmod_nonneg_of_pos _ (by decide)
  have hf1 : n.fmod 3 < 3 := Int.fmod_lt_of_pos _ (by decide)
  unfold Ct
  k_fill
  intros
  (refine wpAny_call ?_; k_dflt (first
  | (refine' code_defQ ?k1 ?k2 ?k3 ?k5 ?kA ?kF ?kK ?k6 ?k7 ?k8 ?k9 ?kB ?_ ?c2 ?c3 ?c4 ?c5; (case kA => exact rfl); (case kF => exact rfl); (case kK => exact rfl); (case k1 => k_asm); (case k2 => k_asm); (case k3 => k_asm); (case k5 => k_asm); (case k6 => k_is); (case k7 => k_is); (case k8 => k_room); (case k9 => (first | exact BindsTo.of_eq rfl | exact binds_K (by k_in) rfl (by k_is) rfl rfl rfl | (refine' kp_binds ?kx ?ke; (case kx => k_in); (case ke => exact fun _ => rfl)))); (case c5 => decide); (case kB => exact locs rfl); (case c2 => exact rfl); (case c3 => exact rfl); (case c4 => exact rfl); k_whole; intro g' L' h' kp' kn' F' N' B' X' T'; (try dsimp only); (try k_fold); refine genM F' ?_; clear F'; intro m9 F')
  | (refine' code_defCQ ?k1 ?k2 ?k3 ?k5 ?kA ?kF ?kK ?k6 ?k7 ?k8 ?k9 ?kB ?kD ?_ ?c2 ?c3 ?c4; (case kA => exact rfl); (case kF => exact rfl); (case kK => exact rfl); (case k1 => k_asm); (case k2 => k_asm); (case k3 => k_asm); (case k5 => k_asm); (case k6 => k_is); (case k7 => k_is); (case k8 => k_room); (case k9 => (first | exact BindsTo.of_eq rfl | exact binds_K (by k_in) rfl (by k_is) rfl rfl rfl | (refine' kp_binds ?kx ?ke; (case kx => k_in); (case ke => exact fun _ => rfl)))); (case kB => exact rfl); (case kD => decide +kernel); (case c2 => exact rfl); (case c3 => exact rfl); (case c4 => exact rfl); k_whole; intro g' L' h' tk' cells' kp' kn' F' N' Y' B' X' T'; k_cells Y'; (try simp only [List.cons_append, List.nil_append] at N'); (try dsimp only); (try k_fold); refine genM F' ?_; clear F'; intro m9 F')
  | (refine' kp_restQ ?k1 ?k2 ?k3 ?k5 ?kA ?kF ?kK ?k6 ?k7 ?k8 ?kV ?kP ?kG ?kB ?_ ?c2 ?c3 ?c4 ?c5; (case kA => exact rfl); (case kF => exact rfl); (case kK => exact rfl); (case k1 => k_asm); (case k2 => k_asm); (case k3 => k_asm); (case k5 => k_asm); (case k6 => k_is); (case k7 => k_is); (case k8 => k_room); (case kV => first | kl_lit | exact rfl); (case kP => exact rfl); (case kG => exact fun _ => rfl); (case kB => exact fun _ => locs rfl); (case c5 => decide); (case c2 => exact rfl); (case c3 => exact rfl); (case c4 => exact rfl); k_whole; intro D' g' L' h' kp' l1 l2 F' N' B' X' T'; (try dsimp only); (try k_fold); refine genM F' ?_; clear F'; intro m9 F')))
  (try k_fold)
  k_steps
  unfold Halt
  rename IsRange _ _ _ _ _ _ _ _ => rg
  rename Fr _ _ _ _ => F1
  rename News _ _ _ _ => N1
  refine LCg.CompSrc.range rfl F1 N1 rg (small_one (by omega) (by omega) (by omega) (by omega)) (rangeSize_nat _ _) (by rw [sizeLine_eq]; omega) fun gg => ?_
  refine comp_ind (fun i ys nw => nw = _ ∧ IntsAre ys (valsOf n i)) _ ?turn ?fin _ 0 [] _ (Nat.zero_add _) ⟨rfl, by rw [valsOf_zero]; exact .nil⟩
  case turn =>
    clear F1 N1
    rintro i v ys news I oI C oC D m₂ h tk E' hi ⟨tv, rfl⟩ ⟨rfl, hI⟩ hC hx FT NT off ne
    have hi2 : i = 0 ∨ i = 1 := by omega
    rcases hi2 with rfl | rfl
    · replace hx : m₂ "k" = some (.int 0 tv) := hx
      (try k_fold)
      k_steps
      rename News _ _ _ _ => NE
      unfold Halt
      refine' LCg.CompEnd.intro ?F NE _ (fun _ hp => hp) off trivial ⟨rfl, ?r⟩
      case F => k_asm
      case r =>
        exact ints_to (vals_1 n) (ints_snoc hI _ _)
    · replace hx : m₂ "k" = some (.int 1 tv) := hx
      (try k_fold)
      k_steps
      rename News _ _ _ _ => NE
      unfold Halt
      refine' LCg.CompEnd.intro ?F NE _ (fun _ hp => hp) off trivial ⟨rfl, ?r⟩
      case F => k_asm
      case r =>
        exact ints_to (vals_2 n) (ints_snoc hI _ _)
  case fin =>
    rintro ys news ⟨rfl, hI⟩ D2 h2 tk2 F2 N2 off2
    clear F1 N1
    (try k_fold)
    k_steps
    unfold Halt
    rename Fr _ _ _ _ => F3
    rename News _ _ _ _ => N3
    have hlen : ys.length ≤ 2 := by
      rw [hI.length, valsOf_len]
      omega
    refine LCg.CompSrc.ledger rfl F3 N3 (.head _) (by rw [List.size_toArray, sizeLine_eq]; omega) fun gg => ?_
    refine comp_ind (fun i zs nw => nw = _ ∧ RowsAre zs (((valsOf n (n.fmod 3 - 0).toNat).take i).map rowOf)) _ ?turn ?fin _ 0 [] _ (Nat.zero_add _) ⟨rfl, .nil⟩
    case turn =>
      clear F3 N3
      rintro i v zs news I oI C oC D m₂ h tk E' hi hP ⟨rfl, hR⟩ hC hx FT NT off ne
      rw [List.getElem?_toArray] at hP
      obtain ⟨z, tz, rfl, hz⟩ := ints_at hI i v hP
      obtain ⟨z0, z1⟩ := vals_in hz
      have hm := mod_in z
      have hd := div_in z0 z1
      (try k_fold)
      k_steps
      all_goals (rename News _ _ _ _ => NE; unfold Halt; (refine' LCg.CompEnd.intro ?F NE _ ?sub off ?hS ⟨rfl, ?r⟩); (case F => k_asm); (case sub => kst_in); (case hS => exact .inr ⟨_, .head _, rfl, _, rfl⟩); (case r => (rw [take_succ' hz, List.map_append]; first | (rw [List.map_singleton, row_1 (by assumption)]; exact rows_snoc hR _ _) | (rw [List.map_singleton, row_2 (by assumption)]; exact rows_snoc hR _ _))))
    case fin =>
      rintro zs news ⟨rfl, hR⟩ D3 h3 tk3 F4 N4 off3
      clear F3 N3
      (try k_fold)
      k_steps
      rw [List.take_of_length_le (by rw [List.size_toArray, hI.length, valsOf_len]; exact Nat.le_refl _)] at hR
      (refine' Ret.go (by assumption) ?e1 ?e2 ?e3; (case e1 => assumption); (case e2 => assumption))
      case e3 => exact ⟨_, zs.toArray, _, rfl, Made.of (by assumption) ((by assumption : AllMade _ _ _).at (.head _)), by rw [List.toList_toArray]; rw [Int.sub_zero] at hR; exact hR⟩

end Mine
end
section
namespace Mine
local macro_rules | `(tactic| walk_at "call ref") => `(tactic| (k_dflt (first | refine Ct.useX (ct_join1 _ _ _ _ (by omega) (by omega)) ?_ | refine Ct.useX (ct_join2 _ _ _ _ _ _ (by omega) (by with_reducible assumption) (by with_reducible assumption)) ?_ | refine Ct.useX (ct_join3 _ _ _ _ _ _ _ _ (by omega) (by with_reducible assumption) (by with_reducible assumption) (by with_reducible assumption)) ?_); intros; (try k_fold)))
set_option linter.unusedVariables false
local macro_rules | `(tactic| walk_at "exec For Name BinOp cons nil") => `(tactic| ((rename Fr _ _ _ _ => lF'); (with_unfolding_all refine For_invVF lF' (by exact rfl) (by exact rfl) ?_; k_whole)))
local macro_rules | `(tactic| walk_at "pyIter ref") => `(tactic| ((with_reducible show wpAny _ _ (pyIter _) (fun it s₂ => LoopAtV _ _ _ _ _ (Str.ofString "piece") _ _ _ it s₂) _ _); refine Halt.go ?_))
noncomputable def upsRaw (x : Str) : List Str → Str
  | [] => x
  | y :: r => upsRaw (joinL x y) r
noncomputable def rawUps (sl up : Int) : Str := upsRaw (Txt.mul (Str.ofString "/") sl) (List.replicate up.toNat (Str.ofString ".."))
theorem rep_str (n : Nat) : (List.replicate n [PyData.str (Str.ofString "..")]).flatten = (List.replicate n (Str.ofString "..")).map PyData.str := by
  induction n with
  | zero => rfl
  | succ n ih => rw [List.replicate_succ, List.flatten_cons, ih, List.replicate_succ]; rfl
theorem strs_mem {vs : List Value} {ys : List Str} (h : StrsAre vs ys) : vs.length = ys.length := h.length
noncomputable def RawPost (x : Str) (nl : Addr) (o : Obj) (r : Value) (h' : Heap) : Prop := (∃ u, r = .str x u) ∧ h'.get? nl = some o
theorem RawPost.of {x : Str} {u : Tok} {nl : Addr} {o : Obj} {h' : Heap} (e : h'.get? nl = some o) : RawPost x nl o (.str x u) h' := ⟨⟨u, rfl⟩, e⟩
noncomputable def raw0 (sl up : Int) : Str := rawUps sl up
noncomputable def raw1 (sl up : Int) (a : Str) : Str := joinAll (rawUps sl up) [Str.ofString ".", a ++ Str.ofString "//"]
noncomputable def raw2 (sl up : Int) (a b : Str) : Str := joinAll (raw1 sl up a) [Str.ofString "x y", Str.ofString "..", b]
theorem ct_rawA {w : World} (sl up : Int) (t1 t2 : Tok) (nl : Addr) (c : Nat) (its : Array Value) (res : Str) (h0 : 0 ≤ sl) (h1 : sl < 4) (g0 : 0 ≤ up) (g1 : up < 3) (H9 : (res = raw0 sl up ∧ its = #[]) ∨ (∃ (a : Str) (ta : Tok), a.length ≤ 100 ∧ res = raw1 sl up a ∧ its = #[.str a ta]) ∨ ∃ (a b : Str) (ta tb : Tok), a.length ≤ 100 ∧ b.length ≤ 100 ∧ res = raw2 sl up a b ∧ its = #[.str a ta, .str b tb]) : CtM w 8 916 [.int sl t1, .int up t2, .ref nl] [] [(nl, W.listOf its c)] (RawPost res nl (W.listOf its c)) := by
  unfold CtM
  k_fill
  intros
  refine wpAny_call ?_
  refine' code_defM ?k1 ?k2 ?kN ?k3 ?k5 ?kA ?kF ?kK ?k6 ?k7 ?k8 ?k9 ?kB ?_ ?c2 ?c3 ?c4 ?c5
  case kA => exact rfl
  case kF => exact rfl
  case kK => exact rfl
  case k1 => k_asm
  case k2 => k_asm
  case kN => k_asm
  case k3 => k_asm
  case k5 => k_asm
  case k6 => k_is
  case k7 => k_is
  case k8 => k_room
  case k9 => (first | exact BindsTo.of_eq rfl | exact binds_K (by k_in) rfl (by k_is) rfl rfl rfl | (refine' kp_binds ?kx ?ke; (case kx => k_in); (case ke => exact fun _ => rfl)))
  case c5 => decide
  case kB => exact locs rfl
  case c2 => exact rfl
  case c3 => exact rfl
  case c4 => exact rfl
  k_whole
  intro g' L' h' kp' F' N' B' X' T'
  (try dsimp only)
  (try k_fold)
  refine genM F' ?_
  clear F'
  intro m9 F'
  k_steps
  unfold Halt
  rename Fr _ _ _ _ => F1
  rename News _ _ _ _ => N1
  rename Heap.IsList _ _ _ => hl
  rename CarriedAll _ _ => hca
  rename Heap.get? g' _ = none => hz
  obtain ⟨lo, hlo, hlc, nn, hld⟩ := hl
  have N2 := News.more F1 N1 hlo (fun es n q => by rw [hld] at q; cases q) hz
  rw [rep_str] at hca
  have hS0 := StrsAre.ofCarried hca
  have hl0 : (Txt.mul (Str.ofString "/") sl).length ≤ 4 := by omega
  have hup : up.toNat ≤ 2 := by omega
  with_unfolding_all refine list_loop (σ := Str × Tok) (fun _ => _) (fun c => [("raw", .str c.1 c.2), ("slashes", .int sl _), ("ups", .int up _), ("names", .ref nl)]) (fun vs c => ∃ ys, StrsAre vs ys ∧ (∀ y ∈ ys, y.length = 2) ∧ c.1.length + 3 * ys.length ≤ 20 ∧ upsRaw c.1 ys = rawUps sl up) (Txt.mul (Str.ofString "/") sl, _) (by rfl) F1 N2 (fun _ => .head _) hlc hld (by kst_all) ⟨_, hS0, fun y hy => by rw [List.eq_of_mem_replicate hy]; decide +kernel, by rw [List.length_replicate]; dsimp only; omega, rfl⟩ ?_ ?_
  · clear F1 N1 N2
    rintro v r ⟨c1, c2⟩ u' it I h tk hit hI ⟨ys, hS, hT, hlen, hJ⟩ F N
    cases hS with
    | cons z tz hS' =>
      rename_i zs
      have hz : z.length = 2 := hT z (.head _)
      dsimp only at F N hlen hJ
      rw [List.length_cons] at hlen
      have hjl := joinL_len c1 z
      k_lt hI
      k_steps
      rename Fr _ _ _ _ => F2
      rename News _ _ _ _ => N2
      refine' turn_end (joinL c1 z, _) F2 N2 ?hI ?sub ?off ?hk ?hp
      case hk => kst_all
      case hI => k_mem
      case sub => kst_in
      case off => exact List.forall_mem_cons.mpr ⟨Or.inl hI.1, List.forall_mem_cons.mpr ⟨Or.inl hI.2.1, List.forall_mem_cons.mpr ⟨Or.inl hI.2.2, List.forall_mem_nil _⟩⟩⟩
      case hp => exact ⟨zs, hS', fun y hy => hT y (.tail _ hy), by dsimp only; omega, hJ⟩
  · intro c u' h tk hP F N
    clear F1 N1 N2
    obtain ⟨c1, c2⟩ := c
    obtain ⟨ys, hS, hT, hlen, hJ⟩ := hP
    cases hS
    dsimp only at F N hlen hJ
    obtain rfl : c1 = _ := hJ
    have hlr : (rawUps sl up).length ≤ 20 := by simpa using hlen
    rcases H9 with ⟨rfl, rfl⟩ | ⟨a, ta, ha, rfl, rfl⟩ | ⟨a, b, ta, tb, ha, hb, rfl, rfl⟩
    · skip
      k_steps
      all_goals (rename AllMade _ _ _ => km9; refine' RetM.go (by assumption) kp' ?e2 (RawPost.of ?e3); (case e2 => assumption); (case e3 => exact (km9.at (by k_mem)).1))
    · have f1 : (Str.ofString ".").length ≤ 8192 := by decide +kernel
      have f2 : (a ++ Str.ofString "//").length ≤ 8192 := by rw [Str.length_append, show (Str.ofString "//").length = 2 by decide +kernel]; omega
      k_steps
      all_goals (rename AllMade _ _ _ => km9; refine' RetM.go (by assumption) kp' ?e2 (RawPost.of ?e3); (case e2 => assumption); (case e3 => exact (km9.at (by k_mem)).1))
    · have f1 : (Str.ofString ".").length ≤ 8192 := by decide +kernel
      have f2 : (a ++ Str.ofString "//").length ≤ 8192 := by rw [Str.length_append, show (Str.ofString "//").length = 2 by decide +kernel]; omega
      have f3 : (Str.ofString "x y").length ≤ 8192 := by decide +kernel
      have f4 : (Str.ofString "..").length ≤ 8192 := by decide +kernel
      have f5 : b.length ≤ 8192 := by omega
      have f6 : (joinAll (rawUps sl up) [Str.ofString ".", a ++ Str.ofString "//"]).length ≤ 200 := by
        have j1 := joinL_len (rawUps sl up) (Str.ofString ".")
        have j2 := joinL_len (joinL (rawUps sl up) (Str.ofString ".")) (a ++ Str.ofString "//")
        rw [Str.length_append, show (Str.ofString "//").length = 2 by decide +kernel] at j2
        rw [show (Str.ofString ".").length = 1 by decide +kernel] at j1
        show (joinL (joinL (rawUps sl up) (Str.ofString ".")) (a ++ Str.ofString "//")).length ≤ 200
        omega
      k_steps
      all_goals (rename AllMade _ _ _ => km9; refine' RetM.go (by assumption) kp' ?e2 (RawPost.of ?e3); (case e2 => assumption); (case e3 => exact (km9.at (by k_mem)).1))
theorem ct_raw0 {w : World} (sl up : Int) (t1 t2 : Tok) (nl : Addr) (c : Nat)  (h0 : 0 ≤ sl) (h1 : sl < 4) (g0 : 0 ≤ up) (g1 : up < 3)  : CtM w 8 916 [.int sl t1, .int up t2, .ref nl] [] [(nl, W.listOf #[] c)] (RawPost (raw0 sl up) nl (W.listOf #[] c)) := ct_rawA sl up t1 t2 nl c _ _ h0 h1 g0 g1 (.inl ⟨rfl, rfl⟩)
theorem ct_raw1 {w : World} (sl up : Int) (t1 t2 : Tok) (nl : Addr) (c : Nat) (a : Str) (ta : Tok) (h0 : 0 ≤ sl) (h1 : sl < 4) (g0 : 0 ≤ up) (g1 : up < 3) (ha : a.length ≤ 100) : CtM w 8 916 [.int sl t1, .int up t2, .ref nl] [] [(nl, W.listOf #[.str a ta] c)] (RawPost (raw1 sl up a) nl (W.listOf #[.str a ta] c)) := ct_rawA sl up t1 t2 nl c _ _ h0 h1 g0 g1 (.inr (.inl ⟨a, ta, ha, rfl, rfl⟩))
theorem ct_raw2 {w : World} (sl up : Int) (t1 t2 : Tok) (nl : Addr) (c : Nat) (a b : Str) (ta tb : Tok) (h0 : 0 ≤ sl) (h1 : sl < 4) (g0 : 0 ≤ up) (g1 : up < 3) (ha : a.length ≤ 100) (hb : b.length ≤ 100) : CtM w 8 916 [.int sl t1, .int up t2, .ref nl] [] [(nl, W.listOf #[.str a ta, .str b tb] c)] (RawPost (raw2 sl up a b) nl (W.listOf #[.str a ta, .str b tb] c)) := ct_rawA sl up t1 t2 nl c _ _ h0 h1 g0 g1 (.inr (.inr ⟨a, b, ta, tb, ha, hb, rfl, rfl⟩))

end Mine
end
section
open PySem PySem.W PyProof.Rows PySem.Spec PySem.Calls
namespace Mine
section
variable {prog : Program} {w : World} {A : Around} {E : Value → Shared → Prop} {s : Shared} {h₀ : Heap} {L : Addr} {m : Str → Option Value} {env : Env}
/-- a comprehension with a test over a text -/
noncomputable def SrcS (prog : Program) (w : World) (A : Around) (h₀ : Heap) (L : Addr) (m : Str → Option Value) (env : Env) (ct elt : Expr) (x : Str) (scope : Scope) (cl : List (Str × Addr)) (Fin : Shared → List Value → List (Addr × Obj) → Prop) (xv : Value) (s₁ : Shared) : Prop :=
  ∃ y t news, xv = .str y t ∧ A.handled = none ∧ Fr h₀ L s₁.heap m ∧ News h₀ L s₁.heap news ∧ y.cps.size ≤ sizeLine ∧
    ∀ s₂ : Shared, (∃ h, s₂ = { s₁ with heap := h }) → LCt.CompRestT prog w A h₀ L m env ct elt x scope cl s₂ (fun _ => True) (SignAt y) (Fin s₂) y.cps.size 0 [] news
theorem ListComp_TS {ct elt iter : Expr} {x : Str} {px : Pos} {scope : Scope} {cl : List (Str × Addr)} {pos : Pos} {Q : Value → Shared → Prop} (F₀ : Fr h₀ L s.heap m)
    (hclos : closureFor scope env = pure cl) (hcell : ∀ y ∈ scope.names, y.2 ≠ .cell) (hkind : scope.kind = .function)
    (hnames : ∀ y ∈ scope.names, y.2 = .local → scope.names.lookup y.1 = some .local) (hx : scope.names.lookup x = some .local)
    (h : wpAny (model prog w) A (eval iter env) (SrcS prog w A h₀ L m env ct elt x scope cl (fun s₂ => LCg.FinE h₀ L m s₂ Q)) E s)
    (hs : ∀ x, foldedSetIterable iter env x = pure x := by intro _; rfl) :
    wpAny (model prog w) A (eval (.ListComp elt [⟨.Name x px, iter, [ct], 0⟩] scope pos) env) Q E s := by
  rw [eval_ListComp]
  refine wpAny_comprehension_free (use := none) rfl hs hclos hkind hnames (wpAny_mono h (fun xv s₁ h₁ => ?_) fun _ _ e => e)
  obtain ⟨y, t, news, rfl, hh, F, N, hsz, R⟩ := h₁
  have up : ∀ o b ob, s₁.heap.get? b = some ob → (s₁.heap.push o).get? b = some ob := fun o b ob e => Heap.get?_push_of_some _ e
  have hSt : ∀ (T : String) i (h h' : Heap) (o : Obj) (nw : List (Addr × Obj)), h.IsStrIter s₁.heap.objs.size T y t i → h.get? s₁.heap.objs.size = some o → h'.get? s₁.heap.objs.size = some o → (∀ b o, h₀.get? b = some o → h'.get? b = some o) → News h₀ L h' nw → True → h'.IsStrIter s₁.heap.objs.size T y t i := by
    intro T i h h' o nw st e e' _ _ _
    obtain ⟨o', q, r⟩ := st
    rw [e] at q; cases q
    exact ⟨o, e', r⟩
  cases ha : y.cps.all (· < 128)
  · refine wpAny_pyIter_wide ha ?_
    refine LCt.block_T (Walks.strWide hh _ y t) hsz (fun i h st => by obtain ⟨o, e, _⟩ := st; exact ⟨o, e⟩) (hSt _) hcell hkind hx ⟨_, Heap.get?_push_size _ rfl, rfl, rfl⟩ (fun b hb => ?_)
      (F.keeps (up _)) (N.grown (up _)) (Nat.ne_of_lt F.ns.lt) (next_is_new F) (fun p hp => Nat.ne_of_lt (Heap.lt_size (N p hp).1)) trivial (R _ ⟨_, rfl⟩) ?_
    · show b < (s₁.heap.push _).objs.size
      rw [Heap.size_push, List.mem_singleton.mp hb]; exact Nat.lt_succ_self _
    · intro D C h tk m' ys news' F' N' o1 hn hC₀ hD₀ hCL hDL hCD offC fin
      refine ⟨m', hn, fun h'' hs'' => fin D h'' tk (F'.change hs'' hCL hC₀) (fun p hp => ?_) o1⟩
      refine ⟨hs''.extBut _ _ ?_ (N' p hp).1, (N' p hp).2⟩
      rcases List.mem_cons.mp hp with rfl | hp
      · exact Ne.symm hCD
      · exact offC p hp
  · refine wpAny_pyIter_ascii ha ?_
    refine LCt.block_T (Walks.strAscii hh _ y t) hsz (fun i h st => by obtain ⟨o, e, _⟩ := st; exact ⟨o, e⟩) (hSt _) hcell hkind hx ⟨_, Heap.get?_push_size _ rfl, rfl, rfl⟩ (fun b hb => ?_)
      (F.keeps (up _)) (N.grown (up _)) (Nat.ne_of_lt F.ns.lt) (next_is_new F) (fun p hp => Nat.ne_of_lt (Heap.lt_size (N p hp).1)) trivial (R _ ⟨_, rfl⟩) ?_
    · show b < (s₁.heap.push _).objs.size
      rw [Heap.size_push, List.mem_singleton.mp hb]; exact Nat.lt_succ_self _
    · intro D C h tk m' ys news' F' N' o1 hn hC₀ hD₀ hCL hDL hCD offC fin
      refine ⟨m', hn, fun h'' hs'' => fin D h'' tk (F'.change hs'' hCL hC₀) (fun p hp => ?_) o1⟩
      refine ⟨hs''.extBut _ _ ?_ (N' p hp).1, (N' p hp).2⟩
      rcases List.mem_cons.mp hp with rfl | hp
      · exact Ne.symm hCD
      · exact offC p hp
variable {elt ct : Expr} {x : Str} {scope : Scope} {cl : List (Str × Addr)} {S : List (Addr × Obj) → Prop} {P : Nat → Value → Prop} {Fin : List Value → List (Addr × Obj) → Prop}
theorem comp_indT (J : Nat → List Value → List (Addr × Obj) → Prop) (n : Nat)
    (turn : ∀ i v ys news I oI C oC D m₂ h tk (E' : Value → Shared → Prop), i < n → P i v → J i ys news → LCg.NsObj oC m₂ → m₂ x = some v → Fr h₀ L h m → News h₀ L h ((I, oI) :: (C, oC) :: (D, LCg.lst ys) :: news) → LCg.Off3 I C D news → ((@Ne Nat I C) ∧ (@Ne Nat I D) ∧ (@Ne Nat C D)) →
      wpAny (model prog w) A (isTrue ct (compEnvC scope cl C env) (eval ct (compEnvC scope cl C env))) (fun ok s' => if ok = true then
        wpAny (model prog w) A (eval elt (compEnvC scope cl C env)) (LCg.CompEnd h₀ L m { s with heap := h, toks := tk } I oI C oC D (LCg.lst ys) S (fun y news' => J (i + 1) (ys ++ [y]) news')) E' s'
        else LCg.CompEnd h₀ L m { s with heap := h, toks := tk } I oI C oC D (LCg.lst ys) S (fun _ news' => J (i + 1) ys news') Value.none s') E' { s with heap := h, toks := tk })
    (fin : ∀ ys news, J n ys news → Fin ys news) : ∀ k i ys news, i + k = n → J i ys news → LCt.CompRestT prog w A h₀ L m env ct elt x scope cl s S P Fin k i ys news := by
  intro k
  induction k with
  | zero =>
    intro i ys news e j
    have : i = n := by omega
    subst this
    exact LCt.CompRestT.zero (fin _ _ j)
  | succ k ih =>
    intro i ys news e j
    refine LCt.CompRestT.succ fun v I oI C oC D m₂ h tk E' p1 p2 p3 p4 p5 p6 p7 => ?_
    refine wpAny_mono (turn i v ys news I oI C oC D m₂ h tk E' (by omega) p1 j p2 p3 p4 p5 p6 p7) (fun ok s₁ q => ?_) fun _ _ z => z
    cases ok with
    | true =>
      rw [if_pos rfl] at q ⊢
      refine wpAny_mono q (fun y s₂ q => ?_) fun _ _ z => z
      obtain ⟨h', tk', news', e1, F', N', off, hS, r⟩ := q
      exact ⟨h', tk', news', e1, F', N', off, hS, ih (i + 1) _ _ (by omega) r⟩
    | false =>
      rw [if_neg (by decide)] at q ⊢
      obtain ⟨h', tk', news', e1, F', N', off, hS, r⟩ := q
      exact ⟨h', tk', news', e1, F', N', off, hS, ih (i + 1) _ _ (by omega) r⟩
end
end Mine
end
local macro_rules | `(tactic| walk_at "ite") => `(tactic| first | with_reducible refine ite_tt ?_ | with_reducible refine ite_ff ?_ | with_reducible refine split_not ?_ | (refine ite_isFalse (by with_reducible assumption) ?_) | (refine ite_pos (by with_reducible assumption) ?_) | (refine ite_neg (by with_reducible assumption) ?_))
section
namespace Mine
set_option linter.unusedVariables false
local macro_rules | `(tactic| walk_at "eval ListComp") => `(tactic| ((with_reducible show wpAny _ _ (eval (Expr.ListComp _ [Comprehension.mk _ _ [_] _] _ _) _) _ _ _); k_dflt (refine ListComp_TS (F₀ := by k_asm) (by with_unfolding_all rfl) (by decide) (by rfl) (by decide) (by rfl) ?_)))
local macro_rules | `(tactic| walk_at "SrcS") => `(tactic| (refine Halt.go ?_))
local macro_rules | `(tactic| walk_at "exec For Name Name cons nil") => `(tactic| ((rename News _ _ _ _ => N9); (simp only [List.cons_append, List.nil_append] at N9)))
local macro_rules | `(tactic| walk_at "storeName int") => `(tactic| ((rename News _ _ _ _ => N9); (simp only [List.cons_append, List.nil_append] at N9)))
noncomputable def sgns (m : Str) : Str := Str.ofString "ABCDEFGHIJKLMNOPQRSTUVWXYZabcdefghijklmnopqrstuvwxyz0123456789" ++ m
noncomputable def plc (m : Str) (cs : List Nat) : List Int := (cs.filter (· != 61)).map fun c => Txt.find (sgns m) ⟨#[c]⟩
theorem plc_1 {m : Str} {cs : List Nat} {i c : Nat} (h : cs[i]? = some c) (hc : c ≠ 61) : plc m (cs.take (i + 1)) = plc m (cs.take i) ++ [Txt.find (sgns m) ⟨#[c]⟩] := by
  have hb : (c != 61) = true := by rw [bne_iff_ne]; exact hc
  unfold plc
  rw [take_succ' h, List.filter_append, List.map_append]
  simp [hb]
theorem plc_2 {m : Str} {cs : List Nat} {i c : Nat} (h : cs[i]? = some c) (hc : c = 61) : plc m (cs.take (i + 1)) = plc m (cs.take i) := by
  subst hc
  unfold plc
  rw [take_succ' h, List.filter_append, List.map_append]
  simp
theorem eq_61 : ((⟨#[61]⟩ : Str) != Str.ofString "=") = false := by decide +kernel
theorem ne_61 {c : Nat} (h : c ≠ 61) : ((⟨#[c]⟩ : Str) != Str.ofString "=") = true := by
  rw [bne_iff_ne]
  intro e
  rw [show Str.ofString "=" = (⟨#[61]⟩ : Str) by kernel_rfl] at e
  injection e with e
  exact h (by simpa using e)
@[irreducible] noncomputable def fil1 (v0 v1 : Int) : Int := ((v0 * 64 + v1) / 16) % 256
theorem fil1_in (v0 v1 : Int) : 0 ≤ fil1 v0 v1 ∧ fil1 v0 v1 < 256 := by unfold fil1; omega
theorem fil1_eq {v0 v1 : Int} (b0 : 0 ≤ v0) (b1 : v0 < 64) (d0 : 0 ≤ v1) (d1 : v1 < 64) : fil1 v0 v1 = ((((0 * 64 + v0) * 64 + v1).fdiv 16).fdiv 1).fmod 256 := by
  unfold fil1
  rw [Int.fdiv_eq_ediv_of_nonneg _ (by decide), Int.fdiv_eq_ediv_of_nonneg _ (by decide), Int.fmod_eq_emod_of_nonneg _ (by decide), Int.zero_mul, Int.zero_add, Int.ediv_one]
theorem fil1_raw {v0 v1 : Int} (b0 : 0 ≤ v0) (b1 : v0 < 64) (d0 : 0 ≤ v1) (d1 : v1 < 64) : ((((0 * 64 + v0) * 64 + v1).fdiv (2 ^ ((2 * 6 : Int).fmod 8).toNat)).fdiv (256 ^ ((2 * 6 : Int).fdiv 8 - 1 - 0).toNat)).fmod 256 = fil1 v0 v1 := by
  have e1 : (2 : Int) ^ ((2 * 6 : Int).fmod 8).toNat = 16 := by decide
  have e2 : (256 : Int) ^ ((2 * 6 : Int).fdiv 8 - 1 - 0).toNat = 1 := by decide
  rw [e1, e2, fil1_eq b0 b1 d0 d1]
local macro_rules | `(tactic| walk_at "binaryOp Pow int int") => `(tactic| (k_dflt (refine pow_int_small (by decide) (by decide) (by decide) ?_)))
@[irreducible] noncomputable def fil2 (v0 v1 v2 : Int) : Int := (((v0 * 64 + v1) * 64 + v2) / 4 / 256) % 256
@[irreducible] noncomputable def fil3 (v0 v1 v2 : Int) : Int := (((v0 * 64 + v1) * 64 + v2) / 4) % 256
theorem fil2_in (v0 v1 v2 : Int) : 0 ≤ fil2 v0 v1 v2 ∧ fil2 v0 v1 v2 < 256 := by unfold fil2; omega
theorem fil3_in (v0 v1 v2 : Int) : 0 ≤ fil3 v0 v1 v2 ∧ fil3 v0 v1 v2 < 256 := by unfold fil3; omega
theorem fil2_raw {v0 v1 v2 : Int} (b0 : 0 ≤ v0) (b1 : v0 < 64) (d0 : 0 ≤ v1) (d1 : v1 < 64) (g0 : 0 ≤ v2) (g1 : v2 < 64) : (((((0 * 64 + v0) * 64 + v1) * 64 + v2).fdiv (2 ^ ((3 * 6 : Int).fmod 8).toNat)).fdiv (256 ^ ((3 * 6 : Int).fdiv 8 - 1 - 0).toNat)).fmod 256 = fil2 v0 v1 v2 := by
  have e1 : (2 : Int) ^ ((3 * 6 : Int).fmod 8).toNat = 4 := by decide
  have e2 : (256 : Int) ^ ((3 * 6 : Int).fdiv 8 - 1 - 0).toNat = 256 := by decide
  rw [e1, e2]
  unfold fil2
  rw [Int.fdiv_eq_ediv_of_nonneg _ (by decide), Int.fdiv_eq_ediv_of_nonneg _ (by decide), Int.fmod_eq_emod_of_nonneg _ (by decide), Int.zero_mul, Int.zero_add]
theorem fil3_raw {v0 v1 v2 : Int} (b0 : 0 ≤ v0) (b1 : v0 < 64) (d0 : 0 ≤ v1) (d1 : v1 < 64) (g0 : 0 ≤ v2) (g1 : v2 < 64) : (((((0 * 64 + v0) * 64 + v1) * 64 + v2).fdiv (2 ^ ((3 * 6 : Int).fmod 8).toNat)).fdiv (256 ^ ((3 * 6 : Int).fdiv 8 - 1 - 1).toNat)).fmod 256 = fil3 v0 v1 v2 := by
  have e1 : (2 : Int) ^ ((3 * 6 : Int).fmod 8).toNat = 4 := by decide
  have e2 : (256 : Int) ^ ((3 * 6 : Int).fdiv 8 - 1 - 1).toNat = 1 := by decide
  rw [e1, e2]
  unfold fil3
  rw [Int.fdiv_eq_ediv_of_nonneg _ (by decide), Int.fdiv_eq_ediv_of_nonneg _ (by decide), Int.fmod_eq_emod_of_nonneg _ (by decide), Int.zero_mul, Int.zero_add, Int.ediv_one]
noncomputable def filOf : List Int → List Int
  | [v0, v1] => [fil1 v0 v1]
  | [v0, v1, v2] => [fil2 v0 v1 v2, fil3 v0 v1 v2]
  | _ => []
noncomputable def FilOk (vs : List Int) : Prop := (∃ v0 v1 : Int, vs = [v0, v1] ∧ 0 ≤ v0 ∧ v0 < 64 ∧ 0 ≤ v1 ∧ v1 < 64) ∨ ∃ v0 v1 v2 : Int, vs = [v0, v1, v2] ∧ 0 ≤ v0 ∧ v0 < 64 ∧ 0 ≤ v1 ∧ v1 < 64 ∧ 0 ≤ v2 ∧ v2 < 64
theorem ct_filled {w : World} (cs : List Nat) (t u : Tok) (m : Str) (vs : List Int) (hm : m.length = 2) (hc : cs.length = 4) (hp : plc m cs = vs) (hv : FilOk vs) : Ct w 6 921 [.str ⟨cs.toArray⟩ t, .str m u] [] (fun _ r _ => ∃ u, r = .bytes (byteArr (filOf vs)) u) := by
  have hsz : (⟨cs.toArray⟩ : Str).length ≤ 4 := by show cs.toArray.size ≤ 4; rw [List.size_toArray]; omega
  unfold Ct
  k_fill
  intros
  (refine wpAny_call ?_; k_dflt (first
  | (refine' code_defQ ?k1 ?k2 ?k3 ?k5 ?kA ?kF ?kK ?k6 ?k7 ?k8 ?k9 ?kB ?_ ?c2 ?c3 ?c4 ?c5; (case kA => exact rfl); (case kF => exact rfl); (case kK => exact rfl); (case k1 => k_asm); (case k2 => k_asm); (case k3 => k_asm); (case k5 => k_asm); (case k6 => k_is); (case k7 => k_is); (case k8 => k_room); (case k9 => (first | exact BindsTo.of_eq rfl | exact binds_K (by k_in) rfl (by k_is) rfl rfl rfl | (refine' kp_binds ?kx ?ke; (case kx => k_in); (case ke => exact fun _ => rfl)))); (case c5 => decide); (case kB => exact locs rfl); (case c2 => exact rfl); (case c3 => exact rfl); (case c4 => exact rfl); k_whole; intro g' L' h' kp' kn' F' N' B' X' T'; (try dsimp only); (try k_fold); refine genM F' ?_; clear F'; intro m9 F')
  | (refine' code_defCQ ?k1 ?k2 ?k3 ?k5 ?kA ?kF ?kK ?k6 ?k7 ?k8 ?k9 ?kB ?kD ?_ ?c2 ?c3 ?c4; (case kA => exact rfl); (case kF => exact rfl); (case kK => exact rfl); (case k1 => k_asm); (case k2 => k_asm); (case k3 => k_asm); (case k5 => k_asm); (case k6 => k_is); (case k7 => k_is); (case k8 => k_room); (case k9 => (first | exact BindsTo.of_eq rfl | exact binds_K (by k_in) rfl (by k_is) rfl rfl rfl | (refine' kp_binds ?kx ?ke; (case kx => k_in); (case ke => exact fun _ => rfl)))); (case kB => exact rfl); (case kD => decide +kernel); (case c2 => exact rfl); (case c3 => exact rfl); (case c4 => exact rfl); k_whole; intro g' L' h' tk' cells' kp' kn' F' N' Y' B' X' T'; k_cells Y'; (try simp only [List.cons_append, List.nil_append] at N'); (try dsimp only); (try k_fold); refine genM F' ?_; clear F'; intro m9 F')
  | (refine' kp_restQ ?k1 ?k2 ?k3 ?k5 ?kA ?kF ?kK ?k6 ?k7 ?k8 ?kV ?kP ?kG ?kB ?_ ?c2 ?c3 ?c4 ?c5; (case kA => exact rfl); (case kF => exact rfl); (case kK => exact rfl); (case k1 => k_asm); (case k2 => k_asm); (case k3 => k_asm); (case k5 => k_asm); (case k6 => k_is); (case k7 => k_is); (case k8 => k_room); (case kV => first | kl_lit | exact rfl); (case kP => exact rfl); (case kG => exact fun _ => rfl); (case kB => exact fun _ => locs rfl); (case c5 => decide); (case c2 => exact rfl); (case c3 => exact rfl); (case c4 => exact rfl); k_whole; intro D' g' L' h' kp' l1 l2 F' N' B' X' T'; (try dsimp only); (try k_fold); refine genM F' ?_; clear F'; intro m9 F')))
  (try k_fold)
  k_steps
  unfold Halt
  rename Fr _ _ _ _ => F1
  rename News _ _ _ _ => N1
  refine ⟨_, _, _, rfl, rfl, F1, N1, Nat.le_trans hsz (by rw [sizeLine_eq]; decide), ?_⟩
  rintro s₂ ⟨gg, rfl⟩
  refine comp_indT (fun i ys nw => nw = _ ∧ IntsAre ys (plc m (cs.take i))) _ ?turn ?fin _ 0 [] _ (Nat.zero_add _) ⟨rfl, .nil⟩
  case turn =>
    clear F1 N1
    rintro i v ys news I oI C oC D m₂ h tk E' hi ⟨c, tc, hcc, rfl⟩ ⟨rfl, hI⟩ hC hx FT NT off ne
    have hci : cs[i]? = some c := by rw [← List.getElem?_toArray]; exact hcc
    by_cases h61 : c = 61
    · have e2 := plc_2 (m := m) hci h61
      subst h61
      have q1 := eq_61
      (try k_fold)
      k_steps
      rename News _ _ _ _ => NE
      unfold Halt
      refine' LCg.CompEnd.intro ?F NE _ (fun _ hp => hp) off trivial ⟨rfl, ?r⟩
      case F => k_asm
      case r => exact ints_to e2 hI
    · have e2 := plc_1 (m := m) hci h61
      have q1 := ne_61 h61
      (try k_fold)
      k_steps
      rename News _ _ _ _ => NE
      unfold Halt
      refine' LCg.CompEnd.intro ?F NE _ (fun _ hp => hp) off trivial ⟨rfl, ?r⟩
      case F => k_asm
      case r => exact ints_to e2 (ints_snoc hI _ _)
  case fin =>
    rintro ys news ⟨rfl, hI⟩ D2 h2 tk2 F2 N2 off2
    clear F1 N1
    rw [List.take_of_length_le (by show cs.length ≤ cs.toArray.size; rw [List.size_toArray]; exact Nat.le_refl _), hp] at hI
    rcases hv with ⟨v0, v1, rfl, b0, b1, d0, d1⟩ | ⟨v0, v1, v2, rfl, b0, b1, d0, d1, g0, g1⟩
    · cases hI with
      | cons _ tv0 hI =>
      cases hI with
      | cons _ tv1 hI =>
      cases hI
      dsimp only [LCg.lst] at N2
      simp only [LCg.Off1, and_true] at off2
      (try k_fold)
      k_steps
      unfold Halt
      rename IsRange _ _ _ _ _ _ _ _ => rg
      rename Fr _ _ _ _ => F3
      rename News _ _ _ _ => N3
      refine LCg.CompSrc.range (a := 0) (b := 1) (n := 1) rfl F3 N3 rg (by decide) (by decide) (by rw [sizeLine_eq]; decide) fun gg => ?_
      refine comp_ind (fun i ys nw => nw = _ ∧ ((i = 0 ∧ ys = []) ∨ (i = 1 ∧ ∃ t, ys = [.int (fil1 v0 v1) t]))) _ ?turn ?fin _ 0 [] _ (Nat.zero_add _) ⟨rfl, .inl ⟨rfl, rfl⟩⟩
      case turn =>
        clear F3 N3
        rintro i v ys news I oI C oC D m₂ h tk E' hi ⟨tv, rfl⟩ ⟨rfl, hI⟩ hC hx FT NT off ne
        have hi0 : i = 0 := by omega
        subst hi0
        replace hx : m₂ "k" = some (.int 0 tv) := hx
        obtain ⟨-, rfl⟩ : (0 : Nat) = 0 ∧ ys = [] := by
          rcases hI with hI | hI
          · exact hI
          · exact absurd hI.1 (by decide)
        (try k_fold)
        k_steps
        rename News _ _ _ _ => NE
        unfold Halt
        refine' LCg.CompEnd.intro ?F NE _ (fun _ hp => hp) off trivial ⟨rfl, .inr ⟨rfl, _, ?r⟩⟩
        case F => k_asm
        case r =>
          exact congrArg (fun z => [Value.int z _]) (fil1_raw b0 b1 d0 d1)
      case fin =>
        rintro zs news ⟨rfl, hR⟩ D3 h3 tk3 F4 N4 off3
        clear F3 N3
        obtain ⟨tz, rfl⟩ : ∃ t, zs = [.int (fil1 v0 v1) t] := by
          rcases hR with hR | hR
          · exact absurd hR.1 (by decide)
          · exact hR.2
        have hm := fil1_in v0 v1
        dsimp only [LCg.lst] at N4
        (try k_fold)
        k_steps
        all_goals (refine' Ret.go (by assumption) ?e1 ?e2 ?e3; (case e1 => assumption); (case e2 => assumption); (case e3 => first | rfl | exact ⟨_, rfl⟩))
    · cases hI with
      | cons _ tv0 hI =>
      cases hI with
      | cons _ tv1 hI =>
      cases hI with
      | cons _ tv2 hI =>
      cases hI
      dsimp only [LCg.lst] at N2
      simp only [LCg.Off1, and_true] at off2
      (try k_fold)
      k_steps
      unfold Halt
      rename IsRange _ _ _ _ _ _ _ _ => rg
      rename Fr _ _ _ _ => F3
      rename News _ _ _ _ => N3
      refine LCg.CompSrc.range (a := 0) (b := 2) (n := 2) rfl F3 N3 rg (by decide) (by decide) (by rw [sizeLine_eq]; decide) fun gg => ?_
      refine comp_ind (fun i ys nw => nw = _ ∧ ((i = 0 ∧ ys = []) ∨ (i = 1 ∧ ∃ t, ys = [.int (fil2 v0 v1 v2) t]) ∨ (i = 2 ∧ ∃ t t', ys = [.int (fil2 v0 v1 v2) t, .int (fil3 v0 v1 v2) t']))) _ ?turn ?fin _ 0 [] _ (Nat.zero_add _) ⟨rfl, .inl ⟨rfl, rfl⟩⟩
      case turn =>
        clear F3 N3
        rintro i v ys news I oI C oC D m₂ h tk E' hi ⟨tv, rfl⟩ ⟨rfl, hI⟩ hC hx FT NT off ne
        have hi0 : i = 0 ∨ i = 1 := by omega
        rcases hi0 with rfl | rfl
        · replace hx : m₂ "k" = some (.int 0 tv) := hx
          obtain ⟨-, rfl⟩ : (0 : Nat) = 0 ∧ ys = [] := by
            rcases hI with hI | hI | hI
            · exact hI
            · exact absurd hI.1 (by decide)
            · exact absurd hI.1 (by decide)
          (try k_fold)
          k_steps
          rename News _ _ _ _ => NE
          unfold Halt
          refine' LCg.CompEnd.intro ?F NE _ (fun _ hp => hp) off trivial ⟨rfl, .inr (.inl ⟨rfl, _, ?r⟩)⟩
          case F => k_asm
          case r => exact congrArg (fun z => [Value.int z _]) (fil2_raw b0 b1 d0 d1 g0 g1)
        · replace hx : m₂ "k" = some (.int 1 tv) := hx
          obtain ⟨tz, rfl⟩ : ∃ t, ys = [.int (fil2 v0 v1 v2) t] := by
            rcases hI with hI | hI | hI
            · exact absurd hI.1 (by decide)
            · exact hI.2
            · exact absurd hI.1 (by decide)
          (try k_fold)
          k_steps
          rename News _ _ _ _ => NE
          unfold Halt
          refine' LCg.CompEnd.intro ?F NE _ (fun _ hp => hp) off trivial ⟨rfl, .inr (.inr ⟨rfl, tz, _, ?r⟩)⟩
          case F => k_asm
          case r => exact congrArg (fun z => [Value.int (fil2 v0 v1 v2) tz, Value.int z _]) (fil3_raw b0 b1 d0 d1 g0 g1)
      case fin =>
        rintro zs news ⟨rfl, hR⟩ D3 h3 tk3 F4 N4 off3
        clear F3 N3
        obtain ⟨tz, tz2, rfl⟩ : ∃ t t', zs = [.int (fil2 v0 v1 v2) t, .int (fil3 v0 v1 v2) t'] := by
          rcases hR with hR | hR | hR
          · exact absurd hR.1 (by decide)
          · exact absurd hR.1 (by decide)
          · exact hR.2
        have hm := fil2_in v0 v1 v2
        have hm3 := fil3_in v0 v1 v2
        dsimp only [LCg.lst] at N4
        (try k_fold)
        k_steps
        all_goals (refine' Ret.go (by assumption) ?e1 ?e2 ?e3; (case e1 => assumption); (case e2 => assumption); (case e3 => first | rfl | exact ⟨_, rfl⟩))
theorem ct_filled1 {w : World} (cs : List Nat) (t u : Tok) (m : Str) (v0 v1 : Int) (hm : m.length = 2) (hc : cs.length = 4) (hp : plc m cs = [v0, v1]) (b0 : 0 ≤ v0) (b1 : v0 < 64) (d0 : 0 ≤ v1) (d1 : v1 < 64) : Ct w 6 921 [.str ⟨cs.toArray⟩ t, .str m u] [] (fun _ r _ => ∃ u, r = .bytes (byteArr [fil1 v0 v1]) u) := ct_filled cs t u m _ hm hc hp (.inl ⟨v0, v1, rfl, b0, b1, d0, d1⟩)
theorem ct_filled2 {w : World} (cs : List Nat) (t u : Tok) (m : Str) (v0 v1 v2 : Int) (hm : m.length = 2) (hc : cs.length = 4) (hp : plc m cs = [v0, v1, v2]) (b0 : 0 ≤ v0) (b1 : v0 < 64) (d0 : 0 ≤ v1) (d1 : v1 < 64) (g0 : 0 ≤ v2) (g1 : v2 < 64) : Ct w 6 921 [.str ⟨cs.toArray⟩ t, .str m u] [] (fun _ r _ => ∃ u, r = .bytes (byteArr [fil2 v0 v1 v2, fil3 v0 v1 v2]) u) := ct_filled cs t u m _ hm hc hp (.inr ⟨v0, v1, v2, rfl, b0, b1, d0, d1, g0, g1⟩)

end Mine
end
section
open PySem PySem.W PyProof.Rows PySem.Spec PySem.Calls
namespace Mine
section
variable {prog : Program} {w : World} {A : Around} {E : Value → Shared → Prop} {s : Shared} {h₀ : Heap} {L a b : Addr} {m : Str → Option Value} {news : List (Addr × Obj)} {its its2 : Array Value} {n n2 : Nat} {Q : Value → Shared → Prop}
/-- two lists of the ledger, of any contents, one behind the other -/
theorem add_L (F : Fr h₀ L s.heap m) (N : News h₀ L s.heap news) (ha : (a, W.listOf its n) ∈ news) (hb : (b, W.listOf its2 n2) ∈ news) (hz : its.size + its2.size ≤ 1000)
    (h : ∀ D h', Fr h₀ L h' m → News h₀ L h' ((D, W.listOf (its.toList ++ its2.toList).toArray 0) :: news) → (∀ p ∈ news, p.1 < D) → Q (.ref D) { s with heap := h' }) :
    wpAny (model prog w) A (binaryOp .Add (.ref a) (.ref b)) Q E s :=
  kmk_add_lit F N ⟨_, (N _ ha).1, rfl, n, rfl⟩ ⟨_, (N _ hb).1, rfl, n2, rfl⟩ rfl h (by rw [Array.length_toList, Array.length_toList, sizeLine_eq]; omega)
/-- a list of the ledger against an empty one -/
theorem ne_nil (N : News h₀ L s.heap news) (ha : (a, W.listOf its n) ∈ news) (hb : (b, W.listOf #[] n2) ∈ news) (hu : A.units < cLine) (h : Q (.bool (!its.isEmpty)) s) : wpAny (model prog w) A (compareOp .NotEq (.ref a) (.ref b)) Q E s := by
  have la : s.heap.IsList a its := ⟨_, (N _ ha).1, rfl, n, rfl⟩
  have lb : s.heap.IsList b #[] := ⟨_, (N _ hb).1, rfl, n2, rfl⟩
  show wpAny _ _ (richCompare .NotEq (.ref a) (.ref b)) _ _ _
  cases e : its.isEmpty with
  | true =>
    have hz : its.size = 0 := by simpa [Array.isEmpty_iff_size_eq_zero] using e
    refine PySem.SeqAt.RcNeAt.lists (e := fun _ => true) la lb (by rw [hz]; rfl) hu (fun j h1 _ => absurd h1 (by omega)) prog w E Q ?_
    rw [e] at h
    rw [hz]; exact h
  | false =>
    have hz : its.size ≠ 0 := fun q => by
      rw [Array.isEmpty_eq_false_iff] at e
      exact e (Array.size_eq_zero_iff.mp q)
    refine PySem.SeqAt.RcNeAt.lists_lengths la lb (by rw [bne_iff_ne]; exact hz) hu prog w E Q ?_
    rw [e] at h
    exact h
end
end Mine
end
local macro_rules | `(tactic| walk_at "binaryOp Add ref ref") => `(tactic| (k_dflt (refine add_L (by k_asm) (by k_asm) (by k_mem) (by k_mem) (by first | omega | (simp only [List.size_toArray, List.length_append, Array.length_toList, List.length_cons, List.length_nil, Array.size_push]; omega) | (show _ ≤ 1000; simp; omega)) ?_); intro D8 h8 F8 N8 l8; (try k_lt l8); (try k_sweep)))
section
open PySem PySem.W PyProof.Rows PySem.Spec PySem.Calls
namespace Mine
/-- an item: a text or a row of octets -/
noncomputable abbrev Dat := Str ⊕ List Int
inductive DAre : List Value → List Dat → Prop
  | nil : DAre [] []
  | txt (x : Str) (t : Tok) {vs ds} : DAre vs ds → DAre (.str x t :: vs) (.inl x :: ds)
  | row (r : List Int) (t : Tok) {vs ds} : DAre vs ds → DAre (.bytes (byteArr r) t :: vs) (.inr r :: ds)
theorem DAre.append {vs us : List Value} {ds es : List Dat} (h : DAre vs ds) (g : DAre us es) : DAre (vs ++ us) (ds ++ es) := by
  induction h with
  | nil => exact g
  | txt x t _ ih => exact .txt x t ih
  | row r t _ ih => exact .row r t ih
theorem DAre.len {vs : List Value} {ds : List Dat} (h : DAre vs ds) : vs.length = ds.length := by
  induction h with
  | nil => rfl
  | txt x t _ ih => rw [List.length_cons, List.length_cons, ih]
  | row r t _ ih => rw [List.length_cons, List.length_cons, ih]
theorem DAre.ofStrs {vs : List Value} {ys : List Str} (h : StrsAre vs ys) : DAre vs (ys.map .inl) := by
  induction h with
  | nil => exact .nil
  | cons x t _ ih => exact .txt x t ih
theorem DAre.ofRows {vs : List Value} {rs : List (List Int)} (h : RowsAre vs rs) : DAre vs (rs.map .inr) := by
  induction h with
  | nil => exact .nil
  | cons r t _ ih => exact .row r t ih
theorem strs_at {vs : List Value} {ys : List Str} (h : StrsAre vs ys) : ∀ (i : Nat) (v : Value), vs[i]? = some v → ∃ x t, v = .str x t ∧ ys[i]? = some x := by
  induction h with
  | nil => intro i v e; simp at e
  | cons k u _ ih =>
    intro i v e
    cases i with
    | zero => exact ⟨k, u, (Option.some.inj e).symm, rfl⟩
    | succ j => exact ih j v e
/-- the last piece of a path -/
noncomputable abbrev baseOf (x : Str) : Str := Txt.slice x (some (Txt.rfind x (Str.ofString "/") + 1)) none
noncomputable def leadOf (sl : Int) : Str := if sl = 0 then Str.ofString "" else if sl = 2 then Str.ofString "//" else Str.ofString "/"
noncomputable def dueRest (sl up : Int) (rs : List (List Int)) : List Dat := if sl = 0 then (if up.toNat = 0 ∧ rs = [] then [.inl (Str.ofString ".")] else (List.replicate up.toNat (Str.ofString "..")).map .inl ++ rs.map .inr) else rs.map .inr
noncomputable def dueOf (sl up : Int) (rs : List (List Int)) : List Dat := .inl (leadOf sl) :: dueRest sl up rs
/-- what _law_due hands back -/
noncomputable def DueP (ds : List Dat) (its : Array Value) (rl : Addr) (c : Nat) (r : Value) (h' : Heap) : Prop := ∃ l arr c', r = .ref l ∧ h'.get? l = some (W.listOf arr c') ∧ DAre arr.toList ds ∧ h'.get? rl = some (W.listOf its c)
theorem DueP.of {ds : List Dat} {its arr : Array Value} {rl l : Addr} {c c' : Nat} {vs : List Value} {h' : Heap} (h1 : h'.get? l = some (W.listOf arr c')) (h2 : arr.toList = vs) (h3 : h'.get? rl = some (W.listOf its c)) (h4 : DAre vs ds) : DueP ds its rl c (.ref l) h' := ⟨l, arr, c', rfl, h1, h2 ▸ h4, h3⟩
theorem due_n {sl up : Int} {rs : List (List Int)} {vs : List Value} {lead : Str} {t : Tok} (hsl : sl ≠ 0) (hr : RowsAre vs rs) (e : leadOf sl = lead) : DAre (.str lead t :: vs) (dueOf sl up rs) := by
  unfold dueOf dueRest
  rw [if_neg hsl, e]
  exact .txt _ _ (.ofRows hr)
theorem lead_0 : leadOf 0 = Str.ofString "" := rfl
theorem due_0e {up : Int} {rs : List (List Int)} {t u : Tok} (hz : StrsAre [] (List.replicate up.toNat (Str.ofString ".."))) (hr : RowsAre [] rs) : DAre [.str (Str.ofString "") t, .str (Str.ofString ".") u] (dueOf 0 up rs) := by
  cases hr
  have h0 : up.toNat = 0 := by have := hz.length; rw [List.length_replicate] at this; exact this.symm
  unfold dueOf dueRest
  rw [if_pos rfl, if_pos ⟨h0, rfl⟩]
  exact .txt _ _ (.txt _ _ .nil)
theorem due_0 {up : Int} {ws vs : List Value} {rs : List (List Int)} {t : Tok} (hz : StrsAre ws (List.replicate up.toNat (Str.ofString ".."))) (hr : RowsAre vs rs) (he : (ws ++ vs).isEmpty = false) : DAre (.str (Str.ofString "") t :: (ws ++ vs)) (dueOf 0 up rs) := by
  unfold dueOf dueRest
  rw [if_pos rfl, if_neg]
  · exact .txt _ _ ((DAre.ofStrs hz).append (.ofRows hr))
  · rintro ⟨a, rfl⟩
    cases hr
    rw [a] at hz
    cases hz
    cases he
end Mine
end
section
open PySem PySem.W PyProof.Rows PySem.Spec PySem.Calls
namespace Mine
/-- a contract of a def that reads the listed objects ms, and makes others: its result is told over the heap without them -/
noncomputable def RetG (ms : List (Addr × Obj)) (Post : Heap → Value → Heap → Prop) (s : Shared) (Q : Value → Shared → Prop) : Prop :=
  ∀ r h' tk', Post (hideAll s.heap (ms.map (·.1))) r h' → KeptM ms s.heap h' → Q r { s with heap := h', toks := tk' }
theorem RetG.go {ms : List (Addr × Obj)} {Post : Heap → Value → Heap → Prop} {s : Shared} {Q : Value → Shared → Prop} {r : Value} {g h' : Heap} {tk' : Nat}
    (R : RetG ms Post s Q) (k1 : g = hideAll s.heap (ms.map (·.1))) (k2 : Kept g h') (hp : Post g r h') : Q r { s with heap := h', toks := tk' } :=
  R r h' tk' (k1 ▸ hp) fun b o e n => k2 b o (by rw [k1]; exact hideAll_get _ e n)
noncomputable def CtG (w : World) (D : Nat) (f : Addr) (vs : List Value) (kw : List (Str × Value)) (ms : List (Addr × Obj)) (Post : Heap → Value → Heap → Prop) : Prop :=
  ∀ (p : Program) (loose : List Str) (mean : ExcName → Option Value) (mg mb : Str → Option Value) (dp un : Nat) (gd : Option (List Code)) (cn : Str) (sn : List (Str × NameKind)) (sg sc : Bool) (sm : List (Str × Const)) (a : Addr) (ccd : Value) (cl : List (Str × Addr)) (outer : List Env)
    (A₀ : Around) (base h₀ : Heap) (L : Addr) (m : Str → Option Value) (s : Shared) (Q : Value → Shared → Prop),
    Below A₀ base outer h₀ → Fr h₀ L s.heap m → News h₀ L s.heap ms → (Mine.hd.heap_1 w.params).In h₀ → Top p loose mean mg mb h₀ → dp + D < recursionLimit → un + 8 * D < cLine →
    RetG ms Post s Q →
    wpAny (model PySem.Challenge.rw_ik0089_01.prog w) (ktrTop dp un gd cn ⟨.function, sn, sg, sc, sm⟩ L a ccd cl outer) (call (.ref f) vs kw) Q (fun _ _ => False) s
section
variable {w : World} {D : Nat} {f : Addr} {vs : List Value} {kw : List (Str × Value)} {ms : List (Addr × Obj)}
   {p : Program} {loose : List Str} {mean : ExcName → Option Value} {mg mb : Str → Option Value} {dp un : Nat} {gd : Option (List Code)} {cn : Str} {sn : List (Str × NameKind)} {sg sc : Bool} {sm : List (Str × Const)} {a : Addr} {ccd : Value} {cl : List (Str × Addr)} {outer : List Env}
    {A₀ : Around} {base h₀ : Heap} {L : Addr} {m : Str → Option Value} {news : List (Addr × Obj)} {s : Shared} {Q E : Value → Shared → Prop}
/-- the listed objects stand as they stood: nothing is changed -/
theorem KeptM.all {h h' : Heap} (k : KeptM ms h h') (N : ∀ q ∈ ms, h.get? q.1 = some q.2) (e : ∀ q ∈ ms, h'.get? q.1 = some q.2) : Kept h h' := by
  intro b o hb
  by_cases hm : b ∈ ms.map (·.1)
  · obtain ⟨q, hq, rfl⟩ := List.mem_map.mp hm
    have := N q hq
    rw [hb] at this
    cases this
    exact e q hq
  · exact k b o hb hm
theorem CtG.use {Post : Heap → Value → Heap → Prop} (C : CtG w D f vs kw ms Post) (rd : ∀ g r h', Post g r h' → ∀ q ∈ ms, h'.get? q.1 = some q.2)
    (B : Below A₀ base outer h₀) (F : Fr h₀ L s.heap m) (X : (Mine.hd.heap_1 w.params).In h₀) (N : News h₀ L s.heap news) (T : Top p loose mean mg mb h₀) (sub : ∀ q ∈ ms, q ∈ news) (hd : dp + D < recursionLimit) (hu : un + 8 * D < cLine)
    (h : ∀ r h' tk', Post (hideAll s.heap (ms.map (·.1))) r h' → (∀ {l o}, h'.get? l = some o → l ∉ ms.map (·.1) → (hideAll s.heap (ms.map (·.1))).get? l = none → s.heap.get? l = none ∧ News h₀ L h' ((l, o) :: news)) → (∀ {l}, s.heap.get? l = none → ∀ p ∈ news, p.1 ≠ l) → Fr h₀ L h' m → News h₀ L h' news → Q r { s with heap := h', toks := tk' }) :
    wpAny (model PySem.Challenge.rw_ik0089_01.prog w) (ktrTop dp un gd cn ⟨.function, sn, sg, sc, sm⟩ L a ccd cl outer) (call (.ref f) vs kw) Q E s := by
  have Nm : News h₀ L s.heap ms := fun q hq => N q (sub q hq)
  refine wpAny_mono (C p loose mean mg mb dp un gd cn sn sg sc sm a ccd cl outer A₀ base h₀ L m s Q B F Nm X T hd hu (fun r h' tk' hp k => ?_)) (fun _ _ x => x) fun _ _ x => x.elim
  have K := k.all (fun q hq => (Nm q hq).1) (rd _ _ _ hp)
  refine h r h' tk' hp (fun {l o} hl hn hg => ?_) (fun hn => made_ne N hn) (K.fr F) (K.news N)
  have hz : s.heap.get? l = none := by
    cases q : s.heap.get? l with
    | none => rfl
    | some o' => rw [hideAll_get _ q hn] at hg; cases hg
  exact ⟨hz, news_made F (K.news N) hl hz⟩
/-- a contract in CtM's form whose listed objects stand -/
theorem CtM.read {Post : Value → Heap → Prop} (C : CtM w D f vs kw ms Post) (rd : ∀ r h', Post r h' → ∀ q ∈ ms, h'.get? q.1 = some q.2)
    (B : Below A₀ base outer h₀) (F : Fr h₀ L s.heap m) (X : (Mine.hd.heap_1 w.params).In h₀) (N : News h₀ L s.heap news) (T : Top p loose mean mg mb h₀) (sub : ∀ q ∈ ms, q ∈ news) (hd : dp + D < recursionLimit) (hu : un + 8 * D < cLine)
    (h : ∀ r h' tk', Post r h' → Fr h₀ L h' m → News h₀ L h' news → Q r { s with heap := h', toks := tk' }) :
    wpAny (model PySem.Challenge.rw_ik0089_01.prog w) (ktrTop dp un gd cn ⟨.function, sn, sg, sc, sm⟩ L a ccd cl outer) (call (.ref f) vs kw) Q E s := by
  have Nm : News h₀ L s.heap ms := fun q hq => N q (sub q hq)
  refine wpAny_mono (C p loose mean mg mb dp un gd cn sn sg sc sm a ccd cl outer A₀ base h₀ L m s Q B F Nm X T hd hu (fun r h' tk' hp k => ?_)) (fun _ _ x => x) fun _ _ x => x.elim
  have K := k.all (fun q hq => (Nm q hq).1) (rd _ _ hp)
  exact h r h' tk' hp (K.fr F) (K.news N)
end
/-- what _law_due hands back: a new list -/
noncomputable def DueG (ds : List Dat) (its : Array Value) (rl : Addr) (c : Nat) (g : Heap) (r : Value) (h' : Heap) : Prop := ∃ l arr c', r = .ref l ∧ h'.get? l = some (W.listOf arr c') ∧ g.get? l = none ∧ @Ne Nat l rl ∧ DAre arr.toList ds ∧ h'.get? rl = some (W.listOf its c)
theorem DueG.of {ds : List Dat} {its arr : Array Value} {rl l : Addr} {c c' : Nat} {vs : List Value} {g h' : Heap} (h1 : h'.get? l = some (W.listOf arr c') ∧ g.get? l = none) (ne : @Ne Nat l rl) (h2 : arr.toList = vs) (h3 : h'.get? rl = some (W.listOf its c)) (h4 : DAre vs ds) : DueG ds its rl c g (.ref l) h' := ⟨l, arr, c', rfl, h1.1, h1.2, ne, h2 ▸ h4, h3⟩
end Mine
end
section
namespace Mine
set_option linter.unusedVariables false
local macro_rules | `(tactic| walk_at "compareOp NotEq ref ref") => `(tactic| (k_dflt (refine ne_nil (by k_asm) (by k_mem) (by k_mem) (by ktr_units) ?_)))
theorem ct_due1 {w : World} (sl up : Int) (t1 t2 : Tok) (rl : Addr) (its : Array Value) (c : Nat) (h0 : 0 ≤ sl) (h1 : sl < 4) (hsl : sl ≠ 0) (g0 : 0 ≤ up) (g1 : up < 3) (rs : List (List Int)) (hr : RowsAre its.toList rs) (hs : its.size ≤ 2) : CtG w 4 933 [.int sl t1, .int up t2, .ref rl] [] [(rl, W.listOf its c)] (DueG (dueOf sl up rs) its rl c) := by
  unfold CtG
  k_fill
  intros
  refine wpAny_call ?_
  refine' code_defM ?k1 ?k2 ?kN ?k3 ?k5 ?kA ?kF ?kK ?k6 ?k7 ?k8 ?k9 ?kB ?_ ?c2 ?c3 ?c4 ?c5
  case kA => exact rfl
  case kF => exact rfl
  case kK => exact rfl
  case k1 => k_asm
  case k2 => k_asm
  case kN => k_asm
  case k3 => k_asm
  case k5 => k_asm
  case k6 => k_is
  case k7 => k_is
  case k8 => k_room
  case k9 => (first | exact BindsTo.of_eq rfl | exact binds_K (by k_in) rfl (by k_is) rfl rfl rfl | (refine' kp_binds ?kx ?ke; (case kx => k_in); (case ke => exact fun _ => rfl)))
  case c5 => decide
  case kB => exact locs rfl
  case c2 => exact rfl
  case c3 => exact rfl
  case c4 => exact rfl
  k_whole
  intro g' L' h' kp' F' N' B' X' T'
  (try dsimp only)
  (try k_fold)
  k_steps
  all_goals (rename AllMade _ _ _ => km9; (refine' RetG.go (by assumption) kp' ?e2 (DueG.of (km9.at ?l1) ?l5 ?l3 (km9.at ?l2).1 ?l4)); (case e2 => assumption); (case l1 => k_mem); (case l5 => omega); (case l2 => k_mem); (case l3 => simp; rfl); (case l4 => refine due_n hsl hr ?_; (unfold leadOf; first | (rw [if_neg (by omega), if_neg (by omega)]) | (rw [if_neg (by omega), if_pos (by omega)]))))

end Mine
end
section
namespace Mine
set_option linter.unusedVariables false
section
variable {prog : Program} {w : World} {A : Around} {E : Value → Shared → Prop} {s : Shared} {h₀ : Heap} {L a b : Addr} {m : Str → Option Value} {news : List (Addr × Obj)} {its its2 : Array Value} {n n2 : Nat} {Q : Value → Shared → Prop}
theorem add_IL (F : Fr h₀ L s.heap m) (N : News h₀ L s.heap news) (ha : s.heap.IsList a its) (hb : (b, W.listOf its2 n2) ∈ news) (hz : its.size + its2.size ≤ 1000)
    (h : ∀ D h', Fr h₀ L h' m → News h₀ L h' ((D, W.listOf (its.toList ++ its2.toList).toArray 0) :: news) → (∀ p ∈ news, p.1 < D) → Q (.ref D) { s with heap := h' }) :
    wpAny (model prog w) A (binaryOp .Add (.ref a) (.ref b)) Q E s :=
  kmk_add_lit F N ha ⟨_, (N _ hb).1, rfl, n2, rfl⟩ rfl h (by rw [Array.length_toList, Array.length_toList, sizeLine_eq]; omega)
theorem ne_nilB {e : Bool} (N : News h₀ L s.heap news) (ha : (a, W.listOf its n) ∈ news) (hb : (b, W.listOf #[] n2) ∈ news) (hu : A.units < cLine) (he : its.isEmpty = e) (h : Q (.bool (!e)) s) : wpAny (model prog w) A (compareOp .NotEq (.ref a) (.ref b)) Q E s :=
  ne_nil N ha hb hu (he ▸ h)
end
local macro_rules | `(tactic| walk_at "binaryOp Add ref ref") => `(tactic| (refine Halt.go ?_))
local macro_rules | `(tactic| walk_at "binaryOp Add ref ref") => `(tactic| (k_dflt (refine add_L (by k_asm) (by k_asm) (by k_mem) (by k_mem) (by first | omega | (simp only [List.size_toArray, List.length_append, Array.length_toList, List.length_cons, List.length_nil, Array.size_push]; omega) | (show _ ≤ 1000; simp; omega)) ?_); intro D8 h8 F8 N8 l8; (try k_lt l8); (try k_sweep)))
local macro_rules | `(tactic| walk_at "compareOp NotEq ref ref") => `(tactic| (k_dflt (refine ne_nilB (by k_asm) (by k_mem) (by k_mem) (by ktr_units) (by with_reducible first | assumption | rfl) ?_)))
theorem ups_strs (n : Nat) (t : Tok) : StrsAre (List.replicate n [Value.str (Str.ofString "..") t]).flatten (List.replicate n (Str.ofString "..")) := by
  induction n with
  | zero => exact .nil
  | succ n ih => rw [List.replicate_succ, List.flatten_cons, List.replicate_succ]; exact .cons _ _ ih
theorem ups_of {h : Heap} {l : Addr} {n : Nat} {t : Tok} (hl : h.IsList l (List.replicate n [Value.str (Str.ofString "..") t]).flatten.toArray) : ∃ vs, h.IsList l vs.toArray ∧ StrsAre vs (List.replicate n (Str.ofString "..")) := ⟨_, hl, ups_strs n t⟩
theorem pre_empty {a : List Value} {its : Array Value} (h : (a.isEmpty && its.isEmpty) = false) : (a ++ its.toList).toArray.isEmpty = false := by
  cases a with
  | cons _ _ => rfl
  | nil =>
    have : its.isEmpty = false := h
    rw [List.nil_append, Array.toArray_toList]
    exact this
theorem pre_empty2 {a : List Value} {its : Array Value} (h : (a.isEmpty && its.isEmpty) = true) : a = [] ∧ its = #[] := by
  rw [Bool.and_eq_true] at h
  exact ⟨List.isEmpty_iff.mp h.1, by simpa using h.2⟩
theorem ct_due0 {w : World} (up : Int) (t1 t2 : Tok) (rl : Addr) (its : Array Value) (c : Nat) (g0 : 0 ≤ up) (g1 : up < 3) (rs : List (List Int)) (hr : RowsAre its.toList rs) (hs : its.size ≤ 2) : CtG w 4 933 [.int 0 t1, .int up t2, .ref rl] [] [(rl, W.listOf its c)] (DueG (dueOf 0 up rs) its rl c) := by
  unfold CtG
  k_fill
  intros
  refine wpAny_call ?_
  refine' code_defM ?k1 ?k2 ?kN ?k3 ?k5 ?kA ?kF ?kK ?k6 ?k7 ?k8 ?k9 ?kB ?_ ?c2 ?c3 ?c4 ?c5
  case kA => exact rfl
  case kF => exact rfl
  case kK => exact rfl
  case k1 => k_asm
  case k2 => k_asm
  case kN => k_asm
  case k3 => k_asm
  case k5 => k_asm
  case k6 => k_is
  case k7 => k_is
  case k8 => k_room
  case k9 => (first | exact BindsTo.of_eq rfl | exact binds_K (by k_in) rfl (by k_is) rfl rfl rfl | (refine' kp_binds ?kx ?ke; (case kx => k_in); (case ke => exact fun _ => rfl)))
  case c5 => decide
  case kB => exact locs rfl
  case c2 => exact rfl
  case c3 => exact rfl
  case c4 => exact rfl
  k_whole
  intro g' L' h' kp' F' N' B' X' T'
  (try dsimp only)
  (try k_fold)
  k_steps
  unfold Halt
  rename Fr _ _ _ _ => F1
  rename News _ _ _ _ => N1
  rename Heap.IsList _ _ _ => hl
  obtain ⟨vs9, hl9, hS0⟩ := ups_of hl
  clear hl
  have hup : up.toNat ≤ 2 := by omega
  have hvl := hS0.length
  rw [List.length_replicate] at hvl
  refine' add_IL F1 N1 hl9 ?k4 ?k5 ?_
  case k4 => k_mem
  case k5 => (simp only [List.size_toArray]; omega)
  intro D8 h8 F8 N8 l8
  clear F1 N1
  (try k_lt l8)
  cases he : (vs9.isEmpty && its.isEmpty) with
  | false =>
    have he2 := pre_empty he
    k_steps
    all_goals (rename AllMade _ _ _ => km9; (refine' RetG.go (by assumption) kp' ?e2 (DueG.of (km9.at ?l1) ?l5 ?l3 (km9.at ?l2).1 ?l4)); (case e2 => assumption); (case l1 => k_mem); (case l5 => omega); (case l2 => k_mem); (case l3 => simp; rfl); (case l4 => exact due_0 hS0 hr (by simpa using he2)))
  | true =>
    obtain ⟨rfl, rfl⟩ := pre_empty2 he
    k_steps
    all_goals (rename AllMade _ _ _ => km9; (refine' RetG.go (by assumption) kp' ?e2 (DueG.of (km9.at ?l1) ?l5 ?l3 (km9.at ?l2).1 ?l4)); (case e2 => assumption); (case l1 => k_mem); (case l5 => omega); (case l2 => k_mem); (case l3 => simp; rfl); (case l4 => exact due_0e hS0 hr))

end Mine
end
section
open PySem PySem.W PyProof.Rows PySem.Spec PySem.Calls
namespace Mine
/-- a path as basename and dirname take it apart -/
inductive Chain : Str → Str → List Str → Prop
  | stop (x : Str) : x.length ≤ 1000 → (baseOf x != Str.ofString "") = false → Chain x x []
  | step (x front : Str) (ps : List Str) : x.length ≤ 1000 → (baseOf x != Str.ofString "") = true → Chain (dirOf x) front ps → Chain x front (ps ++ [baseOf x])
theorem chain_last {x front : Str} {ps : List Str} (h : Chain x front ps) : x.length ≤ 1000 ∧ (((baseOf x != Str.ofString "") = false ∧ ps = [] ∧ x = front) ∨ ((baseOf x != Str.ofString "") = true ∧ ∃ qs, ps = qs ++ [baseOf x] ∧ Chain (dirOf x) front qs)) := by
  cases h with
  | stop _ a b => exact ⟨a, .inl ⟨b, rfl, rfl⟩⟩
  | step _ _ qs a b c => exact ⟨a, .inr ⟨b, qs, rfl, c⟩⟩
/-- what becomes of a piece of a path -/
inductive PartD (m : Str) : Str → Dat → Prop
  | dot : PartD m (Str.ofString ".") (.inl (Str.ofString "."))
  | dots : PartD m (Str.ofString "..") (.inl (Str.ofString ".."))
  | one (cs : List Nat) (v0 v1 : Int) : ([Str.ofString ".", Str.ofString ".."].any (fun x => x == (⟨cs.toArray⟩ : Str)) = false) → cs.length = 4 → plc m cs = [v0, v1] → 0 ≤ v0 → v0 < 64 → 0 ≤ v1 → v1 < 64 → PartD m ⟨cs.toArray⟩ (.inr [fil1 v0 v1])
  | two (cs : List Nat) (v0 v1 v2 : Int) : ([Str.ofString ".", Str.ofString ".."].any (fun x => x == (⟨cs.toArray⟩ : Str)) = false) → cs.length = 4 → plc m cs = [v0, v1, v2] → 0 ≤ v0 → v0 < 64 → 0 ≤ v1 → v1 < 64 → 0 ≤ v2 → v2 < 64 → PartD m ⟨cs.toArray⟩ (.inr [fil2 v0 v1 v2, fil3 v0 v1 v2])
inductive PartsD (m : Str) : List Str → List Dat → Prop
  | nil : PartsD m [] []
  | cons (p : Str) (d : Dat) {ps ds} : PartD m p d → PartsD m ps ds → PartsD m (p :: ps) (d :: ds)
theorem parts_at {m : Str} {ps : List Str} {ds : List Dat} (h : PartsD m ps ds) : ∀ (i : Nat) (p : Str), ps[i]? = some p → ∃ d, ds[i]? = some d ∧ PartD m p d := by
  induction h with
  | nil => intro i p e; simp at e
  | cons q d hq _ ih =>
    intro i p e
    cases i with
    | zero => exact ⟨d, rfl, (Option.some.inj e) ▸ hq⟩
    | succ j => exact ih j p e
theorem PartsD.len {m : Str} {ps : List Str} {ds : List Dat} (h : PartsD m ps ds) : ps.length = ds.length := by
  induction h with
  | nil => rfl
  | cons q d hq _ ih => rw [List.length_cons, List.length_cons, ih]
theorem dat_snoc_t {vs : List Value} {ds : List Dat} (h : DAre vs ds) (x : Str) (t : Tok) : DAre (vs ++ [.str x t]) (ds ++ [.inl x]) := h.append (.txt _ _ .nil)
theorem dat_snoc_r {vs : List Value} {ds : List Dat} (h : DAre vs ds) (x : List Int) (t : Tok) : DAre (vs ++ [.bytes (byteArr x) t]) (ds ++ [.inr x]) := h.append (.row _ _ .nil)
theorem dat_to {vs : List Value} {ds ds' : List Dat} (e : ds' = ds) (h : DAre vs ds) : DAre vs ds' := by rw [e]; exact h
structure ApS where
  path : Str
  tp : Tok
  p : Addr
  c : Nat
  its : Array Value
  rest : List Str
  qs : List Str
theorem strs_snoc {a b : List Value} {xs ys : List Str} (h : StrsAre a xs) (g : StrsAre b ys) : StrsAre (a ++ b) (xs ++ ys) := by
  induction h with
  | nil => exact g
  | cons x t _ ih => exact .cons x t ih
end Mine
end
section
namespace Mine
local macro_rules | `(tactic| walk_at "call ref") => `(tactic| (k_dflt (first | refine Ct.useX (ct_basename _ _ (by omega)) ?_ | refine Ct.useX (ct_dirname _ _ (by omega)) ?_ | refine Ct.useX (ct_filled1 _ _ _ _ _ _ (by with_reducible assumption) (by with_reducible assumption) (by with_reducible assumption) (by assumption) (by assumption) (by assumption) (by assumption)) ?_ | refine Ct.useX (ct_filled2 _ _ _ _ _ _ _ (by with_reducible assumption) (by with_reducible assumption) (by with_reducible assumption) (by assumption) (by assumption) (by assumption) (by assumption) (by assumption) (by assumption)) ?_); intros; (try k_fold)))
set_option linter.unusedVariables false
local macro_rules | `(tactic| walk_at "exec While") => `(tactic| (refine Halt.go ?_))
local macro_rules | `(tactic| walk_at "KswEnd") => `(tactic| (refine Halt.go ?_))
theorem ct_apart {w : World} (x m front : Str) (t u : Tok) (ps : List Str) (ds : List Dat) (hm : m.length = 2) (hc : Chain x front ps) (hd : PartsD m ps ds) (hl : ps.length ≤ 8) : Ct w 8 926 [.str x t, .str m u] [] (fun g r h' => ∃ l its c, r = .ref l ∧ Made g l (W.listOf its c) h' ∧ DAre its.toList (.inl front :: ds)) := by
  unfold Ct
  k_fill
  intros
  (refine wpAny_call ?_; k_dflt (first
  | (refine' code_defQ ?k1 ?k2 ?k3 ?k5 ?kA ?kF ?kK ?k6 ?k7 ?k8 ?k9 ?kB ?_ ?c2 ?c3 ?c4 ?c5; (case kA => exact rfl); (case kF => exact rfl); (case kK => exact rfl); (case k1 => k_asm); (case k2 => k_asm); (case k3 => k_asm); (case k5 => k_asm); (case k6 => k_is); (case k7 => k_is); (case k8 => k_room); (case k9 => (first | exact BindsTo.of_eq rfl | exact binds_K (by k_in) rfl (by k_is) rfl rfl rfl | (refine' kp_binds ?kx ?ke; (case kx => k_in); (case ke => exact fun _ => rfl)))); (case c5 => decide); (case kB => exact locs rfl); (case c2 => exact rfl); (case c3 => exact rfl); (case c4 => exact rfl); k_whole; intro g' L' h' kp' kn' F' N' B' X' T'; (try dsimp only); (try k_fold); refine genM F' ?_; clear F'; intro m9 F')
  | (refine' code_defCQ ?k1 ?k2 ?k3 ?k5 ?kA ?kF ?kK ?k6 ?k7 ?k8 ?k9 ?kB ?kD ?_ ?c2 ?c3 ?c4; (case kA => exact rfl); (case kF => exact rfl); (case kK => exact rfl); (case k1 => k_asm); (case k2 => k_asm); (case k3 => k_asm); (case k5 => k_asm); (case k6 => k_is); (case k7 => k_is); (case k8 => k_room); (case k9 => (first | exact BindsTo.of_eq rfl | exact binds_K (by k_in) rfl (by k_is) rfl rfl rfl | (refine' kp_binds ?kx ?ke; (case kx => k_in); (case ke => exact fun _ => rfl)))); (case kB => exact rfl); (case kD => decide +kernel); (case c2 => exact rfl); (case c3 => exact rfl); (case c4 => exact rfl); k_whole; intro g' L' h' tk' cells' kp' kn' F' N' Y' B' X' T'; k_cells Y'; (try simp only [List.cons_append, List.nil_append] at N'); (try dsimp only); (try k_fold); refine genM F' ?_; clear F'; intro m9 F')
  | (refine' kp_restQ ?k1 ?k2 ?k3 ?k5 ?kA ?kF ?kK ?k6 ?k7 ?k8 ?kV ?kP ?kG ?kB ?_ ?c2 ?c3 ?c4 ?c5; (case kA => exact rfl); (case kF => exact rfl); (case kK => exact rfl); (case k1 => k_asm); (case k2 => k_asm); (case k3 => k_asm); (case k5 => k_asm); (case k6 => k_is); (case k7 => k_is); (case k8 => k_room); (case kV => first | kl_lit | exact rfl); (case kP => exact rfl); (case kG => exact fun _ => rfl); (case kB => exact fun _ => locs rfl); (case c5 => decide); (case c2 => exact rfl); (case c3 => exact rfl); (case c4 => exact rfl); k_whole; intro D' g' L' h' kp' l1 l2 F' N' B' X' T'; (try dsimp only); (try k_fold); refine genM F' ?_; clear F'; intro m9 F')))
  (try k_fold)
  k_steps
  unfold Halt
  rename Fr _ _ _ _ => F1
  rename News _ _ _ _ => N1
  rename Obj => oc
  with_unfolding_all refine' ksw_while (σ := ApS) (fun c => [(c.p, W.listOf c.its c.c), (_, oc)]) (fun c => [("path", .str c.path c.tp), ("parts", .ref c.p)]) (fun _ => True) [] (fun c => Chain c.path front c.rest ∧ StrsAre c.its.toList c.qs ∧ c.rest ++ c.qs = ps) (fun c => c.rest.length) ⟨x, t, _, _, #[], ps, []⟩ F1 N1 trivial (by kst_all) ⟨hc, .nil, List.append_nil _⟩ ?_ ?_
  · rintro ⟨path, tp, p, cn, its, rest, qs⟩ uu h tk _ ⟨hp, hs, he⟩ FT NT
    clear F1 N1
    dsimp only at hp hs he FT NT
    have hsz : its.size ≤ 8 := by
      have h1 := hs.length
      rw [Array.length_toList] at h1
      rw [← he, List.length_append] at hl
      omega
    obtain ⟨hb, hh⟩ := chain_last hp
    rcases hh with ⟨hf, rfl, rfl⟩ | ⟨hf, rs, rfl, hc2⟩
    · k_steps
      unfold Halt
      rename Fr _ _ _ _ => F3
      rename News _ _ _ _ => N3
      have hqs : qs = ps := he
      subst hqs
      refine LCg.CompSrc.ledger rfl F3 N3 (.tail _ (.head _)) (by show its.size ≤ _; rw [sizeLine_eq]; omega) fun gg => ?_
      refine comp_ind (fun i zs nw => nw = _ ∧ DAre zs (ds.take i)) _ ?turn ?fin _ 0 [] _ (Nat.zero_add _) ⟨rfl, .nil⟩
      case turn =>
        clear F3 N3
        rintro i v zs news I oI C oC D m₂ h tk E' hi hP ⟨rfl, hR⟩ hC hx FT NT off ne
        rw [← Array.getElem?_toList] at hP
        obtain ⟨z, tz, rfl, hz⟩ := strs_at hs i v hP
        obtain ⟨d, hd1, hd2⟩ := parts_at hd i z hz
        have hx : m₂ "part" = some (.str z tz) := hx
        have hdt : ds.take (i + 1) = ds.take i ++ [d] := take_succ' hd1
        cases hd2 with
        | dot =>
          (try k_fold)
          k_steps
          all_goals (rename News _ _ _ _ => NE; unfold Halt; (refine' LCg.CompEnd.intro ?F NE _ ?sub off ?hS ⟨rfl, ?r⟩); (case F => k_asm); (case sub => kst_in); (case hS => exact .inr ⟨_, .tail _ (.head _), rfl, _, rfl⟩); (case r => exact dat_to hdt (dat_snoc_t hR _ _)))
        | dots =>
          (try k_fold)
          k_steps
          all_goals (rename News _ _ _ _ => NE; unfold Halt; (refine' LCg.CompEnd.intro ?F NE _ ?sub off ?hS ⟨rfl, ?r⟩); (case F => k_asm); (case sub => kst_in); (case hS => exact .inr ⟨_, .tail _ (.head _), rfl, _, rfl⟩); (case r => exact dat_to hdt (dat_snoc_t hR _ _)))
        | one cs v0 v1 g1 hcl hpl b0 b1 d0 d1 =>
          (try k_fold)
          k_steps
          all_goals (rename News _ _ _ _ => NE; unfold Halt; (refine' LCg.CompEnd.intro ?F NE _ ?sub off ?hS ⟨rfl, ?r⟩); (case F => k_asm); (case sub => kst_in); (case hS => exact .inr ⟨_, .tail _ (.head _), rfl, _, rfl⟩); (case r => exact dat_to hdt (dat_snoc_r hR _ _)))
        | two cs v0 v1 v2 g1 hcl hpl b0 b1 d0 d1 f0 f1 =>
          (try k_fold)
          k_steps
          all_goals (rename News _ _ _ _ => NE; unfold Halt; (refine' LCg.CompEnd.intro ?F NE _ ?sub off ?hS ⟨rfl, ?r⟩); (case F => k_asm); (case sub => kst_in); (case hS => exact .inr ⟨_, .tail _ (.head _), rfl, _, rfl⟩); (case r => exact dat_to hdt (dat_snoc_r hR _ _)))
      case fin =>
        rintro zs news ⟨rfl, hR⟩ D3 h3 tk3 F4 N4 off3
        clear F3 N3
        have hlen := hd.len
        have hlen2 := hs.length
        rw [List.take_of_length_le (by have := Array.length_toList (xs := its); omega)] at hR
        have hzl : zs.length ≤ 8 := by rw [hR.len]; omega
        dsimp only [LCg.lst] at N4
        (try k_fold)
        k_steps
        all_goals (rename AllMade _ _ _ => km9; (refine' Ret.go (by assumption) ?e1 ?e2 ?e3); (case e1 => assumption); (case e2 => assumption); (case e3 => (refine ⟨_, _, _, rfl, Made.of (by assumption) (km9.at (.head _)), ?_⟩; simpa using DAre.txt _ _ hR)))
    · k_steps
      all_goals (rename News _ _ _ _ => nE; unfold Halt; refine' ksw_end ⟨dirOf path, _, _, _, _, rs, baseOf path :: qs⟩ (by assumption) nE ?z1 trivial ?z2 ?z3 ⟨hc2, ?z4, ?z6⟩ ?z5; (case z1 => kst_in); (case z2 => kst_all); (case z3 => (intro z h2 h3; (simp only [List.forall_mem_cons, List.not_mem_nil, false_implies, implies_true, and_true, ne_eq] at h2); (simp +zetaDelta [kstB, h2.1, h2.2]))); (case z4 => simpa using StrsAre.cons _ _ hs); (case z6 => simpa using he); (case z5 => (show rs.length < (rs ++ [_]).length; rw [List.length_append]; exact Nat.lt_succ_self _)))
  · passes_own

end Mine
end
section
open PySem PySem.W PyProof.Rows PySem.Spec PySem.Calls
namespace Mine
section
variable {prog : Program} {w : World} {s : Shared} {m mg mb : Str → Option Value} {K : Frag} {p : Program} {loose : List Str} {mean : ExcName → Option Value}
  {R : Result → Shared → Prop} {name qual : Str} {params : Arguments} {body : List Stmt} {scope : Scope} {dV kV doc pm cdv ct oc : Value} {an od : Option Addr} {osl : Array (Option Value)} {f : Addr} {args : Args} {binds : List (Str × Value)}
/-- entering a def with cells from the outermost caller -/
theorem code_topC (X₀ : K.In s.heap) (T : Top p loose mean mg mb s.heap)
    (ho : K.lookup f = some ⟨oc, od, .func (fnOf name qual params body scope dV kV doc pm an cdv ct), osl⟩) (hcd : codeIn K cdv qual = true) (hroom : callerA.depth < recursionLimit)
    (hbind : BindsTo s (fnOf name qual params body scope dV kV doc pm an cdv ct) args binds) (hkind : (binds.all fun y => scope.names.lookup y.1 == some .local || scope.names.lookup y.1 == some .cell) = true)
    (hnd : ((cellsFrom 0 scope.names []).map (·.1)).Nodup)
    (h : ∀ L' h₁ tk cells, L' = s.heap.objs.size → Fr s.heap L' h₁ (bindL (envOfC qual scope L' f cdv).kindOf binds fun _ => none) → News s.heap L' h₁ cells →
      CellsAre (bindC (envOfC qual scope L' f cdv).kindOf binds fun _ => none) (cellsFrom (L' + 1) scope.names []) cells → Below callerA s.heap [] s.heap →
      wpAny (model prog w) (callerA.deeper (envOfC qual scope L' f cdv)) (execs body (envOfC qual scope L' f cdv))
        (fun fl s' => R (.ok (.ret (match fl with | .ret v => v | _ => .none))) s')
        (fun e s' => wpAny (model prog w) (callerA.deeper (envOfC qual scope L' f cdv)) (leaving (envOfC qual scope L' f cdv) e) (fun _ s'' => R (.error e) s'') (fun e' s'' => R (.error e') s'') s')
        { s with heap := h₁, toks := tk })
    (hco : scope.isCoroutine = false) (hgen : scope.isGenerator = false) (hk : scope.kind = .function) : codeAny (model prog w) callerA (.call (.ref f) args) R s := by
  refine codeAny_call_function (fd := fnOf name qual params body scope dV kV doc pm an cdv ct) (body := body) hroom (X₀ _ _ ho) rfl hco hgen rfl (codeRec_of X₀ hcd) (hbind _ _ _ _ ?_)
  refine wpAny_newFunctionEnv_cells hk (kindsX hkind _) fun env' he s' x => ?_
  subst he
  refine ⟨T.nolimit.keeps x.toInCall.keep, codeAny_func ?_⟩
  obtain ⟨h₁, tk, rfl, _⟩ := x.done
  have hk₁ := x.toInCall.keep
  obtain ⟨cells, NC, Y⟩ := Cl.news (h₀ := s.heap) (Nat.le_refl _) fun n c hm => ⟨x.cell n c (lookup_of_mem_nodup (cellsFrom_names scope.names 0 (s.heap.objs.size + 1) [] [] rfl ▸ hnd) hm), x.above n c hm⟩
  exact h s.heap.objs.size h₁ tk cells rfl ⟨x.toInCall.ns, hk₁, Nat.le_refl _⟩ (fun p hp => ⟨(NC p hp).1, (NC p hp).2.1, (NC p hp).2.2⟩) Y (below_caller _)
end
/-- two lists, item by item -/
inductive All2 {α β : Type} (P : α → β → Prop) : List α → List β → Prop
  | nil : All2 P [] []
  | cons {a b as bs} : P a b → All2 P as bs → All2 P (a :: as) (b :: bs)
theorem All2.snoc {α β : Type} {P : α → β → Prop} {as : List α} {bs : List β} {a : α} {b : β} (h : All2 P as bs) (q : P a b) : All2 P (as ++ [a]) (bs ++ [b]) := by
  induction h with
  | nil => exact .cons q .nil
  | cons x _ ih => exact .cons x ih
theorem All2.mono {α β : Type} {P Q : α → β → Prop} {as : List α} {bs : List β} (h : All2 P as bs) (pq : ∀ a b, P a b → Q a b) : All2 Q as bs := by
  induction h with
  | nil => exact .nil
  | cons x _ ih => exact .cons (pq _ _ x) ih
theorem All2.length {α β : Type} {P : α → β → Prop} {as : List α} {bs : List β} (h : All2 P as bs) : as.length = bs.length := by
  induction h with
  | nil => rfl
  | cons x _ ih => rw [List.length_cons, List.length_cons, ih]
theorem All2.at {α β : Type} {P : α → β → Prop} {as : List α} {bs : List β} (h : All2 P as bs) : ∀ (i : Nat) (b : β), bs[i]? = some b → ∃ a, as[i]? = some a ∧ P a b := by
  induction h with
  | nil => intro i b e; simp at e
  | cons x _ ih =>
    intro i b e
    cases i with
    | zero => exact ⟨_, rfl, (Option.some.inj e) ▸ x⟩
    | succ j => exact ih j b e
theorem all2_at {α β : Type} {P : α → β → Prop} {as : List α} {bs : List β} (h : All2 P as bs) : ∀ (i : Nat) (a : α), as[i]? = some a → ∃ b, bs[i]? = some b ∧ P a b := by
  induction h with
  | nil => intro i b e; simp at e
  | cons x _ ih =>
    intro i b e
    cases i with
    | zero => exact ⟨_, rfl, (Option.some.inj e) ▸ x⟩
    | succ j => exact ih j b e
noncomputable abbrev mkT0 : Str := Str.ofString "' "
noncomputable abbrev mkT1 : Str := Str.ofString "\"\\"
noncomputable abbrev mkT2 : Str := Str.ofString "#\n"
/-- the three pairs of marks -/
inductive MarkOk : Str → UInt8 → UInt8 → Prop
  | m0 : MarkOk mkT0 39 32
  | m1 : MarkOk mkT1 34 92
  | m2 : MarkOk mkT2 35 10
theorem MarkOk.len {M : Str} {p q : UInt8} (h : MarkOk M p q) : M.length = 2 := by cases h <;> decide +kernel
theorem MarkOk.lo {M : Str} {p q : UInt8} (h : MarkOk M p q) : p.toNat < 128 ∧ q.toNat < 128 := by cases h <;> decide
noncomputable def b64 : List Int → List Int
  | [c] => b64one c
  | [c, d] => b64two c d
  | _ => []
noncomputable def ROk (r : List Int) : Prop := (∃ c, r = [c] ∧ 0 ≤ c ∧ c < 256) ∨ (∃ c d, r = [c, d] ∧ 0 ≤ c ∧ c < 256 ∧ 0 ≤ d ∧ d < 256)
noncomputable def nameL (p q : UInt8) (r : List Int) : List Nat := (b64 r).map fun n => (Tr.tr1 p q n.toNat.toUInt8).toNat
noncomputable def nameOf (p q : UInt8) (r : List Int) : Str := ⟨(nameL p q r).toArray⟩
theorem row_ok {n : Int} : ∀ r ∈ rowsOf n, ROk r := by
  intro r hr
  unfold rowsOf at hr
  obtain ⟨v, hv, rfl⟩ := List.mem_map.mp hr
  obtain ⟨i, hi⟩ := List.getElem?_of_mem hv
  have hb := vals_in hi
  by_cases h : v < 256
  · rw [row_1 h]; exact .inl ⟨_, rfl, mod_in v⟩
  · rw [row_2 h]; exact .inr ⟨_, _, rfl, (mod_in v).1, (mod_in v).2, div_in hb.1 hb.2⟩
theorem rows_len (n : Int) : (rowsOf n).length ≤ 2 := by
  unfold rowsOf
  rw [List.length_map, valsOf_len]
  have := Int.fmod_lt_of_pos n (b := 3) (by decide)
  have := Int.fmod_nonneg_of_pos n (b := 3) (by decide)
  omega
theorem b64_len {r : List Int} (h : ROk r) : (b64 r).length = 4 := by
  rcases h with ⟨c, rfl, _⟩ | ⟨c, d, rfl, _⟩ <;> rfl
theorem name_len {p q : UInt8} {r : List Int} (h : ROk r) : (nameL p q r).length = 4 := by unfold nameL; rw [List.length_map, b64_len h]
noncomputable abbrev slOf (n : Int) : Int := n.fmod 4
noncomputable abbrev upOf (n : Int) : Int := (n.fdiv 4).fmod 3
noncomputable def namesOf (p q : UInt8) (n : Int) : List Str := (rowsOf (n.fdiv 12)).map (nameOf p q)
noncomputable def MadeAt (nw : List (Addr × Obj)) (y : Value) (n : Int) : Prop := ∃ a r its c c' t t', y = .ref a ∧ (a, W.listOf #[.int (slOf n) t, .int (upOf n) t', .ref r] c) ∈ nw ∧ (r, W.listOf its c') ∈ nw ∧ RowsAre its.toList (rowsOf (n.fdiv 12))
noncomputable def NamesAt (p q : UInt8) (nw : List (Addr × Obj)) (y : Value) (n : Int) : Prop := ∃ a its c, y = .ref a ∧ (a, W.listOf its c) ∈ nw ∧ StrsAre its.toList (namesOf p q n)
noncomputable def DatAt (nw : List (Addr × Obj)) (y : Value) (ds : List Dat) : Prop := ∃ a its c, y = .ref a ∧ (a, W.listOf its c) ∈ nw ∧ DAre its.toList ds
section
variable {h₀ h : Heap} {L : Addr}
theorem news_named {l : List (Addr × Obj)} (N : News h₀ L h l) : ∃ b, b = l ∧ News h₀ L h b := ⟨l, rfl, N⟩
theorem news_sub {l l' : List (Addr × Obj)} (N : News h₀ L h l) (s : ∀ p ∈ l', p ∈ l) : News h₀ L h l' := fun p hp => N p (s p hp)
theorem pickA {a b c d e : Addr × Obj} {r : List (Addr × Obj)} (N : News h₀ L h (a :: b :: c :: d :: e :: r)) : News h₀ L h (c :: r) := news_sub N (List.forall_mem_cons.mpr ⟨.tail _ (.tail _ (.head _)), fun p hp => .tail _ (.tail _ (.tail _ (.tail _ (.tail _ hp))))⟩)
theorem off3_app {I C D : Addr} {a b : List (Addr × Obj)} (x : LCg.Off3 I C D a) (y : LCg.Off3 I C D b) : LCg.Off3 I C D (a ++ b) := .of fun p hp => (List.mem_append.mp hp).elim (x.mem p) (y.mem p)
/-- the end of a comprehension's turn that made the objects new -/
theorem comp_end {I C D : Addr} {m : Str → Option Value} {s₁ : Shared} {oI oC oD : Obj} {S : List (Addr × Obj) → Prop} {rest : Value → List (Addr × Obj) → Prop} {y : Value} {tk : Nat} (new : List (Addr × Obj)) {base objs : List (Addr × Obj)}
    (F : Fr h₀ L h m) (NE : News h₀ L h (new ++ (I, oI) :: (C, oC) :: (D, oD) :: (base ++ objs))) (off : LCg.Off3 I C D (base ++ objs)) (on : LCg.Off3 I C D new) (hS : S (base ++ (new ++ objs))) (r : rest y (base ++ (new ++ objs))) :
    LCg.CompEnd h₀ L m s₁ I oI C oC D oD S rest y { s₁ with heap := h, toks := tk } := by
  refine LCg.CompEnd.intro F NE (base ++ (new ++ objs)) ?_ (.of fun p hp => ?_) hS r
  · refine List.forall_mem_cons.mpr ⟨List.mem_append_right _ (.head _), List.forall_mem_cons.mpr ⟨List.mem_append_right _ (.tail _ (.head _)), List.forall_mem_cons.mpr ⟨List.mem_append_right _ (.tail _ (.tail _ (.head _))), fun p hp => ?_⟩⟩⟩
    rcases List.mem_append.mp hp with hp | hp
    · exact List.mem_append_right _ (.tail _ (.tail _ (.tail _ (List.mem_append_left _ hp))))
    · rcases List.mem_append.mp hp with hp | hp
      · exact List.mem_append_left _ hp
      · exact List.mem_append_right _ (.tail _ (.tail _ (.tail _ (List.mem_append_right _ hp))))
  · rcases List.mem_append.mp hp with hp | hp
    · exact off.mem p (List.mem_append_left _ hp)
    · rcases List.mem_append.mp hp with hp | hp
      · exact on.mem p hp
      · exact off.mem p (List.mem_append_right _ hp)
theorem old_in {base new objs : List (Addr × Obj)} : ∀ p ∈ base ++ objs, p ∈ base ++ (new ++ objs) := fun p hp => by
  rcases List.mem_append.mp hp with hp | hp
  · exact List.mem_append_left _ hp
  · exact List.mem_append_right _ (List.mem_append_right _ hp)
theorem new_in {base new objs : List (Addr × Obj)} {p : Addr × Obj} (hp : p ∈ new) : p ∈ base ++ (new ++ objs) := List.mem_append_right _ (List.mem_append_left _ hp)
end
theorem MadeAt.mono {nw nw' : List (Addr × Obj)} (s : ∀ p ∈ nw, p ∈ nw') {y : Value} {n : Int} (h : MadeAt nw y n) : MadeAt nw' y n := by
  obtain ⟨a, r, its, c, c', t, t', e, h1, h2, h3⟩ := h
  exact ⟨a, r, its, c, c', t, t', e, s _ h1, s _ h2, h3⟩
theorem NamesAt.mono {p q : UInt8} {nw nw' : List (Addr × Obj)} (s : ∀ p ∈ nw, p ∈ nw') {y : Value} {n : Int} (h : NamesAt p q nw y n) : NamesAt p q nw' y n := by
  obtain ⟨a, its, c, e, h1, h3⟩ := h
  exact ⟨a, its, c, e, s _ h1, h3⟩
theorem DatAt.mono {nw nw' : List (Addr × Obj)} (s : ∀ p ∈ nw, p ∈ nw') {y : Value} {ds : List Dat} (h : DatAt nw y ds) : DatAt nw' y ds := by
  obtain ⟨a, its, c, e, h1, h3⟩ := h
  exact ⟨a, its, c, e, s _ h1, h3⟩
theorem all2_step {α : Type} {P P' : Value → α → Prop} {ys : List Value} {ns : List α} {i : Nat} {n : α} {y : Value} (hA : All2 P ys (ns.take i)) (pq : ∀ a b, P a b → P' a b) (hn : ns[i]? = some n) (hp : P' y n) : All2 P' (ys ++ [y]) (ns.take (i + 1)) := by
  rw [take_succ' hn]
  exact (hA.mono pq).snoc hp
/-- the three cells' places -/
noncomputable def NotCell (L' : Addr) (objs : List (Addr × Obj)) : Prop := ∀ p ∈ objs, @Ne Nat p.1 (L' + 1 + 1 + 1) ∧ @Ne Nat p.1 (L' + 1 + 1) ∧ @Ne Nat p.1 (L' + 1)
theorem NotCell.nil {L' : Addr} : NotCell L' [] := fun _ h => nomatch h
theorem NotCell.cons {L' : Addr} {a : Addr} {o : Obj} {r : List (Addr × Obj)} (h1 : @Ne Nat a (L' + 1 + 1 + 1)) (h2 : @Ne Nat a (L' + 1 + 1)) (h3 : @Ne Nat a (L' + 1)) (h : NotCell L' r) : NotCell L' ((a, o) :: r) := List.forall_mem_cons.mpr ⟨⟨h1, h2, h3⟩, h⟩
end Mine
end
section
open PySem PySem.W PyProof.Rows PySem.Spec PySem.Calls
namespace Mine
theorem MarkOk.enc {M : Str} {p q : UInt8} (h : MarkOk M p q) (t u : Tok) : Builtin.«str.encode» ⟨[.str M t, .str (Str.ofString "ascii") u], []⟩ = (mkBytes #[p, q] >>= fun v => ret v) := by
  cases h with
  | m0 => exact Tr.enc0 t u
  | m1 => exact Tr.enc1 t u
  | m2 => exact Tr.enc2 t u
theorem rows_at {vs : List Value} {rs : List (List Int)} (h : RowsAre vs rs) : ∀ (i : Nat) (v : Value), vs[i]? = some v → ∃ r t, v = .bytes (byteArr r) t ∧ rs[i]? = some r := by
  induction h with
  | nil => intro i v e; simp at e
  | cons k u _ ih =>
    intro i v e
    cases i with
    | zero => exact ⟨k, u, (Option.some.inj e).symm, rfl⟩
    | succ j => exact ih j v e
theorem RowsAre.length {vs : List Value} {rs : List (List Int)} (h : RowsAre vs rs) : vs.length = rs.length := by
  induction h with
  | nil => rfl
  | cons k u _ ih => rw [List.length_cons, List.length_cons, ih]
theorem bints_1 {c : Int} (h0 : 0 ≤ c) (h1 : c < 256) : KBw.bInts (byteArr [c]) = [c] := by
  show [((c.toNat.toUInt8).toNat : Int)] = [c]
  have : c.toNat.toUInt8.toNat = c.toNat := by rw [Nat.toUInt8_eq, UInt8.toNat_ofNat']; omega
  rw [this, Int.toNat_of_nonneg h0]
theorem bints_2 {c d : Int} (h0 : 0 ≤ c) (h1 : c < 256) (g0 : 0 ≤ d) (g1 : d < 256) : KBw.bInts (byteArr [c, d]) = [c, d] := by
  show [((c.toNat.toUInt8).toNat : Int), ((d.toNat.toUInt8).toNat : Int)] = [c, d]
  have e1 : c.toNat.toUInt8.toNat = c.toNat := by rw [Nat.toUInt8_eq, UInt8.toNat_ofNat']; omega
  have e2 : d.toNat.toUInt8.toNat = d.toNat := by rw [Nat.toUInt8_eq, UInt8.toNat_ofNat']; omega
  rw [e1, e2, Int.toNat_of_nonneg h0, Int.toNat_of_nonneg g0]
theorem ct_name {w : World} (r : List Int) (h : ROk r) (t : Tok) (p q : UInt8) (u : Tok) : Ct w 10 196 [.bytes (byteArr r) t, .bytes #[p, q] u] [] (fun _ v _ => ∃ u, v = .bytes (Tr.trans p q (byteArr (b64 r))) u) := by
  rcases h with ⟨c, rfl, h0, h1⟩ | ⟨c, d, rfl, h0, h1, g0, g1⟩
  · exact ct_b64e _ t p q u (b64one c) (fun t => ct_b2a1 _ c t (bints_1 h0 h1) h0 h1) (by show (4 : Nat) ≤ 8; decide)
  · exact ct_b64e _ t p q u (b64two c d) (fun t => ct_b2a2 _ c d t (bints_2 h0 h1 g0 g1) h0 h1 g0 g1) (by show (4 : Nat) ≤ 8; decide)
theorem tr_lo {M : Str} {p q : UInt8} (h : MarkOk M p q) : ∀ n < 128, (Tr.tr1 p q n.toUInt8).toNat < 128 := by cases h <;> decide +kernel
theorem tab_lo (i : Nat) : (tabB.getD i 0).toNat < 128 := by
  rw [List.getD_eq_getElem?_getD]
  cases e : tabB[i]? with
  | none => decide
  | some v =>
    have : ∀ z ∈ tabB, z.toNat < 128 := by decide
    exact this v (List.mem_of_getElem? e)
theorem b64_lo {r : List Int} (h : ROk r) : ∀ z ∈ b64 r, z.toNat < 128 := by
  rcases h with ⟨c, rfl, _⟩ | ⟨c, d, rfl, _⟩ <;> (intro z hz; simp only [b64, b64one, b64two, List.mem_cons, List.not_mem_nil, or_false] at hz; rcases hz with rfl | rfl | rfl | rfl <;> first | exact tab_lo _ | decide)
theorem trans_list (p q : UInt8) (l : List Int) : Tr.trans p q (byteArr l) = (l.map fun n => Tr.tr1 p q n.toNat.toUInt8).toArray := by
  unfold Tr.trans byteArr
  rw [List.map_toArray, List.map_map]
  rfl
theorem name_decode {prog : Program} {w : World} {A : Around} {E : Value → Shared → Prop} {s : Shared} {t u : Tok} {M : Str} {p q : UInt8} {r : List Int} {Q : Value → Shared → Prop} (hM : MarkOk M p q) (hr : ROk r) (h : ∀ t' k, Q (.str (nameOf p q r) t') { s with toks := k }) :
    wpAny (model prog w) A (call (.builtin "bytes.decode") [.bytes (Tr.trans p q (byteArr (b64 r))) t, .str (Str.ofString "ascii") u]) Q E s := by
  have lo := b64_lo hr
  have tl := tr_lo hM
  rw [trans_list]
  rcases hr with ⟨c, rfl, _⟩ | ⟨c, d, rfl, _⟩
  · exact Tr.decodeA (a := Tr.tr1 p q _) (b := Tr.tr1 p q _) (c := Tr.tr1 p q _) (d := Tr.tr1 p q _) (tl _ (lo _ (.head _))) (tl _ (lo _ (.tail _ (.head _)))) (tl _ (lo _ (.tail _ (.tail _ (.head _))))) (tl _ (lo _ (.tail _ (.tail _ (.tail _ (.head _)))))) h
  · exact Tr.decodeA (a := Tr.tr1 p q _) (b := Tr.tr1 p q _) (c := Tr.tr1 p q _) (d := Tr.tr1 p q _) (tl _ (lo _ (.head _))) (tl _ (lo _ (.tail _ (.head _)))) (tl _ (lo _ (.tail _ (.tail _ (.head _))))) (tl _ (lo _ (.tail _ (.tail _ (.tail _ (.head _)))))) h
section
variable {h₀ h : Heap} {L : Addr}
theorem pickB {d n : Addr × Obj} {o3 o2 o1 : Obj} {L' : Addr} {r b : List (Addr × Obj)} (hb : b = [n, (L' + 1 + 1 + 1, o3), (L' + 1 + 1, o2), (L' + 1, o1)]) (N : News h₀ L h (d :: (b ++ r))) (hd : @Ne Nat d.1 (L' + 1 + 1)) (hob : NotCell L' r) :
    News h₀ L h ((L' + 1 + 1, o2) :: d :: (L' + 1, o1) :: (L' + 1 + 1 + 1, o3) :: r) ∧ ∀ p ∈ d :: (L' + 1, o1) :: (L' + 1 + 1 + 1, o3) :: r, p.1 ≠ L' + 1 + 1 := by
  subst hb
  refine ⟨news_sub N (List.forall_mem_cons.mpr ⟨.tail _ (.tail _ (.tail _ (.head _))), List.forall_mem_cons.mpr ⟨.head _, List.forall_mem_cons.mpr ⟨.tail _ (.tail _ (.tail _ (.tail _ (.head _)))), List.forall_mem_cons.mpr ⟨.tail _ (.tail _ (.head _)), fun p hp => .tail _ (.tail _ (.tail _ (.tail _ (.tail _ hp))))⟩⟩⟩⟩), List.forall_mem_cons.mpr ⟨hd, List.forall_mem_cons.mpr ⟨Nat.ne_of_lt (Nat.lt_succ_self _), List.forall_mem_cons.mpr ⟨Nat.ne_of_gt (Nat.lt_succ_self _), fun p hp => (hob p hp).2.1⟩⟩⟩⟩
theorem news_split4 {a b c d : Addr × Obj} {r : List (Addr × Obj)} (N : News h₀ L h (a :: b :: c :: d :: r)) : ∃ base, base = [a, b, c, d] ∧ News h₀ L h (base ++ r) := ⟨_, rfl, N⟩
theorem news_add {x y z p : Addr × Obj} {b ob : List (Addr × Obj)} (N : News h₀ L h (x :: y :: z :: (b ++ ob))) (hp : p ∈ ob) : News h₀ L h (x :: y :: z :: p :: (b ++ ob)) :=
  news_sub N (List.forall_mem_cons.mpr ⟨.head _, List.forall_mem_cons.mpr ⟨.tail _ (.head _), List.forall_mem_cons.mpr ⟨.tail _ (.tail _ (.head _)), List.forall_mem_cons.mpr ⟨.tail _ (.tail _ (.tail _ (List.mem_append_right _ hp))), fun p hp => .tail _ (.tail _ (.tail _ hp))⟩⟩⟩⟩)
theorem news_add2 {x y z p p2 : Addr × Obj} {b ob : List (Addr × Obj)} (N : News h₀ L h (x :: y :: z :: (b ++ ob))) (hp : p ∈ ob) (hp2 : p2 ∈ ob) : News h₀ L h (x :: y :: z :: p :: p2 :: (b ++ ob)) :=
  news_sub N (List.forall_mem_cons.mpr ⟨.head _, List.forall_mem_cons.mpr ⟨.tail _ (.head _), List.forall_mem_cons.mpr ⟨.tail _ (.tail _ (.head _)), List.forall_mem_cons.mpr ⟨.tail _ (.tail _ (.tail _ (List.mem_append_right _ hp))), List.forall_mem_cons.mpr ⟨.tail _ (.tail _ (.tail _ (List.mem_append_right _ hp2))), fun p hp => .tail _ (.tail _ (.tail _ hp))⟩⟩⟩⟩⟩)
theorem news_drop2 {d x y z p p2 : Addr × Obj} {b : List (Addr × Obj)} (N : News h₀ L h (d :: x :: y :: z :: p :: p2 :: b)) : News h₀ L h (d :: x :: y :: z :: b) :=
  news_sub N (List.forall_mem_cons.mpr ⟨.head _, List.forall_mem_cons.mpr ⟨.tail _ (.head _), List.forall_mem_cons.mpr ⟨.tail _ (.tail _ (.head _)), List.forall_mem_cons.mpr ⟨.tail _ (.tail _ (.tail _ (.head _))), fun p hp => .tail _ (.tail _ (.tail _ (.tail _ (.tail _ (.tail _ hp)))))⟩⟩⟩⟩)
theorem news_drop1 {d x y z p : Addr × Obj} {b : List (Addr × Obj)} (N : News h₀ L h (d :: x :: y :: z :: p :: b)) : News h₀ L h (d :: x :: y :: z :: b) :=
  news_sub N (List.forall_mem_cons.mpr ⟨.head _, List.forall_mem_cons.mpr ⟨.tail _ (.head _), List.forall_mem_cons.mpr ⟨.tail _ (.tail _ (.head _)), List.forall_mem_cons.mpr ⟨.tail _ (.tail _ (.tail _ (.head _))), fun p hp => .tail _ (.tail _ (.tail _ (.tail _ (.tail _ hp))))⟩⟩⟩⟩)
theorem mark_named {M : Str} {p q : UInt8} (h : MarkOk M p q) : ∃ a b, a = p ∧ b = q ∧ MarkOk M a b := ⟨_, _, rfl, rfl, h⟩
theorem off1_made {d : Addr} {n : Addr × Obj} {o3 o2 o1 : Obj} {L' : Addr} {r b : List (Addr × Obj)} (hb : b = [n, (L' + 1 + 1 + 1, o3), (L' + 1 + 1, o2), (L' + 1, o1)]) (off : LCg.Off1 d (b ++ r)) : @Ne Nat d (L' + 1 + 1 + 1) ∧ @Ne Nat d (L' + 1 + 1) ∧ @Ne Nat d (L' + 1) := by
  subst hb
  exact ⟨Ne.symm off.2.1, Ne.symm off.2.2.1, Ne.symm off.2.2.2.1⟩
end
end Mine
end
section
open PySem PySem.W PyProof.Rows PySem.Spec PySem.Calls
namespace Mine
noncomputable def rawOf (sl up : Int) : List Str → Str
  | [] => raw0 sl up
  | [a] => raw1 sl up a
  | a :: b :: _ => raw2 sl up a b
theorem arr_of {its : Array Value} {l : List Value} (h : its.toList = l) : its = l.toArray := by rw [← h]
theorem ct_raws {w : World} (sl up : Int) (t1 t2 : Tok) (nl : Addr) (its : Array Value) (c : Nat) (xs : List Str) (hx : StrsAre its.toList xs) (hl : xs.length ≤ 2) (hs : ∀ x ∈ xs, x.length ≤ 100) (h0 : 0 ≤ sl) (h1 : sl < 4) (g0 : 0 ≤ up) (g1 : up < 3) :
    CtM w 8 916 [.int sl t1, .int up t2, .ref nl] [] [(nl, W.listOf its c)] (RawPost (rawOf sl up xs) nl (W.listOf its c)) := by
  match xs, hx, hl, hs with
  | [], hx, _, _ =>
    have e : its.toList = [] := by cases h : its.toList with
      | nil => rfl
      | cons a r => rw [h] at hx; cases hx
    rw [arr_of e]
    exact ct_raw0 sl up t1 t2 nl c h0 h1 g0 g1
  | [a], hx, _, hs =>
    generalize e : its.toList = l at hx
    cases hx with
    | cons _ ta h =>
      cases h
      rw [arr_of e]
      exact ct_raw1 sl up t1 t2 nl c a ta h0 h1 g0 g1 (hs a (.head _))
  | [a, b], hx, _, hs =>
    generalize e : its.toList = l at hx
    cases hx with
    | cons _ ta h =>
      cases h with
      | cons _ tb h =>
        cases h
        rw [arr_of e]
        exact ct_raw2 sl up t1 t2 nl c a b ta tb h0 h1 g0 g1 (hs a (.head _)) (hs b (.tail _ (.head _)))
  | _ :: _ :: _ :: _, _, hl, _ => simp at hl
theorem raws_use {w : World} {sl up : Int} {t1 t2 : Tok} {nl : Addr} {its : Array Value} {c : Nat} {xs : List Str} {p : Program} {loose : List Str} {mean : ExcName → Option Value} {mg mb : Str → Option Value} {dp un : Nat} {gd : Option (List Code)} {cn : Str} {sn : List (Str × NameKind)} {sg sc : Bool} {sm : List (Str × Const)} {a : Addr} {ccd : Value} {cl : List (Str × Addr)} {outer : List Env}
    {A₀ : Around} {base h₀ : Heap} {L : Addr} {m : Str → Option Value} {news : List (Addr × Obj)} {s : Shared} {Q E : Value → Shared → Prop}
    (hx : StrsAre its.toList xs) (hl : xs.length ≤ 2) (hs : ∀ x ∈ xs, x.length ≤ 100) (h0 : 0 ≤ sl) (h1 : sl < 4) (g0 : 0 ≤ up) (g1 : up < 3)
    (B : Below A₀ base outer h₀) (F : Fr h₀ L s.heap m) (X : (Mine.hd.heap_1 w.params).In h₀) (N : News h₀ L s.heap news) (T : Top p loose mean mg mb h₀) (hm : (nl, W.listOf its c) ∈ news) (hd : dp + 8 < recursionLimit) (hu : un + 8 * 8 < cLine)
    (h : ∀ u h' tk', Fr h₀ L h' m → News h₀ L h' news → Q (.str (rawOf sl up xs) u) { s with heap := h', toks := tk' }) :
    wpAny (model PySem.Challenge.rw_ik0089_01.prog w) (ktrTop dp un gd cn ⟨.function, sn, sg, sc, sm⟩ L a ccd cl outer) (call (.ref 916) [.int sl t1, .int up t2, .ref nl] []) Q E s :=
  CtM.read (ct_raws sl up t1 t2 nl its c xs hx hl hs h0 h1 g0 g1) (fun r h' hp q hq => by rw [List.mem_singleton.mp hq]; exact hp.2) B F X N T (fun q hq => by rw [List.mem_singleton.mp hq]; exact hm) hd hu fun r h' tk' hp F' N' => by
    obtain ⟨⟨u, rfl⟩, _⟩ := hp
    exact h u h' tk' F' N'
section
variable {prog : Program} {w : World} {A : Around} {E : Value → Shared → Prop} {s : Shared} {h₀ : Heap} {L D : Addr} {m : Str → Option Value} {news : List (Addr × Obj)} {its : Array Value} {n : Nat} {value slice : Expr} {Q : Value → Shared → Prop}
/-- an item of a list of the ledger, at a place that is no written one -/
theorem item_at {i : Nat} {k : Int} {v : Value} {u : Tok} (N : News h₀ L s.heap news) (hm : (D, W.listOf its n) ∈ news) (hx : its[i]? = some v) (hk : k = (i : Int)) (hi : its.size ≤ 1000)
    (h : Q v s) (hs : subscripted slice false (.ref D) (.int k u) = operate [.ref D, .int k u] (getItem (.ref D) (.int k u))) :
    wpAny (model prog w) A (subscriptTail value slice (.ref D) (.int k u)) Q E s := by
  have hl : s.heap.IsList D its := ⟨_, (N _ hm).1, rfl, n, rfl⟩
  subst hk
  have hlt : i < its.size := by
    rcases Nat.lt_or_ge i its.size with q | q
    · exact q
    · rw [Array.getElem?_eq_none q] at hx; cases hx
  exact tail_any hl.typeIs slot_list_getitem.lookup (wpAny_getItem_list hl (k := (i : Int)) (by omega) (by omega) (x := v) (by rw [Int.toNat_natCast]; exact hx) h) hs
end
section
variable {h₀ h : Heap} {L : Addr}
theorem pickC {d e : Addr × Obj} {o3 o2 o1 : Obj} {L' : Addr} {r b : List (Addr × Obj)} (hb : b = [(L' + 1 + 1, o2), e, (L' + 1, o1), (L' + 1 + 1 + 1, o3)]) (N : News h₀ L h (d :: (b ++ r))) (hd : @Ne Nat d.1 (L' + 1 + 1 + 1)) (he : @Ne Nat e.1 (L' + 1 + 1 + 1)) (hob : NotCell L' r) :
    News h₀ L h ((L' + 1 + 1 + 1, o3) :: d :: (L' + 1 + 1, o2) :: e :: (L' + 1, o1) :: r) ∧ ∀ p ∈ d :: (L' + 1 + 1, o2) :: e :: (L' + 1, o1) :: r, p.1 ≠ L' + 1 + 1 + 1 := by
  subst hb
  refine ⟨news_sub N (List.forall_mem_cons.mpr ⟨.tail _ (.tail _ (.tail _ (.tail _ (.head _)))), List.forall_mem_cons.mpr ⟨.head _, List.forall_mem_cons.mpr ⟨.tail _ (.head _), List.forall_mem_cons.mpr ⟨.tail _ (.tail _ (.head _)), List.forall_mem_cons.mpr ⟨.tail _ (.tail _ (.tail _ (.head _))), fun p hp => .tail _ (.tail _ (.tail _ (.tail _ (.tail _ hp))))⟩⟩⟩⟩⟩), List.forall_mem_cons.mpr ⟨hd, List.forall_mem_cons.mpr ⟨Nat.ne_of_lt (Nat.lt_succ_self _), List.forall_mem_cons.mpr ⟨he, List.forall_mem_cons.mpr ⟨Nat.ne_of_lt (Nat.lt_succ_of_lt (Nat.lt_succ_self _)), fun p hp => (hob p hp).1⟩⟩⟩⟩⟩
theorem off1_made2 {d e : Addr × Obj} {o3 o2 o1 : Obj} {L' : Addr} {r b : List (Addr × Obj)} (hb : b = [(L' + 1 + 1, o2), e, (L' + 1, o1), (L' + 1 + 1 + 1, o3)]) (off : LCg.Off1 d.1 (b ++ r)) : @Ne Nat d.1 (L' + 1 + 1 + 1) := by
  subst hb
  exact Ne.symm off.2.2.2.1
theorem news_drop02 {x y z p p2 : Addr × Obj} {b : List (Addr × Obj)} (N : News h₀ L h (x :: y :: z :: p :: p2 :: b)) : News h₀ L h (x :: y :: z :: b) :=
  news_sub N (List.forall_mem_cons.mpr ⟨.head _, List.forall_mem_cons.mpr ⟨.tail _ (.head _), List.forall_mem_cons.mpr ⟨.tail _ (.tail _ (.head _)), fun p hp => .tail _ (.tail _ (.tail _ (.tail _ (.tail _ hp))))⟩⟩⟩)
theorem news_split5 {a b c d e : Addr × Obj} {r : List (Addr × Obj)} (N : News h₀ L h (a :: b :: c :: d :: e :: r)) : ∃ base, base = [a, b, c, d, e] ∧ News h₀ L h (base ++ r) := ⟨_, rfl, N⟩
end
theorem names_len {p q : UInt8} {n : Int} : ∀ x ∈ namesOf p q n, x.length ≤ 100 := by
  intro x hx
  obtain ⟨r, hr, rfl⟩ := List.mem_map.mp hx
  show (nameL p q r).toArray.size ≤ 100
  rw [List.size_toArray, name_len (row_ok r hr)]
  decide
theorem names_two {p q : UInt8} {n : Int} : (namesOf p q n).length ≤ 2 := by unfold namesOf; rw [List.length_map]; exact rows_len _
theorem sl_in (n : Int) : 0 ≤ slOf n ∧ slOf n < 4 := ⟨Int.fmod_nonneg_of_pos _ (by decide), Int.fmod_lt_of_pos _ (by decide)⟩
theorem up_in (n : Int) : 0 ≤ upOf n ∧ upOf n < 3 := ⟨Int.fmod_nonneg_of_pos _ (by decide), Int.fmod_lt_of_pos _ (by decide)⟩
/-- a number's path -/
noncomputable def rawN (p q : UInt8) (n : Int) : Str := rawOf (slOf n) (upOf n) (namesOf p q n)
theorem strs_step {α : Type} {f : α → Str} {ys : List Value} {ks : List α} {i : Nat} {n : α} {t : Tok} (h : StrsAre ys ((ks.take i).map f)) (hn : ks[i]? = some n) : StrsAre (ys ++ [.str (f n) t]) ((ks.take (i + 1)).map f) := by
  rw [take_succ' hn, List.map_append]
  exact strs_snoc h (.cons _ _ .nil)
end Mine
end
section
open PySem PySem.W PyProof.Rows PySem.Spec PySem.Calls PySem.SeqAt
namespace Mine
section
variable {prog : Program} {w : World} {A : Around} {E : Value → Shared → Prop} {s : Shared}
theorem bytes_eqAt (b : Array UInt8) (t u : Tok) : EqAt A s (.bytes b t) (.bytes b u) true := fun prog w E Q h => by
  unfold eqBool
  refine wpAny_holding ?_
  refine wpAny_ite_split (fun hab => ?_) (fun hab => ?_)
  · exact wpAny_bind (wpAny_rule (wpAny_pure h))
  · refine wpAny_bind (eq_bytes (wpAny_truthy_bool ?_))
    rw [beq_self_eq_true]
    exact h
theorem dats_eqAt {vs us : List Value} {ds : List Dat} (h1 : DAre vs ds) (h2 : DAre us ds) : ∀ j (q1 : j < vs.length) (q2 : j < us.length), EqAt A s vs[j] us[j] true := by
  induction h1 generalizing us with
  | nil => intro j q1; exact absurd q1 (Nat.not_lt_zero _)
  | txt x t _ ih =>
    cases h2 with
    | txt _ u h2 =>
      intro j q1 q2
      cases j with
      | zero =>
        have e := EqAt.str_str (A := A) (s := s) x t x u
        rw [beq_self_eq_true] at e
        exact e
      | succ j => exact ih h2 j (Nat.lt_of_succ_lt_succ q1) (Nat.lt_of_succ_lt_succ q2)
  | row r t _ ih =>
    cases h2 with
    | row _ u h2 =>
      intro j q1 q2
      cases j with
      | zero => exact bytes_eqAt _ t u
      | succ j => exact ih h2 j (Nat.lt_of_succ_lt_succ q1) (Nat.lt_of_succ_lt_succ q2)
theorem all_true (n : Nat) : (List.range n).all (fun _ => true) = true := by rw [List.all_eq_true]; intro _ _; rfl
theorem rc_dats {l b : Addr} {its its2 : Array Value} {n n2 : Nat} {ds : List Dat} (h1 : s.heap.get? l = some (W.listOf its n)) (h2 : s.heap.get? b = some (W.listOf its2 n2)) (d1 : DAre its.toList ds) (d2 : DAre its2.toList ds) (hu : A.units < cLine) : RcAt A s (.ref l) (.ref b) true := by
  have e := d1.len
  have e2 := d2.len
  rw [Array.length_toList] at e e2
  have z := RcAt.lists (A := A) (s := s) (l := l) (b := b) (items := its) (items2 := its2) (e := fun _ => true) ⟨_, h1, rfl, n, rfl⟩ ⟨_, h2, rfl, n2, rfl⟩ (e.trans e2.symm) hu (fun j q1 q2 => by
    have := dats_eqAt (A := A.in1) (s := s) d1 d2 j (by rw [Array.length_toList]; exact q1) (by rw [Array.length_toList]; exact q2)
    rw [Array.getElem_toList, Array.getElem_toList] at this
    exact this)
  rw [all_true] at z
  exact z
/-- two lists of the ledger that hold the same data -/
theorem eq_dats {h₀ : Heap} {L l b : Addr} {news : List (Addr × Obj)} {its its2 : Array Value} {n n2 : Nat} {ds : List Dat} {Q : Value → Shared → Prop} (N : News h₀ L s.heap news) (h1 : (l, W.listOf its n) ∈ news) (h2 : (b, W.listOf its2 n2) ∈ news) (d1 : DAre its.toList ds) (d2 : DAre its2.toList ds) (hu : A.units < cLine) (h : Q (.bool true) s) :
    wpAny (model prog w) A (compareOp .Eq (.ref l) (.ref b)) Q E s := rc_dats (N _ h1).1 (N _ h2).1 d1 d2 hu prog w E Q h
theorem nested_eqAt {h₀ : Heap} {L : Addr} {nw : List (Addr × Obj)} (N : News h₀ L s.heap nw) {vs us : List Value} {dss : List (List Dat)} (h1 : All2 (DatAt nw) vs dss) (h2 : All2 (DatAt nw) us dss) (hu : A.units < cLine) : ∀ j (q1 : j < vs.length) (q2 : j < us.length), EqAt A s vs[j] us[j] true := by
  induction h1 generalizing us with
  | nil => intro j q1; exact absurd q1 (Nat.not_lt_zero _)
  | cons x _ ih =>
    cases h2 with
    | cons y h2 =>
      intro j q1 q2
      cases j with
      | zero =>
        obtain ⟨a, its, c, rfl, g1, g2⟩ := x
        obtain ⟨a', its', c', rfl, g3, g4⟩ := y
        show EqAt A s (.ref a) (.ref a') true
        by_cases q : a = a'
        · subst q; exact EqAt.same _
        · exact EqAt.of_refs q (rc_dats (N _ g1).1 (N _ g3).1 g2 g4 hu)
      | succ j => exact ih h2 j (Nat.lt_of_succ_lt_succ q1) (Nat.lt_of_succ_lt_succ q2)
theorem eq_nested {h₀ : Heap} {L l b : Addr} {news nw : List (Addr × Obj)} {its its2 : Array Value} {n n2 : Nat} {dss : List (List Dat)} {Q : Value → Shared → Prop} (N : News h₀ L s.heap news) (h1 : (l, W.listOf its n) ∈ news) (h2 : (b, W.listOf its2 n2) ∈ news) (sub : ∀ p ∈ nw, p ∈ news) (d1 : All2 (DatAt nw) its.toList dss) (d2 : All2 (DatAt nw) its2.toList dss) (hu : A.units + 1 < cLine) (h : Q (.bool true) s) :
    wpAny (model prog w) A (compareOp .Eq (.ref l) (.ref b)) Q E s := by
  have e := d1.length
  have e2 := d2.length
  rw [Array.length_toList] at e e2
  have z := RcAt.lists (A := A) (s := s) (l := l) (b := b) (items := its) (items2 := its2) (e := fun _ => true) ⟨_, (N _ h1).1, rfl, n, rfl⟩ ⟨_, (N _ h2).1, rfl, n2, rfl⟩ (e.trans e2.symm) (Nat.lt_of_succ_lt hu) (fun j q1 q2 => by
    have := nested_eqAt (A := A.in1) (s := s) (nw := nw) (fun p hp => N p (sub p hp)) d1 d2 hu j (by rw [Array.length_toList]; exact q1) (by rw [Array.length_toList]; exact q2)
    rw [Array.getElem_toList, Array.getElem_toList] at this
    exact this)
  rw [all_true] at z
  exact z prog w E Q h
end
noncomputable def dueN (n : Int) : List Dat := dueOf (slOf n) (upOf n) (rowsOf (n.fdiv 12))
theorem ct_due {w : World} (sl up : Int) (t1 t2 : Tok) (rl : Addr) (its : Array Value) (c : Nat) (h0 : 0 ≤ sl) (h1 : sl < 4) (g0 : 0 ≤ up) (g1 : up < 3) (rs : List (List Int)) (hr : RowsAre its.toList rs) (hs : its.size ≤ 2) : CtG w 4 933 [.int sl t1, .int up t2, .ref rl] [] [(rl, W.listOf its c)] (DueG (dueOf sl up rs) its rl c) := by
  by_cases hsl : sl = 0
  · subst hsl; exact ct_due0 up t1 t2 rl its c g0 g1 rs hr hs
  · exact ct_due1 sl up t1 t2 rl its c h0 h1 hsl g0 g1 rs hr hs
theorem due_use {w : World} {n : Int} {t1 t2 : Tok} {rl : Addr} {its : Array Value} {c : Nat} {p : Program} {loose : List Str} {mean : ExcName → Option Value} {mg mb : Str → Option Value} {dp un : Nat} {gd : Option (List Code)} {cn : Str} {sn : List (Str × NameKind)} {sg sc : Bool} {sm : List (Str × Const)} {a : Addr} {ccd : Value} {cl : List (Str × Addr)} {outer : List Env}
    {A₀ : Around} {base h₀ : Heap} {L : Addr} {m : Str → Option Value} {news : List (Addr × Obj)} {s : Shared} {Q E : Value → Shared → Prop}
    (hr : RowsAre its.toList (rowsOf (n.fdiv 12)))
    (B : Below A₀ base outer h₀) (F : Fr h₀ L s.heap m) (X : (Mine.hd.heap_1 w.params).In h₀) (N : News h₀ L s.heap news) (T : Top p loose mean mg mb h₀) (hm : (rl, W.listOf its c) ∈ news) (hd : dp + 4 < recursionLimit) (hu : un + 8 * 4 < cLine)
    (h : ∀ l arr c' h' tk', DAre arr.toList (dueN n) → AllNe l news → Fr h₀ L h' m → News h₀ L h' ((l, W.listOf arr c') :: news) → Q (.ref l) { s with heap := h', toks := tk' }) :
    wpAny (model PySem.Challenge.rw_ik0089_01.prog w) (ktrTop dp un gd cn ⟨.function, sn, sg, sc, sm⟩ L a ccd cl outer) (call (.ref 933) [.int (slOf n) t1, .int (upOf n) t2, .ref rl] []) Q E s := by
  have hl := hr.length
  have := rows_len (n.fdiv 12)
  rw [Array.length_toList] at hl
  refine CtG.use (ct_due (slOf n) (upOf n) t1 t2 rl its c (sl_in n).1 (sl_in n).2 (up_in n).1 (up_in n).2 _ hr (by omega)) (fun g r h' hp q hq => ?_) B F X N T (fun q hq => by rw [List.mem_singleton.mp hq]; exact hm) hd hu fun r h' tk' hp mk ne F' N' => ?_
  · obtain ⟨_, _, _, _, _, _, _, _, e⟩ := hp
    rw [List.mem_singleton.mp hq]
    exact e
  · obtain ⟨l, arr, c', rfl, e1, e2, e3, e4, e5⟩ := hp
    obtain ⟨z1, z2⟩ := mk e1 (fun q => e3 (List.mem_singleton.mp q)) e2
    exact h l arr c' h' tk' e4 (allNe_of (ne z1)) F' z2
theorem strs_of_at : ∀ (vs : List Value) (ts : List (List Nat)), vs.length = ts.length → (∀ (j : Nat) (v : Value), vs[j]? = some v → ∃ u, v = Value.str ⟨(ts.getD j []).toArray⟩ u) → StrsAre vs (ts.map fun t => ⟨t.toArray⟩)
  | [], [], _, _ => .nil
  | v :: vs, t :: ts, hl, h => by
    obtain ⟨u, rfl⟩ := h 0 v rfl
    exact .cons _ u (strs_of_at vs ts (by simpa using hl) fun j v hj => h (j + 1) v hj)
  | [], _ :: _, hl, _ => by simp at hl
  | _ :: _, [], hl, _ => by simp at hl
theorem strs_of_items {ts : List (List Nat)} {acc : Array Value} (h : ItemsOf (fun j v => ∃ u, v = .str ⟨(ts.getD j []).toArray⟩ u) acc ts.length) : StrsAre acc.toList (ts.map fun t => ⟨t.toArray⟩) :=
  strs_of_at _ _ (by rw [Array.length_toList]; exact h.1) fun j v hj => h.2 j v (by rw [← Array.getElem?_toList]; exact hj)
end Mine
end
section
open PySem PySem.W PyProof.Rows PySem.Spec PySem.Calls
namespace Mine
/-- a text's signs, and back -/
noncomputable def tL (x : Str) : List Nat := x.cps.toList
noncomputable def mS (l : List Nat) : Str := ⟨l.toArray⟩
theorem tL_mS (l : List Nat) : tL (mS l) = l := rfl
theorem mS_tL (x : Str) : mS (tL x) = x := rfl
theorem tL_app (x y : Str) : tL (x ++ y) = tL x ++ tL y := by
  show (x.cps ++ y.cps).toList = _
  rw [Array.toList_append]; rfl
theorem mS_app (a b : List Nat) : mS a ++ mS b = mS (a ++ b) := by
  rw [← mS_tL (mS a ++ mS b), tL_app, tL_mS, tL_mS]
theorem mS_inj {a b : List Nat} (h : mS a = mS b) : a = b := congrArg tL h
theorem len_mS (l : List Nat) : (mS l).length = l.length := List.size_toArray
theorem len_tL (x : Str) : x.length = (tL x).length := (Array.length_toList).symm
theorem s_slash : Str.ofString "/" = mS [47] := by kernel_rfl
theorem s_dot : Str.ofString "." = mS [46] := by kernel_rfl
theorem s_dots : Str.ofString ".." = mS [46, 46] := by kernel_rfl
theorem s_nil : Str.ofString "" = mS [] := by kernel_rfl
theorem s_two : Str.ofString "//" = mS [47, 47] := by kernel_rfl
theorem s_xy : Str.ofString "x y" = mS [120, 32, 121] := by kernel_rfl
theorem eq_mS (a b : List Nat) : (mS a == mS b) = decide (a = b) := by
  rw [Bool.eq_iff_iff, beq_iff_eq, decide_eq_true_iff]
  exact ⟨mS_inj, fun e => by rw [e]⟩
theorem ne_mS (a b : List Nat) : (mS a != mS b) = !decide (a = b) := by rw [bne, eq_mS]
/-- the pieces between the slashes -/
noncomputable def splitL : List Nat → List (List Nat)
  | [] => [[]]
  | c :: r => if c = 47 then [] :: splitL r else match splitL r with
    | [] => [[c]]
    | h :: t => (c :: h) :: t
theorem splitL_ne (l : List Nat) : splitL l ≠ [] := by
  cases l with
  | nil => exact List.cons_ne_nil _ _
  | cons c r =>
    unfold splitL
    split
    · exact List.cons_ne_nil _ _
    · split <;> exact List.cons_ne_nil _ _
theorem splitL_cat : ∀ (a b : List Nat), splitL (a ++ 47 :: b) = splitL a ++ splitL b
  | [], b => by show splitL (47 :: b) = [[]] ++ splitL b; rw [splitL, if_pos rfl]; rfl
  | c :: a, b => by
    show splitL (c :: (a ++ 47 :: b)) = splitL (c :: a) ++ splitL b
    rw [splitL, splitL, splitL_cat a b]
    by_cases h : c = 47
    · rw [if_pos h, if_pos h]; rfl
    · rw [if_neg h, if_neg h]
      cases e : splitL a with
      | nil => exact absurd e (splitL_ne a)
      | cons p q => rfl
theorem splitL_free : ∀ {a : List Nat}, 47 ∉ a → splitL a = [a]
  | [], _ => rfl
  | c :: a, h => by
    have hc : c ≠ 47 := fun e => h (e ▸ .head _)
    rw [splitL, if_neg hc, splitL_free fun q => h (.tail _ q)]
theorem tL_join : ∀ (p : Str) (r : List Str), (∀ q ∈ p :: r, 47 ∉ tL q) → splitL (tL (Str.join (Str.ofString "/") (p :: r))) = (p :: r).map tL
  | p, [], h => splitL_free (h p (.head _))
  | p, q :: r, h => by
    show splitL (tL (p ++ Str.ofString "/" ++ Str.join (Str.ofString "/") (q :: r))) = _
    rw [tL_app, tL_app, s_slash, tL_mS, List.append_assoc, List.cons_append, List.nil_append, splitL_cat, splitL_free (h p (.head _)), ← s_slash, tL_join q r fun x hx => h x (.tail _ hx)]
    rfl
theorem split_ne (x y : Str) : Txt.split x y ≠ [] := by
  unfold Txt.split
  split
  · exact List.cons_ne_nil _ _
  · split
    · exact List.cons_ne_nil _ _
    · rw [StrLaws.partsBetween_eq]
      obtain ⟨p, r, e⟩ := StrLaws.partsFrom_ne x y.length 0 (Builtin.Str.occurrences x y 0 x.length (x.length + 1))
      rw [e]
      exact List.cons_ne_nil _ _
theorem split_eq (x : Str) : Txt.split x (Str.ofString "/") = (splitL (tL x)).map mS := by
  have h1 := StrLaws.join_split x (Str.ofString "/")
  have h2 : ∀ p ∈ Txt.split x (Str.ofString "/"), 47 ∉ tL p := by rw [s_slash]; exact StrLaws.split_free x 47
  cases e : Txt.split x (Str.ofString "/") with
  | nil => exact absurd e (split_ne _ _)
  | cons p r =>
    rw [e] at h1 h2
    rw [← h1, tL_join p r h2, List.map_map]
    exact (List.map_id'' (fun x => mS_tL x) _).symm
end Mine
end
section
open PySem PySem.W PyProof.Rows PySem.Spec PySem.Calls
namespace Mine
theorem slice_to {l : List Nat} {n : Nat} (h : n ≤ l.length) : Txt.slice (mS l) none (some (n : Int)) = mS (l.take n) := by
  have := StrLaws.sliceText_to (x := mS l) (j := (n : Int)) ⟨by omega, by show (n : Int) ≤ (l.length : Nat); omega⟩
  exact this.trans (by show mS ((l.drop 0).take ((n : Int) - 0).toNat) = _; rw [Int.sub_zero, Int.toNat_natCast]; rfl)
theorem slice_from {l : List Nat} {n : Nat} (h : n ≤ l.length) : Txt.slice (mS l) (some (n : Int)) none = mS (l.drop n) := by
  have := StrLaws.sliceText_from (x := mS l) (i := (n : Int)) ⟨by omega, by show (n : Int) ≤ (l.length : Nat); omega⟩
  refine this.trans ?_
  show mS ((l.drop (n : Int).toNat).take ((l.length : Int) - n).toNat) = _
  rw [Int.toNat_natCast, List.take_of_length_le (by rw [List.length_drop]; omega)]
theorem slice_mid {l : List Nat} {a b : Nat} (hab : a ≤ b) (h : b ≤ l.length) : Txt.slice (mS l) (some (a : Int)) (some (b : Int)) = mS ((l.drop a).take (b - a)) := by
  have := StrLaws.sliceText_plain (x := mS l) (i := (a : Int)) (j := (b : Int)) ⟨by omega, by omega, by show (b : Int) ≤ (l.length : Nat); omega⟩
  refine this.trans ?_
  show mS ((l.drop (a : Int).toNat).take ((b : Int) - a).toNat) = _
  have e : ((b : Int) - a).toNat = b - a := by omega
  rw [Int.toNat_natCast, e]
theorem at_one (l : List Nat) (i : Nat) : StrLaws.At (mS l) ⟨#[47]⟩ (mS l).length i ↔ l[i]? = some 47 := StrLaws.subAt_one (mS l) 47 i
theorem rfind_base {pre b : List Nat} (hp : pre = [] ∨ ∃ z, pre = z ++ [47]) (hb : 47 ∉ b) : Txt.rfind (mS (pre ++ b)) (Str.ofString "/") + 1 = (pre.length : Nat) := by
  rw [s_slash]
  unfold Txt.rfind
  rcases StrLaws.last_spec (mS (pre ++ b)) ⟨#[47]⟩ with ⟨e, hn⟩ | ⟨i, e, hi, hn⟩
  · have e' : Builtin.Str.lastOccurrence (mS (pre ++ b)) (mS [47]) 0 (mS (pre ++ b)).length = none := e
    rw [e']
    rcases hp with rfl | ⟨z, rfl⟩
    · rfl
    · refine absurd ?_ (hn z.length)
      rw [at_one, List.append_assoc, List.getElem?_append_right (Nat.le_refl _), Nat.sub_self]
      rfl
  · have e' : Builtin.Str.lastOccurrence (mS (pre ++ b)) (mS [47]) 0 (mS (pre ++ b)).length = some i := e
    rw [e']
    rw [at_one] at hi
    show (i : Int) + 1 = _
    have hlt : i < pre.length := by
      rcases Nat.lt_or_ge i pre.length with h | h
      · exact h
      · rw [List.getElem?_append_right h] at hi
        exact absurd (List.mem_of_getElem? hi) hb
    rcases hp with rfl | ⟨z, rfl⟩
    · exact absurd hlt (Nat.not_lt_zero _)
    · have hge : z.length ≤ i := by
        rcases Nat.lt_or_ge i z.length with h | h
        · refine absurd ?_ (hn z.length h)
          rw [at_one, List.append_assoc, List.getElem?_append_right (Nat.le_refl _), Nat.sub_self]
          rfl
        · exact h
      rw [List.length_append, List.length_singleton] at hlt ⊢
      omega
theorem base_of {pre b : List Nat} (hp : pre = [] ∨ ∃ z, pre = z ++ [47]) (hb : 47 ∉ b) : baseOf (mS (pre ++ b)) = mS b := by
  unfold baseOf
  rw [rfind_base hp hb, slice_from (by rw [List.length_append]; omega), List.drop_left]
theorem cut_of {pre b : List Nat} (hp : pre = [] ∨ ∃ z, pre = z ++ [47]) (hb : 47 ∉ b) : cutOf (mS (pre ++ b)) = mS pre := by
  unfold cutOf
  rw [rfind_base hp hb, slice_to (by rw [List.length_append]; omega), List.take_left]
theorem mul_all : ∀ (n : Int), ∀ c ∈ tL (Txt.mul (Str.ofString "/") n), c = 47 := by
  intro n c hc
  unfold Txt.mul at hc
  split at hc
  · cases hc
  · split at hc
    · rw [s_slash] at hc; exact List.mem_singleton.mp hc
    · have key : ∀ (m : Nat) (acc : Array Nat), (∀ c ∈ acc.toList, c = 47) → ∀ c ∈ ((List.replicate m (Str.ofString "/").cps).foldl (· ++ ·) acc).toList, c = 47 := by
        intro m
        induction m with
        | zero => intro acc h; exact h
        | succ m ih =>
          intro acc h
          rw [List.replicate_succ, List.foldl_cons]
          refine ih _ fun c hc => ?_
          rw [Array.toList_append] at hc
          rcases List.mem_append.mp hc with hc | hc
          · exact h c hc
          · rw [s_slash] at hc; exact List.mem_singleton.mp hc
      exact key n.toNat #[] (fun _ h => by cases h) c hc
theorem rstrip_of {z : List Nat} {d : Nat} (hd : d ≠ 47) : Txt.rstripChars (mS ((z ++ [d]) ++ [47])) (Str.ofString "/") = mS (z ++ [d]) := by
  have g1 : (Str.ofString "/").cps.contains 47 = true := by decide +kernel
  have g2 : (Str.ofString "/").cps.contains d = false := by
    rw [s_slash]
    show (#[47] : Array Nat).contains d = false
    simp [hd]
  have hrev : ((mS ((z ++ [d]) ++ [47])).cps.toList.drop 0).reverse.takeWhile (Str.ofString "/").cps.contains = [47] := by
    show ((z ++ [d]) ++ [47]).reverse.takeWhile _ = _
    rw [List.reverse_append, List.reverse_append]
    show (47 :: d :: z.reverse).takeWhile _ = _
    rw [List.takeWhile_cons_of_pos g1, List.takeWhile_cons_of_neg (by rw [g2]; exact Bool.false_ne_true)]
  have hlo : stripLo (Str.ofString "/").cps.contains false (mS ((z ++ [d]) ++ [47])) = 0 := rfl
  have hhi : stripHi (Str.ofString "/").cps.contains true (mS ((z ++ [d]) ++ [47])) 0 = (z ++ [d]).length := by
    unfold stripHi
    rw [if_pos rfl, hrev, len_mS, List.length_append]
    rfl
  unfold Txt.rstripChars Txt.stripBy
  rw [if_neg]
  · unfold PySem.stripped
    rw [hlo, hhi, ← mS_tL (Builtin.Str.strSub _ _ _)]
    unfold tL
    rw [StrLaws.strSub_toList]
    show mS (((z ++ [d]) ++ [47]).take ((z ++ [d]).length - 0)) = _
    rw [Nat.sub_zero, List.take_left]
  · unfold stripSame
    rw [hlo, hhi, len_mS]
    simp
theorem dir_nil {b : List Nat} (hb : 47 ∉ b) : dirOf (mS b) = mS [] := by
  have h : cutOf (mS b) = mS [] := cut_of (pre := []) (.inl rfl) hb
  rw [dir_1 (by rw [h]; rfl), h]
theorem dir_one {b : List Nat} (hb : 47 ∉ b) : dirOf (mS ([47] ++ b)) = mS [47] := by
  have h : cutOf (mS ([47] ++ b)) = mS [47] := cut_of (.inr ⟨[], rfl⟩) hb
  rw [dir_3 (by rw [h]; decide) (by rw [h]; decide +kernel), h]
theorem dir_two {b : List Nat} (hb : 47 ∉ b) : dirOf (mS ([47, 47] ++ b)) = mS [47, 47] := by
  have h : cutOf (mS ([47, 47] ++ b)) = mS [47, 47] := cut_of (.inr ⟨[47], rfl⟩) hb
  rw [dir_3 (by rw [h]; decide) (by rw [h]; decide +kernel), h]
theorem dir_more {z b : List Nat} {d : Nat} (hd : d ≠ 47) (hb : 47 ∉ b) : dirOf (mS (((z ++ [d]) ++ [47]) ++ b)) = mS (z ++ [d]) := by
  have h : cutOf (mS (((z ++ [d]) ++ [47]) ++ b)) = mS ((z ++ [d]) ++ [47]) := cut_of (.inr ⟨_, rfl⟩) hb
  rw [dir_2 (by rw [h, len_mS, List.length_append]; simp; omega) ?_, h, rstrip_of hd]
  rw [h, bne_iff_ne]
  intro e
  have q : d ∈ tL (Txt.mul (Str.ofString "/") ((mS ((z ++ [d]) ++ [47])).length : Nat)) := by
    rw [← e, tL_mS]
    simp
  exact hd (mul_all _ d q)
/-- pieces with slashes between -/
noncomputable def jL : List (List Nat) → List Nat
  | [] => []
  | [x] => x
  | x :: r => x ++ 47 :: jL r
theorem jL_snoc : ∀ (cs : List (List Nat)) (c b : List Nat), jL ((c :: cs) ++ [b]) = jL (c :: cs) ++ 47 :: b
  | [], c, b => rfl
  | e :: cs, c, b => by
    show c ++ 47 :: jL ((e :: cs) ++ [b]) = (c ++ 47 :: jL (e :: cs)) ++ 47 :: b
    rw [jL_snoc cs e b, List.append_assoc, List.cons_append]
theorem join_jL : ∀ cs : List (List Nat), Str.join (Str.ofString "/") (cs.map mS) = mS (jL cs)
  | [] => rfl
  | [x] => rfl
  | x :: y :: r => by
    show mS x ++ Str.ofString "/" ++ Str.join (Str.ofString "/") ((y :: r).map mS) = _
    rw [join_jL (y :: r), s_slash, mS_app, mS_app, List.append_assoc]
    rfl
/-- what is no slash and not empty -/
noncomputable def PieceL (c : List Nat) : Prop := c ≠ [] ∧ 47 ∉ c
theorem snoc_or {α : Type} (l : List α) : l = [] ∨ ∃ a b, l = a ++ [b] := by
  rcases List.eq_nil_or_concat l with h | ⟨a, b, h⟩
  · exact .inl h
  · exact .inr ⟨a, b, by rw [h, List.concat_eq_append]⟩
theorem jL_last (cs : List (List Nat)) (c : List Nat) (h : ∀ x ∈ c :: cs, PieceL x) : ∃ z d, jL (c :: cs) = z ++ [d] ∧ d ≠ 47 := by
  rcases snoc_or cs with rfl | ⟨es, b, rfl⟩
  · obtain ⟨h1, h2⟩ := h c (.head _)
    refine ⟨c.dropLast, c.getLast h1, (List.dropLast_concat_getLast h1).symm, fun e => h2 (e ▸ List.getLast_mem h1)⟩
  · obtain ⟨h1, h2⟩ := h b (by simp)
    rw [← List.cons_append, jL_snoc]
    refine ⟨jL (c :: es) ++ 47 :: b.dropLast, b.getLast h1, ?_, fun e => h2 (e ▸ List.getLast_mem h1)⟩
    rw [List.append_assoc, List.cons_append, List.dropLast_concat_getLast h1]
noncomputable def LeadL (lead : List Nat) : Prop := lead = [] ∨ lead = [47] ∨ lead = [47, 47]
theorem chain_all : ∀ (n : Nat) (lead : List Nat) (cs : List (List Nat)), cs.length = n → LeadL lead → (∀ c ∈ cs, PieceL c) → (lead ++ jL cs).length ≤ 1000 → Chain (mS (lead ++ jL cs)) (mS lead) (cs.map mS)
  | 0, lead, cs, hn, hl, hc, hz => by
    obtain rfl : cs = [] := List.length_eq_zero_iff.mp hn
    show Chain (mS (lead ++ [])) _ []
    rw [List.append_nil]
    rcases hl with rfl | rfl | rfl
    · exact .stop _ (by decide) (by decide +kernel)
    · exact .stop _ (by decide) (by decide +kernel)
    · exact .stop _ (by decide) (by decide +kernel)
  | n + 1, lead, cs, hn, hl, hc, hz => by
    rcases snoc_or cs with rfl | ⟨ds, b, rfl⟩
    · cases hn
    · have hb := hc b (by simp)
      have hds : ∀ c ∈ ds, PieceL c := fun c h => hc c (List.mem_append_left _ h)
      have hdl : ds.length = n := by simpa using hn
      have hne : (mS b != Str.ofString "") = true := by
        rw [s_nil, ne_mS]
        simp [hb.1]
      rw [List.map_append]
      have go : ∀ (pre : List Nat), lead ++ jL (ds ++ [b]) = pre ++ b → (pre = [] ∨ ∃ z, pre = z ++ [47]) → dirOf (mS (pre ++ b)) = mS (lead ++ jL ds) → (lead ++ jL ds).length ≤ 1000 → Chain (mS (lead ++ jL (ds ++ [b]))) (mS lead) (ds.map mS ++ [mS b]) := by
        intro pre e hp hd hz2
        have eb := base_of hp hb.2
        rw [e, ← eb]
        exact .step _ _ _ (by rw [len_mS, ← e]; exact hz) (by rw [eb]; exact hne) (by rw [hd]; exact chain_all n lead ds hdl hl hds hz2)
      cases ds with
      | nil =>
        have e : jL ([] ++ [b]) = b := rfl
        refine go lead (by rw [e]) ?_ ?_ ?_
        · rcases hl with rfl | rfl | rfl
          · exact .inl rfl
          · exact .inr ⟨[], rfl⟩
          · exact .inr ⟨[47], rfl⟩
        · show _ = mS (lead ++ [])
          rw [List.append_nil]
          rcases hl with rfl | rfl | rfl
          · exact dir_nil hb.2
          · exact dir_one hb.2
          · exact dir_two hb.2
        · show (lead ++ []).length ≤ 1000
          rw [List.append_nil]
          rcases hl with rfl | rfl | rfl <;> decide
      | cons c es =>
        obtain ⟨z, d, ez, hd⟩ := jL_last es c hds
        have e : lead ++ jL ((c :: es) ++ [b]) = ((lead ++ z ++ [d]) ++ [47]) ++ b := by
          rw [jL_snoc, ez]; simp
        refine go ((lead ++ z ++ [d]) ++ [47]) e (.inr ⟨_, rfl⟩) ?_ ?_
        · rw [dir_more hd hb.2, ez]; simp
        · rw [e] at hz
          rw [ez]
          simp only [List.length_append, List.length_singleton] at hz ⊢
          omega
end Mine
end
section
open PySem PySem.W PyProof.Rows PySem.Spec PySem.Calls
namespace Mine
noncomputable def NameL (a : List Nat) : Prop := a.length = 4 ∧ 47 ∉ a
theorem NameL.ne {a : List Nat} (h : NameL a) : a ≠ [] := fun e => by have := h.1; rw [e] at this; cases this
theorem NameL.head {a : List Nat} (h : NameL a) (t : List Nat) : (a ++ t).head? ≠ some 47 := by
  obtain ⟨h1, h2⟩ := h
  cases a with
  | nil => cases h1
  | cons c r => intro e; exact h2 (Option.some.inj e ▸ .head _)
noncomputable def psOf : List (List Nat) → List (List Nat)
  | [] => []
  | [a] => [[46], a, [], []]
  | a :: b :: _ => [[46], a, [], [120, 32, 121], [46, 46], b]
noncomputable def rawL (s u : Nat) (ns : List (List Nat)) : List Nat := List.replicate s 47 ++ jL (List.replicate u [46, 46] ++ psOf ns)
theorem starts_not {y : List Nat} (h : y.head? ≠ some 47) : Txt.startswith (mS y) (Str.ofString "/") = false := by
  rw [s_slash]
  unfold Txt.startswith
  rw [StrLaws.subAt_eq]
  show (decide _ && (((y.drop 0).take 1) == [47])) = false
  rw [Bool.and_eq_false_iff]
  right
  cases y with
  | nil => rfl
  | cons c r =>
    rw [beq_eq_false_iff_ne]
    intro e
    exact h (congrArg List.head? e)
theorem ends_eq (z : List Nat) (d : Nat) : Txt.endswith (mS (z ++ [d])) (Str.ofString "/") = decide (d = 47) := by
  rw [s_slash]
  unfold Txt.endswith
  rw [StrLaws.subAt_eq]
  have e : (mS (z ++ [d])).length - (mS [47]).length = z.length := by rw [len_mS, len_mS, List.length_append]; rfl
  have e2 : ((mS (z ++ [d])).cps.toList.drop z.length).take (mS [47]).length = [d] := by
    show ((z ++ [d]).drop z.length).take 1 = [d]
    rw [List.drop_left]; rfl
  rw [e, e2]
  have e3 : decide (0 + (mS [47]).length ≤ (mS (z ++ [d])).length) = true := by
    rw [decide_eq_true_iff, len_mS, len_mS, List.length_append]
    show 0 + 1 ≤ z.length + 1
    omega
  rw [e3, Bool.true_and]
  show ([d] == [47]) = _
  by_cases q : d = 47
  · subst q; rfl
  · rw [decide_eq_false q, beq_eq_false_iff_ne]
    intro e; exact q (List.cons.inj e).1
theorem join_plain {z y : List Nat} {d : Nat} (hd : d ≠ 47) (hy : y.head? ≠ some 47) : joinL (mS (z ++ [d])) (mS y) = mS ((z ++ [d]) ++ 47 :: y) := by
  rw [joinL_4 (starts_not hy) (by rw [len_mS, List.length_append]; simp; omega) (by rw [ends_eq, decide_eq_false hd]), s_slash, mS_app, mS_app]
  rfl
theorem join_slash {z y : List Nat} (hy : y.head? ≠ some 47) : joinL (mS (z ++ [47])) (mS y) = mS ((z ++ [47]) ++ y) := by
  rw [joinL_3 (starts_not hy) (by rw [len_mS, List.length_append]; simp; omega) (by rw [ends_eq]; rfl), mS_app]
noncomputable def zL (s u : Nat) : List Nat := (List.replicate s 47 ++ jL (List.replicate u [46, 46] ++ [[46]])).dropLast
theorem base_form {s u : Nat} (hs : s < 4) (hu : u < 3) : joinL (rawUps (s : Int) (u : Int)) (Str.ofString ".") = mS (zL s u ++ [46]) ∧ rawUps (s : Int) (u : Int) = mS (rawL s u []) := by
  have h1 : s = 0 ∨ s = 1 ∨ s = 2 ∨ s = 3 := by omega
  have h2 : u = 0 ∨ u = 1 ∨ u = 2 := by omega
  rcases h1 with rfl | rfl | rfl | rfl <;> rcases h2 with rfl | rfl | rfl <;> exact ⟨by decide +kernel, by decide +kernel⟩
theorem z_form {s u : Nat} (hs : s < 4) (hu : u < 3) (ps : List (List Nat)) (p : List Nat) : (zL s u ++ [46]) ++ 47 :: jL (p :: ps) = List.replicate s 47 ++ jL (List.replicate u [46, 46] ++ [46] :: p :: ps) := by
  have h1 : s = 0 ∨ s = 1 ∨ s = 2 ∨ s = 3 := by omega
  have h2 : u = 0 ∨ u = 1 ∨ u = 2 := by omega
  rcases h1 with rfl | rfl | rfl | rfl <;> rcases h2 with rfl | rfl | rfl <;> rfl
theorem raw_form {s u : Nat} (hs : s < 4) (hu : u < 3) (ns : List (List Nat)) (hl : ns.length ≤ 2) (hn : ∀ a ∈ ns, NameL a) : rawOf (s : Int) (u : Int) (ns.map mS) = mS (rawL s u ns) := by
  obtain ⟨b1, b2⟩ := base_form hs hu
  have one : ∀ a, NameL a → raw1 (s : Int) (u : Int) (mS a) = mS ((zL s u ++ [46]) ++ 47 :: (a ++ [47, 47])) := by
    intro a ha
    show joinL (joinL (rawUps (s : Int) (u : Int)) (Str.ofString ".")) (mS a ++ Str.ofString "//") = _
    rw [b1, s_two, mS_app, join_plain (by decide) (ha.head _)]
  match ns, hl, hn with
  | [], _, _ => exact b2
  | [a], _, hn =>
    show raw1 (s : Int) (u : Int) (mS a) = _
    rw [one a (hn a (.head _))]
    refine congrArg mS ?_
    exact z_form hs hu [[], []] a
  | [a, b], _, hn =>
    have hb := hn b (.tail _ (.head _))
    show joinL (joinL (joinL (raw1 (s : Int) (u : Int) (mS a)) (Str.ofString "x y")) (Str.ofString "..")) (mS b) = _
    rw [one a (hn a (.head _)), s_xy, s_dots]
    have e1 : (zL s u ++ [46]) ++ 47 :: (a ++ [47, 47]) = ((zL s u ++ [46]) ++ 47 :: (a ++ [47])) ++ [47] := by simp
    rw [e1, join_slash (by decide)]
    have e2 : (((zL s u ++ [46]) ++ 47 :: (a ++ [47])) ++ [47]) ++ [120, 32, 121] = (((zL s u ++ [46]) ++ 47 :: (a ++ [47])) ++ [47, 120, 32]) ++ [121] := by simp
    rw [e2, join_plain (by decide) (by decide)]
    have e3 : ((((zL s u ++ [46]) ++ 47 :: (a ++ [47])) ++ [47, 120, 32]) ++ [121]) ++ 47 :: [46, 46] = ((((zL s u ++ [46]) ++ 47 :: (a ++ [47])) ++ [47, 120, 32]) ++ [121, 47, 46]) ++ [46] := by simp
    rw [e3, join_plain (by decide) (by have := hb.head []; rwa [List.append_nil] at this)]
    refine congrArg mS (Eq.trans ?_ (z_form hs hu [[], [120, 32, 121], [46, 46], b] a))
    simp [jL]
  | _ :: _ :: _ :: _, hl, _ => simp at hl
theorem splitL_jL : ∀ (p : List Nat) (ps : List (List Nat)), (∀ x ∈ p :: ps, 47 ∉ x) → splitL (jL (p :: ps)) = p :: ps
  | p, [], h => splitL_free (h p (.head _))
  | p, q :: ps, h => by
    show splitL (p ++ 47 :: jL (q :: ps)) = _
    rw [splitL_cat, splitL_free (h p (.head _)), splitL_jL q ps fun x hx => h x (.tail _ hx)]
    rfl
noncomputable def leadL : Nat → List Nat
  | 0 => []
  | 2 => [47, 47]
  | _ => [47]
noncomputable def restL (s : Nat) (y : List Nat) : List Nat := if s = 3 then 47 :: 47 :: y else y
theorem root_form {s : Nat} (hs : s < 4) (c d : Nat) (r : List Nat) : rootOf (mS (List.replicate s 47 ++ 46 :: c :: d :: r)) = mS (leadL s) ∧ restOf (mS (List.replicate s 47 ++ 46 :: c :: d :: r)) = mS (restL s (46 :: c :: d :: r)) := by
  have h1 : s = 0 ∨ s = 1 ∨ s = 2 ∨ s = 3 := by omega
  have lt : ∀ {l : List Nat} {n : Nat}, n ≤ 3 → n ≤ (l ++ 46 :: c :: d :: r).length := fun h => by rw [List.length_append]; simp only [List.length_cons]; omega
  rcases h1 with rfl | rfl | rfl | rfl
  · obtain ⟨a, b⟩ := root_1 (x := mS (List.replicate 0 47 ++ 46 :: c :: d :: r)) (by rw [show (some 1 : Option Int) = some ((1 : Nat) : Int) from rfl, slice_to (lt (by decide)), s_slash, ne_mS]; simp)
    exact ⟨a.trans s_nil, b⟩
  · obtain ⟨a, b⟩ := root_2 (x := mS (List.replicate 1 47 ++ 46 :: c :: d :: r)) (by rw [show (some 1 : Option Int) = some ((1 : Nat) : Int) from rfl, slice_to (lt (by decide)), s_slash, ne_mS]; rfl)
      (by rw [show (some 1 : Option Int) = some ((1 : Nat) : Int) from rfl, show (some 2 : Option Int) = some ((2 : Nat) : Int) from rfl, slice_mid (by decide) (lt (by decide)), s_slash, ne_mS]; rfl)
    refine ⟨a.trans s_slash, b.trans ?_⟩
    rw [show (some 1 : Option Int) = some ((1 : Nat) : Int) from rfl, slice_from (lt (by decide))]; rfl
  · obtain ⟨a, b⟩ := root_4 (x := mS (List.replicate 2 47 ++ 46 :: c :: d :: r)) (by rw [show (some 1 : Option Int) = some ((1 : Nat) : Int) from rfl, slice_to (lt (by decide)), s_slash, ne_mS]; rfl)
      (by rw [show (some 1 : Option Int) = some ((1 : Nat) : Int) from rfl, show (some 2 : Option Int) = some ((2 : Nat) : Int) from rfl, slice_mid (by decide) (lt (by decide)), s_slash, ne_mS]; rfl)
      (by rw [show (some 2 : Option Int) = some ((2 : Nat) : Int) from rfl, show (some 3 : Option Int) = some ((3 : Nat) : Int) from rfl, slice_mid (by decide) (lt (by decide)), s_slash, eq_mS]; rfl)
    refine ⟨a.trans ?_, b.trans ?_⟩
    · rw [show (some 2 : Option Int) = some ((2 : Nat) : Int) from rfl, slice_to (lt (by decide))]; rfl
    · rw [show (some 2 : Option Int) = some ((2 : Nat) : Int) from rfl, slice_from (lt (by decide))]; rfl
  · obtain ⟨a, b⟩ := root_3 (x := mS (List.replicate 3 47 ++ 46 :: c :: d :: r)) (by rw [show (some 1 : Option Int) = some ((1 : Nat) : Int) from rfl, slice_to (lt (by decide)), s_slash, ne_mS]; rfl)
      (by rw [show (some 2 : Option Int) = some ((2 : Nat) : Int) from rfl, show (some 3 : Option Int) = some ((3 : Nat) : Int) from rfl, slice_mid (by decide) (lt (by decide)), s_slash, eq_mS]; rfl)
    refine ⟨a.trans s_slash, b.trans ?_⟩
    rw [show (some 1 : Option Int) = some ((1 : Nat) : Int) from rfl, slice_from (lt (by decide))]; rfl
end Mine
end
section
open PySem PySem.W PyProof.Rows PySem.Spec PySem.Calls
namespace Mine
section
variable {k : Nat} {acc : List Str}
theorem st_nil : npStep k acc (mS []) = acc := np_1 rfl
theorem st_dot : npStep k acc (mS [46]) = acc := np_2 (by rw [s_dot, eq_mS]; rfl)
theorem st_piece {c : List Nat} (h0 : c ≠ []) (h1 : c ≠ [46]) (h2 : c ≠ [46, 46]) : npStep k acc (mS c) = acc ++ [mS c] :=
  np_3 (by rw [len_mS]; exact fun e => h0 (List.length_eq_zero_iff.mp (by omega))) (by rw [s_dot, eq_mS, decide_eq_false h1]) (by rw [s_dots, ne_mS, decide_eq_false h2]; rfl)
theorem st_pop : npStep k (acc ++ [mS [120, 32, 121]]) (mS [46, 46]) = acc := by
  unfold npStep
  rw [if_neg, if_neg, List.dropLast_concat]
  · rw [s_dots, ne_mS]
    rintro (h | ⟨_, h⟩ | ⟨_, h⟩)
    · cases h
    · simp at h
    · rw [List.getLastD_concat, eq_mS] at h
      cases h
  · rw [s_dot, eq_mS, len_mS]
    rintro (h | h)
    · cases h
    · cases h
end
noncomputable def accL (s u : Nat) : List (List Nat) := if s = 0 then List.replicate u [46, 46] else []
noncomputable def preL (s u : Nat) : List (List Nat) := (if s = 3 then [[], []] else []) ++ List.replicate u [46, 46]
theorem fold_pre {s u : Nat} (hs : s < 4) (hu : u < 3) : ((preL s u).map mS).foldl (npStep (leadL s).length) [] = (accL s u).map mS := by
  have h1 : s = 0 ∨ s = 1 ∨ s = 2 ∨ s = 3 := by omega
  have h2 : u = 0 ∨ u = 1 ∨ u = 2 := by omega
  rcases h1 with rfl | rfl | rfl | rfl <;> rcases h2 with rfl | rfl | rfl <;> decide +kernel
theorem NameL.piece {a : List Nat} (h : NameL a) : a ≠ [] ∧ a ≠ [46] ∧ a ≠ [46, 46] := by
  have := h.1
  refine ⟨fun e => ?_, fun e => ?_, fun e => ?_⟩ <;> (rw [e] at this; cases this)
theorem fold_ps {k : Nat} {acc : List Str} (ns : List (List Nat)) (hl : ns.length ≤ 2) (hn : ∀ a ∈ ns, NameL a) : ((psOf ns).map mS).foldl (npStep k) acc = acc ++ ns.map mS := by
  match ns, hl, hn with
  | [], _, _ => exact (List.append_nil _).symm
  | [a], _, hn =>
    obtain ⟨a1, a2, a3⟩ := (hn a (.head _)).piece
    simp only [psOf, List.map_cons, List.map_nil, List.foldl_cons, List.foldl_nil, st_dot, st_piece a1 a2 a3, st_nil]
  | [a, b], _, hn =>
    obtain ⟨a1, a2, a3⟩ := (hn a (.head _)).piece
    obtain ⟨b1, b2, b3⟩ := (hn b (.tail _ (.head _))).piece
    simp only [psOf, List.map_cons, List.map_nil, List.foldl_cons, List.foldl_nil, st_dot, st_piece a1 a2 a3, st_nil]
    rw [st_piece (c := [120, 32, 121]) (by decide) (by decide) (by decide), st_pop, st_piece b1 b2 b3, List.append_assoc]
    rfl
  | _ :: _ :: _ :: _, hl, _ => simp at hl
theorem ps_free {ns : List (List Nat)} (hn : ∀ a ∈ ns, NameL a) : ∀ x ∈ psOf ns, 47 ∉ x := by
  match ns, hn with
  | [], _ => intro x h; cases h
  | [a], hn =>
    have := (hn a (.head _)).2
    intro x h
    simp only [psOf, List.mem_cons, List.not_mem_nil, or_false] at h
    rcases h with rfl | rfl | rfl | rfl
    · decide
    · exact this
    · decide
    · decide
  | a :: b :: _, hn =>
    have h1 := (hn a (.head _)).2
    have h2 := (hn b (.tail _ (.head _))).2
    intro x h
    simp only [psOf, List.mem_cons, List.not_mem_nil, or_false] at h
    rcases h with rfl | rfl | rfl | rfl | rfl | rfl
    · decide
    · exact h1
    · decide
    · decide
    · decide
    · exact h2
theorem all_free {u : Nat} {ns : List (List Nat)} (hn : ∀ a ∈ ns, NameL a) : ∀ x ∈ List.replicate u [46, 46] ++ psOf ns, 47 ∉ x := by
  intro x hx
  rcases List.mem_append.mp hx with hx | hx
  · rw [List.eq_of_mem_replicate hx]; decide
  · exact ps_free hn x hx
/-- a path with names begins, behind its slashes, with a dot and two signs more -/
theorem head_form {u : Nat} (hu : u < 3) (a : List Nat) (ns : List (List Nat)) (hn : ∀ x ∈ a :: ns, NameL x) : ∃ c d r, jL (List.replicate u [46, 46] ++ psOf (a :: ns)) = 46 :: c :: d :: r := by
  have ha := hn a (.head _)
  have h2 : u = 0 ∨ u = 1 ∨ u = 2 := by omega
  have key : ∃ ps, psOf (a :: ns) = [46] :: a :: [] :: ps := by
    cases ns with
    | nil => exact ⟨_, rfl⟩
    | cons b r => exact ⟨_, rfl⟩
  obtain ⟨ps, e⟩ := key
  rw [e]
  rcases h2 with rfl | rfl | rfl
  · obtain ⟨h1, _⟩ := ha
    cases a with
    | nil => cases h1
    | cons c r => exact ⟨_, _, _, rfl⟩
  · exact ⟨_, _, _, rfl⟩
  · exact ⟨_, _, _, rfl⟩
theorem split_rest {s u : Nat} {ns : List (List Nat)} (p : List Nat) (ps : List (List Nat)) (e : List.replicate u [46, 46] ++ psOf ns = p :: ps) (hn : ∀ a ∈ ns, NameL a) : splitL (restL s (jL (List.replicate u [46, 46] ++ psOf ns))) = preL s u ++ psOf ns := by
  have hf := all_free (u := u) hn
  have h1 : splitL (jL (List.replicate u [46, 46] ++ psOf ns)) = List.replicate u [46, 46] ++ psOf ns := by rw [e] at hf ⊢; exact splitL_jL p ps hf
  unfold restL preL
  split
  · rw [splitL, if_pos rfl, splitL, if_pos rfl, h1]; rfl
  · rw [h1]; rfl
theorem np_form {s u : Nat} (hs : s < 4) (hu : u < 3) (a : List Nat) (ns : List (List Nat)) (hl : (a :: ns).length ≤ 2) (hn : ∀ x ∈ a :: ns, NameL x) : npOut (mS (rawL s u (a :: ns))) = mS (leadL s ++ jL (accL s u ++ (a :: ns))) := by
  obtain ⟨c, d, r, e⟩ := head_form hu a ns hn
  have hraw : rawL s u (a :: ns) = List.replicate s 47 ++ 46 :: c :: d :: r := by unfold rawL; rw [e]
  obtain ⟨r1, r2⟩ := root_form hs c d r
  have hne : ∃ p ps, List.replicate u [46, 46] ++ psOf (a :: ns) = p :: ps := by
    cases q : List.replicate u [46, 46] ++ psOf (a :: ns) with
    | nil => rw [q] at e; cases e
    | cons p ps => exact ⟨p, ps, rfl⟩
  obtain ⟨p, ps, hp⟩ := hne
  have hin : npIn (mS (rawL s u (a :: ns))) = mS (leadL s ++ jL (accL s u ++ (a :: ns))) := by
    unfold npIn
    rw [hraw, r1, r2, split_eq, tL_mS, ← e, split_rest p ps hp hn, List.map_append, List.foldl_append, len_mS, fold_pre hs hu, fold_ps _ hl hn, ← List.map_append]
    show mS (leadL s) ++ Builtin.Str.glued (Str.ofString "/") _ = _
    rw [StrLaws.glued_eq_join, join_jL, mS_app]
  refine npo_3 ?_ hin ?_
  · rw [hraw, len_mS, List.length_append]
    simp only [List.length_cons]
    omega
  · have hj : jL (accL s u ++ (a :: ns)) ≠ [] := by
      intro q
      have hpc : ∀ x ∈ accL s u ++ (a :: ns), PieceL x := by
        intro x hx
        rcases List.mem_append.mp hx with hx | hx
        · unfold accL at hx
          split at hx
          · rw [List.eq_of_mem_replicate hx]; exact ⟨by decide, by decide⟩
          · cases hx
        · exact ⟨(hn x hx).ne, (hn x hx).2⟩
      cases q2 : accL s u ++ (a :: ns) with
      | nil => simp at q2
      | cons x xs =>
        rw [q2] at q hpc
        obtain ⟨z, d, e, _⟩ := jL_last xs x hpc
        rw [q] at e
        simp at e
    rw [len_mS, List.length_append]
    have := List.length_pos_iff.mpr hj
    omega
theorem np_bare {s u : Nat} (hs : s < 4) (hu : u < 3) : npOut (mS (rawL s u [])) = mS (if s = 0 ∧ u = 0 then [46] else leadL s ++ jL (accL s u)) := by
  have h1 : s = 0 ∨ s = 1 ∨ s = 2 ∨ s = 3 := by omega
  have h2 : u = 0 ∨ u = 1 ∨ u = 2 := by omega
  rcases h1 with rfl | rfl | rfl | rfl <;> rcases h2 with rfl | rfl | rfl <;> decide +kernel
end Mine
end
section
open PySem PySem.W PyProof.Rows PySem.Spec PySem.Calls
namespace Mine
/-- a sign of the alphabet, with the marks p and q for its last two -/
noncomputable def signL (p q : UInt8) (i : Nat) : Nat := (Tr.tr1 p q (tabB.getD i 0).toNat.toUInt8).toNat
noncomputable def eqL (p q : UInt8) : Nat := (Tr.tr1 p q (61 : Int).toNat.toUInt8).toNat
theorem eq_sign {M : Str} {p q : UInt8} (h : MarkOk M p q) : eqL p q = 61 := by cases h <;> decide +kernel
theorem tr1_eq (p q c : UInt8) : Tr.tr1 p q c = if c = 43 then p else if c = 47 then q else c := by
  have hc : c.toNat < 256 := c.toNat_lt
  unfold Tr.tr1 Tr.tbl
  rw [Array.getD_eq_getD_getElem?, Array.getElem?_setIfInBounds, Array.getElem?_setIfInBounds]
  have h1 : (43 : Nat) = c.toNat ↔ c = 43 := ⟨fun e => UInt8.toNat_inj.mp (by rw [← e]; rfl), fun e => by rw [e]; rfl⟩
  have h2 : (47 : Nat) = c.toNat ↔ c = 47 := ⟨fun e => UInt8.toNat_inj.mp (by rw [← e]; rfl), fun e => by rw [e]; rfl⟩
  by_cases e1 : c = 43
  · subst e1; simp
  · by_cases e2 : c = 47
    · subst e2; simp
    · rw [if_neg (fun h => e2 (h2.mp h)), if_neg (fun h => e1 (h1.mp h)), if_neg e1, if_neg e2]
      simp [hc]
noncomputable def alphaL : List Nat := [65, 66, 67, 68, 69, 70, 71, 72, 73, 74, 75, 76, 77, 78, 79, 80, 81, 82, 83, 84, 85, 86, 87, 88, 89, 90, 97, 98, 99, 100, 101, 102, 103, 104, 105, 106, 107, 108, 109, 110, 111, 112, 113, 114, 115, 116, 117, 118, 119, 120, 121, 122, 48, 49, 50, 51, 52, 53, 54, 55, 56, 57]
theorem sgns_list (M : Str) : tL (sgns M) = alphaL ++ tL M := by
  have h : tL (Str.ofString "ABCDEFGHIJKLMNOPQRSTUVWXYZabcdefghijklmnopqrstuvwxyz0123456789") = alphaL := by decide +kernel
  unfold sgns
  rw [tL_app, h]
noncomputable def signT (p q : UInt8) (i : Nat) : Nat := (if (tabB.getD i 0).toNat.toUInt8 = 43 then p else if (tabB.getD i 0).toNat.toUInt8 = 47 then q else (tabB.getD i 0).toNat.toUInt8).toNat
theorem sign_at {M : Str} {p q : UInt8} (h : MarkOk M p q) : ∀ i < 64, (tL (sgns M))[i]? = some (signL p q i) ∧ signL p q i ≠ 61 ∧ signL p q i ≠ 47 := by
  have e : ∀ i, signL p q i = signT p q i := fun i => by unfold signL signT; rw [tr1_eq]
  have eM : tL M = [p.toNat, q.toNat] := by cases h <;> decide +kernel
  simp only [e, sgns_list, eM]
  cases h <;> decide +kernel
theorem signs_nodup {M : Str} {p q : UInt8} (h : MarkOk M p q) : (tL (sgns M)).Nodup := by
  have eM : tL M = [p.toNat, q.toNat] := by cases h <;> decide +kernel
  rw [sgns_list, eM]
  cases h <;> decide +kernel
theorem nodup_at : ∀ {l : List Nat} {c i k : Nat}, l.Nodup → l[k]? = some c → l[i]? = some c → k = i
  | [], _, _, _, _, h, _ => by simp at h
  | a :: l, c, 0, 0, _, _, _ => rfl
  | a :: l, c, i + 1, 0, hn, h1, h2 => by
    have e : a = c := Option.some.inj h1
    exact absurd (e ▸ List.mem_of_getElem? (l := l) h2) (List.nodup_cons.mp hn).1
  | a :: l, c, 0, k + 1, hn, h1, h2 => by
    have e : a = c := Option.some.inj h2
    exact absurd (e ▸ List.mem_of_getElem? (l := l) h1) (List.nodup_cons.mp hn).1
  | a :: l, c, i + 1, k + 1, hn, h1, h2 => congrArg _ (nodup_at (List.nodup_cons.mp hn).2 h1 h2)
theorem find_at {x : Str} {i c : Nat} (hn : (tL x).Nodup) (h : (tL x)[i]? = some c) : Txt.find x ⟨#[c]⟩ = (i : Nat) := by
  unfold Txt.find
  have at_iff : ∀ k, StrLaws.At x ⟨#[c]⟩ x.length k ↔ (tL x)[k]? = some c := fun k => StrLaws.subAt_one x c k
  rcases StrLaws.occ_head x ⟨#[c]⟩ 1 (Nat.le_refl _) with ⟨e, hno⟩ | ⟨k, r, e, hk, _⟩
  · exact absurd ((at_iff i).mpr h) (hno i)
  · rw [e]
    have hk := (at_iff k).mp hk
    have : k = i := by
      exact nodup_at hn hk h
    rw [this]
theorem sign_all {M : Str} {p q : UInt8} (h : MarkOk M p q) (i : Nat) (hi : i < 64) : Txt.find (sgns M) ⟨#[signL p q i]⟩ = (i : Nat) ∧ signL p q i ≠ 61 ∧ signL p q i ≠ 47 := by
  obtain ⟨a, b⟩ := sign_at h i hi
  exact ⟨find_at (signs_nodup h) a, b⟩
theorem name_one (p q : UInt8) (c : Int) : nameL p q [c] = [signL p q (c / 4).toNat, signL p q (c % 4 * 16).toNat, eqL p q, eqL p q] := rfl
theorem name_two (p q : UInt8) (c d : Int) : nameL p q [c, d] = [signL p q (c / 4).toNat, signL p q (c % 4 * 16 + d / 16).toNat, signL p q (d % 16 * 4).toNat, eqL p q] := rfl
theorem name_ok {M : Str} {p q : UInt8} (h : MarkOk M p q) {r : List Int} (hr : ROk r) : NameL (nameL p q r) := by
  refine ⟨name_len hr, fun hm => ?_⟩
  have he := eq_sign h
  rcases hr with ⟨c, rfl, h0, h1⟩ | ⟨c, d, rfl, h0, h1, g0, g1⟩
  · rw [name_one] at hm
    simp only [List.mem_cons, List.not_mem_nil, or_false] at hm
    rcases hm with e | e | e | e
    · exact (sign_all h _ (by omega)).2.2 e.symm
    · exact (sign_all h _ (by omega)).2.2 e.symm
    · rw [he] at e; cases e
    · rw [he] at e; cases e
  · rw [name_two] at hm
    simp only [List.mem_cons, List.not_mem_nil, or_false] at hm
    rcases hm with e | e | e | e
    · exact (sign_all h _ (by omega)).2.2 e.symm
    · exact (sign_all h _ (by omega)).2.2 e.symm
    · exact (sign_all h _ (by omega)).2.2 e.symm
    · rw [he] at e; cases e
theorem not_dots {a : List Nat} (h : a.length = 4) : [Str.ofString ".", Str.ofString ".."].any (fun x => x == (⟨a.toArray⟩ : Str)) = false := by
  show ((Str.ofString "." == mS a) || ((Str.ofString ".." == mS a) || false)) = false
  rw [s_dot, s_dots, eq_mS, eq_mS, decide_eq_false, decide_eq_false]
  · rfl
  · intro e; rw [← e] at h; cases h
  · intro e; rw [← e] at h; cases h
theorem b_q {c : Int} (h0 : 0 ≤ c) (h1 : c < 256) : 0 ≤ c / 4 ∧ c / 4 < 64 := ⟨Int.ediv_nonneg h0 (by decide), Int.ediv_lt_of_lt_mul (by decide) h1⟩
theorem b_s (c : Int) {z : Int} (g : 0 ≤ z ∧ z < 16) : 0 ≤ c % 4 * 16 + z ∧ c % 4 * 16 + z < 64 := by
  have h1 := Int.emod_nonneg c (b := 4) (by decide)
  have h2 := Int.emod_lt_of_pos c (b := 4) (by decide)
  generalize c % 4 = x at h1 h2 ⊢
  omega
theorem b_r (c : Int) : 0 ≤ c % 4 * 16 ∧ c % 4 * 16 < 64 := by
  have := b_s c (z := 0) ⟨by decide, by decide⟩
  rwa [Int.add_zero] at this
theorem b_t (d : Int) : 0 ≤ d % 16 * 4 ∧ d % 16 * 4 < 64 := by
  have h1 := Int.emod_nonneg d (b := 16) (by decide)
  have h2 := Int.emod_lt_of_pos d (b := 16) (by decide)
  generalize d % 16 = x at h1 h2 ⊢
  omega
theorem n64 {z : Int} (h : 0 ≤ z ∧ z < 64) : z.toNat < 64 := (Int.toNat_lt h.1).mpr h.2
theorem b_one (c : Int) : c / 4 * 64 + c % 4 * 16 = c * 16 := by
  have q := Int.emod_add_mul_ediv c 4
  generalize c % 4 = x at q ⊢
  generalize c / 4 = y at q ⊢
  subst q
  omega
theorem b_two (c d : Int) : (c / 4 * 64 + (c % 4 * 16 + d / 16)) * 64 + d % 16 * 4 = (d + c * 256) * 4 := by
  have r := Int.emod_add_mul_ediv d 16
  rw [← Int.add_assoc, b_one]
  generalize d % 16 = x at r ⊢
  generalize d / 16 = y at r ⊢
  subst r
  omega
theorem part_row {M : Str} {p q : UInt8} (h : MarkOk M p q) {r : List Int} (hr : ROk r) : PartD M (mS (nameL p q r)) (.inr r) := by
  have hl := name_len (p := p) (q := q) hr
  have he := eq_sign h
  rcases hr with ⟨c, rfl, h0, h1⟩ | ⟨c, d, rfl, h0, h1, g0, g1⟩
  · have a0 := b_q h0 h1
    have b0 := b_r c
    obtain ⟨a1, a2, _⟩ := sign_all h (c / 4).toNat (n64 a0)
    obtain ⟨b1, b2, _⟩ := sign_all h (c % 4 * 16).toNat (n64 b0)
    have e : fil1 (c / 4) (c % 4 * 16) = c := by
      unfold fil1
      rw [b_one, Int.mul_ediv_cancel _ (by decide), Int.emod_eq_of_lt h0 h1]
    have hp : plc M (nameL p q [c]) = [c / 4, c % 4 * 16] := by
      rw [name_one, he]
      unfold plc
      rw [List.filter_cons_of_pos (by simpa using a2), List.filter_cons_of_pos (by simpa using b2), List.filter_cons_of_neg (by simp), List.filter_cons_of_neg (by simp)]
      show [Txt.find (sgns M) _, Txt.find (sgns M) _] = _
      rw [a1, b1, Int.toNat_of_nonneg a0.1, Int.toNat_of_nonneg b0.1]
    have z := PartD.one (m := M) (nameL p q [c]) (c / 4) (c % 4 * 16) (not_dots hl) hl hp a0.1 a0.2 b0.1 b0.2
    rw [e] at z
    exact z
  · have a0 := b_q h0 h1
    have b0 := b_s c (b_z g0 g1)
    have c0 := b_t d
    obtain ⟨a1, a2, _⟩ := sign_all h (c / 4).toNat (n64 a0)
    obtain ⟨b1, b2, _⟩ := sign_all h (c % 4 * 16 + d / 16).toNat (n64 b0)
    obtain ⟨c1, c2, _⟩ := sign_all h (d % 16 * 4).toNat (n64 c0)
    have e : fil2 (c / 4) (c % 4 * 16 + d / 16) (d % 16 * 4) = c := by
      unfold fil2
      rw [b_two, Int.mul_ediv_cancel _ (by decide), Int.add_mul_ediv_right _ _ (by decide), Int.ediv_eq_zero_of_lt g0 g1, Int.zero_add, Int.emod_eq_of_lt h0 h1]
    have e3 : fil3 (c / 4) (c % 4 * 16 + d / 16) (d % 16 * 4) = d := by
      unfold fil3
      rw [b_two, Int.mul_ediv_cancel _ (by decide), Int.add_mul_emod_self_right, Int.emod_eq_of_lt g0 g1]
    have hp : plc M (nameL p q [c, d]) = [c / 4, c % 4 * 16 + d / 16, d % 16 * 4] := by
      rw [name_two, he]
      unfold plc
      rw [List.filter_cons_of_pos (by simpa using a2), List.filter_cons_of_pos (by simpa using b2), List.filter_cons_of_pos (by simpa using c2), List.filter_cons_of_neg (by simp)]
      show [Txt.find (sgns M) _, Txt.find (sgns M) _, Txt.find (sgns M) _] = _
      rw [a1, b1, c1, Int.toNat_of_nonneg a0.1, Int.toNat_of_nonneg b0.1, Int.toNat_of_nonneg c0.1]
    have z := PartD.two (m := M) (nameL p q [c, d]) (c / 4) (c % 4 * 16 + d / 16) (d % 16 * 4) (not_dots hl) hl hp a0.1 a0.2 b0.1 b0.2 c0.1 c0.2
    rw [e, e3] at z
    exact z
/-- a number's names, sign by sign -/
noncomputable def nsOf (p q : UInt8) (n : Int) : List (List Nat) := (rowsOf (n.fdiv 12)).map (nameL p q)
theorem names_mS (p q : UInt8) (n : Int) : namesOf p q n = (nsOf p q n).map mS := by
  unfold namesOf nsOf
  rw [List.map_map]
  rfl
theorem ns_len (p q : UInt8) (n : Int) : (nsOf p q n).length ≤ 2 := by unfold nsOf; rw [List.length_map]; exact rows_len _
theorem ns_four {p q : UInt8} {n : Int} : ∀ a ∈ nsOf p q n, a.length = 4 := by
  intro a ha
  obtain ⟨r, hr, rfl⟩ := List.mem_map.mp ha
  exact name_len (row_ok r hr)
theorem ns_ok {M : Str} {p q : UInt8} (h : MarkOk M p q) {n : Int} : ∀ a ∈ nsOf p q n, NameL a := by
  intro a ha
  obtain ⟨r, hr, rfl⟩ := List.mem_map.mp ha
  exact name_ok h (row_ok r hr)
noncomputable def slN (n : Int) : Nat := (slOf n).toNat
noncomputable def upN (n : Int) : Nat := (upOf n).toNat
theorem slN_lt (n : Int) : slN n < 4 := by have := sl_in n; unfold slN; omega
theorem upN_lt (n : Int) : upN n < 3 := by have := up_in n; unfold upN; omega
theorem slN_eq (n : Int) : (slN n : Int) = slOf n := by have := sl_in n; unfold slN; omega
theorem upN_eq (n : Int) : (upN n : Int) = upOf n := by have := up_in n; unfold upN; omega
theorem rawN_form {M : Str} {p q : UInt8} (h : MarkOk M p q) (n : Int) : rawN p q n = mS (rawL (slN n) (upN n) (nsOf p q n)) := by
  unfold rawN
  rw [names_mS, ← slN_eq, ← upN_eq]
  exact raw_form (slN_lt n) (upN_lt n) _ (ns_len p q n) (ns_ok h)
theorem lead_form {s : Nat} (hs : s < 4) : leadOf (s : Int) = mS (leadL s) := by
  have h1 : s = 0 ∨ s = 1 ∨ s = 2 ∨ s = 3 := by omega
  rcases h1 with rfl | rfl | rfl | rfl <;> decide +kernel
theorem lead_ok {s : Nat} (hs : s < 4) : LeadL (leadL s) := by
  have h1 : s = 0 ∨ s = 1 ∨ s = 2 ∨ s = 3 := by omega
  rcases h1 with rfl | rfl | rfl | rfl
  · exact .inl rfl
  · exact .inr (.inl rfl)
  · exact .inr (.inr rfl)
  · exact .inr (.inl rfl)
theorem parts_dots (M : Str) : ∀ (k : Nat), PartsD M ((List.replicate k [46, 46]).map mS) ((List.replicate k (Str.ofString "..")).map .inl)
  | 0 => .nil
  | k + 1 => by
    rw [List.replicate_succ, List.replicate_succ, List.map_cons, List.map_cons]
    refine .cons _ _ ?_ (parts_dots M k)
    have := PartD.dots (m := M)
    rw [s_dots] at this ⊢
    exact this
theorem parts_rows {M : Str} {p q : UInt8} (h : MarkOk M p q) : ∀ (rs : List (List Int)), (∀ r ∈ rs, ROk r) → PartsD M ((rs.map (nameL p q)).map mS) (rs.map .inr)
  | [], _ => .nil
  | r :: rs, hr => .cons _ _ (part_row h (hr r (.head _))) (parts_rows h rs fun x hx => hr x (.tail _ hx))
theorem PartsD.append {m : Str} {a b : List Str} {x y : List Dat} (h : PartsD m a x) (g : PartsD m b y) : PartsD m (a ++ b) (x ++ y) := by
  induction h with
  | nil => exact g
  | cons p d hd _ ih => exact .cons p d hd ih
theorem accL_piece {s u : Nat} : ∀ x ∈ accL s u, PieceL x := by
  intro x hx
  unfold accL at hx
  split at hx
  · rw [List.eq_of_mem_replicate hx]; exact ⟨by decide, by decide⟩
  · cases hx
theorem jL_le : ∀ (cs : List (List Nat)), (∀ c ∈ cs, c.length ≤ 4) → (jL cs).length ≤ 5 * cs.length
  | [], _ => Nat.le_refl _
  | [x], h => by have := h x (.head _); show x.length ≤ 5 * 1; omega
  | x :: y :: r, h => by
    have h1 := h x (.head _)
    have h2 := jL_le (y :: r) fun c hc => h c (.tail _ hc)
    show (x ++ 47 :: jL (y :: r)).length ≤ 5 * (x :: y :: r).length
    rw [List.length_append, List.length_cons, List.length_cons (a := x)]
    omega
/-- normpath, taken apart, tells what the path was made of -/
theorem apart_ok {M : Str} {p q : UInt8} (hM : MarkOk M p q) (n : Int) : ∃ front ps ds, Chain (npOut (rawN p q n)) front ps ∧ PartsD M ps ds ∧ ps.length ≤ 8 ∧ .inl front :: ds = dueN n := by
  have hs := slN_lt n
  have hu := upN_lt n
  have hns := ns_ok hM (n := n)
  have hnl := ns_len p q n
  rw [rawN_form hM]
  unfold dueN dueOf
  rw [← slN_eq, ← upN_eq, lead_form hs]
  have hrows : (rowsOf (n.fdiv 12) = []) ↔ nsOf p q n = [] := by unfold nsOf; rw [List.map_eq_nil_iff]
  by_cases hz : slN n = 0 ∧ upN n = 0 ∧ nsOf p q n = []
  · obtain ⟨z1, z2, z3⟩ := hz
    refine ⟨mS [], [mS [46]], [.inl (Str.ofString ".")], ?_, .cons _ _ (by rw [s_dot]; have := PartD.dot (m := M); rw [s_dot] at this; exact this) .nil, by decide, ?_⟩
    · rw [z3, np_bare hs hu, if_pos ⟨z1, z2⟩]
      exact chain_all 1 [] [[46]] rfl (.inl rfl) (by intro c hc; rw [List.mem_singleton.mp hc]; exact ⟨by decide, by decide⟩) (by decide)
    · rw [z1, z2]
      unfold dueRest
      rw [if_pos (show ((0 : Nat) : Int) = 0 from rfl), if_pos ⟨rfl, hrows.mpr z3⟩]
      rfl
  · have hnp : npOut (mS (rawL (slN n) (upN n) (nsOf p q n))) = mS (leadL (slN n) ++ jL (accL (slN n) (upN n) ++ nsOf p q n)) := by
      cases e : nsOf p q n with
      | nil =>
        rw [np_bare hs hu, if_neg (fun h => hz ⟨h.1, h.2, e⟩), List.append_nil]
      | cons a ns =>
        rw [e] at hns hnl
        exact np_form hs hu a ns hnl hns
    have hac : (accL (slN n) (upN n)).length ≤ 2 := by
      unfold accL
      split
      · rw [List.length_replicate]; omega
      · exact Nat.zero_le _
    have hpl : (accL (slN n) (upN n) ++ nsOf p q n).length ≤ 4 := by rw [List.length_append]; omega
    refine ⟨mS (leadL (slN n)), (accL (slN n) (upN n) ++ nsOf p q n).map mS, (if slN n = 0 then (List.replicate (upN n) (Str.ofString "..")).map .inl else []) ++ (rowsOf (n.fdiv 12)).map .inr, ?_, ?_, by rw [List.length_map]; omega, ?_⟩
    · rw [hnp]
      refine chain_all _ _ _ rfl (lead_ok hs) (fun c hc => ?_) ?_
      · rcases List.mem_append.mp hc with hc | hc
        · exact accL_piece c hc
        · exact ⟨(hns c hc).ne, (hns c hc).2⟩
      · have h1 := jL_le (accL (slN n) (upN n) ++ nsOf p q n) fun c hc => by
          rcases List.mem_append.mp hc with hc | hc
          · unfold accL at hc
            split at hc
            · rw [List.eq_of_mem_replicate hc]; decide
            · cases hc
          · rw [(hns c hc).1]; decide
        have h2 : (leadL (slN n)).length ≤ 2 := by
          rcases lead_ok hs with h | h | h <;> rw [h] <;> decide
        rw [List.length_append]
        omega
    · rw [List.map_append]
      refine PartsD.append ?_ (parts_rows hM _ fun r hr => row_ok r hr)
      unfold accL
      split
      · exact parts_dots M _
      · exact .nil
    · refine congrArg _ ?_
      unfold dueRest
      rw [Int.toNat_natCast]
      by_cases z : slN n = 0
      · rw [if_pos z, if_pos (by rw [z]; rfl), if_neg (fun h => hz ⟨z, h.1, hrows.mp h.2⟩)]
      · rw [if_neg z, if_neg (by omega)]
        rfl
end Mine
end
section
open PySem PySem.W PyProof.Rows PySem.Spec PySem.Calls
namespace Mine
noncomputable def repS (c : Nat) : List Nat := if c = 39 then [39, 34, 39, 34, 39] else [c]
noncomputable def repL (l : List Nat) : List Nat := l.flatMap repS
theorem repL_app (a b : List Nat) : repL (a ++ b) = repL a ++ repL b := by unfold repL; rw [List.flatMap_append]
theorem repL_free : ∀ {l : List Nat}, 39 ∉ l → repL l = l
  | [], _ => rfl
  | c :: l, h => by
    have hc : c ≠ 39 := fun e => h (e ▸ .head _)
    show repS c ++ repL l = _
    unfold repS
    rw [if_neg hc, repL_free fun q => h (.tail _ q)]
    rfl
theorem s_ap : Str.ofString "'" = mS [39] := by kernel_rfl
theorem s_apq : Str.ofString "'\"'\"'" = mS [39, 34, 39, 34, 39] := by kernel_rfl
theorem repL_join : ∀ ps : List Str, (∀ p ∈ ps, 39 ∉ tL p) → tL (Str.join (mS [39, 34, 39, 34, 39]) ps) = repL (tL (Str.join (mS [39]) ps))
  | [], _ => rfl
  | [p], h => (repL_free (h p (.head _))).symm
  | p :: q :: r, h => by
    show tL (p ++ mS [39, 34, 39, 34, 39] ++ Str.join (mS [39, 34, 39, 34, 39]) (q :: r)) = repL (tL (p ++ mS [39] ++ Str.join (mS [39]) (q :: r)))
    rw [tL_app, tL_app, tL_app, tL_app, repL_app, repL_app, repL_free (h p (.head _)), repL_join (q :: r) fun x hx => h x (.tail _ hx)]
    rfl
theorem rep_form (x : Str) : tL (repQ x) = repL (tL x) := by
  unfold repQ
  rw [s_ap, s_apq]
  have h := StrLaws.replace_one x (mS [39, 34, 39, 34, 39]) 39
  have h2 := repL_join (Txt.split x (mS [39])) (StrLaws.split_free x 39)
  have h3 : Str.join (mS [39]) (Txt.split x (mS [39])) = x := StrLaws.join_split x _
  rw [h3] at h2
  exact (congrArg tL h).trans h2
theorem repL_le : ∀ l : List Nat, (repL l).length ≤ 5 * l.length
  | [] => Nat.le_refl _
  | c :: l => by
    have h := repL_le l
    show (repS c ++ repL l).length ≤ _
    have : (repS c).length ≤ 5 := by unfold repS; split <;> exact Nat.le_of_ble_eq_true rfl
    rw [List.length_append, List.length_cons]
    omega
theorem raw_len {M : Str} {p q : UInt8} (hM : MarkOk M p q) (n : Int) : (rawN p q n).length ≤ 31 := by
  have hs := slN_lt n
  have hu := upN_lt n
  have hns := ns_four (p := p) (q := q) (n := n)
  have hnl := ns_len p q n
  rw [rawN_form hM, len_mS]
  unfold rawL
  rw [List.length_append, List.length_replicate]
  have h2 : upN n = 0 ∨ upN n = 1 ∨ upN n = 2 := by omega
  match e : nsOf p q n, hnl, hns with
  | [], _, _ => rcases h2 with h | h | h <;> (rw [h]; simp [psOf, jL, List.replicate]; try omega)
  | [a], _, hns =>
    have ha := hns a (.head _)
    rcases h2 with h | h | h <;> (rw [h]; simp [psOf, jL, List.replicate, ha]; omega)
  | [a, b], _, hns =>
    have ha := hns a (.head _)
    have hb := hns b (.tail _ (.head _))
    rcases h2 with h | h | h <;> (rw [h]; simp [psOf, jL, List.replicate, ha, hb]; omega)
  | _ :: _ :: _ :: _, hnl, _ => simp at hnl
theorem rep_len {M : Str} {p q : UInt8} (hM : MarkOk M p q) (n : Int) : (repQ (rawN p q n)).length ≤ 155 := by
  have h1 := repL_le (tL (rawN p q n))
  have h2 := raw_len hM n
  rw [len_tL, rep_form]
  rw [len_tL] at h2
  omega
noncomputable def qtN (p q : UInt8) (n : Int) : Str := quoteOf (rawN p q n)
theorem qt_len {M : Str} {p q : UInt8} (hM : MarkOk M p q) (n : Int) : (qtN p q n).length ≤ 157 := by
  have h1 := raw_len hM n
  have h2 := rep_len hM n
  unfold repQ at h2
  unfold qtN quoteOf
  split
  · exact Nat.le_trans (by decide +kernel : (Str.ofString "''").length ≤ 2) (by decide)
  · split
    · omega
    · rw [Str.length_append, Str.length_append, s_ap]
      show 1 + _ + 1 ≤ 157
      rw [s_ap] at h2
      omega
theorem qts_sum {M : Str} {p q : UInt8} (hM : MarkOk M p q) : ∀ (ks : List Int), lenSum (ks.map (qtN p q)) ≤ 158 * ks.length
  | [] => Nat.le_refl _
  | k :: ks => by
    have h := qts_sum hM ks
    have h2 := qt_len hM k
    rw [List.map_cons, lenSum_cons, List.length_cons]
    omega
theorem line_len {M : Str} {p q : UInt8} (hM : MarkOk M p q) (ks : List Int) (h : ks.length ≤ 6) : (Txt.join (Str.ofString " ") (ks.map (qtN p q))).length ≤ 1000 := by
  have h1 := qts_sum hM ks
  have h2 := StrLaws.join_length_le (Str.ofString " ") (ks.map (qtN p q))
  have h3 : (Str.ofString " ").length = 1 := by decide +kernel
  have h4 : ∀ l : List Str, (l.map (·.length)).sum + l.length * 1 = lenSum l := by
    intro l
    induction l with
    | nil => rfl
    | cons y r ih =>
      rw [lenSum_cons, List.map_cons, List.sum_cons, List.length_cons]
      omega
  show (Builtin.Str.glued (Str.ofString " ") (ks.map (qtN p q))).length ≤ 1000
  rw [StrLaws.glued_eq_join]
  rw [h3, h4] at h2
  omega
theorem splitL_sum : ∀ l : List Nat, lenSum ((splitL l).map mS) = l.length + 1
  | [] => rfl
  | c :: r => by
    have ih := splitL_sum r
    rw [splitL]
    by_cases h : c = 47
    · rw [if_pos h, List.map_cons, lenSum_cons, ih]
      show 0 + 1 + (r.length + 1) = _
      rw [List.length_cons]; omega
    · rw [if_neg h]
      cases e : splitL r with
      | nil => exact absurd e (splitL_ne r)
      | cons a t =>
        rw [e, List.map_cons, lenSum_cons, len_mS] at ih
        show lenSum (mS (c :: a) :: t.map mS) = _
        rw [lenSum_cons, len_mS, List.length_cons, List.length_cons]
        omega
theorem raw_split {M : Str} {p q : UInt8} (hM : MarkOk M p q) (n : Int) : lenSum (Txt.split (restOf (rawN p q n)) (Str.ofString "/")) ≤ 70000 := by
  have hrl : (restOf (rawN p q n)).length ≤ (rawN p q n).length := by unfold restOf; split <;> first | exact Nat.le_refl _ | (split <;> exact PySem.Txt.slice_le _ _ _)
  have h2 := raw_len hM n
  rw [split_eq, splitL_sum, ← len_tL]
  omega
/-- what stands behind a word of the line: nothing, or a blank and the rest -/
noncomputable def tailL : Option (List Nat) → List Nat
  | none => []
  | some r => 32 :: r
noncomputable def endL (tok : List Nat) (q : Bool) : Option (List Nat) → List Nat × Bool × Bool × List Nat
  | none => (tok, q, true, [])
  | some r => (tok, q, false, r)
theorem wd_end (tok : List Nat) (q : Bool) (h : ¬ (tok = [] ∧ q = false)) : ∀ t, lexRun (tailL t) .wd tok q = some (endL tok q t)
  | none => rfl
  | some r => by
    show lexRun (32 :: r) .wd tok q = _
    unfold lexRun
    rw [if_pos rfl, if_neg h]
    rfl
theorem safe_ne {c : Nat} (h : safeC c = true) : c ≠ 32 ∧ c ≠ 39 ∧ c ≠ 34 := by
  refine ⟨?_, ?_, ?_⟩ <;> (rintro rfl; revert h; decide)
theorem wd_safe : ∀ (cs tok : List Nat) (q : Bool) (t : List Nat), (∀ c ∈ cs, safeC c = true) → lexRun (cs ++ t) .wd tok q = lexRun t .wd (tok ++ cs) q
  | [], tok, q, t, _ => by rw [List.append_nil]; rfl
  | c :: cs, tok, q, t, h => by
    have hc := h c (.head _)
    obtain ⟨a1, a2, a3⟩ := safe_ne hc
    show lexRun (c :: (cs ++ t)) .wd tok q = _
    rw [lexRun, if_neg a1, if_neg a2, if_neg a3, if_pos hc, wd_safe cs _ q t fun x hx => h x (.tail _ hx), List.append_assoc]
    rfl
theorem sq_rep : ∀ (cs tok : List Nat) (q : Bool) (t : List Nat), lexRun (repL cs ++ 39 :: t) .sq tok q = lexRun t .wd (tok ++ cs) true
  | [], tok, q, t => by rw [List.append_nil]; show lexRun (39 :: t) .sq tok q = _; rw [lexRun, if_pos rfl]
  | c :: cs, tok, q, t => by
    show lexRun ((repS c ++ repL cs) ++ 39 :: t) .sq tok q = _
    unfold repS
    by_cases h : c = 39
    · subst h
      rw [if_pos rfl]
      show lexRun (39 :: 34 :: 39 :: 34 :: 39 :: (repL cs ++ 39 :: t)) .sq tok q = _
      rw [lexRun, if_pos rfl, lexRun, if_neg (by decide), if_neg (by decide), if_pos rfl, lexRun, if_neg (by decide), if_pos rfl, lexRun, if_pos rfl, lexRun, if_neg (by decide), if_pos rfl, sq_rep cs, List.append_assoc]
      rfl
    · rw [if_neg h]
      show lexRun (c :: (repL cs ++ 39 :: t)) .sq tok q = _
      rw [lexRun, if_neg h, sq_rep cs, List.append_assoc]
      rfl
/-- a quoted text is read back -/
theorem lex_quote (x : Str) (t : Option (List Nat)) : ∃ q, lexRun (tL (quoteOf x) ++ tailL t) .sp [] false = some (endL (tL x) q t) ∧ ¬ (tL x = [] ∧ q = false) := by
  unfold quoteOf
  split
  · rename_i h
    have e : tL x = [] := List.length_eq_zero_iff.mp (by rw [← len_tL]; exact h)
    refine ⟨true, ?_, fun q => by cases q.2⟩
    have e2 : tL (Str.ofString "''") = [39, 39] := by decide +kernel
    rw [e, e2]
    show lexRun (39 :: 39 :: tailL t) .sp [] false = _
    rw [lexRun, if_pos rfl, lexRun, if_pos rfl]
    exact wd_end [] true (fun q => by cases q.2) t
  · rename_i h
    split
    · rename_i hs
      have hall : ∀ c ∈ tL x, safeC c = true := by
        unfold Qr.allSafe at hs
        exact fun c hc => List.all_eq_true.mp hs c hc
      cases e : tL x with
      | nil => exact absurd (by rw [len_tL, e]; rfl) h
      | cons c cs =>
        rw [e] at hall
        have hc := hall c (.head _)
        refine ⟨false, ?_, fun q => by cases q.1⟩
        show lexRun (c :: (cs ++ tailL t)) .sp [] false = _
        rw [lexRun, if_neg (safe_ne hc).2.1, if_pos hc, wd_safe cs _ _ _ fun y hy => hall y (.tail _ hy)]
        exact wd_end (c :: cs) false (fun q => by cases q.1) t
    · refine ⟨true, ?_, fun q => by cases q.2⟩
      have hr := rep_form x
      unfold repQ at hr
      rw [tL_app, tL_app, hr, s_ap]
      show lexRun (39 :: ((repL (tL x) ++ [39]) ++ tailL t)) .sp [] false = _
      rw [lexRun, if_pos rfl, List.append_assoc]
      show lexRun (repL (tL x) ++ 39 :: tailL t) .sq [] false = _
      rw [sq_rep]
      exact wd_end (tL x) true (fun q => by cases q.2) t
theorem lex_join : ∀ (x : Str) (xs : List Str), LexLine (tL (Str.join (Str.ofString " ") ((x :: xs).map quoteOf))) ((x :: xs).map tL)
  | x, [] => by
    obtain ⟨q, e, h⟩ := lex_quote x none
    rw [show tL (quoteOf x) ++ tailL none = tL (quoteOf x) from List.append_nil _] at e
    exact .last e h
  | x, y :: xs => by
    obtain ⟨q, e, h⟩ := lex_quote x (some (tL (Str.join (Str.ofString " ") ((y :: xs).map quoteOf))))
    have e2 : tL (Str.join (Str.ofString " ") ((x :: y :: xs).map quoteOf)) = tL (quoteOf x) ++ tailL (some (tL (Str.join (Str.ofString " ") ((y :: xs).map quoteOf)))) := by
      show tL (quoteOf x ++ Str.ofString " " ++ Str.join (Str.ofString " ") ((y :: xs).map quoteOf)) = _
      have e3 : tL (Str.ofString " ") = [32] := by decide +kernel
      rw [tL_app, tL_app, e3, List.append_assoc]
      rfl
    rw [e2]
    exact .more e h (lex_join y xs)
theorem line_lex {p q : UInt8} (ks : List Int) (h : ks ≠ []) : LexLine (Txt.join (Str.ofString " ") (ks.map (qtN p q))).cps.toList (ks.map fun n => (rawN p q n).cps.toList) := by
  cases ks with
  | nil => exact absurd rfl h
  | cons k ks =>
    have z := lex_join (rawN p q k) (ks.map (rawN p q))
    rw [← List.map_cons (f := rawN p q), List.map_map, List.map_map] at z
    show LexLine (tL (Builtin.Str.glued (Str.ofString " ") ((k :: ks).map (qtN p q)))) _
    rw [StrLaws.glued_eq_join]
    exact z
end Mine
end
section
open PySem PySem.W PyProof.Rows PySem.Spec PySem.Calls
namespace Mine
theorem split_use {w : World} {M : Str} {pa qa : UInt8} {ks : List Int} {t : Tok} {p : Program} {loose : List Str} {mean : ExcName → Option Value} {mg mb : Str → Option Value} {dp un : Nat} {gd : Option (List Code)} {cn : Str} {sn : List (Str × NameKind)} {sg sc : Bool} {sm : List (Str × Const)} {a : Addr} {ccd : Value} {cl : List (Str × Addr)}
    {A₀ : Around} {base h₀ : Heap} {L : Addr} {m : Str → Option Value} {news : List (Addr × Obj)} {s : Shared} {Q E : Value → Shared → Prop}
    (hM : MarkOk M pa qa) (hk : ks ≠ []) (hkl : ks.length ≤ 6)
    (B : Below A₀ base [] h₀) (F : Fr h₀ L s.heap m) (X : (Mine.hd.heap_1 w.params).In h₀) (N : News h₀ L s.heap news) (T : Top p loose mean mg mb h₀) (hd : dp + 15 < recursionLimit) (hu : un + 8 * 15 < cLine)
    (h : ∀ l arr c h' tk', StrsAre arr.toList (ks.map (rawN pa qa)) → AllNe l news → Fr h₀ L h' m → News h₀ L h' ((l, W.listOf arr c) :: news) → Q (.ref l) { s with heap := h', toks := tk' }) :
    wpAny (model PySem.Challenge.rw_ik0089_01.prog w) (ktrTop dp un gd cn ⟨.function, sn, sg, sc, sm⟩ L a ccd cl []) (call (.ref 896) [.str (Txt.join (Str.ofString " ") (ks.map (qtN pa qa))) t] []) Q E s := by
  refine CtS.use (ct_split _ t _ (line_len hM ks hkl) (line_lex ks hk) (by rw [List.length_map]; omega)) B F X N T hd hu fun r h' tk' hp mk ne F' N' => ?_
  obtain ⟨l, acc, c, rfl, hm, hi⟩ := hp
  have hs := strs_of_items hi
  rw [List.map_map] at hs
  exact h l acc c h' tk' hs (allNe_of (ne hm.2)) F' (mk hm.1 hm.2)
theorem eq_strs {prog : Program} {w : World} {A : Around} {E : Value → Shared → Prop} {s : Shared} {h₀ : Heap} {L l b : Addr} {news : List (Addr × Obj)} {its its2 : Array Value} {n n2 : Nat} {xs : List Str} {Q : Value → Shared → Prop} (N : News h₀ L s.heap news) (h1 : (l, W.listOf its n) ∈ news) (h2 : (b, W.listOf its2 n2) ∈ news) (d1 : StrsAre its.toList xs) (d2 : StrsAre its2.toList xs) (hu : A.units < cLine) (h : Q (.bool true) s) :
    wpAny (model prog w) A (compareOp .Eq (.ref l) (.ref b)) Q E s := eq_dats N h1 h2 (.ofStrs d1) (.ofStrs d2) hu h
section
variable {h₀ h : Heap} {L : Addr}
theorem pickD {l d5 d4 c3 d3 c2 d2 c1 : Addr × Obj} {r : List (Addr × Obj)} (N : News h₀ L h (l :: d5 :: d4 :: c3 :: d3 :: c2 :: d2 :: c1 :: r)) : ∃ base, base = [l, d4, c2, d2, c1] ∧ News h₀ L h (base ++ r) :=
  ⟨_, rfl, news_sub N (List.forall_mem_cons.mpr ⟨.head _, List.forall_mem_cons.mpr ⟨.tail _ (.tail _ (.head _)), List.forall_mem_cons.mpr ⟨.tail _ (.tail _ (.tail _ (.tail _ (.tail _ (.head _))))), List.forall_mem_cons.mpr ⟨.tail _ (.tail _ (.tail _ (.tail _ (.tail _ (.tail _ (.head _)))))), List.forall_mem_cons.mpr ⟨.tail _ (.tail _ (.tail _ (.tail _ (.tail _ (.tail _ (.tail _ (.head _))))))), fun p hp => .tail _ (.tail _ (.tail _ (.tail _ (.tail _ (.tail _ (.tail _ (.tail _ hp)))))))⟩⟩⟩⟩⟩)⟩
theorem news_split6 {a b c d e f : Addr × Obj} {r : List (Addr × Obj)} (N : News h₀ L h (a :: b :: c :: d :: e :: f :: r)) : ∃ base, base = [a, b, c, d, e, f] ∧ News h₀ L h (base ++ r) := ⟨_, rfl, N⟩
end
theorem all2_map {nw : List (Addr × Obj)} {f : Int → List Dat} {vs : List Value} {ks : List Int} (h : All2 (fun v n => DatAt nw v (f n)) vs ks) : All2 (DatAt nw) vs (ks.map f) := by
  induction h with
  | nil => exact .nil
  | cons x _ ih => exact .cons x ih
end Mine
end
section
namespace Mine
local macro_rules | `(tactic| walk_at "call ref") => `(tactic| (k_dflt (first | refine Ct.useX (ct_name _ (by with_reducible assumption) _ _ _ _) ?_ | refine Ct.useX (ct_quote _ _ (by with_reducible assumption) (by with_reducible assumption)) ?_ | refine Ct.useX (ct_normpath _ _ (by with_reducible assumption) (by with_reducible assumption)) ?_); intros; (try k_fold)))
local macro_rules | `(tactic| walk_at "call ref") => `(tactic| (k_dflt (first | refine Ct.useL (ct_rows _ _) ?_ | refine Ct.useL (ct_apart _ _ _ _ _ _ _ (by with_reducible assumption) (by with_reducible assumption) (by with_reducible assumption) (by with_reducible assumption)) ?_); intro l9 its9 c9 h9 tk9 hr9 hm9 F9 N9; (try simp only [AllNe, and_true] at hm9); (try k_fold)))
set_option linter.unusedVariables false
section
variable {prog : Program} {w : World} {A : Around} {E : Value → Shared → Prop} {s : Shared} {h₀ : Heap} {L D : Addr} {m : Str → Option Value} {news : List (Addr × Obj)} {its : Array Value} {n : Nat} {value slice : Expr} {Q : Value → Shared → Prop}
/-- the marks' place in the list of three -/
theorem item_marks {k : Int} {u t0 t1 t2 : Tok} (N : News h₀ L s.heap news) (hm : (D, W.listOf #[.str mkT0 t0, .str mkT1 t1, .str mkT2 t2] n) ∈ news) (h0 : 0 ≤ k) (h1 : k < 3)
    (h : ∀ M p q t, MarkOk M p q → Q (.str M t) s) (hs : subscripted slice false (.ref D) (.int k u) = operate [.ref D, .int k u] (getItem (.ref D) (.int k u))) :
    wpAny (model prog w) A (subscriptTail value slice (.ref D) (.int k u)) Q E s := by
  have hl : s.heap.IsList D #[.str mkT0 t0, .str mkT1 t1, .str mkT2 t2] := ⟨_, (N _ hm).1, rfl, n, rfl⟩
  have hk : k = 0 ∨ k = 1 ∨ k = 2 := by omega
  rcases hk with rfl | rfl | rfl
  · exact tail_any hl.typeIs slot_list_getitem.lookup (wpAny_getItem_list hl (k := 0) (by decide) (by decide) (x := .str mkT0 t0) rfl (h _ _ _ _ .m0)) hs
  · exact tail_any hl.typeIs slot_list_getitem.lookup (wpAny_getItem_list hl (k := 1) (by decide) (by decide) (x := .str mkT1 t1) rfl (h _ _ _ _ .m1)) hs
  · exact tail_any hl.typeIs slot_list_getitem.lookup (wpAny_getItem_list hl (k := 2) (by decide) (by decide) (x := .str mkT2 t2) rfl (h _ _ _ _ .m2)) hs
end
local macro_rules | `(tactic| walk_at "subscriptTail") => `(tactic| ((with_reducible show wpAny _ _ (subscriptTail _ _ (Value.ref _) (Value.int (Int.fmod _ 3) _)) _ _ _); k_dflt (refine item_marks (by k_asm) (by k_mem) (by exact Int.fmod_nonneg_of_pos _ (by decide)) (by exact Int.fmod_lt_of_pos _ (by decide)) ?_ (by with_unfolding_all rfl); k_whole); intros))
local macro_rules | `(tactic| walk_at "storeName") => `(tactic| (k_dflt (refine storeX_C (by k_asm) (by k_asm) (by rfl) (UpdF.head (by with_reducible assumption)) (by k_asm) ?_ (by rfl) (by rfl); k_whole); intros; (try dsimp only at N'); (try k_sweep)))
local macro_rules | `(tactic| walk_at "getMethod str") => `(tactic| ((with_reducible show wpAny _ _ (getMethod _ (PySem.Str.ofString "encode") _) _ _ _); k_dflt (refine Tr.methodE ?_)))
local macro_rules | `(tactic| walk_at "call builtin:str.encode") => `(tactic| (k_dflt (refine Tr.encodeA (MarkOk.enc (by with_reducible assumption)) (by exact Nat.le_of_ble_eq_true rfl) ?_); intros))
local macro_rules | `(tactic| walk_at "call builtin:bytes.decode") => `(tactic| (k_dflt (refine name_decode (by with_reducible assumption) (by with_reducible assumption) ?_); intros))
local macro_rules | `(tactic| walk_at "subscriptTail") => `(tactic| ((with_reducible show wpAny _ _ (subscriptTail _ _ (Value.ref _) (Value.int _ _)) _ _ _); k_dflt (refine item_at (by k_asm) (by k_mem) (by with_reducible assumption) (Int.zero_add _) (by with_reducible assumption) ?_ (by with_unfolding_all rfl); k_whole)))
local macro_rules | `(tactic| walk_at "call ref") => `(tactic| (k_dflt (refine raws_use (by with_reducible assumption) names_two names_len (sl_in _).1 (sl_in _).2 (up_in _).1 (up_in _).2 (by k_asm) (by k_asm) (by k_asm) (by k_asm) (by k_asm) (by k_mem) (by ktr_room) (by ktr_units) ?_; intros; (try k_sweep); (try k_fold))))
local macro_rules | `(tactic| walk_at "call ref") => `(tactic| (k_dflt (refine split_use (by with_reducible assumption) (by with_reducible assumption) (by with_reducible assumption) (by k_asm) (by k_asm) (by k_asm) (by k_asm) (by k_asm) (by ktr_room) (by ktr_units) ?_); intro l9 arr9 c9 h9 tk9 hs9 hm9 F9 N9; (try simp only [AllNe, and_true] at hm9); (try k_sweep); (try k_fold)))
local macro_rules | `(tactic| walk_at "call ref") => `(tactic| (k_dflt (refine due_use (by with_reducible assumption) (by k_asm) (by k_asm) (by k_asm) (by k_asm) (by k_asm) (by k_mem) (by ktr_room) (by ktr_units) ?_); intro l9 arr9 c9 h9 tk9 hs9 hm9 F9 N9; (try simp only [AllNe, and_true] at hm9); (try k_sweep); (try k_fold)))
local macro_rules | `(tactic| walk_at "compareOp Eq ref ref") => `(tactic| (refine Halt.go ?_))
local macro_rules | `(tactic| walk_at "compareOp Eq ref ref") => `(tactic| (k_dflt (refine eq_strs (by k_asm) (by k_mem) (by k_mem) (by with_reducible assumption) (by with_reducible assumption) (by ktr_units) ?_)))
theorem len_line {l : List Value} {n : Nat} (h : l.length = n) (h6 : n ≤ 6) : l.toArray.size ≤ sizeLine := by rw [List.size_toArray, sizeLine_eq]; omega
theorem sz_line {a n : Nat} (h : a = n) (h6 : n ≤ 6) : a ≤ sizeLine := by rw [sizeLine_eq]; omega
theorem rng_lt {i n : Nat} (h : i < ((n : Int) - 0).toNat) : i < n := by omega
theorem rng_ge (n : Nat) : n ≤ ((n : Int) - 0).toNat := by omega
theorem rng_line {n : Nat} (h : n ≤ 6) : ((n : Int) - 0).toNat ≤ sizeLine := by rw [sizeLine_eq]; omega
theorem int_lo (n : Nat) : -2 ^ 62 ≤ (n : Int) := by omega
theorem int_hi {n : Nat} (h : n ≤ 6) : (n : Int) < 2 ^ 62 := by omega
theorem q_sum {a n : Nat} (h : a ≤ 158 * n) (h6 : n ≤ 6) : a ≤ 70000 := by omega
theorem ct_law {w : World} (sl : Addr) (vs : List Value) (ns : List Int) (hI : IntsAre vs ns) {p : Program} {loose : List Str} {mean : ExcName → Option Value} {mg mb : Str → Option Value} (s : Shared) (R : Result → Shared → Prop) (hl : s.heap.IsList sl vs.toArray) (hlen : ns.length ≤ 63)
    (X : (Mine.hd.heap_1 w.params).In s.heap) (T : Top p loose mean mg mb s.heap) (hR : ∀ h' tk', (∀ b o, s.heap.get? b = some o → h'.get? b = some o) → R (.ok (.ret (.bool true))) { s with heap := h', toks := tk' }) :
    codeAny (model PySem.Challenge.rw_ik0089_01.prog w) callerA (.call (.ref 938) ⟨[.ref sl], []⟩) R s := by
  revert X
  k_fill
  intro X
  refine' code_topC X T ?kA ?k6 ?k8 ?k9 ?kB ?kD ?_ ?c2 ?c3 ?c4
  case kA => exact rfl
  case k6 => k_is
  case k8 => decide
  case k9 => (first | exact BindsTo.of_eq rfl | exact binds_K (by k_in) rfl (by k_is) rfl rfl rfl | (refine' kp_binds ?kx ?ke; (case kx => k_in); (case ke => exact fun _ => rfl)))
  case kB => exact rfl
  case kD => decide +kernel
  case c2 => exact rfl
  case c3 => exact rfl
  case c4 => exact rfl
  k_whole
  intro L' h' tk' cells' eL F' N' Y' B'
  k_cells Y'
  (try simp only [List.cons_append, List.nil_append] at N')
  (try dsimp only)
  (try k_fold)
  (try k_fold)
  k_steps
  unfold Halt
  rename Fr _ _ _ _ => F1
  rename News _ _ _ _ => N1
  rename IntsAre _ (_ ++ _) => hI2
  rename MarkOk _ _ _ => hM0
  obtain ⟨pa, qa, ea, eb, hM⟩ := mark_named hM0
  subst ea eb
  clear hM0
  obtain ⟨ks, hks⟩ : ∃ ks, ks = List.take 2 ns ++ [154465330025, 2792, 2, 0] := ⟨_, rfl⟩
  have hkl : ks.length ≤ 6 := by
    rw [hks, List.length_append, List.length_take]
    show _ + 4 ≤ 6
    omega
  have hk0 : ks ≠ [] := by rw [hks]; intro e; cases List.append_eq_nil_iff.mp e with | intro _ e => cases e
  rw [← hks] at hI2
  have hwl := hI2.length
  obtain ⟨base, hb, N3⟩ := news_named (pickA N1)
  clear N1
  refine LCg.CompSrc.ledger rfl F1 N3 (by rw [hb]; exact .head _) (len_line hwl hkl) fun gg => ?_
  refine comp_ind (fun i ys nw => ∃ objs, nw = base ++ objs ∧ NotCell L' objs ∧ All2 (MadeAt objs) ys (ks.take i)) _ ?turn ?fin _ 0 [] _ (Nat.zero_add _) ⟨[], (List.append_nil _).symm, .nil, .nil⟩
  case turn =>
    clear F1 N3
    rintro i v ys nw I oI C oC D m₂ h tk E' hi hP ⟨objs, rfl, hob, hA⟩ hC hx FT NT off ne
    rw [List.getElem?_toArray] at hP
    obtain ⟨n, tn, rfl, hn⟩ := ints_at hI2 i v hP
    have hx : m₂ "x" = some (.int n tn) := hx
    rw [hb] at NT
    simp only [List.cons_append, List.nil_append] at NT
    (try k_fold)
    k_steps
    rename News _ _ _ _ => NE
    unfold Halt
    refine' comp_end (new := [_, _]) ?F ?NE off ?on ?hS ⟨_, rfl, ?ob, ?r⟩
    case NE => (rw [hb]; exact NE)
    case F => k_asm
    case on => exact ⟨⟨by k_ne, by k_ne, by k_ne⟩, ⟨by k_ne, by k_ne, by k_ne⟩, trivial⟩
    case hS => exact .inr ⟨_, List.mem_append_left _ (by rw [hb]; exact .head _), rfl, _, rfl⟩
    case ob => exact .cons (by k_ne) (by k_ne) (by k_ne) (.cons (by k_ne) (by k_ne) (by k_ne) hob)
    case r => exact all2_step hA (fun _ _ h => h.mono fun p hp => .tail _ (.tail _ hp)) hn ⟨_, _, _, _, _, _, _, rfl, .head _, .tail _ (.head _), by with_reducible assumption⟩
  case fin =>
    rintro ys nw ⟨objs, rfl, hob, hA⟩ D2 h2 tk2 F2 N2 off2
    clear F1 N3
    rw [List.take_of_length_le (by rw [List.size_toArray, hwl]; exact Nat.le_refl _)] at hA
    have ho2 := off1_made hb off2
    obtain ⟨N3, hn3⟩ := pickB hb N2 ho2.2.1 hob
    clear N2 off2 hb
    (try k_fold)
    k_steps
    unfold Halt
    rename Fr _ _ _ _ => F4
    rename News _ _ _ _ => N4
    obtain ⟨base2, hb2, N5⟩ := news_split4 N4
    clear N4
    have hyl := hA.length
    refine LCg.CompSrc.ledger rfl F4 N5 (List.mem_append_left _ (by rw [hb2]; exact .tail _ (.head _))) (len_line hyl hkl) fun gg => ?_
    refine comp_ind (fun i zs nw => ∃ ob, nw = base2 ++ ob ∧ NotCell L' ob ∧ (∀ p ∈ objs, p ∈ ob) ∧ All2 (NamesAt pa qa ob) zs (ks.take i)) _ ?turn2 ?fin2 _ 0 [] _ (Nat.zero_add _) ⟨objs, rfl, hob, fun _ h => h, .nil⟩
    case turn2 =>
      clear F4 N5
      rintro i v zs nw I oI C oC D m₂ h tk E' hi hP ⟨ob, rfl, hob2, hsub, hB⟩ hC hx FT NT off ne
      rw [List.getElem?_toArray] at hP
      obtain ⟨n, hn, a, r, its, c, c', ta, tb, rfl, g1, g2, g3⟩ := all2_at hA i v hP
      have hx : m₂ "one" = some (.ref a) := hx
      have NT2 := news_add2 NT (hsub _ g1) (hsub _ g2)
      clear NT
      rw [hb2] at NT2
      simp only [List.cons_append, List.nil_append] at NT2
      (try k_fold)
      k_steps
      unfold Halt
      rename Fr _ _ _ _ => F6
      have hil := g3.length
      have hrl := rows_len (n.fdiv 12)
      rw [Array.length_toList] at hil
      refine LCg.CompSrc.ledger rfl F6 NT2 (.tail _ (.tail _ (.tail _ (.tail _ (.head _))))) (sz_line hil (Nat.le_trans hrl (by decide))) fun gg2 => ?_
      refine comp_ind (fun j us nv => nv = _ ∧ StrsAre us (((rowsOf (n.fdiv 12)).take j).map (nameOf pa qa))) _ ?turn3 ?fin3 _ 0 [] _ (Nat.zero_add _) ⟨rfl, .nil⟩
      case turn3 =>
        clear F6 NT2
        rintro j v us nv I2 oI2 C2 oC2 D3 m3 h3 tk3 E3 hj hP2 ⟨rfl, hU⟩ hC2 hx2 FT2 NT3 off2 ne2
        rw [← Array.getElem?_toList] at hP2
        obtain ⟨row, tr, rfl, hrow⟩ := rows_at g3 j v hP2
        have hrk := row_ok row (List.mem_of_getElem? hrow)
        have hx2 : m3 "row" = some (.bytes (byteArr row) tr) := hx2
        (try k_fold)
        k_steps
        rename News _ _ _ _ => NE
        unfold Halt
        refine' LCg.CompEnd.intro ?F NE _ (fun _ hp => hp) off2 ?hS ⟨rfl, ?r⟩
        case F => k_asm
        case hS => exact .inr ⟨_, .tail _ (.tail _ (.tail _ (.tail _ (.head _)))), rfl, _, rfl⟩
        case r => (rw [take_succ' hrow, List.map_append]; exact strs_snoc hU (.cons _ _ .nil))
      case fin3 =>
        rintro us nv ⟨rfl, hU⟩ D3 h3 tk3 F7 N7 off2
        clear F6 NT2
        rw [List.take_of_length_le (Nat.le_of_eq hil.symm)] at hU
        simp only [LCg.Off1] at off2
        (try k_fold)
        k_steps
        unfold Halt
        refine' comp_end (new := [(D3, LCg.lst us)]) ?F ?NE off ?on ?hS ⟨_, rfl, ?ob, ?sub, ?r⟩
        case NE => (rw [hb2]; exact news_drop2 N7)
        case F => k_asm
        case on => exact ⟨⟨Ne.symm off2.1, Ne.symm off2.2.1, Ne.symm off2.2.2.1⟩, trivial⟩
        case hS => exact .inr ⟨_, List.mem_append_left _ (by rw [hb2]; exact .tail _ (.head _)), rfl, _, rfl⟩
        case ob => exact .cons (by k_ne) (by k_ne) (by k_ne) hob2
        case sub => exact fun p hp => .tail _ (hsub p hp)
        case r => exact all2_step hB (fun _ _ h => h.mono fun p hp => .tail _ hp) hn ⟨_, us.toArray, _, rfl, .head _, hU⟩
    case fin2 =>
      rintro zs nw ⟨ob, rfl, hob2, hsub, hB⟩ D3 h3 tk3 F7 N7 off2
      clear F4 N5
      rw [List.take_of_length_le (by rw [List.size_toArray, hyl]; exact Nat.le_refl _)] at hB
      have ho3 := off1_made2 (d := (D3, LCg.lst zs)) hb2 off2
      obtain ⟨N8, hn8⟩ := pickC hb2 N7 ho3 ho2.1 hob2
      clear N7 off2 hb2
      have hzl := hB.length
      have hyz : ys.toArray.size = ks.length := by rw [List.size_toArray]; exact hyl
      (try k_fold)
      k_steps
      unfold Halt
      rename IsRange _ _ _ _ _ _ _ _ => rg
      rename Fr _ _ _ _ => F9
      rename News _ _ _ _ => N9
      obtain ⟨base3, hb3, N10⟩ := news_split5 N9
      clear N9
      refine LCg.CompSrc.range rfl F9 N10 rg (small_one (by decide) (by decide) (int_lo _) (int_hi hkl)) (rangeSize_nat _ _) (rng_line hkl) fun gg => ?_
      refine comp_ind (fun i ws nw => nw = base3 ++ ob ∧ StrsAre ws ((ks.take i).map (rawN pa qa))) _ ?turn4 ?fin4 _ 0 [] _ (Nat.zero_add _) ⟨rfl, .nil⟩
      case turn4 =>
        clear F9 N10
        rintro i v ws nw I oI C oC D m₂ h tk E' hi ⟨tv, rfl⟩ ⟨rfl, hU⟩ hC hx FT NT off ne
        have hx : m₂ "k" = some (.int _ tv) := hx
        have hik : i < ks.length := rng_lt hi
        have hn : ks[i]? = some ks[i] := List.getElem?_eq_getElem hik
        generalize ks[i] = n at hn
        obtain ⟨y, hy, a, r, its, c, c', ta, tb, rfl, g1, g2, g3⟩ := hA.at i n hn
        obtain ⟨z, hz, b, nits, cc, rfl, g4, g5⟩ := hB.at i n hn
        have hy : ys.toArray[i]? = some (.ref a) := by rw [List.getElem?_toArray]; exact hy
        have hz : zs.toArray[i]? = some (.ref b) := by rw [List.getElem?_toArray]; exact hz
        have hys : ys.toArray.size ≤ 1000 := Nat.le_trans (Nat.le_of_eq hyz) (Nat.le_trans hkl (by decide))
        have hzs : zs.toArray.size ≤ 1000 := by rw [List.size_toArray, hzl]; exact Nat.le_trans hkl (by decide)
        have NT2 := news_add2 NT (hsub _ g1) g4
        clear NT
        rw [hb3] at NT2
        simp only [List.cons_append, List.nil_append] at NT2
        (try k_fold)
        k_steps
        rename News _ _ _ _ => NE
        unfold Halt
        refine' comp_end (new := []) (objs := ob) ?F ?NE off trivial trivial ⟨rfl, strs_step (f := rawN pa qa) hU hn⟩
        case NE => (rw [hb3]; exact news_drop02 NE)
        case F => k_asm
      case fin4 =>
        rintro ws nw ⟨rfl, hU⟩ D4 h4 tk4 F11 N11 off2
        clear F9 N10
        rw [List.take_of_length_le (rng_ge _)] at hU
        rw [hb3] at N11 off2
        simp only [List.cons_append, List.nil_append] at N11 off2
        simp only [LCg.Off1] at off2
        (try k_fold)
        k_steps
        unfold Halt
        rename Fr _ _ _ _ => F12
        rename News _ _ _ _ => N12
        have hwl2 := hU.length
        rw [List.length_map] at hwl2
        refine LCg.CompSrc.ledger rfl F12 N12 (.head _) (len_line hwl2 hkl) fun gg2 => ?_
        refine comp_ind (fun i us nw => nw = _ ∧ StrsAre us ((ks.take i).map (qtN pa qa))) _ ?turn5 ?fin5 _ 0 [] _ (Nat.zero_add _) ⟨rfl, .nil⟩
        case turn5 =>
          clear F12 N12
          rintro i v us nw I oI C oC D m₂ h tk E' hi hP ⟨rfl, hV⟩ hC hx FT NT off ne
          rw [List.getElem?_toArray] at hP
          obtain ⟨x, tx, rfl, hx2⟩ := strs_at hU i v hP
          rw [List.getElem?_map] at hx2
          obtain ⟨n, hn, rfl⟩ := Option.map_eq_some_iff.mp hx2
          have hx : m₂ "raw" = some (.str (rawN pa qa n) tx) := hx
          have hrl : (rawN pa qa n).length ≤ 1000 := Nat.le_trans (raw_len hM n) (by decide)
          have hrp : (repQ (rawN pa qa n)).length ≤ 4000 := Nat.le_trans (rep_len hM n) (by decide)
          (try k_fold)
          k_steps
          rename News _ _ _ _ => NE
          unfold Halt
          refine' LCg.CompEnd.intro ?F NE _ (fun _ hp => hp) off ?hS ⟨rfl, strs_step (f := qtN pa qa) hV hn⟩
          case F => k_asm
          case hS => exact .inr ⟨_, .head _, rfl, _, rfl⟩
        case fin5 =>
          rintro us nw ⟨rfl, hV⟩ D5 h5 tk5 F13 N13 off3
          clear F12 N12
          rw [List.take_of_length_le (by rw [List.size_toArray]; exact Nat.le_of_eq hwl2.symm)] at hV
          simp only [LCg.Off1] at off3
          have hqs : lenSum (ks.map (qtN pa qa)) ≤ 70000 := q_sum (qts_sum hM ks) hkl
          (try k_fold)
          k_steps
          unfold Halt
          rename Fr _ _ _ _ => F14
          rename News _ _ _ _ => N14
          rename StrsAre _ (List.map (rawN pa qa) ks) => hW
          obtain ⟨base6, hb6, N15⟩ := pickD N14
          clear N14
          have hal := hW.length
          rw [Array.length_toList, List.length_map] at hal
          refine LCg.CompSrc.ledger rfl F14 N15 (List.mem_append_left _ (by rw [hb6]; exact .head _)) (sz_line hal hkl) fun gg => ?_
          refine comp_ind (fun i vs nw => ∃ ob2, nw = base6 ++ ob2 ∧ (∀ p ∈ ob, p ∈ ob2) ∧ All2 (fun v n => DatAt ob2 v (dueN n)) vs (ks.take i)) _ ?turn6 ?fin6 _ 0 [] _ (Nat.zero_add _) ⟨ob, rfl, fun _ h => h, .nil⟩
          case turn6 =>
            clear F14 N15
            rintro i v vs nw I oI C oC D m₂ h tk E' hi hP ⟨ob2, rfl, hsub2, hE⟩ hC hx FT NT off ne
            rw [← Array.getElem?_toList] at hP
            obtain ⟨x, tx, rfl, hx2⟩ := strs_at hW i v hP
            rw [List.getElem?_map] at hx2
            obtain ⟨n, hn, rfl⟩ := Option.map_eq_some_iff.mp hx2
            have hx : m₂ "raw" = some (.str (rawN pa qa n) tx) := hx
            have hrl : (rawN pa qa n).length ≤ 65536 := Nat.le_trans (raw_len hM n) (by decide)
            have hrs := raw_split hM n
            have hml := hM.len
            obtain ⟨front, ps, ds, hch, hpd, hpl, hdn⟩ := apart_ok hM n
            rw [hb6] at NT
            simp only [List.cons_append, List.nil_append] at NT
            (try k_fold)
            k_steps
            rename News _ _ _ _ => NE
            unfold Halt
            refine' comp_end (new := [_]) ?F ?NE off ?on ?hS ⟨_, rfl, ?sub, ?r⟩
            case NE => (rw [hb6]; exact NE)
            case F => k_asm
            case on => exact ⟨⟨by k_ne, by k_ne, by k_ne⟩, trivial⟩
            case hS => exact .inr ⟨_, List.mem_append_left _ (by rw [hb6]; exact .head _), rfl, _, rfl⟩
            case sub => exact fun p hp => .tail _ (hsub2 p hp)
            case r => exact all2_step hE (fun _ _ h => h.mono fun p hp => .tail _ hp) hn ⟨_, _, _, rfl, .head _, hdn ▸ (by with_reducible assumption)⟩
          case fin6 =>
            rintro vs nw ⟨ob2, rfl, hsub2, hE⟩ D6 h6 tk6 F16 N16 off4
            clear F14 N15
            rw [List.take_of_length_le (Nat.le_of_eq hal.symm)] at hE
            rw [hb6] at N16 off4
            simp only [List.cons_append, List.nil_append] at N16 off4
            simp only [LCg.Off1] at off4
            have hU2 : StrsAre ws.toArray.toList (ks.map (rawN pa qa)) := hU
            (try k_fold)
            k_steps
            unfold Halt
            rename Fr _ _ _ _ => F17
            rename News _ _ _ _ => N17
            obtain ⟨base7, hb7, N18⟩ := news_split6 N17
            clear N17
            refine LCg.CompSrc.ledger rfl F17 N18 (List.mem_append_left _ (by rw [hb7]; exact .tail _ (.tail _ (.tail _ (.tail _ (.head _)))))) (len_line hyl hkl) fun gg => ?_
            refine comp_ind (fun i us nw => ∃ ob3, nw = base7 ++ ob3 ∧ (∀ p ∈ ob2, p ∈ ob3) ∧ All2 (fun v n => DatAt ob3 v (dueN n)) us (ks.take i)) _ ?turn7 ?fin7 _ 0 [] _ (Nat.zero_add _) ⟨ob2, rfl, fun _ h => h, .nil⟩
            case turn7 =>
              clear F17 N18
              rintro i v us nw I oI C oC D m₂ h tk E' hi hP ⟨ob3, rfl, hsub3, hG⟩ hC hx FT NT off ne
              rw [List.getElem?_toArray] at hP
              obtain ⟨n, hn, a, r, its, c, c', ta, tb, rfl, g1, g2, g3⟩ := all2_at hA i v hP
              have hx : m₂ "one" = some (.ref a) := hx
              have NT2 := news_add2 NT (hsub3 _ (hsub2 _ (hsub _ g1))) (hsub3 _ (hsub2 _ (hsub _ g2)))
              clear NT
              rw [hb7] at NT2
              simp only [List.cons_append, List.nil_append] at NT2
              (try k_fold)
              k_steps
              rename News _ _ _ _ => NE
              have NE2 := news_drop2 NE
              clear NE
              unfold Halt
              refine' comp_end (new := [_]) ?F ?NE off ?on ?hS ⟨_, rfl, ?sub, ?r⟩
              case NE => (rw [hb7]; exact NE2)
              case F => k_asm
              case on => exact ⟨⟨by k_ne, by k_ne, by k_ne⟩, trivial⟩
              case hS => exact .inr ⟨_, List.mem_append_left _ (by rw [hb7]; exact .tail _ (.tail _ (.tail _ (.tail _ (.head _))))), rfl, _, rfl⟩
              case sub => exact fun p hp => .tail _ (hsub3 p hp)
              case r => exact all2_step hG (fun _ _ h => h.mono fun p hp => .tail _ hp) hn ⟨_, _, _, rfl, .head _, by with_reducible assumption⟩
            case fin7 =>
              rintro us nw ⟨ob3, rfl, hsub3, hG⟩ D7 h7 tk7 F19 N19 off5
              clear F17 N18
              rw [List.take_of_length_le (by rw [List.size_toArray]; exact Nat.le_of_eq hyl.symm)] at hG
              rw [hb7] at N19
              simp only [List.cons_append, List.nil_append] at N19
              (try k_fold)
              k_steps
              unfold Halt
              refine eq_nested N19 (.tail _ (.head _)) (.head _) (fun p hp => .tail _ (.tail _ (.tail _ (.tail _ (.tail _ (.tail _ (.tail _ hp))))))) (all2_map (hE.mono fun _ _ h => h.mono hsub3)) (all2_map hG) (by ktr_units) ?_
              exact hR h7 _ F19.keep

end Mine
end
section
open PySem PySem.W PyProof.Rows PySem.Spec PySem.Calls
theorem PySem.Challenge.cw_ik0089_01_holds : PySem.Challenge.rw_ik0089_01.Holds := by
  refine holds_law Mine.said fun sd => ?_
  refine Mine.head_of sd ?hw _ _ (by rfl) (by rfl) (by rfl) ?hc
  case hw => w_witness2
  intro w s₀ s₁ mg mb G Y fa o pm cd doc dV kV ho hd hcd hD hmg hg args vals as hpre hlay hrd hwl hlo
  refine Ground.open G ?_
  intro T B D TE TW
  w_strict (wrow_args hpre hlay hrd hwl hlo)
  rename Heap.IsList _ _ _ => hl
  rename IntsAre _ _ => hI
  have KX : (Mine.hd.heap_1 w.params).In s₁.heap := Y
  revert KX
  k_fill
  intro KX
  have hfa : fa = 938 := by
    have e := hmg.symm.trans (mg_of (n := Str.ofString "law") (v := .ref 938) KX T.g (by k_is))
    injection (Option.some.inj e)
  subst hfa
  refine enter_call ?_
  refine codeAny_mono ?_ (fun _ _ g => GoodW.toG g)
  refine Mine.ct_law _ _ _ hI s₁ _ hl (by omega) KX T (fun h' tk' keep => ?_)
  refine ⟨.inl ⟨.bool true, .bool true, [], rfl, fun _ => rfl, .bool _, ?_, fun _ => ⟨.nil, fun _ h => nomatch h⟩⟩, keep, rfl, hg⟩
  show (WShape.has [] (.bool true) .bool && WTm.holds [] (.eq .res (.lit (.bool true))) { args := _, res := some (.bool true), after := _ }) = true
  rw [Bool.and_eq_true]
  refine ⟨by decide, ?_⟩
  exact (holdsW_of_value (w_eq_bool (k := true) (l := true) (w_res rfl) w_lit)).trans rfl
end
