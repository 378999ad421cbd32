import PyProof.Rows.All
import Wide.All
import OpenK.AllK
import Wide.FinOn
import PySem.Challenge.RW_ky0010_01
open PySem PySem.W PyProof.Rows
set_option Elab.async false
set_option maxRecDepth 100000
set_option linter.unusedVariables false
set_option maxHeartbeats 8000000
noncomputable section
section
open PySem PySem.W PySem.Calls PyProof.Rows
namespace Mine
noncomputable abbrev pw : Program := PySem.Challenge.rw_ky0010_01.row.toRowW.1
noncomputable abbrev vw : Program := view pw [0, 1, 3, 4, 6, 7, 8, 9, 10, 12, 13, 14, 15, 17, 18, 20, 21, 22, 23, 24]
noncomputable abbrev lw : List Str := ["iteritems", "unichr", "EPSILON", "FSA", "DFA", "count"]
noncomputable def opG {X : Type} (ae : Thread -> Option (List X)) (st : SharedT -> Thread -> Option (SharedT × Thread)) : Nat -> SharedT -> Thread -> Option SharedT
 | 0, _, _ => none
 | n + 1, s, t => match ae t with
  | some [] => some s
  | some (_ :: _) => none
  | none => match st s t with
   | some (s', t') => opG ae st n s' t'
   | none => none
noncomputable def topG (ok : Thread -> Bool) (st : SharedT -> Thread -> Option (SharedT × Thread)) : Nat -> SharedT -> Thread -> Option SharedT
 | 0, _, _ => none
 | n + 1, s, t => match through t with
  | true => some s
  | false => match ok t with
   | false => none
   | true => match st s t with
    | some (s', t') => topG ok st n s' t'
    | none => none
noncomputable def ofL : List Obj -> BT -> Nat -> Option (BT × Nat)
 | [], t, n => some (t, n)
 | o :: l, t, n => match ((t.ins n o).get n).isSome with
  | true => ofL l (t.ins n o) (n + 1)
  | false => none
theorem opG_of {p : Program} {w : World} : ∀ {n : Nat} {s s' : SharedT} {t : Thread}, opG Thread.atExitBegin (stepT (denote treeTable) p w) n s t = some s' -> importEnds treeTable p w n s.abs t = some s'.abs
 | 0, _, _, _, h => by cases h
 | n + 1, s, s', t, h => by
  unfold opG at h;unfold importEnds;cases he : t.atExitBegin with
  | some l => rw [he] at h; cases l with
   | nil => cases h; rfl
   | cons => cases h
  | none =>
   rw [he] at h;cases hs : stepT (denote treeTable) p w s t with
   | none => rw [hs] at h; cases h
   | some r => obtain ⟨s₂, t₂⟩ := r; rw [hs] at h; dsimp only; rw [stepT_spec hs]; exact opG_of h
theorem topG_of {p : Program} {w : World} {n₀ : Nat} {ann : Option Value} : ∀ {n : Nat} {s s' : SharedT} {t : Thread}, topG (stepOk n₀ ann) (stepT (denote treeTable) p w) n s t = some s' -> topRun treeTable p w n₀ ann n s.abs t = some s'.abs
 | 0, _, _, _, h => by cases h
 | n + 1, s, s', t, h => by
  unfold topG at h;unfold topRun;cases he : through t with
  | true => rw [he] at h; cases h; rfl
  | false =>
   rw [he] at h;cases hk : stepOk n₀ ann t with
   | false => rw [hk] at h; cases h
   | true =>
    rw [hk] at h;cases hs : stepT (denote treeTable) p w s t with
    | none => rw [hs] at h; cases h
    | some r => obtain ⟨s₂, t₂⟩ := r; rw [hs] at h; dsimp only; rw [stepT_spec hs]; exact topG_of h
theorem ofL_of {life : Life} : ∀ (l : List Obj) (t : BT) (n : Nat) (t' : BT) (n' : Nat), ofL l t n = some (t', n') -> absHeap t' n' life = ⟨(absHeap t n life).objs ++ l.toArray, life⟩
 | [], t, n, t', n', h => by cases h; simp [absHeap]
 | o :: l, t, n, t', n', h => by
  unfold ofL at h;cases hg : ((t.ins n o).get n).isSome with
  | false => rw [hg] at h; cases h
  | true =>
   rw [hg] at h;have e := ofL_of (life := life) l _ _ t' n' h;rw [e, absHeap_ins hg];simp [Heap.push]
noncomputable def bigG {X : Type} (ae : Thread -> Option (List X)) (st : Program -> SharedT -> Thread -> Option (SharedT × Thread)) (fence : Program -> Shared -> Option Shared) (ok : Nat -> Option Value -> Thread -> Bool) (n1 n2 : Nat) (p : Program) (t0 : Thread) (os : OsState) : Option (Shared × SharedT) :=
 match opG ae (st (opening p)) n1 ⟨.nil, 0, {}, #[], {}, 1, os⟩ t0 with
 | none => none
 | some S => match fence p S.abs with
  | none => none
  | some s₀ => match ofL s₀.heap.objs.toList .nil 0 with
   | none => none
   | some (t, n) => match topG (ok n (s₀.heap.nsMap mainGlobals "__annotations__")) (st p) n2 ⟨t, n, s₀.heap.life, s₀.gens, s₀.drawn, s₀.toks, s₀.os⟩ (topStub p) with
    | none => none
    | some S₁ => some (s₀, S₁)
theorem left_of {q : Program} {loose : List Str} {Xt : Shared -> Bool} {α : Type} {Yf : Shared -> α} {Ya : World -> α} {p : Program} (n1 n2 N : Nat) (hN : n1 + n2 = N)
  (h0 : (start (opening p)).1 = SharedT.abs ⟨.nil, 0, {}, #[], {}, 1, (start (opening p)).1.os⟩)
  (h : ∀ w os, (bigG Thread.atExitBegin (fun p => stepT (denote treeTable) p w) fenceModules? stepOk n1 N p (start (opening p)).2 os).map (fun x =>
   (x.1.heap.isNs mainGlobals && x.1.gens.size == 0, staticsOk (importedModules p.main.body) x.1.heap x.2.abs.heap && namesBound p x.2.abs.heap && gensDone x.2.abs && laidKept x.1.heap x.2.abs.heap,
    openSeen q loose (importedModules p.main.body) Xt true x.2.abs, Yf x.2.abs)) = some (true, true, openGood q loose, Ya w)) : LeftO p q loose Xt Yf Ya N := fun w => by
 obtain ⟨⟨s₀, S₁⟩, e, x⟩ := Option.map_eq_some_iff.mp (h w (start (opening p)).1.os);dsimp only at x;simp only [Prod.mk.injEq] at x;obtain ⟨x1, x2, x3, x4⟩ := x;unfold bigG at e;cases e1 : opG Thread.atExitBegin (stepT (denote treeTable) (opening p) w) n1 ⟨.nil, 0, {}, #[], {}, 1, (start (opening p)).1.os⟩ (start (opening p)).2 with
 | none => rw [e1] at e; cases e
 | some S =>
  rw [e1] at e;dsimp only at e;have i := importEnds_mono n2 _ _ _ _ (opG_of e1);rw [← h0, hN] at i;cases e2 : fenceModules? p S.abs with
  | none => rw [e2] at e; cases e
  | some s₀' =>
   rw [e2] at e;dsimp only at e;cases e3 : ofL s₀'.heap.objs.toList .nil 0 with
   | none => rw [e3] at e; cases e
   | some tn =>
    obtain ⟨t, n⟩ := tn;rw [e3] at e;dsimp only at e;have a := ofL_of (life := s₀'.heap.life) _ _ _ _ _ e3;have b : absHeap t n s₀'.heap.life = s₀'.heap := by
     rw [a];show Heap.mk _ _ = _;have : (absHeap BT.nil 0 s₀'.heap.life).objs = #[] := rfl;rw [this, Array.empty_append]
    have hn : n = s₀'.heap.objs.size := by rw [← b, absHeap_size]
    cases e4 : topG (stepOk n (s₀'.heap.nsMap mainGlobals "__annotations__")) (stepT (denote treeTable) p w) N ⟨t, n, s₀'.heap.life, s₀'.gens, s₀'.drawn, s₀'.toks, s₀'.os⟩ (topStub p) with
    | none => rw [e4] at e; cases e
    | some S₁' =>
     rw [e4] at e;cases e;have r := topG_of e4;have hs : (⟨t, n, s₀.heap.life, s₀.gens, s₀.drawn, s₀.toks, s₀.os⟩ : SharedT).abs = s₀ := by
      show Shared.mk (absHeap t n s₀.heap.life) _ _ _ _ = _;rw [b]
     rw [hs, hn] at r;unfold openEnds fencedOpening;rw [i];show Option.map _ (Option.bind (fenceModules? p S.abs) _) = _;rw [e2];show Option.map _ (topFrom treeTable p w N s₀) = _;unfold topFrom;rw [x1];dsimp only;rw [r];show Option.map _ (match staticsOk (importedModules p.main.body) s₀.heap S₁.abs.heap && namesBound p S₁.abs.heap && gensDone S₁.abs && laidKept s₀.heap S₁.abs.heap with | true => some S₁.abs | false => none) = _;rw [x2];show some (_, _) = _;rw [x3, x4]
noncomputable def kN : List Stmt -> Nat -> Stmt
 | [], _ => .Pass ⟨0, 0, 0, 0⟩
 | s :: _, 0 => s
 | _ :: r, n + 1 => kN r n
noncomputable def kT (i : Nat) : Stmt := kN pw.main.body i
noncomputable def kC : Stmt -> List Stmt
 | .ClassDef _ _ _ b .. => b
 | _ => []
noncomputable def kM (i j : Nat) : Stmt := kN (kC (kT i)) j
noncomputable def kP : Stmt -> Arguments
 | .FunctionDef _ a .. => a
 | .Assign _ (.Lambda a ..) _ => a
 | _ => ⟨[], [], none, [], [], none, []⟩
noncomputable def kB : Stmt -> List Stmt
 | .FunctionDef _ _ b .. => b
 | _ => []
noncomputable def kE : Stmt -> Expr
 | .Assign _ (.Lambda _ b ..) _ => b
 | _ => .Constant .none 0 ⟨0, 0, 0, 0⟩
noncomputable def kS : Stmt -> Scope
 | .FunctionDef _ _ _ _ _ _ s .. => s
 | .Assign _ (.Lambda _ _ s _) _ => s
 | _ => { kind := .function, names := [], isGenerator := false, isCoroutine := false, more := [] }
noncomputable def dE (P : Params) (k : Str) (t : Tok) (v : Value) : DictEntry := ⟨PyData.keyHash P k, .str k t, v⟩
noncomputable def fO (n q : Str) (s : Stmt) (d m : Value) (c : Addr) : Obj := { cls := .type "function", data := .func { name := n, qualname := q, params := kP s, body := .stmts (kB s), scope := kS s, globals := 3, closure := [], defaults := d, kwdefaults := .none, pyModule := m, code := .ref c } }
noncomputable def fL (n q : Str) (s : Stmt) (d m : Value) (c : Addr) : Obj := { cls := .type "function", data := .func { name := n, qualname := q, params := kP s, body := .expr (kE s), scope := kS s, globals := 3, closure := [], defaults := d, kwdefaults := .none, pyModule := m, code := .ref c } }
noncomputable def cO (l : List Value) : Obj := { cls := .type "code", data := .fields l.toArray }
noncomputable def tO (l : List Value) : Obj := { cls := .type "tuple", data := .seq l.toArray }
noncomputable def K0 (P : Params) : Frag := [
(3, { cls := .type "dict", data := .dict #[dE P "__name__" 165 (.str "law_ky0010_01" 837), dE P "__doc__" 166 .none, dE P "__package__" 167 .none, dE P "__loader__" 168 (.builtin "__main__.__loader__#opaque"), dE P "__spec__" 169 .none, dE P "__annotations__" 170 (.ref 6), dE P "__builtins__" 171 (.ref 4), dE P "__file__" 173 (.str "/claim/cut.py" 172), dE P "__cached__" 174 .none, dE P "bisect_left" 306 (.builtin "_bisect.bisect_left"), dE P "_wall" 319 (.ref 49), dE P "iteritems" 328 (.ref 56), dE P "unichr" 329 (.builtin "chr"), dE P "Marker" 367 (.ref 80), dE P "EPSILON" 373 (.ref 86), dE P "FSA" 530 (.ref 204), dE P "DFA" 661 (.ref 304), dE P "DMNode" 714 (.ref 344), dE P "_MAXSIZE" 718 (.int 9223372036854775807 717), dE P "_is_int" 726 (.ref 355), dE P "_count_kind" 734 (.ref 362), dE P "count" 799 (.ref 403), dE P "strings_dfa" 818 (.ref 415), dE P "add_suffix" 836 (.ref 422), dE P "_law_word" 848 (.ref 429), dE P "_law_state" 858 (.ref 436), dE P "_law_refused" 865 (.ref 443), dE P "_law_ascend" 874 (.ref 450), dE P "law" 880 (.ref 455)] 29 }),
(48, cO [.str "_wall" 313, .str "_wall" 314, .str "/claim/cut.py" 315, .int 2 0, .int 1 0, .int 0 0, .int 0 0, .int 3 0, .ref 43, .bool true, .int 307 0, .ref 44, .none, .ref 45, .ref 46, .ref 47, .int 317 0, .int 2 0, .str "/claim/cut.py" 318]),
(49, fO "_wall" "_wall" (kT 1) .none (.str "__main__" 164) 48),
(55, cO [.str "<lambda>" 322, .str "<lambda>" 323, .str "/claim/cut.py" 324, .int 6 0, .int 1 0, .int 0 0, .int 0 0, .int 3 0, .ref 50, .bool true, .int 307 0, .ref 51, .none, .ref 52, .ref 53, .ref 54, .int 326 0, .int 6 0, .str "/claim/cut.py" 327]),
(56, fL "<lambda>" "<lambda>" (kT 3) .none (.str "whoosh.compat" 320) 55),
(121, cO [.str "all_states" 412, .str "FSA.all_states" 413, .str "/claim/cut.py" 414, .int 41 0, .int 1 0, .int 0 0, .int 0 0, .int 3 0, .ref 116, .bool true, .int 307 0, .ref 117, .none, .ref 118, .ref 119, .ref 120, .int 419 0, .int 41 0, .str "/claim/cut.py" 420]),
(122, fO "all_states" "FSA.all_states" (kM 8 3) .none (.str "whoosh.automata.fsa" 330) 121),
(135, cO [.str "get_labels" 429, .str "FSA.get_labels" 430, .str "/claim/cut.py" 431, .int 50 0, .int 2 0, .int 0 0, .int 0 0, .int 3 0, .ref 130, .bool true, .int 307 0, .ref 131, .none, .ref 132, .ref 133, .ref 134, .int 434 0, .int 50 0, .str "/claim/cut.py" 435]),
(136, fO "get_labels" "FSA.get_labels" (kM 8 5) .none (.str "whoosh.automata.fsa" 330) 135),
(137, tO [.none, .str "" 437]),
(143, cO [.str "generate_all" 438, .str "FSA.generate_all" 439, .str "/claim/cut.py" 440, .int 53 0, .int 3 0, .int 0 0, .int 0 0, .int 35 0, .ref 138, .bool true, .int 307 0, .ref 139, .none, .ref 140, .ref 141, .ref 142, .int 447 0, .int 53 0, .str "/claim/cut.py" 448]),
(144, fO "generate_all" "FSA.generate_all" (kM 8 6) (.ref 137) (.str "whoosh.automata.fsa" 330) 143),
(187, tO [.bool false]),
(193, cO [.str "accept" 499, .str "FSA.accept" 500, .str "/claim/cut.py" 501, .int 80 0, .int 3 0, .int 0 0, .int 0 0, .int 3 0, .ref 188, .bool true, .int 307 0, .ref 189, .none, .ref 190, .ref 191, .ref 192, .int 507 0, .int 80 0, .str "/claim/cut.py" 508]),
(194, fO "accept" "FSA.accept" (kM 8 13) (.ref 187) (.str "whoosh.automata.fsa" 330) 193),
(203, { cls := .type "dict", data := .dict #[dE P "__module__" 381 (.str "whoosh.automata.fsa" 330), dE P "__firstlineno__" 385 (.int 17 384), dE P "__init__" 393 (.ref 101), dE P "__len__" 400 (.ref 108), dE P "__eq__" 411 (.ref 115), dE P "all_states" 421 (.ref 122), dE P "all_labels" 428 (.ref 129), dE P "get_labels" 436 (.ref 136), dE P "generate_all" 449 (.ref 144), dE P "start" 456 (.ref 151), dE P "next_state" 465 (.ref 158), dE P "is_final" 473 (.ref 165), dE P "add_transition" 483 (.ref 172), dE P "add_final_state" 491 (.ref 179), dE P "to_dfa" 498 (.ref 186), dE P "accept" 509 (.ref 194), dE P "append" 518 (.ref 201), dE P "__static_attributes__" 522 (.ref 202), dE P "__dict__" 524 (.ref 205), dE P "__weakref__" 526 (.ref 206), dE P "__doc__" 527 .none, dE P "__hash__" 528 .none] 5 }),
(204, { cls := .type "type", data := .cls { name := "FSA", bases := [.type "object"], mro := [.ref 204, .type "object"], ns := 203, qualname := "FSA", subclasses := [.ref 304] }, slots := #[some (.ref 88), none, some (.str "FSA" 374), some (.str "FSA" 382), some (.builtin "object.__new__"), some (.bool true)] }),
(221, cO [.str "__init__" 543, .str "DFA.__init__" 544, .str "/claim/cut.py" 545, .int 97 0, .int 2 0, .int 0 0, .int 0 0, .int 3 0, .ref 216, .bool true, .int 307 0, .ref 217, .none, .ref 218, .ref 219, .ref 220, .int 548 0, .int 97 0, .str "/claim/cut.py" 549]),
(222, fO "__init__" "DFA.__init__" (kM 9 0) .none (.str "whoosh.automata.fsa" 330) 221),
(228, cO [.str "start" 551, .str "DFA.start" 552, .str "/claim/cut.py" 553, .int 104 0, .int 1 0, .int 0 0, .int 0 0, .int 3 0, .ref 223, .bool true, .int 307 0, .ref 224, .none, .ref 225, .ref 226, .ref 227, .int 555 0, .int 104 0, .str "/claim/cut.py" 556]),
(229, fO "start" "DFA.start" (kM 9 1) .none (.str "whoosh.automata.fsa" 330) 228),
(235, cO [.str "add_transition" 558, .str "DFA.add_transition" 559, .str "/claim/cut.py" 560, .int 107 0, .int 4 0, .int 0 0, .int 0 0, .int 3 0, .ref 230, .bool true, .int 307 0, .ref 231, .none, .ref 232, .ref 233, .ref 234, .int 565 0, .int 107 0, .str "/claim/cut.py" 566]),
(236, fO "add_transition" "DFA.add_transition" (kM 9 2) .none (.str "whoosh.automata.fsa" 330) 235),
(249, cO [.str "add_final_state" 577, .str "DFA.add_final_state" 578, .str "/claim/cut.py" 579, .int 113 0, .int 2 0, .int 0 0, .int 0 0, .int 3 0, .ref 244, .bool true, .int 307 0, .ref 245, .none, .ref 246, .ref 247, .ref 248, .int 582 0, .int 113 0, .str "/claim/cut.py" 583]),
(250, fO "add_final_state" "DFA.add_final_state" (kM 9 4) .none (.str "whoosh.automata.fsa" 330) 249),
(256, cO [.str "is_final" 585, .str "DFA.is_final" 586, .str "/claim/cut.py" 587, .int 116 0, .int 2 0, .int 0 0, .int 0 0, .int 3 0, .ref 251, .bool true, .int 307 0, .ref 252, .none, .ref 253, .ref 254, .ref 255, .int 590 0, .int 116 0, .str "/claim/cut.py" 591]),
(257, fO "is_final" "DFA.is_final" (kM 9 5) .none (.str "whoosh.automata.fsa" 330) 256),
(263, cO [.str "next_state" 593, .str "DFA.next_state" 594, .str "/claim/cut.py" 595, .int 119 0, .int 3 0, .int 0 0, .int 0 0, .int 3 0, .ref 258, .bool true, .int 307 0, .ref 259, .none, .ref 260, .ref 261, .ref 262, .int 600 0, .int 119 0, .str "/claim/cut.py" 601]),
(264, fO "next_state" "DFA.next_state" (kM 9 6) .none (.str "whoosh.automata.fsa" 330) 263),
(265, tO [.bool false]),
(271, cO [.str "next_valid_string" 603, .str "DFA.next_valid_string" 604, .str "/claim/cut.py" 605, .int 123 0, .int 3 0, .int 0 0, .int 0 0, .int 3 0, .ref 266, .bool true, .int 307 0, .ref 267, .none, .ref 268, .ref 269, .ref 270, .int 614 0, .int 123 0, .str "/claim/cut.py" 615]),
(272, fO "next_valid_string" "DFA.next_valid_string" (kM 9 7) (.ref 265) (.str "whoosh.automata.fsa" 330) 271),
(278, cO [.str "find_next_edge" 617, .str "DFA.find_next_edge" 618, .str "/claim/cut.py" 619, .int 147 0, .int 4 0, .int 0 0, .int 0 0, .int 3 0, .ref 273, .bool true, .int 307 0, .ref 274, .none, .ref 275, .ref 276, .ref 277, .int 627 0, .int 147 0, .str "/claim/cut.py" 628]),
(279, fO "find_next_edge" "DFA.find_next_edge" (kM 9 8) .none (.str "whoosh.automata.fsa" 330) 278),
(303, { cls := .type "dict", data := .dict #[dE P "__module__" 538 (.str "whoosh.automata.fsa" 330), dE P "__firstlineno__" 542 (.int 95 541), dE P "__init__" 550 (.ref 222), dE P "start" 557 (.ref 229), dE P "add_transition" 567 (.ref 236), dE P "set_default_transition" 576 (.ref 243), dE P "add_final_state" 584 (.ref 250), dE P "is_final" 592 (.ref 257), dE P "next_state" 602 (.ref 264), dE P "next_valid_string" 616 (.ref 272), dE P "find_next_edge" 629 (.ref 279), dE P "reachable_from" 638 (.ref 287), dE P "minimize" 645 (.ref 294), dE P "to_dfa" 652 (.ref 301), dE P "__static_attributes__" 658 (.ref 302), dE P "__doc__" 659 .none] 2 }),
(304, { cls := .type "type", data := .cls { name := "DFA", bases := [.ref 204], mro := [.ref 304, .ref 204, .type "object"], ns := 303, qualname := "DFA" }, slots := #[some (.ref 209), none, some (.str "DFA" 531), some (.str "DFA" 539), some (.builtin "object.__new__"), some (.bool true)] }),
(319, cO [.str "__init__" 674, .str "DMNode.__init__" 675, .str "/claim/cut.py" 676, .int 174 0, .int 2 0, .int 0 0, .int 0 0, .int 3 0, .ref 314, .bool true, .int 307 0, .ref 315, .none, .ref 316, .ref 317, .ref 318, .int 679 0, .int 174 0, .str "/claim/cut.py" 680]),
(320, fO "__init__" "DMNode.__init__" (kM 10 0) .none (.str "whoosh.automata.fsa" 330) 319),
(340, cO [.str "tuple" 696, .str "DMNode.tuple" 697, .str "/claim/cut.py" 698, .int 185 0, .int 1 0, .int 0 0, .int 0 0, .int 3 0, .ref 335, .bool true, .int 307 0, .ref 336, .none, .ref 337, .ref 338, .ref 339, .int 701 0, .int 185 0, .str "/claim/cut.py" 702]),
(341, fO "tuple" "DMNode.tuple" (kM 10 3) .none (.str "whoosh.automata.fsa" 330) 340),
(343, { cls := .type "dict", data := .dict #[dE P "__module__" 669 (.str "whoosh.automata.fsa" 330), dE P "__firstlineno__" 673 (.int 172 672), dE P "__init__" 681 (.ref 320), dE P "__repr__" 688 (.ref 327), dE P "__hash__" 695 (.ref 334), dE P "tuple" 703 (.ref 341), dE P "__static_attributes__" 707 (.ref 342), dE P "__dict__" 709 (.ref 345), dE P "__weakref__" 711 (.ref 346), dE P "__doc__" 712 .none] 4 }),
(344, { cls := .type "type", data := .cls { name := "DMNode", bases := [.type "object"], mro := [.ref 344, .type "object"], ns := 343, qualname := "DMNode" }, slots := #[some (.ref 307), none, some (.str "DMNode" 662), some (.str "DMNode" 670), some (.builtin "object.__new__"), some (.bool true)] }),
(354, cO [.str "_is_int" 719, .str "_is_int" 720, .str "/claim/cut.py" 721, .int 190 0, .int 1 0, .int 0 0, .int 0 0, .int 3 0, .ref 349, .bool true, .int 307 0, .ref 350, .none, .ref 351, .ref 352, .ref 353, .int 724 0, .int 190 0, .str "/claim/cut.py" 725]),
(355, fO "_is_int" "_is_int" (kT 13) .none (.str "itertools" 715) 354),
(361, cO [.str "_count_kind" 727, .str "_count_kind" 728, .str "/claim/cut.py" 729, .int 193 0, .int 1 0, .int 0 0, .int 0 0, .int 3 0, .ref 356, .bool true, .int 307 0, .ref 357, .none, .ref 358, .ref 359, .ref 360, .int 732 0, .int 193 0, .str "/claim/cut.py" 733]),
(362, fO "_count_kind" "_count_kind" (kT 14) .none (.str "itertools" 715) 361),
(371, tO [.int 0 751, .int 1 752]),
(377, cO [.str "__init__" 753, .str "count.__init__" 754, .str "/claim/cut.py" 755, .int 205 0, .int 3 0, .int 0 0, .int 0 0, .int 3 0, .ref 372, .bool true, .int 307 0, .ref 373, .none, .ref 374, .ref 375, .ref 376, .int 762 0, .int 205 0, .str "/claim/cut.py" 763]),
(378, fO "__init__" "count.__init__" (kM 15 1) (.ref 371) (.str "itertools" 715) 377),
(391, cO [.str "__next__" 772, .str "count.__next__" 773, .str "/claim/cut.py" 774, .int 220 0, .int 1 0, .int 0 0, .int 0 0, .int 3 0, .ref 386, .bool true, .int 307 0, .ref 387, .none, .ref 388, .ref 389, .ref 390, .int 777 0, .int 220 0, .str "/claim/cut.py" 778]),
(392, fO "__next__" "count.__next__" (kM 15 3) .none (.str "itertools" 715) 391),
(402, { cls := .type "dict", data := .dict #[dE P "__module__" 742 (.str "itertools" 715), dE P "__firstlineno__" 746 (.int 202 745), dE P "__slots__" 750 (.ref 370), dE P "__init__" 764 (.ref 378), dE P "__iter__" 771 (.ref 385), dE P "__next__" 779 (.ref 392), dE P "__repr__" 786 (.ref 399), dE P "__static_attributes__" 790 (.ref 400), dE P "_cnt" 792 (.ref 404), dE P "_fast" 794 (.ref 405), dE P "_step" 796 (.ref 406), dE P "__doc__" 797 .none] 5 }),
(403, { cls := .type "type", data := .cls { name := "count", bases := [.type "object"], mro := [.ref 403, .type "object"], ns := 402, qualname := "count", hasDict := false, slotNames := ["_cnt", "_fast", "_step"] }, slots := #[none, none, some (.str "count" 735), some (.str "count" 743), some (.builtin "object.__new__"), some (.bool false)] }),
(404, { cls := .type "member_descriptor", data := .fields #[.str "_cnt" 791, .ref 403, .builtin "proto.slot", .builtin "proto.slot#set", .int 2 0] }),
(405, { cls := .type "member_descriptor", data := .fields #[.str "_fast" 793, .ref 403, .builtin "proto.slot", .builtin "proto.slot#set", .int 1 0] }),
(406, { cls := .type "member_descriptor", data := .fields #[.str "_step" 795, .ref 403, .builtin "proto.slot", .builtin "proto.slot#set", .int 0 0] }),
(414, cO [.str "strings_dfa" 802, .str "strings_dfa" 803, .str "/claim/cut.py" 804, .int 230 0, .int 1 0, .int 0 0, .int 0 0, .int 3 0, .ref 409, .bool true, .int 307 0, .ref 410, .none, .ref 411, .ref 412, .ref 413, .int 816 0, .int 230 0, .str "/claim/cut.py" 817]),
(415, fO "strings_dfa" "strings_dfa" (kT 17) .none (.str "whoosh.automata.fsa" 800) 414),
(421, cO [.str "add_suffix" 819, .str "add_suffix" 820, .str "/claim/cut.py" 821, .int 255 0, .int 5 0, .int 0 0, .int 0 0, .int 3 0, .ref 416, .bool true, .int 307 0, .ref 417, .none, .ref 418, .ref 419, .ref 420, .int 834 0, .int 255 0, .str "/claim/cut.py" 835]),
(422, fO "add_suffix" "add_suffix" (kT 18) .none (.str "whoosh.automata.fsa" 800) 421),
(428, cO [.str "_law_word" 839, .str "_law_word" 840, .str "/claim/cut.py" 841, .int 273 0, .int 1 0, .int 0 0, .int 0 0, .int 3 0, .ref 423, .bool true, .int 307 0, .ref 424, .none, .ref 425, .ref 426, .ref 427, .int 846 0, .int 273 0, .str "/claim/cut.py" 847]),
(429, fO "_law_word" "_law_word" (kT 20) .none (.str "law_ky0010_01" 837) 428),
(435, cO [.str "_law_state" 849, .str "_law_state" 850, .str "/claim/cut.py" 851, .int 281 0, .int 2 0, .int 0 0, .int 0 0, .int 3 0, .ref 430, .bool true, .int 307 0, .ref 431, .none, .ref 432, .ref 433, .ref 434, .int 856 0, .int 281 0, .str "/claim/cut.py" 857]),
(436, fO "_law_state" "_law_state" (kT 21) .none (.str "law_ky0010_01" 837) 435),
(442, cO [.str "_law_refused" 859, .str "_law_refused" 860, .str "/claim/cut.py" 861, .int 286 0, .int 1 0, .int 0 0, .int 0 0, .int 3 0, .ref 437, .bool true, .int 307 0, .ref 438, .none, .ref 439, .ref 440, .ref 441, .int 863 0, .int 286 0, .str "/claim/cut.py" 864]),
(443, fO "_law_refused" "_law_refused" (kT 22) .none (.str "law_ky0010_01" 837) 442),
(449, cO [.str "_law_ascend" 866, .str "_law_ascend" 867, .str "/claim/cut.py" 868, .int 292 0, .int 1 0, .int 0 0, .int 0 0, .int 3 0, .ref 444, .bool true, .int 307 0, .ref 445, .none, .ref 446, .ref 447, .ref 448, .int 872 0, .int 292 0, .str "/claim/cut.py" 873]),
(450, fO "_law_ascend" "_law_ascend" (kT 23) .none (.str "law_ky0010_01" 837) 449),
(454, cO [.str "law" 875, .str "law" 876, .str "/claim/cut.py" 877, .int 299 0, .int 1 0, .int 0 0, .int 0 0, .int 3 0, .ref 451, .bool true, .int 307 0, .ref 452, .none, .none, .none, .ref 453, .int 878 0, .int 299 0, .str "/claim/cut.py" 879]),
(455, fO "law" "law" (kT 24) .none (.str "law_ky0010_01" 837) 454)]
noncomputable abbrev kA : List Addr := [3, 48, 49, 55, 56, 121, 122, 135, 136, 137, 143, 144, 187, 193, 194, 203, 204, 221, 222, 228, 229, 235, 236, 249, 250, 256, 257, 263, 264, 265, 271, 272, 278, 279, 303, 304, 319, 320, 340, 341, 343, 344, 354, 355, 361, 362, 371, 377, 378, 391, 392, 402, 403, 404, 405, 406, 414, 415, 421, 422, 428, 429, 435, 436, 442, 443, 449, 450, 454, 455]
end Mine
end
section
open PySem PySem.W PySem.Calls PyProof.Rows
namespace Mine
theorem kA_eq (P : Params) : kA = (K0 P).map (·.1) := by kernel_rfl
noncomputable abbrev kH : Hook := kHook K0 kA kA_eq
theorem big_q {p : Program} {w : World} {n1 n2 : Nat} {os : OsState} : bigG Thread.atExitBegin (fun p => stepT (denote treeTable) p w) fenceModules? stepOk n1 n2 p (start (opening p)).2 os =
  bigG PySem.W.Fast.tw3805553451399329143 (fun p => PySem.W.Fast.tw10156331382660048174 (PySem.W.Fast.tw11892475500146522536 PySem.W.Fast.tw14364793385576792824) p w) PySem.W.Fast.tw14289696077712309145 PySem.W.Fast.tw6613529449190102663 n1 n2 p (PySem.W.Fast.tw1435165496053646825 (opening p)).2 os := by
 rw [PySem.W.Fast.te3805553451399329143, PySem.W.Fast.te10156331382660048174, PySem.W.Fast.te11892475500146522536, PySem.W.Fast.te14364793385576792824, PySem.W.Fast.te14289696077712309145, PySem.W.Fast.te6613529449190102663, PySem.W.Fast.te1435165496053646825]
theorem ev (w : World) (os : OsState) : (bigG PySem.W.Fast.tw3805553451399329143 (fun p => PySem.W.Fast.tw10156331382660048174 (PySem.W.Fast.tw11892475500146522536 PySem.W.Fast.tw14364793385576792824) p w) PySem.W.Fast.tw14289696077712309145 PySem.W.Fast.tw6613529449190102663 1200 4400 pw (PySem.W.Fast.tw1435165496053646825 (opening pw)).2 os).map (fun x =>
   (x.1.heap.isNs mainGlobals && x.1.gens.size == 0, staticsOk (PySem.W.Fast.tw5923862056798008813 pw.main.body) x.1.heap x.2.abs.heap && namesBound pw x.2.abs.heap && gensDone x.2.abs && laidKept x.1.heap x.2.abs.heap,
    PySem.W.Fast.tw4187177175401517315 vw lw (PySem.W.Fast.tw5923862056798008813 pw.main.body) (fun s => xlAt vw [] s && recOk PySem.Challenge.rw_ky0010_01.row.records s) true x.2.abs, kH.obs x.2.abs)) = some (true, true, openGood vw lw, kH.val w) := by kernel_rfl
theorem left : LeftO pw vw lw (fun s => xlAt vw [] s && recOk PySem.Challenge.rw_ky0010_01.row.records s) kH.obs kH.val 4400 := by
 refine left_of 1200 3200 4400 rfl (by rfl) fun w os => ?_;rw [big_q, PySem.W.Fast.te4187177175401517315, PySem.W.Fast.te5923862056798008813];exact ev w os
end Mine
end
section
namespace Mine
theorem arMl {a b : Nat} (h : a < b) : a <= (a + b) / 2 := by lia -abstractProof
theorem arMh {a b : Nat} (h : a < b) : (a + b) / 2 < b := by lia -abstractProof
theorem arK {a b c : Nat} (k : Nat) (hk : k <= 8) (h : a + 8 * (b + 1) < c) : a + k + 8 * b < c := by lia -abstractProof
theorem arM3 (n : Nat) : 97 <= 97 + n % 3 ∧ 97 + n % 3 <= 99 := ⟨Nat.le_add_right _ _, Nat.add_le_add_left (Nat.le_of_lt_succ (Nat.mod_lt n (by decide))) 97⟩
theorem arT {i : Int} {n k : Nat} (h : n <= i.toNat) (hi : i <= (k : Int)) : n <= k := Nat.le_trans h (Int.toNat_le.mpr hi)
section
variable {a b c d e f g : Nat} {i j k : Int}
theorem ar1 (h : a < b) : b - (a + 1) < b - a := Nat.sub_succ_lt_self b a h
theorem ar2 (h1 : a <= b) (h2 : ¬a < b) : a = b := Nat.le_antisymm h1 (Nat.not_lt.mp h2)
theorem ar3 (h : a - b = c + 1) : a - (b + 1) = c := (Nat.sub_succ _ _).trans (congrArg Nat.pred h)
theorem ar4 (h : 97 <= a ∧ a <= 99) : a < 128 := Nat.lt_of_le_of_lt (h.2) (by decide)
theorem ar5 (h : a - b = c + 1) : b < a := Nat.lt_of_sub_eq_succ h
theorem ar7 (h1 : a - b = 0) (h2 : b <= a) : b = a := (Nat.le_antisymm h2 (Nat.le_of_sub_eq_zero h1))
theorem ar8 : ¬(a : Int) < 0 := Int.not_ofNat_neg a
theorem ar9 (h : a <= 9) : a <= 16777216 := by solve_by_elim (maxDepth := 4) [Nat.le_of_lt, Nat.lt_of_lt_of_le, Nat.lt_of_le_of_lt, Nat.le_trans, Nat.lt_succ_self, Nat.le_add_right, Nat.le_add_left]
theorem ar10 (h : a < 64) : a <= 16777216 := Nat.le_trans (Nat.le_of_lt h) (by decide)
theorem ar11 (h : a + (b + 1) < c) : a < c := Nat.lt_of_add_right_lt h
theorem ar12 (h : a < b) : ¬a = b := Nat.ne_of_lt h
theorem ar14 (h1 : a + (b + 1) < c) (h2 : d <= b) : a + 1 + d < c := Nat.lt_of_le_of_lt (Nat.le_trans (Nat.le_of_eq (Nat.add_right_comm _ 1 _)) (Nat.succ_le_succ (Nat.add_le_add_left h2 _))) h1
theorem ar15 (h : a + (b + 1) < c) : a + 1 + b < c := Nat.lt_of_le_of_lt (Nat.le_of_eq (Nat.add_right_comm _ 1 _)) h
theorem ar16 (h : a <= b) : a + 1 <= b + 1 := Nat.succ_le_succ h
theorem ar17 (h : a < b) : b + 1 - (a + 1) < b + 1 - a := Nat.sub_succ_lt_self _ _ (Nat.lt_succ_of_lt h)
theorem ar18 : 0 <= (a : Int) := Int.natCast_nonneg a
theorem ar19 (h : a <= 1000) : a <= 16777216 := by solve_by_elim (maxDepth := 4) [Nat.le_of_lt, Nat.lt_of_lt_of_le, Nat.lt_of_le_of_lt, Nat.le_trans, Nat.lt_succ_self, Nat.le_add_right, Nat.le_add_left]
theorem ar20 : 3 <= 16777216 := Nat.lt_succ_of_le (Nat.le_add_left _ _)
theorem ar21 : 1 <= 16777216 := Nat.lt_succ_of_le (Nat.le_add_left _ _)
theorem ar22 (h1 : a < b) (h2 : b <= c) : c ≠ a := Nat.ne_of_gt (Nat.lt_of_lt_of_le h1 h2)
theorem ar23 : a <= a + b := Nat.le_add_right a b
theorem ar24 (h1 : a <= b) (h2 : b - a = 0) : a = b := Nat.le_antisymm h1 (Nat.le_of_sub_eq_zero h2)
theorem ar25 (h : a <= 64 + b) : a <= 64 + (b + 1) := by solve_by_elim (maxDepth := 4) [Nat.le_of_lt, Nat.lt_of_lt_of_le, Nat.lt_of_le_of_lt, Nat.le_trans, Nat.lt_succ_self, Nat.le_add_right, Nat.le_add_left]
theorem ar26 (h1 : a = b) (h2 : ¬a < 2) : 2 <= b := by subst_vars; exact Nat.not_lt.mp h2
theorem ar27 (h : a < b) : a <= b := Nat.le_of_lt h
theorem ar29 (h : a < b) : a - 1 < b := Nat.sub_lt_of_lt h
theorem ar30 : a - 0 = a - 0 := Nat.sub_zero a
theorem ar31 : -(↑(a + 1) : Int) <= -1 := (fun {a b} => Rat.intCast_le_intCast.mp) rfl
theorem ar32 : (↑(a + 1) : Int) = (a : Int) + 1 := rfl
theorem ar33 : (-1 + (↑(a + 1) : Int)).toNat = a := by simp_all +arith
theorem ar34 (h : a <= 4) : a <= 1000 := by solve_by_elim (maxDepth := 4) [Nat.le_of_lt, Nat.lt_of_lt_of_le, Nat.lt_of_le_of_lt, Nat.le_trans, Nat.lt_succ_self, Nat.le_add_right, Nat.le_add_left]
theorem ar35 (h : a <= 4) : a + 1 <= 16777216 := by solve_by_elim (maxDepth := 4) [Nat.le_of_lt, Nat.lt_of_lt_of_le, Nat.lt_of_le_of_lt, Nat.le_trans, Nat.lt_succ_self, Nat.le_add_right, Nat.le_add_left]
theorem ar36 (h : a <= 3) : a < 64 := by solve_by_elim (maxDepth := 4) [Nat.le_of_lt, Nat.lt_of_lt_of_le, Nat.lt_of_le_of_lt, Nat.le_trans, Nat.lt_succ_self, Nat.le_add_right, Nat.le_add_left]
theorem ar37 (h : a <= 0) : a = 0 := Nat.eq_zero_of_le_zero h
theorem ar38 (h1 : a <= b) (h2 : c < a) : (c + a) / 2 < b := Nat.lt_of_lt_of_le (arMh h2) h1
theorem ar39 (h1 : a <= b) (h2 : b < c) : a <= c := Nat.le_of_lt (Nat.lt_of_le_of_lt h1 h2)
theorem ar40 (h1 : a <= b) (h2 : b + 1 <= c + 1) : a <= c := Nat.le_of_succ_le_succ (Nat.le_trans (Nat.succ_le_succ h1) h2)
theorem ar41 (h : a <= b + c) : a <= b + (c + 1) := by solve_by_elim (maxDepth := 4) [Nat.le_of_lt, Nat.lt_of_lt_of_le, Nat.lt_of_le_of_lt, Nat.le_trans, Nat.lt_succ_self, Nat.le_add_right, Nat.le_add_left]
theorem ar43 (h1 : a = b) (h2 : a < c) : ¬c = b := h1 ▸ Nat.ne_of_gt h2
theorem ar44 (h : a - b = c + 1) : a - 1 - (c + 1 - 1) = b := by lia -abstractProof
theorem ar45 (h : a + 8 * (b + 1) < c) : a + 1 + 8 * b < c := arK 1 (by decide) h
theorem ar46 (h : (a + b) / 2 < c) : (a + b) / 2 <= c := Nat.le_of_lt h
theorem ar47 : a < a + (b + 1) := Nat.lt_succ_of_le (Nat.le_add_right _ _)
theorem ar48 : a + 1 + b = a + (b + 1) := Nat.succ_add_eq_add_succ a b
theorem ar49 (h : ¬a <= b) : b <= a := Nat.le_of_not_ge h
theorem ar50 (h1 : ¬a = b) (h2 : a <= b) : a < b := Nat.lt_of_le_of_ne h2 h1
theorem ar51 (h : a <= b) : a <= b + 1 := by solve_by_elim (maxDepth := 3) [Nat.succ_le_of_lt, Nat.lt_succ_of_le, Nat.le_of_lt_succ, Nat.add_le_add, Nat.add_lt_add_right, Nat.add_le_add_right, Nat.le_sub_one_of_lt, Nat.le_succ_of_le, Nat.lt_of_succ_le, Nat.le_of_succ_le]
theorem ar52 (h : a <= b) : (a : Int) <= (b : Int) := Int.ofNat_le.mpr h
theorem ar53 (h : a <= b + 1) : a - 1 <= b := Nat.sub_le_of_le_add h
theorem ar54 (h1 : a <= 4 * b) (h2 : b <= 9) : a < 900 := Nat.lt_of_le_of_lt (Nat.le_trans h1 (Nat.mul_le_mul_left 4 h2)) (by decide)
theorem ar55 (h : a < b) : a <= (a + b) / 2 := arMl h
theorem ar56 (h : a < b) : (a + b) / 2 + 1 <= b := arMh h
theorem ar57 (h : a < b + 1) : a <= b := Nat.le_of_succ_le_succ h
theorem ar58 (h1 : a < 64) (h2 : b = a) : b <= 16777216 := by subst_vars; exact Nat.le_of_lt (Nat.lt_of_lt_of_le h1 (by decide))
theorem ar59 (h1 : a < 1000) (h2 : b = a) : b < 1000 := lt_of_eq_of_lt h2 h1
theorem ar60 (h : a + 1 <= b) : b = b - 1 + 1 := (Nat.succ_pred_eq_of_pos (Nat.le_trans (Nat.le_add_left 1 _) h)).symm
theorem ar61 (h : a + 1 <= b) : a <= b - 1 := by solve_by_elim (maxDepth := 3) [Nat.succ_le_of_lt, Nat.lt_succ_of_le, Nat.le_of_lt_succ, Nat.add_le_add, Nat.add_lt_add_right, Nat.add_le_add_right, Nat.le_sub_one_of_lt, Nat.le_succ_of_le, Nat.lt_of_succ_le, Nat.le_of_succ_le]
theorem ar62 (h : a + 1 <= b + 1) : a <= b := Nat.le_of_succ_le_succ h
theorem ar63 (h1 : 2 <= a) (h2 : b < 1 + (a - 1)) : b < a := Nat.lt_of_lt_of_eq h2 (Nat.add_sub_cancel' (Nat.le_trans (by decide) h1))
theorem ar64 (h1 : a < 900) (h2 : i <= 1 + (a : Int)) : i <= 1000 := by lia -abstractProof
theorem ar65 : a < a + 1 := Nat.lt_add_one a
theorem ar66 : (a : Int) + 1 = (↑(a + 1) : Int) := Int.ofNat_add_one_out a
theorem ar67 (h : a <= 900) : a <= 1000 := by solve_by_elim (maxDepth := 4) [Nat.le_of_lt, Nat.lt_of_lt_of_le, Nat.lt_of_le_of_lt, Nat.le_trans, Nat.lt_succ_self, Nat.le_add_right, Nat.le_add_left]
theorem ar68 (h : a <= 63) : a <= 16777216 := by solve_by_elim (maxDepth := 4) [Nat.le_of_lt, Nat.lt_of_lt_of_le, Nat.lt_of_le_of_lt, Nat.le_trans, Nat.lt_succ_self, Nat.le_add_right, Nat.le_add_left]
theorem ar69 (h : a <= 45) : a < 64 := by solve_by_elim (maxDepth := 4) [Nat.le_of_lt, Nat.lt_of_lt_of_le, Nat.lt_of_le_of_lt, Nat.le_trans, Nat.lt_succ_self, Nat.le_add_right, Nat.le_add_left]
theorem ar70 (h : a <= 4) : a <= 16777216 := by solve_by_elim (maxDepth := 4) [Nat.le_of_lt, Nat.lt_of_lt_of_le, Nat.lt_of_le_of_lt, Nat.le_trans, Nat.lt_succ_self, Nat.le_add_right, Nat.le_add_left]
theorem ar71 (h : a <= 1000) : a + 1 <= 16777216 := by solve_by_elim (maxDepth := 4) [Nat.le_of_lt, Nat.lt_of_lt_of_le, Nat.lt_of_le_of_lt, Nat.le_trans, Nat.lt_succ_self, Nat.le_add_right, Nat.le_add_left]
theorem ar72 (h : a ≠ 0) : (a : Int) ≠ 0 := Int.ofNat_ne_zero.mpr h
theorem ar73 (h : a < 900) : a <= 1000 := Nat.le_trans (Nat.le_of_lt h) (by decide)
theorem ar74 (h : a < b ∧ a < c ∧ d = e ↔ a < f) : a + 1 < b + 1 ∧ a + 1 < c + 1 ∧ d = e ↔ a + 1 < f + 1 := by simp [h]
theorem ar76 (h1 : a <= 64 + 3 * b) (h2 : c <= 3) (h3 : d = c) (h4 : e <= a + d) : e <= 64 + 3 * (b + 1) := by lia -abstractProof
theorem ar77 (h : a < b ∧ (a < c -> d < e)) : a + 1 < b + 1 := by simp [h]
theorem ar80 (h1 : a + b + 1 < c) (h2 : d < b) (h3 : e <= a + d) : e + 1 < c := by lia -abstractProof
theorem ar82 (h1 : a <= b) (h2 : c <= b * d) : a + c <= b * d + b := by lia -abstractProof
theorem ar83 (h1 : a <= b) (h2 : c = a) (h3 : c = d) : d <= b := by subst_vars; exact h1
theorem ar84 (h1 : a <= b) (h2 : c = a) (h3 : b + d <= 1001) : c <= 2000 + 0 := by lia -abstractProof
theorem ar88 (h1 : a <= 4) (h2 : b <= 5 * c) (h3 : d = a + 1) : d + b <= 5 * (c + 1) := by lia -abstractProof
theorem ar89 (h1 : a = b) (h2 : a = c + 1 + d) : c < b := by subst_vars; exact Nat.lt_of_succ_le (Nat.le_add_right _ _)
theorem ar90 (h1 : a < b) (h2 : b < c) (h3 : c < d) (h4 : 97 <= a ∧ a <= 99) (h5 : 97 <= d ∧ d <= 99) : False := by lia -abstractProof
theorem ar91 (h1 : a < 64) (h2 : b <= 64 + 3 * c) (h3 : c < a) (h4 : d <= 3) : b + d + 1 < 4096 := by lia -abstractProof
theorem ar93 (h1 : a <= b + 1) (h2 : b + (c + 1) + 1 <= i.toNat) : a + c + 1 <= i.toNat := by lia -abstractProof
theorem ar94 : a + b <= a + (b + c) := by simp
theorem ar98 (h1 : a <= b) (h2 : c < a) : c < b := by subst_vars; exact Nat.lt_of_lt_of_le h2 h1
theorem ar99 (h1 : a <= b) (h2 : c + 1 < a) : c + 1 < b := by subst_vars; exact Nat.lt_of_lt_of_le h2 h1
theorem ar107 (h1 : a <= 9) (h2 : b <= 5 * a) (h3 : c <= 0 + b) : c <= 45 := by lia -abstractProof
theorem ar108 (h1 : a <= 1000) (h2 : b = c) (h3 : b <= a) : c <= 1000 := by subst_vars; exact Nat.le_trans h3 h1
theorem ar109 (h1 : a <= 10) (h2 : b = c) (h3 : c < a) : b <= 1000 := by lia -abstractProof
theorem ar110 (h1 : a = b) (h2 : c <= 0 + a) (h3 : b <= 9) : c <= 9 := by lia -abstractProof
theorem ar111 (h1 : a = b) (h2 : b = c + 1) : c < a := by subst_vars; simp
theorem ar112 (h1 : a = b - 1) (h2 : 0 < b) (h3 : c <= a) : c + 1 <= b := by lia -abstractProof
theorem ar113 (h : a = (b + c) / 2) : ((b : Int) + (c : Int)) / 2 = (a : Int) := by subst_vars; simp
theorem ar115 (h1 : a < b) (h2 : c < a + 1) : c < b := by subst_vars; exact Nat.lt_of_lt_of_le h2 h1
theorem ar119 (h1 : a < b % 4) (h2 : c = 1 + a) : c <= 16777215 := by lia -abstractProof
theorem ar124 (h : a - b <= c + 1) : a - ((b + a) / 2 + 1) <= c := by omega
theorem ar125 (h : a - b <= c + 1) : (b + a) / 2 - b <= c := by omega
theorem ar126 (h1 : a - b = c) (h2 : b < a) : a - ((b + a) / 2 + 1) < c := h1 ▸ Nat.sub_lt_sub_left h2 (Nat.lt_succ_of_le (arMl h2))
theorem ar127 (h1 : a - b = c) (h2 : b < a) : (b + a) / 2 - b < c := h1 ▸ Nat.sub_lt_sub_right (arMl h2) (arMh h2)
theorem ar129 (h1 : a + b <= 1001) (h2 : c + 1 = b) : c + 1 <= 16777216 := by lia -abstractProof
theorem ar133 (h : a + 8 * (b + 8) < c) : a + 64 < c := by lia -abstractProof
theorem ar138 (h : a + 3 + 8 * (b + 2) < c) : a + 3 + 1 + 3 < c := by lia -abstractProof
theorem ar139 (h1 : a + 1 <= b) (h2 : c <= b - 1) : c + 1 <= b := by lia -abstractProof
theorem ar147 (h : a + b + 1 <= i.toNat) : a + (b + 1) + 1 <= (i + 1).toNat := by lia -abstractProof
theorem ar148 : a <= a + 1 + b := by solve_by_elim (maxDepth := 4) [Nat.le_of_lt, Nat.lt_of_lt_of_le, Nat.lt_of_le_of_lt, Nat.le_trans, Nat.lt_succ_self, Nat.le_add_right, Nat.le_add_left]
theorem ar149 : a < b + 1 + a := by simp
theorem ar151 : a - (b : Int).toNat <= ((a : Int) - (b : Int)).toNat := by simp
theorem ar152 : a + 1 + b - a = b + 1 := by rw [Nat.add_assoc, Nat.add_comm 1, Nat.add_sub_cancel_left]
theorem ar157 (h : ¬a + 2 <= b + 1) : b <= a := by simp_all +arith
theorem ar167 (h1 : a <= 9) (h2 : b <= 4 * (a + (a - (a - 1)))) : b < 900 := by omega
theorem ar170 (h1 : a <= 45) (h2 : b = a) : b <= 1000 := by subst_vars; exact Nat.le_trans h1 (by decide)
theorem ar172 (h : a <= 2000 + b) : a <= 2000 + (b + 1) := by solve_by_elim (maxDepth := 4) [Nat.le_of_lt, Nat.lt_of_lt_of_le, Nat.lt_of_le_of_lt, Nat.le_trans, Nat.lt_succ_self, Nat.le_add_right, Nat.le_add_left]
theorem ar177 (h1 : a <= 10) (h2 : b = a) : b <= 1000 := by subst_vars; exact Nat.le_trans h1 (by decide)
theorem ar180 (h1 : a = b) (h2 : b <= 3) : a <= 16777216 := by subst_vars; exact Nat.le_trans h2 (by decide)
theorem ar181 (h1 : a = b) (h2 : a < 2) : b <= 16777216 + 1 := by subst_vars; exact Nat.le_of_lt (Nat.lt_of_lt_of_le h2 (by decide))
theorem ar182 (h1 : a = b + (0 + 1)) (h2 : b + (0 + 1) < 64) : a <= 16777216 := by subst_vars; exact Nat.le_of_lt (Nat.lt_of_lt_of_le h2 (by decide))
theorem ar183 (h : a = 97 + b % 3) : 97 <= a ∧ a <= 99 := h ▸ arM3 _
theorem ar186 (h : a < b) : a < b + 1 := by solve_by_elim (maxDepth := 3) [Nat.succ_le_of_lt, Nat.lt_succ_of_le, Nat.le_of_lt_succ, Nat.add_le_add, Nat.add_lt_add_right, Nat.add_le_add_right, Nat.le_sub_one_of_lt, Nat.le_succ_of_le, Nat.lt_of_succ_le, Nat.le_of_succ_le]
theorem ar187 (h : a < b) : a + 1 <= b + 1 := by solve_by_elim (maxDepth := 3) [Nat.succ_le_of_lt, Nat.lt_succ_of_le, Nat.le_of_lt_succ, Nat.add_le_add, Nat.add_lt_add_right, Nat.add_le_add_right, Nat.le_sub_one_of_lt, Nat.le_succ_of_le, Nat.lt_of_succ_le, Nat.le_of_succ_le]
theorem ar190 (h : a < b) : 0 < (b : Int) - (a : Int) := by simp [h]
theorem ar203 (h1 : a < 64) (h2 : b = a) : (0 + b) * 2 < 200 := by lia -abstractProof
theorem ar204 (h1 : a < 64) (h2 : a = b) : b <= 64 + 0 := h2 ▸ Nat.le_trans (Nat.le_of_lt h1) (by decide)
theorem ar207 (h : a + b <= b) : a = 0 := by simp_all +arith
theorem ar222 (h : a + (b + 1) <= 1000) : b <= 1000 := by lia -abstractProof
theorem ar223 (h1 : 1 <= a) (h2 : a < 1 + (b - 1)) : a - 1 < b := by omega
theorem ar224 (h : 0 = a - b) : a - b = 0 := by solve_by_elim (maxDepth := 4) [Nat.le_of_lt, Nat.lt_of_lt_of_le, Nat.lt_of_le_of_lt, Nat.le_trans, Nat.lt_succ_self, Nat.le_add_right, Nat.le_add_left]
theorem ar225 (h1 : a < 900) (h2 : i <= 1 + (b : Int)) (h3 : b + c <= a) (h4 : d + e + 1 <= i.toNat) : d + (e + 1) <= 1001 := by lia -abstractProof
theorem ar226 (h1 : a < 900) (h2 : i <= 1 + (b : Int)) (h3 : b + c <= a) : i <= 1000 := by lia -abstractProof
theorem ar227 (h1 : a < 900) (h2 : i <= 1 + (a : Int)) (h3 : b + c + 1 <= i.toNat) : c <= 1000 := by lia -abstractProof
theorem ar228 (h1 : a < 900) (h2 : i <= 1 + (a : Int)) (h3 : b + c + 1 <= i.toNat) : b + (c + 1) <= 1001 := by lia -abstractProof
theorem ar229 (h : a = 97 + i.natAbs / 4 % 3) : 97 <= a ∧ a <= 99 := h ▸ arM3 _
theorem ar231 : ¬a < a := Nat.lt_irrefl a
theorem ar232 : ¬a + 2 <= 0 := Nat.not_add_one_le_zero (a + 1)
theorem ar233 : ¬a + 1 = 0 := Nat.add_one_ne_zero a
theorem ar234 : ¬(a : Int) < (a : Int) := Int.lt_irrefl ↑a
theorem ar235 : a = 0 -> 0 = (a : Int) := by lia -abstractProof
theorem ar238 : 3 < 0 + 1 + 1 + 1 + 1 + 1 + a := by solve_by_elim (maxDepth := 4) [Nat.le_of_lt, Nat.lt_of_lt_of_le, Nat.lt_of_le_of_lt, Nat.le_trans, Nat.lt_succ_self, Nat.le_add_right, Nat.le_add_left]
theorem ar240 : 1 <= a + 1 := Nat.le_add_left 1 a
theorem ar241 : 1 <= 64 + (a + 1) := Nat.le_add_left 1 (Nat.add 64 a)
theorem ar242 : 1 + a + 1 = 1 + (a + 1) := Nat.add_assoc 1 a 1
theorem ar243 : 0 + a = a := Nat.zero_add a
theorem ar244 : (a : Int) - (a : Int) <= 0 := by simp
theorem ar245 : (↑(a + 1) : Int) - 1 = (a : Int) := by lia -abstractProof
theorem ar248 (h : a <= 99) : a <= 1000 := by solve_by_elim (maxDepth := 4) [Nat.le_of_lt, Nat.lt_of_lt_of_le, Nat.lt_of_le_of_lt, Nat.le_trans, Nat.lt_succ_self, Nat.le_add_right, Nat.le_add_left]
theorem ar249 (h : a <= 99) : a <= 100 := by solve_by_elim (maxDepth := 3) [Nat.succ_le_of_lt, Nat.lt_succ_of_le, Nat.le_of_lt_succ, Nat.add_le_add, Nat.add_lt_add_right, Nat.add_le_add_right, Nat.le_sub_one_of_lt, Nat.le_succ_of_le, Nat.lt_of_succ_le, Nat.le_of_succ_le]
theorem ar251 (h : a <= 900) : a <= 16777215 := by solve_by_elim (maxDepth := 4) [Nat.le_of_lt, Nat.lt_of_lt_of_le, Nat.lt_of_le_of_lt, Nat.le_trans, Nat.lt_succ_self, Nat.le_add_right, Nat.le_add_left]
theorem ar252 (h : a <= 9) : a <= 1000 := by solve_by_elim (maxDepth := 4) [Nat.le_of_lt, Nat.lt_of_lt_of_le, Nat.lt_of_le_of_lt, Nat.le_trans, Nat.lt_succ_self, Nat.le_add_right, Nat.le_add_left]
theorem ar255 (h : a <= 50) : a <= 100 := by solve_by_elim (maxDepth := 4) [Nat.le_of_lt, Nat.lt_of_lt_of_le, Nat.lt_of_le_of_lt, Nat.le_trans, Nat.lt_succ_self, Nat.le_add_right, Nat.le_add_left]
theorem ar256 (h : a <= 45) : a <= 16777216 := by solve_by_elim (maxDepth := 4) [Nat.le_of_lt, Nat.lt_of_lt_of_le, Nat.lt_of_le_of_lt, Nat.le_trans, Nat.lt_succ_self, Nat.le_add_right, Nat.le_add_left]
theorem ar258 (h : a <= 4) : a <= 10 := by solve_by_elim (maxDepth := 4) [Nat.le_of_lt, Nat.lt_of_lt_of_le, Nat.lt_of_le_of_lt, Nat.le_trans, Nat.lt_succ_self, Nat.le_add_right, Nat.le_add_left]
theorem ar260 (h : a <= 4) : a + 1 <= 10 := by solve_by_elim (maxDepth := 4) [Nat.le_of_lt, Nat.lt_of_lt_of_le, Nat.lt_of_le_of_lt, Nat.le_trans, Nat.lt_succ_self, Nat.le_add_right, Nat.le_add_left]
theorem ar261 (h : a <= 4) : (-9223372036854775808 <= (a : Int) + 1 ∧ (a : Int) + 1 < 9223372036854775808) ∧   ((a : Int) + 1 = 0 ∨ -9223372036854775808 <= (a : Int) + 1 ∧ (a : Int) + 1 < 9223372036854775808) := by lia -abstractProof
theorem ar263 (h : a <= 1001) : a <= 16777216 := by solve_by_elim (maxDepth := 4) [Nat.le_of_lt, Nat.lt_of_lt_of_le, Nat.lt_of_le_of_lt, Nat.le_trans, Nat.lt_succ_self, Nat.le_add_right, Nat.le_add_left]
theorem ar264 (h : a <= 1000) : a <= 16777216 + 1 := by solve_by_elim (maxDepth := 4) [Nat.le_of_lt, Nat.lt_of_lt_of_le, Nat.lt_of_le_of_lt, Nat.le_trans, Nat.lt_succ_self, Nat.le_add_right, Nat.le_add_left]
theorem ar266 (h : a <= 10) : a <= 16777216 := by solve_by_elim (maxDepth := 4) [Nat.le_of_lt, Nat.lt_of_lt_of_le, Nat.lt_of_le_of_lt, Nat.le_trans, Nat.lt_succ_self, Nat.le_add_right, Nat.le_add_left]
theorem ar267 (h : a ≠ 0) : 1 < (a : Int) + 1 := by lia -abstractProof
theorem ar268 (h : a = 0) : ¬1 <= a := by simp [h]
theorem ar274 (h : a < 64) : a < 1000 := by solve_by_elim (maxDepth := 4) [Nat.le_of_lt, Nat.lt_of_lt_of_le, Nat.lt_of_le_of_lt, Nat.le_trans, Nat.lt_succ_self, Nat.le_add_right, Nat.le_add_left]
theorem ar275 (h : a < 3) : a = 0 ∨ a = 1 ∨ a = 2 := by lia -abstractProof
theorem ar277 (h : a < 128) : a < 1114112 := by solve_by_elim (maxDepth := 4) [Nat.le_of_lt, Nat.lt_of_lt_of_le, Nat.lt_of_le_of_lt, Nat.le_trans, Nat.lt_succ_self, Nat.le_add_right, Nat.le_add_left]
theorem ar278 (h : a < 128) : a < 1000 := by solve_by_elim (maxDepth := 4) [Nat.le_of_lt, Nat.lt_of_lt_of_le, Nat.lt_of_le_of_lt, Nat.le_trans, Nat.lt_succ_self, Nat.le_add_right, Nat.le_add_left]
theorem ar279 (h : a < 1000) : 0 <= (a : Int) + 1 ∧ (a : Int) + 1 <= 1114111 := by lia -abstractProof
theorem ar280 (h : a < 1000) : (a : Int).natAbs < 1073741824 := by solve_by_elim (maxDepth := 4) [Nat.le_of_lt, Nat.lt_of_lt_of_le, Nat.lt_of_le_of_lt, Nat.le_trans, Nat.lt_succ_self, Nat.le_add_right, Nat.le_add_left]
theorem ar281 (h : a < 1000) : (a : Int) < 9223372036854775808 ∧ (a = 0 ∨ (a : Int) < 9223372036854775808) := by omega
theorem ar283 (h : a + 1 <= 100) : a + 1 <= 16777216 := by solve_by_elim (maxDepth := 4) [Nat.le_of_lt, Nat.lt_of_lt_of_le, Nat.lt_of_le_of_lt, Nat.le_trans, Nat.lt_succ_self, Nat.le_add_right, Nat.le_add_left]
theorem ar287 (h1 : i <= 1000) (h2 : a + b + 1 <= i.toNat) : a + b <= 1000 := arT (Nat.le_trans (Nat.le_succ _) h2) h1
theorem ar288 (h1 : i <= 1 + (a : Int)) (h2 : j = i + (↑(b - c) : Int)) : j <= 1 + (↑(a + (b + 0)) : Int) := by omega
theorem ar292 (h1 : i <= 1000) (h2 : a + 1 <= i.toNat) : a <= 999 := Nat.le_of_succ_le_succ (arT h2 h1)
theorem ar293 (h1 : i = 0) (h2 : j = i) : 0 <= j := by subst_vars; simp
theorem ar298 (h : i = 0) : 0 <= i ∧ i < 1 := by subst_vars; simp
theorem ar300 (h : 0 <= i ∧ i < i) : False := by simp_all
end
end Mine
end
section
open PySem PySem.W PySem.Calls PyProof.Rows
namespace Mine
noncomputable abbrev KK (w : World) : Frag := K0 w.params
structure G (w : World) (mg mb : Str -> Option Value) (h : Heap) : Prop where
 X : (KK w).In h
 g : h.Ns mainGlobals mg
 b : h.Ns builtinsNs mb
 lim : h.NoLimit
 bi : ∀ x : Str, x ≠ "__name__" -> mb x = bootBuiltins x
structure Stp (W : Addr -> Prop) (s s' : Shared) : Prop where
 live : ∀ b o, s.heap.get? b = some o -> ∃ o', s'.heap.get? b = some o'
 keep : ∀ b o, (b < 456 ∨ ¬ W b) -> s.heap.get? b = some o -> s'.heap.get? b = some o
 gens : s'.gens = s.gens
 os : s'.os = s.os
theorem gQ {α : Type} {M : Model} {A : Around} {c : Sem α} {Q : α -> Shared -> Prop} {E : Value -> Shared -> Prop} {s : Shared}
  (h : ∀ Q' E', (∀ f s', Q f s' -> Q' f s') -> (∀ e s', E e s' -> E' e s') -> wpAny M A c Q' E' s) : wpAny M A c Q E s := h Q E (fun _ _ x => x) fun _ _ x => x
theorem gQ1 {α : Type} {M : Model} {A : Around} {c : Sem α} {Q : α -> Shared -> Prop} {E : Value -> Shared -> Prop} {s : Shared}
  (h : ∀ Q', (∀ f s', Q f s' -> Q' f s') -> wpAny M A c Q' E s) : wpAny M A c Q E s := h Q fun _ _ x => x
theorem whileQ {prog : Program} {w : World} {A : Around} {R : Result -> Shared -> Prop} {test : Expr} {body orelse : List Stmt} {env : Env} {s : Shared} (I : Nat -> Shared -> Prop)
  (turn : ∀ n s, I n s -> ∀ (Qb Qe : Flow -> Shared -> Prop) (E' : Value -> Shared -> Prop), (∀ f s₃, (match f with
    | .next | .cont => ∃ m, m < n ∧ I m s₃
    | .brk => R (.ok .next) s₃
    | .ret v => R (.ok (.ret v)) s₃) -> Qb f s₃) -> (∀ f s', R (.ok f) s' -> Qe f s') -> (∀ e s', notedBy (model prog w) A env (fun e s' => R (.error e) s') e s' -> E' e s') ->
   wpAny (model prog w) A (isTrue test env (eval test env)) (fun b s₂ => if b then wpAny (model prog w) A (execs body env) Qb E' s₂ else wpAny (model prog w) A (execs orelse env) Qe E' s₂) E' s)
  (n : Nat) (h : I n s) : codeAny (model prog w) A (.whileLoop test body orelse env) R s :=
 codeAny_whileLoop I (fun n s hI => turn n s hI _ _ _ (fun _ _ x => x) (fun _ _ x => x) fun _ _ x => x) n h
noncomputable def NmP {α β : Type} (P : α -> β -> Prop) : Prop := ∀ C : Prop, (∀ (J : α -> β -> Prop) (i : ∀ a b, P a b -> J a b) (o : ∀ a b, J a b -> P a b), C) -> C
theorem nmP {α β : Type} (P : α -> β -> Prop) : NmP P := fun _ kk => kk P (fun _ _ h => h) fun _ _ h => h
theorem ifT {b : Bool} {X Y : Prop} (h : b = true) (k : X) : if b = true then X else Y := by rw [if_pos h]; exact k
theorem ifF {b : Bool} {X Y : Prop} (h : b = false) (k : Y) : if b = true then X else Y := by rw [if_neg (by simp [h])]; exact k
noncomputable def upd (m : Str -> Option Value) (x : Str) (v : Value) : Str -> Option Value := fun y => if y = x then some v else m y
noncomputable abbrev W0 : Addr -> Prop := fun _ => False
theorem ee {α β : Type} {P : α -> β -> Prop} : ∀ a b, P a b -> P a b := fun _ _ h => h
noncomputable def Kp (b b' : Heap) : Prop := ∀ a o, b.get? a = some o -> b'.get? a = some o
noncomputable def KpD (z : Addr) (b b' : Heap) : Prop := ∀ a o, a ≠ z -> b.get? a = some o -> b'.get? a = some o
noncomputable def KpO (l : List Addr) (b b' : Heap) : Prop := ∀ a o, a ∉ l -> b.get? a = some o -> b'.get? a = some o
noncomputable def KpN (W : Addr -> Prop) (b b' : Heap) : Prop := ∀ a o, ¬ W a -> b.get? a = some o -> b'.get? a = some o
noncomputable def KpL (L : Addr) (H : List (Addr × Obj)) (b b' : Heap) : Prop := ∀ a o, a ∉ L :: H.map (·.1) -> b.get? a = some o -> b'.get? a = some o
noncomputable def KpLF (L : Addr) (H : List (Addr × Obj)) (fr : List Addr) (b b' : Heap) : Prop := ∀ a o, a ∉ L :: H.map (·.1) -> a ∉ fr -> b.get? a = some o -> b'.get? a = some o
noncomputable def NonF (l : List Addr) (b : Heap) : Prop := ∀ a ∈ l, b.get? a = none
theorem Stp.refl (W : Addr -> Prop) (s : Shared) : Stp W s s := ⟨fun _ o e => ⟨o, e⟩, fun _ _ _ e => e, rfl, rfl⟩
theorem Stp.trans {W : Addr -> Prop} {s s' s'' : Shared} (x : Stp W s s') (y : Stp W s' s'') : Stp W s s'' :=
 ⟨fun b o e => (by obtain ⟨_, e'⟩ := x.live b o e; exact y.live b _ e'), fun b o hb e => y.keep b o hb (x.keep b o hb e), y.gens.trans x.gens, y.os.trans x.os⟩
theorem Stp.mono {W W' : Addr -> Prop} {s s' : Shared} (x : Stp W s s') (h : ∀ a, W a -> W' a) : Stp W' s s' :=
 ⟨x.live, fun b o hb e => x.keep b o (hb.imp id fun hn hw => hn (h b hw)) e, x.gens, x.os⟩
theorem Stp.drop {W W' : Addr -> Prop} {s s' : Shared} (x : Stp W s s') (h : ∀ a o, W a -> s.heap.get? a = some o -> W' a) : Stp W' s s' :=
 ⟨x.live, fun b o hb e => x.keep b o (hb.imp id fun hn hw => hn (h b o hw e)) e, x.gens, x.os⟩
theorem Stp.all {s s' : Shared} (x : Stp W0 s s') : Kp s.heap s'.heap := fun b o e => x.keep b o (.inr fun h => h) e
theorem Stp.of {W : Addr -> Prop} {s : Shared} {h : Heap} {t : Nat} {d : Drawn} (hk : Kp s.heap h) :
  Stp W s ⟨h, s.gens, d, t, s.os⟩ := ⟨fun b o e => ⟨o, hk b o e⟩, fun b o _ e => hk b o e, rfl, rfl⟩
theorem Stp.one {s : Shared} {h : Heap} {t : Nat} {d : Drawn} {z : Addr} (hs : Heap.SameBut z s.heap h) (hz : ∃ o, h.get? z = some o) (lo : 456 <= z) : Stp (· = z) s ⟨h, s.gens, d, t, s.os⟩ :=
 ⟨fun a o e => by
  by_cases q : a = z
  ·subst q; exact hz
  ·exact ⟨o, (hs.2 a q).trans e⟩, fun a o ha e => (hs.2 a (fun q => ha.elim (fun l => absurd (q ▸ l) (Nat.not_lt.mpr lo)) fun n => n q)).trans e, rfl, rfl⟩
theorem Stp.lt {W : Addr -> Prop} {s s' : Shared} (x : Stp W s s') {a : Addr} {o : Obj} (e : s.heap.get? a = some o) : a < s'.heap.objs.size := by obtain ⟨_, e'⟩ := x.live a o e; exact Heap.lt_size e'
section
variable {w : World} {mg mb : Str -> Option Value}
theorem G.low {h h' : Heap} (g : G w mg mb h) (k : ∀ b o, b < 456 -> h.get? b = some o -> h'.get? b = some o) : G w mg mb h' := by
 refine ⟨fun a o e => k a o ?_ (g.X a o e), ?_, ?_, ?_, g.bi⟩
 ·have hall : ∀ p ∈ KK w, p.1 < 456 := by
   have : ((KK w).map (·.1)).all (· < 456) = true := by kernel_rfl
   intro p hp;have := List.all_eq_true.mp this p.1 (List.mem_map_of_mem hp)
   simpa using this
  have hm : ∀ (l : List (Addr × Obj)), l.lookup a = some o -> (a, o) ∈ l := by
   intro l
   induction l with
   | nil => intro e; cases e
   | cons p r ih =>
    intro e;obtain ⟨b, x⟩ := p;simp only [List.lookup] at e
    split at e
    ·rename_i q; cases e; rw [beq_iff_eq.mp q]; exact List.Mem.head _
    ·exact List.Mem.tail _ (ih e)
  exact hall _ (hm _ e)
 ·obtain ⟨o, es, ep, e, r⟩ := g.g; exact ⟨o, es, ep, k _ _ (by decide) e, r⟩
 ·obtain ⟨o, es, ep, e, r⟩ := g.b; exact ⟨o, es, ep, k _ _ (by decide) e, r⟩
 ·obtain ⟨mc, ⟨o, es, ep, e, r⟩, q⟩ := g.lim; exact ⟨mc, ⟨o, es, ep, k _ _ (by decide) e, r⟩, q⟩
theorem G.stp {W : Addr -> Prop} {s s' : Shared} (g : G w mg mb s.heap) (x : Stp W s s') : G w mg mb s'.heap := g.low fun b o hb e => x.keep b o (.inl hb) e
theorem G.size {h : Heap} (g : G w mg mb h) : 456 <= h.objs.size := by
 have : (KK w).lookup 455 = some ((KK w).lookup 455).get! := by kernel_rfl
 exact Heap.lt_size (g.X _ _ this)
structure Fx (w : World) (mg mb : Str -> Option Value) (L : Addr) (sE : Shared) (W : Addr -> Prop) (H : List (Addr × Obj)) (b : Heap) (s : Shared) (m : Str -> Option Value) : Prop where
 g : G w mg mb s.heap
 hL : 456 <= L
 ns : s.heap.Ns L m
 tot : Stp (fun a => a = L ∨ W a) sE s
 keep : Kp b s.heap
 noL : b.get? L = none
 hid : ∀ p ∈ H, s.heap.get? p.1 = some p.2 ∧ b.get? p.1 = none ∧ p.1 ≠ L ∧ sE.heap.get? p.1 = none ∧ 456 <= p.1
variable {L : Addr} {sE s s' : Shared} {W : Addr -> Prop} {H : List (Addr × Obj)} {b : Heap} {m : Str -> Option Value}
theorem Fx.lt (F : Fx w mg mb L sE W H b s m) : L < s.heap.objs.size := F.ns.lt
theorem Fx.ne (F : Fx w mg mb L sE W H b s m) {a : Addr} {o : Obj} (e : b.get? a = some o) : a ≠ L := by rintro rfl; rw [F.noL] at e; cases e
theorem Fx.neH (F : Fx w mg mb L sE W H b s m) {a : Addr} {o : Obj} (e : b.get? a = some o) : a ∉ L :: H.map (·.1) := by
 intro h;rcases List.mem_cons.mp h with rfl | h
 ·exact F.ne e rfl
 ·obtain ⟨p, hp, rfl⟩ := List.mem_map.mp h;rw [(F.hid p hp).2.1] at e; cases e
theorem Fx.grow (F : Fx w mg mb L sE W H b s m) (x : Stp W0 s s') : Fx w mg mb L sE W H b s' m :=
 ⟨F.g.stp x, F.hL, F.ns.keeps x.all, F.tot.trans (x.mono fun _ h => h.elim), fun a o e => x.all _ _ (F.keep a o e), F.noL, fun p hp => ⟨x.all _ _ (F.hid p hp).1, (F.hid p hp).2⟩⟩
theorem hide_get (h : Heap) (l : List Addr) : ∀ {a : Addr} {o : Obj}, a ∉ l -> h.get? a = some o -> (hideAll h l).get? a = some o :=
 fun hne e => hideAll_get l e hne
noncomputable def Rb (w : World) (mg mb : Str -> Option Value) (L : Addr) (sE : Shared) (W : Addr -> Prop) (H : List (Addr × Obj)) (K : Heap -> Prop) (s : Shared) (m : Str -> Option Value) : Prop := ∀ C : Prop, (∀ (b' : Heap) (F : Fx w mg mb L sE W H b' s m) (k : K b') (kn : KpL L H s.heap b'), C) -> C
theorem Fx.rebase (F : Fx w mg mb L sE W H b s m) : Rb w mg mb L sE W H (Kp b) s m := by
 intro C kk;exact kk (hideAll s.heap (L :: H.map (·.1))) ⟨F.g, F.hL, F.ns, F.tot, fun a o e => of_hideAll _ e, hideAll_none _ (by simp), fun p hp => ⟨(F.hid p hp).1, hideAll_none _ (List.mem_cons_of_mem _ (List.mem_map_of_mem hp)), (F.hid p hp).2.2⟩⟩
  (fun a o e => hide_get _ _ (F.neH e) (F.keep a o e)) fun a o hne e => hide_get _ _ hne e
theorem Fx.change {W' : Addr -> Prop} (F : Fx w mg mb L sE W H b s m) (x : Stp W' s s') (hL : ¬ W' L) (hH : ∀ p ∈ H, ¬ W' p.1) (hW : ∀ a o, W' a -> sE.heap.get? a = some o -> W a) :
  Rb w mg mb L sE W H (KpN W' b) s' m := by
 intro C kk;refine kk (hideAll s'.heap (L :: H.map (·.1))) ⟨F.g.stp x, F.hL, ?_, ?_, fun a o e => of_hideAll _ e, hideAll_none _ (by simp), fun p hp => ⟨x.keep _ _ (.inr (hH p hp)) (F.hid p hp).1, hideAll_none _ (List.mem_cons_of_mem _ (List.mem_map_of_mem hp)), (F.hid p hp).2.2⟩⟩
  (fun a o hn e => hide_get _ _ (F.neH e) (x.keep a o (.inr hn) (F.keep a o e))) fun a o hne e => hide_get _ _ hne e
 ·obtain ⟨o, es, ep, e, r⟩ := F.ns; exact ⟨o, es, ep, x.keep _ _ (.inr hL) e, r⟩
 ·refine ⟨fun c o e => (by obtain ⟨_, e'⟩ := F.tot.live c o e; exact x.live c _ e'), fun c o hc e => ?_, x.gens.trans F.tot.gens, x.os.trans F.tot.os⟩;have e1 := F.tot.keep c o hc e;refine x.keep c o (hc.imp id fun hn hw => hn ?_) e1;exact .inr (hW c o hw e)
theorem Heap.get?_size_none (h : Heap) : h.get? h.objs.size = none := by
 cases q : h.get? h.objs.size with
 | none => rfl
 | some o => exact absurd (Heap.lt_size q) (Nat.lt_irrefl _)
theorem Fx.none_of (F : Fx w mg mb L sE W H b s m) {a : Addr} (h : s.heap.objs.size <= a) : b.get? a = none ∧ a ∉ L :: H.map (·.1) ∧ sE.heap.get? a = none ∧ 456 <= a := by
 refine ⟨?_, ?_, ?_, Nat.le_trans F.g.size h⟩
 ·cases q : b.get? a with
  | none => rfl
  | some o => exact absurd (Heap.lt_size (F.keep _ _ q)) (Nat.not_lt.mpr h)
 ·intro hm;rcases List.mem_cons.mp hm with rfl | hm
  ·exact absurd F.lt (Nat.not_lt.mpr h)
  ·obtain ⟨p, hp, rfl⟩ := List.mem_map.mp hm;exact absurd (Heap.lt_size (F.hid p hp).1) (Nat.not_lt.mpr h)
 ·cases q : sE.heap.get? a with
  | none => rfl
  | some o => exact absurd (F.tot.lt q) (Nat.not_lt.mpr h)
theorem Fx.push (F : Fx w mg mb L sE W H b s m) {o : Obj} (hf : o.isFreed = false) : Fx w mg mb L sE W ((s.heap.objs.size, o) :: H) b { s with heap := s.heap.push o } m := by
 have F' : Fx w mg mb L sE W H b { s with heap := s.heap.push o } m := F.grow (.of fun _ _ e => Heap.get?_push_of_some _ e);have hn := F.none_of (Nat.le_refl _);refine ⟨F'.g, F'.hL, F'.ns, F'.tot, F'.keep, F'.noL, fun p hp => ?_⟩;rcases List.mem_cons.mp hp with rfl | hp
 ·exact ⟨Heap.get?_push_size _ hf, hn.1, fun e => hn.2.1 (e ▸ List.mem_cons_self), hn.2.2.1, hn.2.2.2⟩
 ·exact F'.hid p hp
theorem Fx.turn {I : Addr} {o o' : Obj} (F : Fx w mg mb L sE W ((I, o) :: H) b s m) (hI : ∀ p ∈ H, p.1 ≠ I) (he : s'.heap.get? I = some o') (hk : KpD I s.heap s'.heap)
  (hg : s'.gens = s.gens) (hos : s'.os = s.os) : Fx w mg mb L sE W ((I, o') :: H) b s' m := by
 have h1 := F.hid _ (List.mem_cons_self);have hlow : ∀ a o, a < 456 -> s.heap.get? a = some o -> s'.heap.get? a = some o := fun a o ha e => hk a o (Nat.ne_of_lt (Nat.lt_of_lt_of_le ha h1.2.2.2.2)) e;refine ⟨F.g.low fun a o ha e => hlow a o ha e, F.hL, ?_, ?_, fun a o e => hk a o (fun q => by rw [q, h1.2.1] at e; cases e) (F.keep a o e), F.noL, fun p hp => ?_⟩
 ·obtain ⟨o, es, ep, e, r⟩ := F.ns; exact ⟨o, es, ep, hk _ _ (Ne.symm h1.2.2.1) e, r⟩
 ·refine ⟨fun c o e => (by obtain ⟨_, e'⟩ := F.tot.live c o e; exact ⟨_, hk c _ (fun q => by rw [q, h1.2.2.2.1] at e; cases e) e'⟩), fun c o hc e => hk c o (fun q => by rw [q, h1.2.2.2.1] at e; cases e) (F.tot.keep c o hc e), hg.trans F.tot.gens, hos.trans F.tot.os⟩
 ·rcases List.mem_cons.mp hp with rfl | hp
  ·exact ⟨he, h1.2⟩
  ·have := F.hid p (List.mem_cons_of_mem _ hp);exact ⟨hk _ _ (hI p hp) this.1, this.2⟩
theorem Fx.over {I : Addr} {o : Obj} (F : Fx w mg mb L sE W ((I, o) :: H) b s m) (hI : ∀ p ∈ H, p.1 ≠ I) (hk : KpD I s.heap s'.heap)
  (hg : s'.gens = s.gens) (hos : s'.os = s.os) : Fx w mg mb L sE W H b s' m := by
 have h1 := F.hid _ (List.mem_cons_self);refine ⟨F.g.low fun a o ha e => hk a o (Nat.ne_of_lt (Nat.lt_of_lt_of_le ha h1.2.2.2.2)) e, F.hL, ?_, ?_, fun a o e => hk a o (fun q => by rw [q, h1.2.1] at e; cases e) (F.keep a o e), F.noL, fun p hp => ?_⟩
 ·obtain ⟨o, es, ep, e, r⟩ := F.ns; exact ⟨o, es, ep, hk _ _ (Ne.symm h1.2.2.1) e, r⟩
 ·refine ⟨fun c o e => (by obtain ⟨_, e'⟩ := F.tot.live c o e; exact ⟨_, hk c _ (fun q => by rw [q, h1.2.2.2.1] at e; cases e) e'⟩), fun c o hc e => hk c o (fun q => by rw [q, h1.2.2.2.1] at e; cases e) (F.tot.keep c o hc e), hg.trans F.tot.gens, hos.trans F.tot.os⟩
 ·have := F.hid p (List.mem_cons_of_mem _ hp);exact ⟨hk _ _ (hI p hp) this.1, this.2⟩
theorem Fx.fewer {H' : List (Addr × Obj)} (F : Fx w mg mb L sE W H b s m) (h : ∀ p ∈ H', p ∈ H) : Fx w mg mb L sE W H' b s m :=
 ⟨F.g, F.hL, F.ns, F.tot, F.keep, F.noL, fun p hp => F.hid p (h p hp)⟩
section
variable {A : Around} {E : Value -> Shared -> Prop} {env : Env} {M : Model}
theorem m_local {x : Str} {pos : Pos} {v : Value} {Q : Value -> Shared -> Prop} (F : Fx w mg mb L sE W H b s m) (hv : m x = some v) (h : Q v s)
  (hL : env.locals = L := by rfl) (hk : env.scope.kind = .function := by rfl) (hl : env.kindOf x = some .local := by rfl) (hd : (x == ("__debug__" : Str)) = false := by decide) :
  wpAny M A (eval (.Name x pos) env) Q E s := wpAny_Name (wpAny_loadName_local hk hl (by rw [hL]; exact F.ns) hv h) hd
theorem m_local' {x : Str} {v : Value} {Q : Value -> Shared -> Prop} (F : Fx w mg mb L sE W H b s m) (hv : m x = some v) (h : Q v s)
  (hL : env.locals = L := by rfl) (hk : env.scope.kind = .function := by rfl) (hl : env.kindOf x = some .local := by rfl) :
  wpAny M A (loadName env x) Q E s := wpAny_loadName_local hk hl (by rw [hL]; exact F.ns) hv h
theorem m_glob {x : Str} {pos : Pos} {v : Value} {Q : Value -> Shared -> Prop} (F : Fx w mg mb L sE W H b s m) (e : nsIn (KK w) mainGlobals x = some (some v)) (h : Q v s)
  (hG : env.globals = mainGlobals := by rfl) (hk : env.scope.kind = .function := by rfl) (hx : env.kindOf x = some .globalImplicit := by rfl) (hd : (x == ("__debug__" : Str)) = false := by decide) :
  wpAny M A (eval (.Name x pos) env) Q E s := Name_function_global hk hx (loadGlobal_global (by rw [hG]; exact F.g.g) (mg_of F.g.X F.g.g e) h) hd
theorem m_bi {x : Str} {pos : Pos} {v : Value} {Q : Value -> Shared -> Prop} (F : Fx w mg mb L sE W H b s m) (e : nsIn (KK w) mainGlobals x = some none) (hv : bootBuiltins x = some v) (h : Q v s)
  (hn : x ≠ "__name__" := by decide) (hG : env.globals = mainGlobals := by rfl) (hB : env.builtins = builtinsNs := by rfl) (hk : env.scope.kind = .function := by rfl) (hx : env.kindOf x = some .globalImplicit := by rfl) (hd : (x == ("__debug__" : Str)) = false := by decide) :
  wpAny M A (eval (.Name x pos) env) Q E s := Name_function_global hk hx (loadGlobal_builtin (by rw [hG]; exact F.g.g) (mg_none_of F.g.X F.g.g e) (by rw [hB]; exact F.g.b) ((F.g.bi x hn).trans hv) h) hd
theorem m_store {x : Str} {v : Value} {Q : Unit -> Shared -> Prop} (F : Fx w mg mb L sE W H b s m) (h : ∀ s', Fx w mg mb L sE W H b s' (upd m x v) -> Q () s')
  (hL : env.locals = L := by rfl) (hk : env.scope.kind = .function := by rfl) (hl : env.kindOf x = some .local := by rfl) :
  wpAny M A (storeName env x v) Q E s := by
 refine wpAny_storeName_local hl (by rw [hL]; exact F.ns) (fun h' hn hs => h _ ?_) (by rw [hk]; rfl);rw [hL] at hn hs;have hk' : KpD L s.heap h' := fun c o hc e => (hs.2 c hc).trans e;refine ⟨F.g.low fun c o hc e => hk' c o (Nat.ne_of_lt (Nat.lt_of_lt_of_le hc F.hL)) e, F.hL, hn, ⟨fun c o e => ?_, fun c o hc e => hk' c o ?_ (F.tot.keep c o hc e), F.tot.gens, F.tot.os⟩,
  fun a o e => hk' a o (F.ne e) (F.keep a o e), F.noL, fun p hp => ⟨hk' _ _ (F.hid p hp).2.2.1 (F.hid p hp).1, (F.hid p hp).2⟩⟩
 ·obtain ⟨o', e'⟩ := F.tot.live c o e
  by_cases hc : c = L
  ·subst hc; obtain ⟨oL, _, _, eL, _⟩ := hn; exact ⟨oL, eL⟩
  ·exact ⟨o', hk' c o' hc e'⟩
 ·rintro rfl
  rcases hc with hc | hc
  ·exact absurd hc (Nat.not_lt.mpr F.hL)
  ·exact hc (.inl rfl)
theorem m_call {R : Result -> Shared -> Prop} {f : Addr} {name qual : Str} {params : Arguments} {body : List Stmt} {scope : Scope} {dV kV doc pm cdv ct oc : Value} {an od : Option Addr} {osl : Array (Option Value)} {args : Args}
  (W : Addr -> Prop) (binds : List (Str × Value)) (g : G w mg mb s.heap) (hroom : A.depth < recursionLimit)
  (ho : (KK w).lookup f = some ⟨oc, od, .func (fnOf name qual params body scope dV kV doc pm an cdv ct), osl⟩) (hcd : codeIn (KK w) cdv qual = true)
  (hbind : BindsTo s (fnOf name qual params body scope dV kV doc pm an cdv ct) args binds) (hloc : ∀ y ∈ binds, scope.names.lookup y.1 = some .local)
  (h : ∀ s₁, Fx w mg mb s.heap.objs.size s W [] s.heap s₁ (fun y => binds.reverse.lookup y) ->
   wpAny (model PySem.Challenge.pw_ky0010_01 w) (A.deeper (envOf qual scope s.heap.objs.size f cdv)) (execs body (envOf qual scope s.heap.objs.size f cdv))
    (fun fl s' => R (.ok (.ret (match fl with | .ret v => v | _ => .none))) s')
    (fun e s' => wpAny (model PySem.Challenge.pw_ky0010_01 w) (A.deeper (envOf qual scope s.heap.objs.size f cdv)) (leaving (envOf qual scope s.heap.objs.size f cdv) e) (fun _ s'' => R (.error e) s'') (fun e' s'' => R (.error e') s'') s') s₁)
  (hcell : ∀ x ∈ scope.names, x.2 ≠ .cell) (hco : scope.isCoroutine = false := by rfl) (hgen : scope.isGenerator = false := by rfl) (hk : scope.kind = .function := by rfl) :
  codeAny (model PySem.Challenge.pw_ky0010_01 w) A (.call (.ref f) args) R s := by
 refine codeAny_call_def (fd := fnOf name qual params body scope dV kV doc pm an cdv ct) (body := body) (binds := binds) hroom (g.X _ _ ho) rfl g.lim (codeRec_of g.X hcd) rfl hbind hcell hloc (fun h₁ hns hk₁ => ?_) hco hgen hk;refine h _ ⟨g.low fun c o _ e => hk₁ c o e, g.size, hns, .of hk₁, hk₁, ?_, fun p hp => (nomatch hp)⟩;cases q : s.heap.get? s.heap.objs.size with
 | none => rfl
 | some o => exact absurd (Heap.lt_size q) (Nat.lt_irrefl _)
theorem Fx.done {W : Addr -> Prop} (F : Fx w mg mb sE.heap.objs.size sE W H b s m) : Stp W sE s :=
 F.tot.drop fun a o ha e => ha.elim (fun q => absurd (Heap.lt_size e) (by rw [q]; exact Nat.lt_irrefl _)) id
end
end
end Mine
end
section
open PySem PySem.W PySem.Calls PyProof.Rows
namespace Mine
noncomputable abbrev PP := PySem.Challenge.pw_ky0010_01
structure AttrF (w : World) (C : Addr) (n : Str) : Prop where
 pg : plainGet (KK w) C "" = true
 hd : hasDictIn (KK w) C = true
 fi : findIn (KK w) (.ref C) n = some none
theorem pg304 (w : World) : plainGet (KK w) 304 "" = true := by kernel_rfl
theorem pg344 (w : World) : plainGet (KK w) 344 "" = true := by kernel_rfl
theorem hd304 (w : World) : hasDictIn (KK w) 304 = true := by kernel_rfl
theorem hd344 (w : World) : hasDictIn (KK w) 344 = true := by kernel_rfl
structure MethF (w : World) (C : Addr) (n : Str) (f : Addr) : Prop where
 pg : plainGet (KK w) C "" = true
 fi : findIn (KK w) (.ref C) n = some (some (.ref f))
 fn : isFn (KK w) (.ref f) = true
theorem at_initial (w : World) : AttrF w 304 "initial" := ⟨pg304 w, hd304 w, by kernel_rfl⟩
theorem at_transitions (w : World) : AttrF w 304 "transitions" := ⟨pg304 w, hd304 w, by kernel_rfl⟩
theorem at_defaults (w : World) : AttrF w 304 "defaults" := ⟨pg304 w, hd304 w, by kernel_rfl⟩
theorem at_finals (w : World) : AttrF w 304 "final_states" := ⟨pg304 w, hd304 w, by kernel_rfl⟩
theorem at_outlabels (w : World) : AttrF w 304 "outlabels" := ⟨pg304 w, hd304 w, by kernel_rfl⟩
theorem at_n (w : World) : AttrF w 344 "n" := ⟨pg344 w, hd344 w, by kernel_rfl⟩
theorem at_arcs (w : World) : AttrF w 344 "arcs" := ⟨pg344 w, hd344 w, by kernel_rfl⟩
theorem at_final (w : World) : AttrF w 344 "final" := ⟨pg344 w, hd344 w, by kernel_rfl⟩
theorem mt_start (w : World) : MethF w 304 "start" 229 := ⟨pg304 w, by kernel_rfl, by kernel_rfl⟩
theorem mt_add_transition (w : World) : MethF w 304 "add_transition" 236 := ⟨pg304 w, by kernel_rfl, by kernel_rfl⟩
theorem mt_add_final (w : World) : MethF w 304 "add_final_state" 250 := ⟨pg304 w, by kernel_rfl, by kernel_rfl⟩
theorem mt_is_final (w : World) : MethF w 304 "is_final" 257 := ⟨pg304 w, by kernel_rfl, by kernel_rfl⟩
theorem mt_next_state (w : World) : MethF w 304 "next_state" 264 := ⟨pg304 w, by kernel_rfl, by kernel_rfl⟩
theorem mt_next_valid (w : World) : MethF w 304 "next_valid_string" 272 := ⟨pg304 w, by kernel_rfl, by kernel_rfl⟩
theorem mt_find_edge (w : World) : MethF w 304 "find_next_edge" 279 := ⟨pg304 w, by kernel_rfl, by kernel_rfl⟩
theorem mt_all_states (w : World) : MethF w 304 "all_states" 122 := ⟨pg304 w, by kernel_rfl, by kernel_rfl⟩
theorem mt_get_labels (w : World) : MethF w 304 "get_labels" 136 := ⟨pg304 w, by kernel_rfl, by kernel_rfl⟩
theorem mt_generate_all (w : World) : MethF w 304 "generate_all" 144 := ⟨pg304 w, by kernel_rfl, by kernel_rfl⟩
theorem mt_accept (w : World) : MethF w 304 "accept" 194 := ⟨pg304 w, by kernel_rfl, by kernel_rfl⟩
theorem mt_tuple (w : World) : MethF w 344 "tuple" 341 := ⟨pg344 w, by kernel_rfl, by kernel_rfl⟩
section
variable {w : World} {mg mb : Str -> Option Value} {L : Addr} {sE s s' : Shared} {W : Addr -> Prop} {H : List (Addr × Obj)} {b : Heap} {m : Str -> Option Value}
variable {A : Around} {E : Value -> Shared -> Prop} {env : Env}
theorem m_attr {e : PySem.Expr} {n : Str} {pos : Pos} {Q : Value -> Shared -> Prop}
  (h : wpAny (model PP w) A (eval e env) (fun o s₁ => wpAny (model PP w) A (getAttr o n true) Q E s₁) E s)
  (he : eval (.Attribute e n pos) env = (do
   let o ← eval e env
   standAt pos.atName
   let r ← holding [o] (getAttr o n true)
   letTemporaryGo e o r
   pure r) := by with_unfolding_all rfl) : wpAny (model PP w) A (eval (.Attribute e n pos) env) Q E s := Attribute_any_ h he
theorem Fx.tok (F : Fx w mg mb L sE W H b s m) (t : Nat) : Fx w mg mb L sE W H b { s with toks := t } m := F.grow (.of ee)
theorem m_get {x C dx : Addr} {es : List DictEntry} {k : Nat} {n : Str} {v : Value} {expr : Bool} {Q : Value -> Shared -> Prop} (F : Fx w mg mb L sE W H b s m) (a : AttrF w C n)
  (hx : b.get? x = some (instObj C dx)) (hd : b.get? dx = some (dictOf es k)) (hl : getL n es = some (some v)) (hv : handedIn v = true) (h : ∀ s', Fx w mg mb L sE W H b s' m -> Q v s') :
  wpAny (model PP w) A (getAttr (.ref x) n expr) Q E s :=
 get_value F.g.X (⟨F.keep _ _ hx, rfl, rfl, F.keep _ _ hd⟩ : InstAt s.heap x _ C (some (dictOf es k))) (plainGet_of a.pg).1 (findObj_own a.hd a.fi rfl hl) hv (h _ (F.tok _))
theorem m_meth {x C dx f : Addr} {es : List DictEntry} {k : Nat} {n : Str} {pl : Sem Bool} {Q : Value × List Value -> Shared -> Prop} (F : Fx w mg mb L sE W H b s m) (a : MethF w C n f)
  (hx : b.get? x = some (instObj C dx)) (hd : b.get? dx = some (dictOf es k)) (hl : getL n es = some none) (h : Q (.ref f, [.ref x]) s) :
  wpAny (model PP w) A (getMethod (.ref x) n pl) Q E s :=
 method_fn F.g.X (⟨F.keep _ _ hx, rfl, rfl, F.keep _ _ hd⟩ : InstAt s.heap x _ C (some (dictOf es k))) (plainGet_of a.pg).1 (plainGet_of a.pg).2 a.fi (beq_iff_eq.mp a.fn) (by show (lookIn n (dictOf es k)).map _ = _; rw [lookIn_dict, hl]; rfl) h
end
structure DA where
 m : Addr
 d : Addr
 T : Addr
 Df : Addr
 Fs : Addr
 Ol : Addr
noncomputable abbrev ent (w : World) (n : Str) (t : Tok) (v : Value) : DictEntry := ⟨PyData.keyHash w.params n, .str n t, v⟩
noncomputable def dfaD (w : World) (x : DA) (t0 t1 t2 t3 t4 t5 : Tok) : List DictEntry := [ent w "initial" t1 (.int 0 t0), ent w "transitions" t2 (.ref x.T), ent w "defaults" t3 (.ref x.Df), ent w "final_states" t4 (.ref x.Fs), ent w "outlabels" t5 (.ref x.Ol)]
inductive DObj (w : World) (h : Heap) (x : DA) : Prop
 | mk (a : h.get? x.m = some (instObj 304 x.d)) (t0 t1 t2 t3 t4 t5 : Tok) (k : Nat) (e : h.get? x.d = some (dictOf (dfaD w x t0 t1 t2 t3 t4 t5) k)) : DObj w h x
theorem DObj.keeps {w : World} {h h' : Heap} {x : DA} (y : DObj w h x) (k : Kp h h') : DObj w h' x :=
 by obtain ⟨a, t0, t1, t2, t3, t4, t5, n, e⟩ := y; exact ⟨k _ _ a, t0, t1, t2, t3, t4, t5, n, k _ _ e⟩
section
variable {w : World} {mg mb : Str -> Option Value} {L : Addr} {sE s : Shared} {W : Addr -> Prop} {H : List (Addr × Obj)} {b : Heap} {m : Str -> Option Value} {A : Around} {E : Value -> Shared -> Prop} {x : DA} {n : Str} {f : Addr} {v : Value} {expr : Bool} {pl : Sem Bool} {Q : Value -> Shared -> Prop}
theorem o_get (F : Fx w mg mb L sE W H b s m) (D : DObj w b x) (a : AttrF w 304 n) (hl : ∀ t0 t1 t2 t3 t4 t5, getL n (dfaD w x t0 t1 t2 t3 t4 t5) = some (some v)) (hv : handedIn v = true) (h : ∀ s', Fx w mg mb L sE W H b s' m -> Q v s') :
  wpAny (model PP w) A (getAttr (.ref x.m) n expr) Q E s := by obtain ⟨o, _, _, _, _, _, _, _, e⟩ := D; exact m_get F a o e (hl ..) hv h
theorem o_meth {Q : Value × List Value -> Shared -> Prop} (F : Fx w mg mb L sE W H b s m) (a : MethF w 304 n f) (D : DObj w b x) (h : Q (.ref f, [.ref x.m]) s) (hl : ∀ t0 t1 t2 t3 t4 t5, getL n (dfaD w x t0 t1 t2 t3 t4 t5) = some none := by exact fun _ _ _ _ _ _ => rfl) :
  wpAny (model PP w) A (getMethod (.ref x.m) n pl) Q E s := by obtain ⟨o, _, _, _, _, _, _, _, e⟩ := D; exact m_meth F a o e (hl ..) h
theorem o_initial (F : Fx w mg mb L sE W H b s m) (D : DObj w b x) (h : ∀ s' t, Fx w mg mb L sE W H b s' m -> Q (.int 0 t) s') : wpAny (model PP w) A (getAttr (.ref x.m) "initial" expr) Q E s :=
 by obtain ⟨o, _, _, _, _, _, _, _, e⟩ := D; exact m_get F (at_initial w) o e (by rfl) rfl fun s' => h s' _
theorem o_transitions (F : Fx w mg mb L sE W H b s m) (D : DObj w b x) (h : ∀ s', Fx w mg mb L sE W H b s' m -> Q (.ref x.T) s') : wpAny (model PP w) A (getAttr (.ref x.m) "transitions" expr) Q E s := o_get F D (at_transitions w) (fun _ _ _ _ _ _ => rfl) rfl h
theorem o_defaults (F : Fx w mg mb L sE W H b s m) (D : DObj w b x) (h : ∀ s', Fx w mg mb L sE W H b s' m -> Q (.ref x.Df) s') : wpAny (model PP w) A (getAttr (.ref x.m) "defaults" expr) Q E s := o_get F D (at_defaults w) (fun _ _ _ _ _ _ => rfl) rfl h
theorem o_finals (F : Fx w mg mb L sE W H b s m) (D : DObj w b x) (h : ∀ s', Fx w mg mb L sE W H b s' m -> Q (.ref x.Fs) s') : wpAny (model PP w) A (getAttr (.ref x.m) "final_states" expr) Q E s := o_get F D (at_finals w) (fun _ _ _ _ _ _ => rfl) rfl h
theorem o_outlabels (F : Fx w mg mb L sE W H b s m) (D : DObj w b x) (h : ∀ s', Fx w mg mb L sE W H b s' m -> Q (.ref x.Ol) s') : wpAny (model PP w) A (getAttr (.ref x.m) "outlabels" expr) Q E s := o_get F D (at_outlabels w) (fun _ _ _ _ _ _ => rfl) rfl h
end
end Mine
end
section
open PySem PySem.W PySem.Calls PyProof.Rows
namespace Mine
structure Rm (A : Around) (k : Nat) : Prop where
 hh : A.handled = none
 dp : A.depth + k < recursionLimit
 un : A.units + 8 * k < cLine
theorem Rm.deeper {A : Around} {k : Nat} (r : Rm A (k + 1)) (env : Env) : Rm (A.deeper env) k :=
 ⟨r.hh, by have := r.dp; show A.depth + 1 + k < _; exact ar15 this, by have := r.un; show A.units + 3 + 8 * k < _; exact arK 3 (by decide) this⟩
theorem Rm.le {A : Around} {j k : Nat} (r : Rm A k) (h : j <= k) : Rm A j := ⟨r.hh, by have := r.dp; exact Nat.lt_of_le_of_lt (Nat.add_le_add_left h _) this, by have := r.un; exact Nat.lt_of_le_of_lt (Nat.add_le_add_left (Nat.mul_le_mul_left 8 h) _) this⟩
theorem Rm.room {A : Around} {k : Nat} (r : Rm A k) : A.depth < recursionLimit := by have := r.dp; exact Nat.lt_of_add_right_lt this
theorem Rm.units {A : Around} {k : Nat} (r : Rm A k) : A.units < cLine := by have := r.un; exact Nat.lt_of_add_right_lt this
section
variable {w : World} {mg mb : Str -> Option Value} {L : Addr} {sE s s' : Shared} {W : Addr -> Prop} {H : List (Addr × Obj)} {b : Heap} {m : Str -> Option Value}
variable {A : Around} {E : Value -> Shared -> Prop} {env : Env}
theorem m_cw {pos : Pos} {f : Addr} {first : List Value} {e : PySem.Expr} {rest : List PySem.Expr} {fd : FuncData} {oc : Value} {od : Option Addr} {osl : Array (Option Value)} {Q : Value -> Shared -> Prop}
  (ho : (KK w).lookup f = some ⟨oc, od, .func fd, osl⟩)
  (h : wpAny (model PP w) A (spliced (backTo pos (starEach (e :: rest) env))) (fun vs s₁ => (KK w).In s₁.heap ∧ wpAny (model PP w) A (call (.ref f) (first ++ vs)) Q E s₁) E s)
  (he : starEach (e :: rest) env = (false, eval e env) :: starEach rest env := by rfl) :
  wpAny (model PP w) A (callWith pos (.ref f) first (backTo pos (starEach (e :: rest) env)) []) Q E s := by
 rw [he] at h ⊢;exact callWith_function (evalArgs_plain (wpAny_mono h (fun vs s₁ h₁ => ⟨⟨h₁.1 _ _ ho, rfl⟩, h₁.2⟩) ee))
theorem m_cw0 {pos : Pos} {f : Addr} {first : List Value} {fd : FuncData} {oc : Value} {od : Option Addr} {osl : Array (Option Value)} {Q : Value -> Shared -> Prop}
  (ho : (KK w).lookup f = some ⟨oc, od, .func fd, osl⟩) (g : (KK w).In s.heap)
  (h : wpAny (model PP w) A (call (.ref f) first) Q E s) :
  wpAny (model PP w) A (callWith pos (.ref f) first (backTo pos (starEach [] env)) []) Q E s :=
 callWith_function (PyProof.Rows.evalArgs_none ⟨⟨g _ _ ho, rfl⟩, by simpa using h⟩)
theorem m_cwb {pos : Pos} {id : String} {first : List Value} {e : PySem.Expr} {rest : List PySem.Expr} {Q : Value -> Shared -> Prop}
  (h : wpAny (model PP w) A (spliced (backTo pos (starEach (e :: rest) env))) (fun vs s₁ => wpAny (model PP w) A (call (.builtin id) (first ++ vs)) Q E s₁) E s)
  (he : starEach (e :: rest) env = (false, eval e env) :: starEach rest env := by rfl)
  (hplain : (backTo pos (starEach rest env)).any (·.1) = false := by rfl) :
  wpAny (model PP w) A (callWith pos (.builtin id) first (backTo pos (starEach (e :: rest) env)) []) Q E s := callWith_method1 h he hplain
theorem m_ct0 {pos : Pos} {T : String} {Q : Value -> Shared -> Prop} (h : wpAny (model PP w) A (call (.type T) []) Q E s) : wpAny (model PP w) A (callWith pos (.type T) [] (backTo pos (starEach [] env)) []) Q E s :=
 PyProof.Rows.callWith_type rfl (PyProof.Rows.evalArgs_none h)
theorem m_ct {pos : Pos} {T : String} {e : PySem.Expr} {rest : List PySem.Expr} {Q : Value -> Shared -> Prop}
  (h : wpAny (model PP w) A (spliced (backTo pos (starEach (e :: rest) env))) (fun vs s₁ => wpAny (model PP w) A (call (.type T) vs) Q E s₁) E s)
  (he : starEach (e :: rest) env = (false, eval e env) :: starEach rest env := by rfl)
  (hplain : (backTo pos (starEach rest env)).any (·.1) = false := by rfl) :
  wpAny (model PP w) A (callWith pos (.type T) [] (backTo pos (starEach (e :: rest) env)) []) Q E s := PyProof.Rows.callWith_type1 h he hplain
section
variable {K : Type} [DecidableEq K] {knd : KeyKind PP w K} {d : Addr} {kvs : List (K × Value)} {k : K} {key : Value}
theorem sysM (h : 456 <= d) : (d == sysModules) = false := by
 rw [beq_eq_false_iff_ne]; rintro rfl; exact absurd h (by decide)
theorem gm_dget {pl : Sem Bool} {Q : Value × List Value -> Shared -> Prop} (hd : s.heap.DictOf knd d kvs) (h : Q (.builtin "dict.get", [.ref d]) s) :
  wpAny (model PP w) A (getMethod (.ref d) "get" pl) Q E s := getMethod_builtin hd.typeIs PySem.F.plainAttrs_dict PySem.F.slot_dict_get PySem.F.type_dict_get hd.mapOf.noDict h
theorem gm_dsetdefault {pl : Sem Bool} {Q : Value × List Value -> Shared -> Prop} (hd : s.heap.DictOf knd d kvs) (h : Q (.builtin "dict.setdefault", [.ref d]) s) :
  wpAny (model PP w) A (getMethod (.ref d) "setdefault" pl) Q E s := getMethod_builtin hd.typeIs PySem.F.plainAttrs_dict PySem.F.slot_dict_setdefault PySem.F.type_dict_setdefault hd.mapOf.noDict h
theorem gm_ditems {pl : Sem Bool} {Q : Value × List Value -> Shared -> Prop} (hd : s.heap.DictOf knd d kvs) (h : Q (.builtin "dict.items", [.ref d]) s) :
  wpAny (model PP w) A (getMethod (.ref d) "items" pl) Q E s := getMethod_builtin hd.typeIs PySem.F.plainAttrs_dict PySem.F.slot_dict_items PySem.F.type_dict_items hd.mapOf.noDict h
theorem gm_dvalues {pl : Sem Bool} {Q : Value × List Value -> Shared -> Prop} (hd : s.heap.DictOf knd d kvs) (h : Q (.builtin "dict.values", [.ref d]) s) :
  wpAny (model PP w) A (getMethod (.ref d) "values" pl) Q E s := getMethod_builtin hd.typeIs PySem.F.plainAttrs_dict PySem.F.slot_dict_values PySem.F.type_dict_values hd.mapOf.noDict h
theorem d_get2 {dflt : Value} {Q : Value -> Shared -> Prop} (F : Fx w mg mb L sE W H b s m) (lo : 456 <= d) (hk : knd.is k key = true) (hd : s.heap.DictOf knd d kvs) (h : ∀ s', Fx w mg mb L sE W H b s' m -> s'.heap = s.heap -> Q ((valueAt kvs k).getD dflt) s') :
  wpAny (model PP w) A (call (.builtin "dict.get") [.ref d, key, dflt]) Q E s :=
 call_meetsIn PySem.F.slot_dict_get hd.typeIs PySem.F.entry_dict_get (PySem.F.args_dict_get_3 _ _ _) (meets_dict_get_default knd d hk (sysM lo) dflt) ⟨_, hd.mapOf, h _ (F.tok _) rfl⟩
theorem Fx.alloc {o : Obj} {Q : Addr -> Shared -> Prop} (F : Fx w mg mb L sE W H b s m) (hf : o.isFreed = false)
  (h : ∀ s' a, Fx w mg mb L sE W H b s' m -> s'.heap.get? a = some o -> b.get? a = none -> a ∉ L :: H.map (·.1) -> 456 <= a -> s.heap.get? a = none -> Stp W0 s s' -> Q a s') : Q s.heap.objs.size { s with heap := s.heap.push o } := by
 have hn := F.none_of (Nat.le_refl _);have S : Stp W0 s { s with heap := s.heap.push o } := .of fun _ _ e => Heap.get?_push_of_some _ e;exact h _ _ (F.grow S) (Heap.get?_push_size _ hf) hn.1 hn.2.1 hn.2.2.2 (Heap.get?_size_none _) S
theorem m_dict0 {pos : Pos} {Q : Value -> Shared -> Prop} (F : Fx w mg mb L sE W H b s m)
  (h : ∀ s' a, Fx w mg mb L sE W H b s' m -> s'.heap.get? a = some { cls := .type "dict", data := .dict #[] } -> b.get? a = none -> a ∉ L :: H.map (·.1) -> 456 <= a -> s.heap.get? a = none -> Stp W0 s s' -> Q (.ref a) s') :
  wpAny (model PP w) A (eval (.Dict [] [] pos) env) Q E s := wpAny_Dict_empty (F.alloc (Q := fun a s' => Q (.ref a) s') rfl h)
theorem m_cnone {k : Nat} {pos : Pos} {Q : Value -> Shared -> Prop} (h : Q .none s) : wpAny (model PP w) A (eval (.Constant .none k pos) env) Q E s := fun _ _ _ => h
theorem m_cint {i : Int} {k : Nat} {pos : Pos} {Q : Value -> Shared -> Prop} (F : Fx w mg mb L sE W H b s m) (h : ∀ s' t, Fx w mg mb L sE W H b s' m -> s'.heap = s.heap -> Q (.int i t) s') : wpAny (model PP w) A (eval (.Constant (.int i) k pos) env) Q E s :=
 wpAny_Constant_int (h _ _ (F.tok _) rfl)
theorem m_cstr {x : Str} {k : Nat} {pos : Pos} {Q : Value -> Shared -> Prop} (F : Fx w mg mb L sE W H b s m) (h : ∀ s' t, Fx w mg mb L sE W H b s' m -> s'.heap = s.heap -> Q (.str x t) s') : wpAny (model PP w) A (eval (.Constant (.str x) k pos) env) Q E s :=
 Constant_str (h _ _ (F.tok _) rfl)
end
end
end Mine
end
section
open PySem PySem.W PySem.Calls PyProof.Rows
namespace Mine
section
variable {w : World} {A : Around} {E : Value -> Shared -> Prop} {s : Shared}
theorem pyHash_none {Q : Int -> Shared -> Prop} (h : Q 0xFCA86420 { s with toks := s.toks + 1 }) : wpAny (model PP w) A (pyHash .none) Q E s := by
 have hT : s.TypeIs .none "NoneType" := rfl;unfold pyHash pyHashByItsType;refine wpAny_bind (wpAny_cRoomFor_byValue rfl ?_);refine wpAny_bind (wpAny_specialOf hT PySem.F.slot_NoneType_hash.lookup ?_);rw [if_neg (by rw [beq_builtin_none]; exact Bool.false_ne_true)];refine wpAny_bind (wpAny_specialOf hT PySem.F.slot_NoneType_hash.lookup ?_);rw [if_neg (by decide)];refine wpAny_bind (wpAny_callSpecialIfBoundUnlessNone?_slot hT PySem.F.slot_NoneType_hash (wpAny_call_entry PySem.F.slot_NoneType_hash hT PySem.F.entry_NoneType_hash ?_ (PySem.F.args_NoneType_hash_1 _)));show wpAny _ _ (do ret (← mkInt 4238894112)) _ _ _;refine wpAny_bind (wpAny_mkInt (wpAny_pure ⟨_, rfl, ?_⟩));show wpAny _ _ (pyHashByItsType.reduced 4238894112) _ _ _;exact wpAny_pure h
theorem eqBool_in {a : Int} {t : Tok} {Q : Bool -> Shared -> Prop} (h : Q false s) : wpAny (model PP w) A (eqBool (.int a t) .none) Q E s := by
 unfold eqBool;refine wpAny_holding ?_;rw [if_neg (by simp)];exact wpAny_bind (EqNone.eq_int_none (wpAny_truthy_bool h))
theorem eqBool_ni {a : Int} {t : Tok} {Q : Bool -> Shared -> Prop} (h : Q false s) : wpAny (model PP w) A (eqBool .none (.int a t)) Q E s := by
 unfold eqBool;refine wpAny_holding ?_;rw [if_neg (by simp)];exact wpAny_bind (EqNone.eq_none_int (wpAny_truthy_bool h))
theorem eqBool_nn {Q : Bool -> Shared -> Prop} (h : Q true s) : wpAny (model PP w) A (eqBool .none .none) Q E s := by
 unfold eqBool;refine wpAny_holding ?_;rw [if_pos (by simp)];exact wpAny_bind (wpAny_rule (wpAny_pure h))
end
noncomputable def isOI : Option Int -> Value -> Bool
 | some k, v => Value.isInt k v
 | none, .none => true
 | none, _ => false
theorem isOI_shape {k : Option Int} {v : Value} (h : isOI k v = true) : (k = none ∧ v = .none) ∨ ∃ i t, k = some i ∧ v = .int i t := by
 cases k with
 | none => cases v <;> first | exact .inl ⟨rfl, rfl⟩ | cases h
 | some i => obtain ⟨t, rfl⟩ := Value.isInt_shape h; exact .inr ⟨i, t, rfl, rfl⟩
theorem oi_eqBool {w : World} {A : Around} {E : Value -> Shared -> Prop} {s : Shared} {a b : Option Int} {u v : Value} {Q : Bool -> Shared -> Prop} (hu : isOI a u = true) (hv : isOI b v = true) (h : Q (decide (a = b)) s) :
  wpAny (model PP w) A (PySem.eqBool u v) Q E s := by
 rcases isOI_shape hu with ⟨rfl, rfl⟩ | ⟨i, t, rfl, rfl⟩ <;> rcases isOI_shape hv with ⟨rfl, rfl⟩ | ⟨j, u, rfl, rfl⟩
 ·exact eqBool_nn (by simpa using h)
 ·exact eqBool_ni (by simpa using h)
 ·exact eqBool_in (by simpa using h)
 ·refine wpAny_eqBool_int ?_;have e : (i == j) = decide (some i = some j) := by
   by_cases q : i = j
   ·subst q; simp
   ·simp [q]
  rw [e]; exact h
noncomputable def oiKind (w : World) : KeyKind PP w (Option Int) where
 is := isOI
 hash := fun k => match k with | some i => hashInt i | none => 0xFCA86420
 inj := fun v a b ha hb => by
  rcases isOI_shape ha with ⟨rfl, rfl⟩ | ⟨i, t, rfl, rfl⟩ <;> rcases isOI_shape hb with ⟨rfl, e⟩ | ⟨j, u, rfl, e⟩ <;> cases e <;> rfl
 byValue := fun k v h => by rcases isOI_shape h with ⟨rfl, rfl⟩ | ⟨i, t, rfl, rfl⟩ <;> rfl
 pyHash := fun hv h => by
  rcases isOI_shape hv with ⟨rfl, rfl⟩ | ⟨i, t, rfl, rfl⟩
  ·exact pyHash_none h
  ·exact wpAny_pyHash_int h
 eqBool := fun hu hv h => oi_eqBool hu hv h
 «strs» := fun k x t v h => by
  rcases isOI_shape h with ⟨rfl, e⟩ | ⟨i, t, rfl, e⟩ <;> cases e
theorem oi_int (w : World) (i : Int) (t : Tok) : (oiKind w).is (some i) (.int i t) = true := by simp [oiKind, isOI, Value.isInt]
end Mine
end
section
open PySem PySem.W PySem.Calls PyProof.Rows
namespace Mine
structure DC where
 x : DA
 tra : List (Int × Addr × List (Str × Int × Tok))
 fin : Int -> Bool
 nf : Nat
 out : List (Int × Addr × List Value)
noncomputable def DC.look (c : DC) (q : Int) : Option (Addr × List (Str × Int × Tok)) := (c.tra.find? fun x => x.1 = q).map (·.2)
noncomputable def DC.next (c : DC) (q : Int) (l : Str) : Option Int := (c.look q).bind fun x => intAt x.2 l
noncomputable def DC.kvs (c : DC) : List (Int × Value) := c.tra.map fun x => (x.1, Value.ref x.2.1)
theorem DC.valueAt_kvs (c : DC) (q : Int) : valueAt c.kvs q = (c.look q).map fun x => .ref x.1 := by
 unfold valueAt DC.kvs DC.look
 induction c.tra with
 | nil => rfl
 | cons x r ih =>
  simp only [List.map_cons, List.find?_cons]
  by_cases h : x.1 = q
  ·simp [h]
  ·simp only [h, decide_false]; exact ih
noncomputable def DC.finO (c : DC) : Option Int -> Bool
 | some i => c.fin i
 | none => false
theorem _root_.PySem.Heap.SetOf.keep {w : World} {K : Type} [DecidableEq K] {knd : KeyKind PP w K} {h h' : Heap} {a : Addr} {S : K -> Bool} {n : Nat} (x : h.SetOf knd a S n) (k : Kp h h') : h'.SetOf knd a S n :=
 by obtain ⟨o, es, ep, t, e, r⟩ := x; exact ⟨o, es, ep, t, k _ _ e, r⟩
structure DFAAt (w : World) (h : Heap) (c : DC) : Prop where
 obj : DObj w h c.x
 T : h.DictOf (intKind PP w) c.x.T c.kvs
 rows : ∀ x ∈ c.tra, h.DictOf (strKind PP w) x.2.1 (intPairs x.2.2) ∧ 456 <= x.2.1
 Df : h.DictOf (intKind PP w) c.x.Df []
 Fs : h.SetOf (oiKind w) c.x.Fs c.finO c.nf
 Ol : h.DictOf (intKind PP w) c.x.Ol (c.out.map fun x => (x.1, Value.ref x.2.1))
 outs : ∀ x ∈ c.out, h.IsList x.2.1 x.2.2.toArray
 loT : 456 <= c.x.T
 loDf : 456 <= c.x.Df
 loOl : 456 <= c.x.Ol
 loFs : 456 <= c.x.Fs
 nd : (c.x.d :: c.x.T :: c.x.Df :: c.x.Ol :: c.tra.map (·.2.1)).Nodup
theorem DFAAt.keeps {w : World} {h h' : Heap} {c : DC} (y : DFAAt w h c) (k : Kp h h') : DFAAt w h' c :=
 ⟨y.obj.keeps k, y.T.keep k, fun x hx => ⟨(y.rows x hx).1.keep k, (y.rows x hx).2⟩, y.Df.keep k, y.Fs.keep k, y.Ol.keep k, fun x hx => (by obtain ⟨o, e, r⟩ := y.outs x hx; exact ⟨o, k _ _ e, r⟩), y.loT, y.loDf, y.loOl, y.loFs, y.nd⟩
theorem DFAAt.row {w : World} {h : Heap} {c : DC} (y : DFAAt w h c) {q : Int} {x : Addr × List (Str × Int × Tok)} (e : c.look q = some x) : h.DictOf (strKind PP w) x.1 (intPairs x.2) ∧ 456 <= x.1 := by
 unfold DC.look at e;cases hf : c.tra.find? fun x => decide (x.1 = q) with
 | none => rw [hf] at e; cases e
 | some z => rw [hf] at e; cases e; exact y.rows z (List.mem_of_find?_eq_some hf)
theorem valueAt_intAt (vals : List (Str × Int × Tok)) (k : Str) : ∃ t, valueAt (intPairs vals) k = (intAt vals k).map fun i => .int i t := by
 cases h : intAt vals k with
 | some i =>
  obtain ⟨t, ht⟩ := valueAt_intPairs_of_isSome (vals := vals) (k := k) (by rw [h]; rfl);exact ⟨t, by rw [ht, h]; rfl⟩
 | none =>
  have := isSome_valueAt_intPairs vals k;rw [h] at this;exact ⟨0, by cases hv : valueAt (intPairs vals) k with | none => rfl | some v => rw [hv] at this; cases this⟩
section
variable {w : World} {mg mb : Str -> Option Value} {s : Shared} {A : Around} {E : Value -> Shared -> Prop}
theorem start_spec {c : DC} {Q : Value -> Shared -> Prop} {k : Nat} (g : G w mg mb s.heap) (hA : Rm A k) (D : DFAAt w s.heap c)
  (h : ∀ s' t, Stp W0 s s' -> Q (.int 0 t) s') : wpAny (model PP w) A (call (.ref 229) [.ref c.x.m]) Q E s := by
 refine wpAny_call (m_call W0 [("self", .ref c.x.m)] g hA.room (by rfl) (by kernel_rfl) (.of_eq (by rfl)) (locs (by rfl)) (fun s₁ F => ?_) (by decide));refine gQ1 fun Q0 hQ0 => ?_;exact wpAny_execs_cons (wpAny_Return_some (m_attr (m_local F (by rfl) (o_initial F D.obj fun s _ F => hQ0 _ _ (h _ _ F.done)))))
theorem is_final_spec {c : DC} {q : Option Int} {v : Value} {Q : Value -> Shared -> Prop} {k : Nat} (g : G w mg mb s.heap) (hA : Rm A k) (D : DFAAt w s.heap c) (hv : isOI q v = true)
  (h : ∀ s', Stp W0 s s' -> Q (.bool (c.finO q)) s') : wpAny (model PP w) A (call (.ref 257) [.ref c.x.m, v]) Q E s := by
 refine wpAny_call (m_call W0 [("self", .ref c.x.m), ("state", v)] g hA.room (by rfl) (by kernel_rfl) (.of_eq (by rfl)) (locs (by rfl)) (fun s₁ F => ?_) (by decide));refine gQ1 fun Q0 hQ0 => ?_;refine wpAny_execs_cons (wpAny_Return_some (wpAny_Compare1 (m_local F (by rfl) (m_attr (m_local F (by rfl) (o_finals F D.obj fun s F => ?_))))));refine wpAny_inSet_of (knd := oiKind w) hv ?_ (D.Fs.keep F.keep) (hQ0 _ _ (h _ (F.tok _).done));rcases isOI_shape hv with ⟨_, rfl⟩ | ⟨i, t, _, rfl⟩ <;> rfl
theorem next_state_spec {c : DC} {q : Int} {tq : Tok} {l : Str} {tl : Tok} {Q : Value -> Shared -> Prop} {k : Nat} (g : G w mg mb s.heap) (hA : Rm A k) (D : DFAAt w s.heap c)
  (hsome : ∀ s' d t, Stp W0 s s' -> c.next q l = some d -> Q (.int d t) s') (hnone : ∀ s', Stp W0 s s' -> c.next q l = none -> Q .none s') :
  wpAny (model PP w) A (call (.ref 264) [.ref c.x.m, .int q tq, .str l tl]) Q E s := by
 refine wpAny_call (m_call W0 [("self", .ref c.x.m), ("src", .int q tq), ("label", .str l tl)] g hA.room (by rfl) (by kernel_rfl) (.of_eq (by rfl)) (locs (by rfl)) (fun s₁ F => ?_) (by decide));refine gQ1 fun Q0 hQ0 => ?_;refine wpAny_execs_cons (wpAny_Assign_Name (MethodCall_ (m_attr (m_local F (by rfl) (o_transitions F D.obj fun s F => gm_dget (D.T.keep F.keep) (m_cwb (args_cons (m_local F (by rfl) (args_cons (m_dict0 F fun s x F ex _ hx lx _ _ => args_nil ?_))))))))));refine d_get2 F D.loT (intKind_is _ _ _ _) (D.T.keep F.keep) fun s F hs => ?_;rw [← hs] at ex;refine (F.rebase) _ fun b' F kb kn => ?_;have D' := D.keeps kb;have row : ∃ r vals, (valueAt c.kvs q).getD (.ref x) = .ref r ∧ 456 <= r ∧ b'.DictOf (strKind PP w) r (intPairs vals) ∧ c.next q l = intAt vals l := by
  rw [c.valueAt_kvs];cases hl : c.look q with
  | some z => exact ⟨z.1, z.2, rfl, (D'.row hl).2, (D'.row hl).1, by simp only [DC.next, hl]; rfl⟩
  | none => exact ⟨x, [], rfl, lx, ⟨_, _, _, kn x _ hx ex, ⟨rfl, rfl, rfl⟩, rfl, (fun e he => by simp at he), .nil, .nil⟩, by simp only [DC.next, hl]; rfl⟩
 obtain ⟨r, vals, er, lr, hr, hn⟩ := row;rw [er];refine m_store F fun s F => ?_;refine wpAny_execs_cons (wpAny_Return_some (MethodCall_ (m_local F (by rfl) (gm_dget (hr.keep F.keep) (m_cwb ?_)))));refine args_cons (m_local F (by rfl) (args_cons (MethodCall_ (m_attr (m_local F (by rfl) (o_defaults F D'.obj fun s F => ?_))))));refine gm_dget (D'.Df.keep F.keep) (m_cwb (args_cons (m_local F (by rfl) (args_cons (m_cnone (args_nil ?_))))));refine d_get2 F D'.loDf (intKind_is _ _ _ _) (D'.Df.keep F.keep) fun s F _ => args_nil ?_;refine d_get2 F lr (strKind_is _ _ _ _) (hr.keep F.keep) fun s F _ => ?_;obtain ⟨t, ht⟩ := valueAt_intAt vals l;rw [ht, ← hn];cases hx : c.next q l with
 | some d => exact hQ0 _ _ (hsome _ d t F.done hx)
 | none => exact hQ0 _ _ (hnone _ F.done hx)
end
end Mine
end
section
open PySem PySem.W PySem.Calls PyProof.Rows
namespace Mine
theorem movL {h h' : Heap} {a : Addr} {items : Array Value} (x : h.IsList a items) (k : ∀ o, h.get? a = some o -> h'.get? a = some o) : h'.IsList a items := by obtain ⟨o, e, r⟩ := x; exact ⟨o, k _ e, r⟩
theorem movD {h h' : Heap} {w : World} {K : Type} [DecidableEq K] {knd : KeyKind PP w K} {a : Addr} {kvs : List (K × Value)} (x : h.DictOf knd a kvs) (k : ∀ o, h.get? a = some o -> h'.get? a = some o) : h'.DictOf knd a kvs := by
 obtain ⟨o, es, ep, e, r⟩ := x; exact ⟨o, es, ep, k _ e, r⟩
noncomputable def DOb (h : Heap) (a : Addr) : Prop := ∀ C : Prop, (∀ (o : Obj) (e : h.get? a = some o) (x : o.ExactDict), C) -> C
theorem dob {h : Heap} {w : World} {K : Type} [DecidableEq K] {knd : KeyKind PP w K} {a : Addr} {kvs : List (K × Value)} (x : h.DictOf knd a kvs) : DOb h a := by
 intro C kk; obtain ⟨o, _, _, e, q, _⟩ := x; exact kk o e q
theorem movE {h h' : Heap} {w : World} {K : Type} [DecidableEq K] {knd : KeyKind PP w K} {a : Addr} {kvs : List (K × Value)} (x : h.DictOf knd a kvs) (k : ∀ o, h.get? a = some o -> o.ExactDict -> h'.get? a = some o) : h'.DictOf knd a kvs := by
 obtain ⟨o, es, ep, e, q, r⟩ := x; exact ⟨o, es, ep, k _ e q, q, r⟩
noncomputable def SOb (h : Heap) (a : Addr) : Prop := ∀ C : Prop, (∀ (o : Obj) (e : h.get? a = some o) (x : o.ExactSet), C) -> C
theorem sob {h : Heap} {w : World} {K : Type} [DecidableEq K] {knd : KeyKind PP w K} {a : Addr} {S : K -> Bool} {n : Nat} (x : h.SetOf knd a S n) : SOb h a := by
 intro C kk; obtain ⟨o, _, _, _, e, q, _⟩ := x; exact kk o e q
theorem movT {h h' : Heap} {w : World} {K : Type} [DecidableEq K] {knd : KeyKind PP w K} {a : Addr} {S : K -> Bool} {n : Nat} (x : h.SetOf knd a S n) (k : ∀ o, h.get? a = some o -> o.ExactSet -> h'.get? a = some o) : h'.SetOf knd a S n := by
 obtain ⟨o, es, ep, t, e, q, r⟩ := x; exact ⟨o, es, ep, t, k _ e q, q, r⟩
theorem keepsL {h h' : Heap} {a : Addr} {items : Array Value} (x : h.IsList a items) (k : Kp h h') : h'.IsList a items := by obtain ⟨o, e, r⟩ := x; exact ⟨o, k _ _ e, r⟩
structure Iter (w : World) (I : Addr) (It : Nat -> Obj -> Prop) (n : Nat) (P : Nat -> Value -> Prop) (Src : Heap -> Prop) : Prop where
 keep : ∀ h h', Src h -> Kp h h' -> Src h'
 item : ∀ (A : Around) i (s : Shared) (Q : Option Value -> Shared -> Prop) (E : Value -> Shared -> Prop) o, A.handled = none -> i < n -> s.heap.get? I = some o -> It i o -> Src s.heap ->
  (∀ v h' tk o', P i v -> h'.get? I = some o' -> It (i + 1) o' -> KpD I s.heap h' -> Q (some v) { s with heap := h', toks := tk }) -> wpAny (model PP w) A (pyNext (.ref I)) Q E s
 done : ∀ (A : Around) (s : Shared) (Q : Option Value -> Shared -> Prop) (E : Value -> Shared -> Prop) o, A.handled = none -> s.heap.get? I = some o -> It n o -> Src s.heap ->
  (∀ h' tk, (KpD I s.heap h') -> Q none { s with heap := h', toks := tk }) -> wpAny (model PP w) A (pyNext (.ref I)) Q E s
section
variable {w : World} {mg mb : Str -> Option Value} {L : Addr} {sE s s' : Shared} {W : Addr -> Prop} {H : List (Addr × Obj)} {b : Heap} {m : Str -> Option Value}
variable {A : Around} {E : Value -> Shared -> Prop} {env : Env}
noncomputable def LpG (w : World) (mg mb : Str -> Option Value) (L : Addr) (sE : Shared) (W : Addr -> Prop) (H : List (Addr × Obj)) (I : Addr) (It : Nat -> Obj -> Prop) (J : Nat -> Heap -> (Str -> Option Value) -> Prop) (n N : Nat) (s : Shared) : Prop := ∀ CC : Prop, (∀ (i : Nat) (b : Heap) (m : Str -> Option Value) (o : Obj) (F : Fx w mg mb L sE W ((I, o) :: H) b s m) (hi : It i o) (hj : J i b m) (hin : i <= n) (e : N = n - i), CC) -> CC
theorem for_gen {R : Result -> Shared -> Prop} {v : Str} {px : Pos} {body orelse : List Stmt} {I : Addr} {o0 : Obj} {It : Nat -> Obj -> Prop} {n : Nat} {P : Nat -> Value -> Prop} {Src : Heap -> Prop} (T : Iter w I It n P Src) (hh : A.handled = none)
  (J : Nat -> Heap -> (Str -> Option Value) -> Prop) (hS : ∀ i b m, J i b m -> Src b)
  (F : Fx w mg mb L sE W ((I, o0) :: H) b s m) (hI : ∀ p ∈ H, p.1 ≠ I) (h0 : It 0 o0) (j0 : J 0 b m)
  (step : ∀ i val s b m o, i < n -> P i val -> J i b m -> Fx w mg mb L sE W ((I, o) :: H) b s (upd m v val) ->
   wpAny (model PP w) A (execs body env) (fun f s' => match f with
    | .next | .cont => ∃ b' m', Fx w mg mb L sE W ((I, o) :: H) b' s' m' ∧ J (i + 1) b' m'
    | .brk => R (.ok .next) s'
    | .ret u => R (.ok (.ret u)) s') (notedBy (model PP w) A env fun e s' => R (.error e) s') s)
  (fin : ∀ s b m, J n b m -> Fx w mg mb L sE W H b s m -> wpAny (model PP w) A (execs orelse env) (fun f s' => R (.ok f) s') (notedBy (model PP w) A env fun e s' => R (.error e) s') s)
  (hL : env.locals = L := by rfl) (hk : env.scope.kind = .function := by rfl) (hl : env.kindOf v = some .local := by rfl) :
  codeAny (model PP w) A (.forLoop (.Name v px) (.ref I) body orelse env) R s := by
 refine codeAny_forLoop (LpG w mg mb L sE W H I It J n) ?_ n (fun _ kk => kk 0 b m o0 F h0 j0 (Nat.zero_le _) rfl);intro N s hLp;refine hLp _ fun i b m o F hi hj hin eq1 => ?_;subst eq1;have h1 := F.hid _ (List.mem_cons_self);have src : Src s.heap := T.keep _ _ (hS _ _ _ hj) F.keep
 by_cases hlt : i < n
 ·refine T.item A i s _ _ o hh hlt h1.1 hi src fun val h' tk o' hp he hi' hk' => ?_;have F' : Fx w mg mb L sE W ((I, o') :: H) b { s with heap := h', toks := tk } m := F.turn hI he hk' rfl rfl;refine wpAny_assign_Name (m_store F' (fun s F => ?_) hL hk hl);refine wpAny_mono (step i val s b m o' hlt hp hj F) (fun f s' hf => ?_) ee;cases f with
  | next => obtain ⟨b', m', F', hj'⟩ := hf; exact ⟨n - (i + 1), (ar1 hlt), fun _ kk => kk (i + 1) b' m' o' F' hi' hj' hlt rfl⟩
  | cont => obtain ⟨b', m', F', hj'⟩ := hf; exact ⟨n - (i + 1), (ar1 hlt), fun _ kk => kk (i + 1) b' m' o' F' hi' hj' hlt rfl⟩
  | brk => exact hf
  | ret u => exact hf
 ·have e : i = n := (ar2 hin hlt);subst e;exact T.done A s _ _ o hh h1.1 hi src fun h' tk hk' => fin _ b m hj (F.over hI hk' rfl rfl)
theorem Iter.ascii {I : Addr} {x : Str} {t : Tok} : Iter w I (fun i o => o.cls = .type "str_ascii_iterator" ∧ o.data = .fields #[.str x t, .int i 0]) x.cps.size (fun i v => ∃ c u, x.cps[i]? = some c ∧ v = .str ⟨#[c]⟩ u) (fun _ => True) where
 keep := fun _ _ _ _ => trivial
 item := fun A i s Q E o hh hi ho hit _ hQ => by
  refine wpAny_pyNext_ascii_item (c := x.cps[i]) ⟨o, ho, hit.1, hit.2⟩ (by simp [hi]) fun h' hit' hs' => ?_;obtain ⟨o', ho', hit'⟩ := hit';exact hQ _ h' _ o' ⟨_, _, by simp [hi], rfl⟩ ho' hit' fun a o ha e => (hs'.2 a ha).trans e
 done := fun A s Q E o hh ho hit _ hQ => wpAny_pyNext_ascii_end hh ⟨o, ho, hit.1, hit.2⟩ (by simp) fun h' he' => hQ h' _ fun a o ha e => he' a o ha e
theorem Iter.list {I ax : Addr} {items : Array Value} : Iter w I (fun i o => o.cls = .type "list_iterator" ∧ o.data = .fields #[.ref ax, .int i 0]) items.size (fun i v => items[i]? = some v) (fun h => h.IsList ax items) where
 keep := fun _ _ x k => keepsL x k
 item := fun A i s Q E o hh hi ho hit hl hQ => by
  refine wpAny_pyNext_list_item (x := items[i]) ⟨o, ho, hit.1, hit.2⟩ hl (by simp [hi]) fun h' hit' hs' => ?_;obtain ⟨o', ho', hit'⟩ := hit';exact hQ _ h' _ o' (by simp [hi]) ho' hit' fun a o ha e => (hs'.2 a ha).trans e
 done := fun A s Q E o hh ho hit hl hQ => wpAny_pyNext_list_end hh ⟨o, ho, hit.1, hit.2⟩ hl (by simp) fun h' he' => hQ h' _ fun a o ha e => he' a o ha e
theorem for_str {R : Result -> Shared -> Prop} {v : Str} {px : Pos} {body orelse : List Stmt} {x : Str} {t : Tok} (hh : A.handled = none) (ha : x.cps.all (· < 128) = true)
  (J : Nat -> Heap -> (Str -> Option Value) -> Prop) (F : Fx w mg mb L sE W H b s m) (j0 : J 0 b m)
  (step : ∀ i c u s b m H', (∀ p ∈ H, p ∈ H') -> x.cps[i]? = some c -> J i b m -> Fx w mg mb L sE W H' b s (upd m v (.str ⟨#[c]⟩ u)) ->
   wpAny (model PP w) A (execs body env) (fun f s' => match f with
    | .next | .cont => ∃ b' m', Fx w mg mb L sE W H' b' s' m' ∧ J (i + 1) b' m'
    | .brk => R (.ok .next) s'
    | .ret u => R (.ok (.ret u)) s') (notedBy (model PP w) A env fun e s' => R (.error e) s') s)
  (fin : ∀ s b m, J x.cps.size b m -> Fx w mg mb L sE W H b s m -> wpAny (model PP w) A (execs orelse env) (fun f s' => R (.ok f) s') (notedBy (model PP w) A env fun e s' => R (.error e) s') s)
  (hL : env.locals = L := by rfl) (hk : env.scope.kind = .function := by rfl) (hl : env.kindOf v = some .local := by rfl) :
  wpAny (model PP w) A (pyIter (.str x t)) (fun it s₂ => codeAny (model PP w) A (.forLoop (.Name v px) it body orelse env) R s₂) E s := by
 refine wpAny_pyIter_ascii ha ?_;refine for_gen Iter.ascii hh J (fun _ _ _ _ => trivial) (F.push rfl) (fun p hp e => ?_) ⟨rfl, rfl⟩ j0 (fun i val s b m o hi hp hj F' => ?_) fin hL hk hl
 ·exact absurd (Heap.lt_size (F.hid p hp).1) (by rw [e]; exact Nat.lt_irrefl _)
 ·obtain ⟨c, u, hc, rfl⟩ := hp;exact step i c u s b m _ (fun p hp => List.mem_cons_of_mem _ hp) hc hj F'
theorem for_list {R : Result -> Shared -> Prop} {v : Str} {px : Pos} {body orelse : List Stmt} {ax : Addr} {items : Array Value} (hh : A.handled = none)
  (J : Nat -> Heap -> (Str -> Option Value) -> Prop) (hS : ∀ i b m, J i b m -> b.IsList ax items) (F : Fx w mg mb L sE W H b s m) (j0 : J 0 b m)
  (step : ∀ i val s b m H', (∀ p ∈ H, p ∈ H') -> items[i]? = some val -> J i b m -> Fx w mg mb L sE W H' b s (upd m v val) ->
   wpAny (model PP w) A (execs body env) (fun f s' => match f with
    | .next | .cont => ∃ b' m', Fx w mg mb L sE W H' b' s' m' ∧ J (i + 1) b' m'
    | .brk => R (.ok .next) s'
    | .ret u => R (.ok (.ret u)) s') (notedBy (model PP w) A env fun e s' => R (.error e) s') s)
  (fin : ∀ s b m, J items.size b m -> Fx w mg mb L sE W H b s m -> wpAny (model PP w) A (execs orelse env) (fun f s' => R (.ok f) s') (notedBy (model PP w) A env fun e s' => R (.error e) s') s)
  (hL : env.locals = L := by rfl) (hk : env.scope.kind = .function := by rfl) (hl : env.kindOf v = some .local := by rfl) :
  wpAny (model PP w) A (pyIter (.ref ax)) (fun it s₂ => codeAny (model PP w) A (.forLoop (.Name v px) it body orelse env) R s₂) E s := by
 refine wpAny_pyIter_list (keepsL (hS _ _ _ j0) F.keep) ?_;refine for_gen Iter.list hh J hS (F.push rfl) (fun p hp e => ?_) ⟨rfl, rfl⟩ j0 (fun i val s b m o hi hp hj F' => ?_) fin hL hk hl
 ·exact absurd (Heap.lt_size (F.hid p hp).1) (by rw [e]; exact Nat.lt_irrefl _)
 ·exact step i val s b m _ (fun p hp => List.mem_cons_of_mem _ hp) hp hj F'
end
section
variable {w : World} {mg mb : Str -> Option Value} {s : Shared} {A : Around} {E : Value -> Shared -> Prop}
noncomputable def DC.run (c : DC) : Int -> List Nat -> Option Int
 | q, [] => some q
 | q, l :: r => (c.next q ⟨#[l]⟩).bind fun q' => c.run q' r
theorem DC.run_append (c : DC) : ∀ (q : Int) (a r : List Nat), c.run q (a ++ r) = (c.run q a).bind fun q' => c.run q' r
 | q, [], r => rfl
 | q, l :: a, r => by
  show (c.next q ⟨#[l]⟩).bind _ = ((c.next q ⟨#[l]⟩).bind _).bind _;cases c.next q ⟨#[l]⟩ with
  | none => rfl
  | some q' => exact c.run_append q' a r
theorem DC.run_take (c : DC) {q₀ q : Int} {l : List Nat} {i a : Nat} (h : c.run q₀ (l.take i) = some q) (hl : l[i]? = some a) : c.run q₀ (l.take (i + 1)) = c.next q ⟨#[a]⟩ := by
 rw [List.take_add_one, hl, c.run_append, h]
 show (c.next q ⟨#[a]⟩).bind _ = _;cases c.next q ⟨#[a]⟩ <;> rfl
theorem DC.run_some (c : DC) {q₀ q : Int} {l : List Nat} (h : c.run q₀ l = some q) (i : Nat) : (c.run q₀ (l.take i)).isSome = true := by
 rw [← List.take_append_drop i l, c.run_append] at h;cases hr : c.run q₀ (l.take i) with
 | some _ => rfl
 | none => rw [hr] at h; cases h
inductive LsJ (w : World) (c : DC) (l : List Nat) (vm : Value) (i : Nat) (b : Heap) (m : Str -> Option Value) : Prop
 | mk (D : DFAAt w b c) (hm : m "machine" = some vm) (q : Int) (t : Tok) (hr : c.run 0 (l.take i) = some q) (hs : m "state" = some (.int q t)) : LsJ w c l vm i b m
theorem law_state_spec {c : DC} {x : Str} {t : Tok} {Q : Value -> Shared -> Prop} {k : Nat} {q : Int} (g : G w mg mb s.heap) (hA : Rm A (k + 1)) (D : DFAAt w s.heap c) (ha : x.cps.all (· < 128) = true) (hq : c.run 0 x.cps.toList = some q)
  (h : ∀ s' t, Stp W0 s s' -> Q (.int q t) s') : wpAny (model PP w) A (call (.ref 436) [.ref c.x.m, .str x t]) Q E s := by
 refine wpAny_call (m_call W0 [("machine", .ref c.x.m), ("word", .str x t)] g hA.room (by rfl) (by kernel_rfl) (.of_eq (by rfl)) (locs (by rfl)) (fun s₁ F => ?_) (by decide));have hB : ∀ env, Rm (A.deeper env) k := fun env => hA.deeper env;refine wpAny_execs_cons (wpAny_Assign_Name (MethodCall_ (m_local F (by rfl) (o_meth F (mt_start w) D.obj (m_cw0 (by rfl) F.g.X ?_)))));refine start_spec F.g (hB _) (D.keeps F.keep) fun s t0 S => m_store (F.grow S) fun s F => ?_;refine wpAny_execs_cons (wpAny_For (m_local F (by rfl) (for_str (hB default).hh ha (LsJ w c x.cps.toList (.ref c.x.m)) F ⟨D, rfl, 0, _, rfl, rfl⟩ ?_ ?_)))
 ·intro i l u s b m H' hH hl hJ F;refine gQ fun Qb Eb hQb hEb => ?_;obtain ⟨D, hm, q, tq, hr, hs⟩ := hJ;refine wpAny_execs_cons (wpAny_Assign_Name (MethodCall_ (m_local F (by exact hm) (o_meth F (mt_next_state w) D.obj (m_cw (by rfl) ?_)))));refine args_cons (m_local F (by exact hs) (args_cons (m_local F (by rfl) (args_nil ⟨F.g.X, ?_⟩))));have hrun := c.run_take hr (by simpa using hl);refine next_state_spec F.g (hB _) (D.keeps F.keep) (fun s' d t S hn => m_store (F.grow S) fun s F => wpAny_execs_nil (hQb _ _ ⟨_, _, F, D, hm, d, t, hrun.trans hn, rfl⟩)) fun s' S hn => ?_;exact absurd (c.run_some hq (i + 1)) (by rw [hrun, hn]; simp)
 ·intro s b m hJ F;obtain ⟨D, hm, q', tq, hr, hs⟩ := hJ;rw [List.take_of_length_le (by simp)] at hr;obtain rfl : q = q' := Option.some.inj (hq.symm.trans hr);refine wpAny_execs_nil (wpAny_execs_cons (wpAny_Return_some (m_local F hs (h _ _ F.done))))
end
end Mine
end
section
open PySem PySem.W PySem.Calls PyProof.Rows
namespace Mine
section
variable {w : World} {mg mb : Str -> Option Value} {L : Addr} {sE s s' : Shared} {W : Addr -> Prop} {H : List (Addr × Obj)} {b : Heap} {m : Str -> Option Value}
variable {A : Around} {E : Value -> Shared -> Prop} {env : Env}
theorem m_tbool {e : PySem.Expr} {c : Bool} {Q : Bool -> Shared -> Prop} (h : wpAny (model PP w) A (eval e env) (fun v s₁ => v = .bool c ∧ Q c s₁) E s)
  (he : isTrue e env (eval e env) = (do let v ← eval e env; standAt e.pos; holding [v] (truthy v)) := by rfl) : wpAny (model PP w) A (isTrue e env (eval e env)) Q E s :=
 isTrue_plain (wpAny_mono h (fun v s₁ h₁ => by obtain ⟨rfl, h₁⟩ := h₁; exact wpAny_truthy_bool h₁) ee) he
theorem truthy_noneQ {Q : Bool -> Shared -> Prop} (h : Q false s) : wpAny (model PP w) A (truthy .none) Q E s := fun _ _ _ => h
end
section
variable {w : World} {mg mb : Str -> Option Value} {s : Shared} {A : Around} {E : Value -> Shared -> Prop}
inductive AcJ (w : World) (c : DC) (l : List Nat) (vm : Value) (i : Nat) (b : Heap) (m : Str -> Option Value) : Prop
 | mk (D : DFAAt w b c) (hm : m "self" = some vm) (hd : m "debug" = some (.bool false)) (q : Int) (t : Tok) (hr : c.run 0 (l.take i) = some q) (hs : m "state" = some (.int q t)) : AcJ w c l vm i b m
theorem accept_spec {c : DC} {x : Str} {t : Tok} {Q : Value -> Shared -> Prop} {k : Nat} (g : G w mg mb s.heap) (hA : Rm A (k + 1)) (D : DFAAt w s.heap c) (ha : x.cps.all (· < 128) = true) (hz : ∀ q l, c.next q l ≠ some 0)
  (h : ∀ s', Stp W0 s s' -> Q (.bool (c.finO (c.run 0 x.cps.toList))) s') : wpAny (model PP w) A (call (.ref 194) [.ref c.x.m, .str x t]) Q E s := by
 refine wpAny_call (m_call W0 [("self", .ref c.x.m), ("string", .str x t), ("debug", .bool false)] g hA.room (by rfl) (by kernel_rfl) (.of_defaults rfl (g.X _ _ (by rfl)) rfl (by rfl) (by rfl)) (locs (by rfl)) (fun s₁ F => ?_) (by decide));refine gQ1 fun Q0 hQ0 => ?_;have hB : ∀ env, Rm (A.deeper env) k := fun env => hA.deeper env;refine wpAny_execs_cons (wpAny_Assign_Name (MethodCall_ (m_local F (by rfl) (o_meth F (mt_start w) D.obj (m_cw0 (by rfl) F.g.X ?_)))));refine start_spec F.g (hB _) (D.keeps F.keep) fun s t0 S => m_store (F.grow S) fun s F => ?_;refine wpAny_execs_cons (wpAny_For (m_local F (by rfl) (for_str (hB default).hh ha (AcJ w c x.cps.toList (.ref c.x.m)) F ⟨D, rfl, rfl, 0, _, rfl, rfl⟩ ?_ ?_)))
 ·intro i l u s b m H' hH hl hJ F;refine gQ1 fun Qb hQb => ?_;obtain ⟨D, hm, hd, q, tq, hr, hs⟩ := hJ;refine wpAny_execs_cons (wpAny_If (isTrue_plain (m_local F (by exact hd) (wpAny_truthy_bool ?_)) (by rfl)));refine wpAny_execs_nil (wpAny_execs_cons (wpAny_Assign_Name (MethodCall_ (m_local F (by exact hm) (o_meth F (mt_next_state w) D.obj (m_cw (by rfl) ?_))))));refine args_cons (m_local F (by exact hs) (args_cons (m_local F (by rfl) (args_nil ⟨F.g.X, ?_⟩))));have hrun := c.run_take hr (by simpa using hl);refine next_state_spec F.g (hB _) (D.keeps F.keep) (fun s' d t S hn => m_store (F.grow S) fun s F => ?_) fun s' S hn => m_store (F.grow S) fun s F => ?_
  ·have hd0 : d ≠ 0 := fun e => hz q ⟨#[l]⟩ (by rw [hn, e]);refine wpAny_execs_cons (wpAny_If (isTrue_not (isTrue_plain (m_local F (by rfl) (P.truthy_int ?_)) (by rfl))));rw [show (!(d != 0)) = false by simp [hd0]];exact wpAny_execs_nil (wpAny_execs_nil (hQb _ _ ⟨_, _, F, D, hm, hd, d, t, hrun.trans hn, rfl⟩))
  ·refine wpAny_execs_cons (wpAny_If (isTrue_not (isTrue_plain (m_local F (by rfl) (truthy_noneQ ?_)) (by rfl))));refine wpAny_execs_cons (wpAny_Break (hQb _ _ ?_));refine wpAny_execs_cons (wpAny_Return_some (MethodCall_ (m_local F (by exact hm) (o_meth F (mt_is_final w) D.obj (m_cw (by rfl) ?_)))));refine args_cons (m_local F (by rfl) (args_nil ⟨F.g.X, ?_⟩));refine is_final_spec (q := none) F.g (hB _) (D.keeps F.keep) rfl fun s' S => ?_;have hnone : c.run 0 x.cps.toList = none := by
    cases hq : c.run 0 x.cps.toList with
    | none => rfl
    | some q' => exact absurd (c.run_some hq (i + 1)) (by rw [hrun, hn]; simp)
   rw [hnone] at h;exact hQ0 _ _ (h _ (F.grow S).done)
 ·intro s b m hJ F;obtain ⟨D, hm, hd, q, tq, hr, hs⟩ := hJ;rw [List.take_of_length_le (by simp)] at hr;refine wpAny_execs_nil (wpAny_execs_cons (wpAny_Return_some (MethodCall_ (m_local F (by exact hm) (o_meth F (mt_is_final w) D.obj (m_cw (by rfl) ?_))))));refine args_cons (m_local F (by exact hs) (args_nil ⟨F.g.X, ?_⟩));refine is_final_spec (q := some q) F.g (hB _) (D.keeps F.keep) (oi_int w q tq) fun s' S => ?_;rw [hr] at h;exact hQ0 _ _ (h _ (F.grow S).done)
end
end Mine
end
section
open PySem PySem.W PySem.Calls PyProof.Rows
namespace Mine
noncomputable def storedI (vals : List (Str × Int × Tok)) (l : Str) (d : Int) (t : Tok) : List (Str × Int × Tok) :=
 if vals.any (fun x => x.1 = l) then vals.map (fun x => if x.1 = l then (x.1, d, t) else x) else vals ++ [(l, d, t)]
theorem stored_intPairs (vals : List (Str × Int × Tok)) (l : Str) (d : Int) (t : Tok) : stored (intPairs vals) l (.int d t) = intPairs (storedI vals l d t) := by
 unfold stored storedI intPairs;rw [List.any_map];have e : ((fun kv : Str × Value => decide (kv.1 = l)) ∘ fun x : Str × Int × Tok => (x.1, Value.int x.2.1 x.2.2)) = fun x => decide (x.1 = l) := rfl;rw [e]
 split
 ·rw [List.map_map, List.map_map];refine List.map_congr_left fun x _ => ?_;simp only [Function.comp_apply]
  split <;> rfl
 ·rw [List.map_append]; rfl
noncomputable def DC.addT (c : DC) (q : Int) (l : Str) (d : Int) (t : Tok) (x : Addr) : DC :=
 match c.look q with
 | some _ => { c with tra := c.tra.map fun y => if y.1 = q then (y.1, y.2.1, storedI y.2.2 l d t) else y }
 | none => { c with tra := c.tra ++ [(q, x, [(l, d, t)])] }
noncomputable def DC.addF (c : DC) (q : Int) : DC := { c with fin := fun i => c.fin i || decide (i = q), nf := if c.fin q then c.nf else c.nf + 1 }
section
variable {w : World} {A : Around} {E : Value -> Shared -> Prop} {s : Shared} {K : Type} [DecidableEq K] {knd : KeyKind PP w K} {d : Addr} {kvs : List (K × Value)} {k : K} {key dflt : Value}
theorem dictSetDefault_pairs {Q : Value -> Shared -> Prop} (hkey : knd.is k key = true) (hm : s.heap.DictOf knd d kvs) (hsz : kvs.length <= sizeLine)
  (hthere : ∀ v, valueAt kvs k = some v -> Q v { s with toks := s.toks + 1 })
  (hnew : valueAt kvs k = none -> ∀ h', h'.DictOf knd d (kvs ++ [(k, dflt)]) -> Heap.SameBut d s.heap h' -> Q dflt { s with heap := h', toks := s.toks + 1 }) :
  wpAny (model PP w) A (dictSetDefault d key dflt) Q E s := by
 obtain ⟨o, es, ep, ho, hc, hd, hk, hp, hn⟩ := hm;have hes : es.size <= sizeLine := by
  have e1 := hp.length;have e2 : es.toList.length = es.size := by simp
  exact ar83 hsz e1 e2
 unfold dictSetDefault;refine wpAny_holding (wpAny_bind (knd.pyHash hkey (wpAny_bind (wpAny_dictFind_of (s := { s with toks := s.toks + 1 }) hkey ho hd hk ?_))));have hl : (es.findIdx? fun e => knd.is k e.key) = es.toList.findIdx? fun e => knd.is k e.key := by obtain ⟨l⟩ := es; simp
 rw [hl];cases hi : es.toList.findIdx? fun e => knd.is k e.key with
 | some i =>
  obtain ⟨e, he, _, hv⟩ := hp.at hi;refine wpAny_bind (wpAny_dictEntries (s := { s with toks := s.toks + 1 }) ho hd ?_);have he' : es[i]? = some e := by rw [← he]; obtain ⟨l⟩ := es; simp
  rw [he'];exact wpAny_bind (wpAny_rule (wpAny_pure (hthere _ hv)))
 | none =>
  have hnone : valueAt kvs k = none := by
   rw [← hp.find k];have : (es.toList.find? fun e => knd.is k e.key) = none := by
    rw [List.find?_eq_none];intro x hx;have := List.findIdx?_eq_none_iff.mp hi x hx
    simpa using this
   rw [this]; rfl
  refine wpAny_bind (wpAny_rule (wpAny_bind (wpAny_updateDictKeys (hz := hes) (s := { s with toks := s.toks + 1 }) ho hd (wpAny_pure (hnew hnone _ ⟨_, _, ep + 1, Heap.get?_update_self _ ho (Obj.isFreed_of_dict (Obj.data_mapDictKeys hd _)),
   hc.mapDictKeys _, Obj.data_mapDictKeys hd _, hk.push hkey _, ?_, ?_⟩ (Heap.SameBut.update ..))))))
  ·have := hp.append hkey (knd.hash k) dflt;obtain ⟨l⟩ := es
   simpa using this
  ·have hnot : k ∉ kvs.map (·.1) := by
    have := hp.findIdx k;rw [hi] at this;exact not_mem_of_findIdx_none this.symm
   rw [List.map_append, List.nodup_append];refine ⟨hn, by simp, ?_⟩;intro a ha b hb;simp only [List.map_cons, List.map_nil, List.mem_singleton] at hb;subst hb
   rintro rfl
   exact hnot ha
theorem d_setdefault {Q : Value -> Shared -> Prop} (lo : 456 <= d) (hkey : knd.is k key = true) (hm : s.heap.DictOf knd d kvs) (hsz : kvs.length <= sizeLine)
  (hthere : ∀ v t, valueAt kvs k = some v -> Q v { s with toks := t })
  (hnew : valueAt kvs k = none -> ∀ h' t, h'.DictOf knd d (kvs ++ [(k, dflt)]) -> Heap.SameBut d s.heap h' -> Q dflt { s with heap := h', toks := t }) :
  wpAny (model PP w) A (call (.builtin "dict.setdefault") [.ref d, key, dflt]) Q E s := by
 refine call_meetsIn (S := fun _ R s => s.heap.DictOf knd d kvs ∧ (∀ v t, valueAt kvs k = some v -> R (.ok (.ret v)) { s with toks := t }) ∧ (valueAt kvs k = none -> ∀ h' t, h'.DictOf knd d (kvs ++ [(k, dflt)]) -> Heap.SameBut d s.heap h' -> R (.ok (.ret dflt)) { s with heap := h', toks := t }))
  PySem.F.slot_dict_setdefault hm.typeIs PySem.F.entry_dict_setdefault (PySem.F.args_dict_setdefault_3 _ _ _) (.of_wp fun A R s ⟨hm, h1, h2⟩ => ?_) ⟨hm, hthere, hnew⟩
 unfold Builtin.«dict.setdefault»;refine wpAny_bind ?_;unfold Builtin.Dict.keyAndDefault;refine wpAny_bind (wpAny_notOrdered_dict hm.typeIs ?_);show wpAny _ _ (pure (d, key, some dflt)) _ _ s;refine wpAny_pure ?_;show wpAny _ _ (if (d == sysModules) = true then _ else (dictSetDefault d key dflt >>= _)) _ _ s;rw [if_neg (by rw [sysM lo]; exact Bool.false_ne_true)];exact wpAny_bind (dictSetDefault_pairs hkey hm hsz (fun v hv => wpAny_pure ⟨v, rfl, h1 v _ hv⟩) fun hn h' hm' hs' => wpAny_pure ⟨dflt, rfl, h2 hn h' _ hm' hs'⟩)
end
inductive DNd (c : DC) : Prop
 | mk (n1 : c.x.d ≠ c.x.T) (n2 : c.x.d ≠ c.x.Df) (n3 : c.x.d ≠ c.x.Ol) (n4 : c.x.d ∉ c.tra.map (·.2.1)) (n5 : c.x.T ≠ c.x.Df) (n6 : c.x.T ≠ c.x.Ol) (n7 : c.x.T ∉ c.tra.map (·.2.1)) (n8 : c.x.Df ≠ c.x.Ol) (n9 : c.x.Df ∉ c.tra.map (·.2.1)) (n10 : c.x.Ol ∉ c.tra.map (·.2.1)) (n11 : (c.tra.map (·.2.1)).Nodup) : DNd c
theorem DFAAt.ndx {w : World} {h : Heap} {c : DC} (D : DFAAt w h c) : DNd c := by
 have nd := D.nd;simp only [List.nodup_cons, List.mem_cons, not_or] at nd;obtain ⟨⟨n1, n2, n3, n4⟩, ⟨n5, n6, n7⟩, ⟨n8, n9⟩, n10, n11⟩ := nd;exact ⟨n1, n2, n3, n4, n5, n6, n7, n8, n9, n10, n11⟩
theorem DFAAt.cls_set {w : World} {h : Heap} {c : DC} (D : DFAAt w h c) {a : Addr} {o : Obj} (e : h.get? a = some o) (hc : o.cls ≠ .type "set") : a ≠ c.x.Fs := by
 rintro rfl
 refine (sob D.Fs) _ fun o' e' hx => ?_;rw [e] at e'; cases e';exact hc hx.1
theorem DFAAt.cls_dict {w : World} {h : Heap} {c : DC} (D : DFAAt w h c) {a z : Addr} {o oz : Obj} (e : h.get? a = some o) (hc : o.cls ≠ .type "dict") (ez : h.get? z = some oz) (hz : oz.cls = .type "dict") : a ≠ z := by
 rintro rfl
 rw [e] at ez; cases ez;exact hc hz
theorem DFAAt.setF {w : World} {h h' : Heap} {c : DC} {q : Int} (D : DFAAt w h c) (k : KpD c.x.Fs h h')
  (hS : h'.SetOf (oiKind w) c.x.Fs (fun k' => c.finO k' || decide (k' = some q)) (if c.finO (some q) then c.nf else c.nf + 1)) : DFAAt w h' (c.addF q) := by
 have kd : ∀ {K : Type} [DecidableEq K] {knd : KeyKind PP w K} {a : Addr} {kvs : List (K × Value)}, h.DictOf knd a kvs -> h'.DictOf knd a kvs := fun x =>
  movE x fun o e hx => k _ _ (D.cls_set e (by rw [hx.1]; decide)) e
 refine ⟨?_, kd D.T, fun x hx => ⟨kd (D.rows x hx).1, (D.rows x hx).2⟩, kd D.Df, ?_, kd D.Ol, fun x hx => ?_, D.loT, D.loDf, D.loOl, D.loFs, D.nd⟩
 ·obtain ⟨a, t0, t1, t2, t3, t4, t5, n, e⟩ := D.obj;exact ⟨k _ _ (D.cls_set a (by simp)) a, t0, t1, t2, t3, t4, t5, n, k _ _ (D.cls_set e (by simp)) e⟩
 ·have e : (c.addF q).finO = fun k' => c.finO k' || decide (k' = some q) := by
   funext k'
   cases k' with
   | none => rfl
   | some i => simp [DC.finO, DC.addF]
  rw [e]; exact hS
 ·obtain ⟨o, e, hc, r⟩ := D.outs x hx;exact ⟨o, k _ _ (D.cls_set e (by rw [hc]; decide)) e, hc, r⟩
section
variable {w : World} {mg mb : Str -> Option Value} {s : Shared} {A : Around} {E : Value -> Shared -> Prop}
theorem add_final_spec {c : DC} {q : Int} {tq : Tok} {Q : Value -> Shared -> Prop} (g : G w mg mb s.heap) (hA : A.depth < recursionLimit) (D : DFAAt w s.heap c) (hn : c.nf + 1 < scanBound)
  (h : ∀ s', Stp (· = c.x.Fs) s s' -> DFAAt w s'.heap (c.addF q) -> Q .none s') : wpAny (model PP w) A (call (.ref 250) [.ref c.x.m, .int q tq]) Q E s := by
 refine wpAny_call (m_call (· = c.x.Fs) [("self", .ref c.x.m), ("state", .int q tq)] g hA (by rfl) (by kernel_rfl) (.of_eq (by rfl)) (locs (by rfl)) (fun s₁ F => ?_) (by decide));refine wpAny_execs_cons (wpAny_Expr (MethodCall_ (m_attr (m_local F (by rfl) (o_finals F D.obj fun s F => ?_)))) (by rfl) (by rfl));have D' := D.keeps F.keep;refine getMethod_set_add D'.Fs (m_cwb (args_cons (m_local F (by rfl) (args_nil ?_))));refine call_set_add (knd := oiKind w) (k := some q) (oi_int w q tq) rfl D'.Fs hn fun h' hs hS => wpAny_execs_nil ?_;refine h _ ?_ (D'.setF (fun a o ha e => (hs.2 a ha).trans e) hS);obtain ⟨ol, _, _, _, eol, _⟩ := hS;exact F.done.trans ⟨fun z o ez => by
  by_cases hz : z = c.x.Fs
  ·subst hz; exact ⟨ol, eol⟩
  ·exact ⟨o, (hs.2 z hz).trans ez⟩, fun z o hz ez => (hs.2 z (fun q => hz.elim (fun lo => by rw [q] at lo; exact absurd lo (Nat.not_lt.mpr D.loFs)) fun hn => hn q)).trans ez, rfl, rfl⟩
theorem DFAAt.setRow {w : World} {h h' : Heap} {c : DC} {q : Int} {l : Str} {d : Int} {t : Tok} {x : Addr} {z : Addr × List (Str × Int × Tok)} (D : DFAAt w h c) (hl : c.look q = some z)
  (k : KpD z.1 h h') (hz : h'.DictOf (strKind PP w) z.1 (intPairs (storedI z.2 l d t))) : DFAAt w h' (c.addT q l d t x) := by
 have hfind : ∃ y ∈ c.tra, y.1 = q ∧ y.2 = z := by
  unfold DC.look at hl;cases hf : c.tra.find? fun x => decide (x.1 = q) with
  | none => rw [hf] at hl; cases hl
  | some y => rw [hf] at hl; exact ⟨y, List.mem_of_find?_eq_some hf, by have := List.find?_some hf; simpa using this, Option.some.inj hl⟩
 obtain ⟨y, hy, hyq, hyz⟩ := hfind;have hzm : z.1 ∈ c.tra.map (·.2.1) := List.mem_map.mpr ⟨y, hy, by rw [hyz]⟩;obtain ⟨n1, n2, n3, n4, n5, n6, n7, n8, n9, n10, n11⟩ := D.ndx;refine (dob (D.row hl).1) _ fun oz ez hxz => ?_;have nz : ∀ {a : Addr}, a ∉ c.tra.map (·.2.1) -> a ≠ z.1 := fun ha e => ha (e ▸ hzm);have kd : ∀ {K : Type} [DecidableEq K] {knd : KeyKind PP w K} {a : Addr} {kvs : List (K × Value)}, a ≠ z.1 -> h.DictOf knd a kvs -> h'.DictOf knd a kvs := fun hne x =>
  movE x fun o e hx => k _ _ hne e
 have tra' : (c.addT q l d t x).tra = c.tra.map fun y => if y.1 = q then (y.1, y.2.1, storedI y.2.2 l d t) else y := by unfold DC.addT; rw [hl]
 have rest : (c.addT q l d t x).x = c.x ∧ (c.addT q l d t x).fin = c.fin ∧ (c.addT q l d t x).nf = c.nf ∧ (c.addT q l d t x).out = c.out := by unfold DC.addT; rw [hl]; exact ⟨rfl, rfl, rfl, rfl⟩
 obtain ⟨r1, r2, r3, r4⟩ := rest;have keys : (c.tra.map (·.1)).Nodup := by
  obtain ⟨_, _, _, _, _, _, _, _, hn⟩ := D.T;have e : c.kvs.map (·.1) = c.tra.map (·.1) := by unfold DC.kvs; rw [List.map_map]; rfl
  rw [← e]; exact hn
 have kvs' : (c.addT q l d t x).kvs = c.kvs := by
  unfold DC.kvs; rw [tra', List.map_map];refine List.map_congr_left fun y _ => ?_;simp only [Function.comp_apply]; split <;> rfl
 have adr : (c.addT q l d t x).tra.map (·.2.1) = c.tra.map (·.2.1) := by
  rw [tra', List.map_map];refine List.map_congr_left fun y _ => ?_;simp only [Function.comp_apply]; split <;> rfl
 refine ⟨?_, by rw [kvs', r1]; exact kd (nz n7) D.T, fun u hu => ?_, by rw [r1]; exact kd (nz n9) D.Df, ?_, by rw [r1, r4]; exact kd (nz n10) D.Ol, fun u hu => ?_, by rw [r1]; exact D.loT, by rw [r1]; exact D.loDf, by rw [r1]; exact D.loOl, by rw [r1]; exact D.loFs, by rw [r1, adr]; exact D.nd⟩
 ·rw [r1];obtain ⟨a, t0, t1, t2, t3, t4, t5, n, e⟩ := D.obj;exact ⟨k _ _ (D.cls_dict a (by simp) ez hxz.1) a, t0, t1, t2, t3, t4, t5, n, k _ _ (nz n4) e⟩
 ·rw [tra'] at hu;obtain ⟨v, hv, hvq⟩ := List.mem_map.mp hu
  by_cases hq : v.1 = q
  ·have e : v = y := by
    have h1 := List.mem_iff_getElem?.mp hv;have h2 := List.mem_iff_getElem?.mp hy;obtain ⟨i, hi⟩ := h1;obtain ⟨j, hj⟩ := h2;have : i = j := by
     refine (List.getElem?_inj (l := c.tra.map (·.1)) ?_ keys).mp ?_
     ·rw [List.length_map]; exact (List.getElem?_eq_some_iff.mp hi).1
     ·rw [List.getElem?_map, List.getElem?_map, hi, hj]; simp [hq, hyq]
    subst this;rw [hi] at hj; exact Option.some.inj hj
   subst e;rw [if_pos hq] at hvq;subst hvq;refine ⟨?_, (D.rows v hv).2⟩;show h'.DictOf _ v.2.1 (intPairs (storedI v.2.2 l d t));rw [hyz]; exact hz
  ·rw [if_neg hq] at hvq;subst hvq;refine ⟨kd ?_ (D.rows v hv).1, (D.rows v hv).2⟩;intro e;have h1 := List.mem_iff_getElem?.mp hv;have h2 := List.mem_iff_getElem?.mp hy;obtain ⟨i, hi⟩ := h1;obtain ⟨j, hj⟩ := h2;have : i = j := by
    refine (List.getElem?_inj (l := c.tra.map (·.2.1)) ?_ n11).mp ?_
    ·rw [List.length_map]; exact (List.getElem?_eq_some_iff.mp hi).1
    ·rw [List.getElem?_map, List.getElem?_map, hi, hj];show some v.2.1 = some y.2.1;rw [e, hyz]
   subst this;rw [hi] at hj;exact hq (by rw [Option.some.inj hj]; exact hyq)
 ·have e : (c.addT q l d t x).finO = c.finO := by funext i; cases i <;> simp only [DC.finO, r2]
  rw [r1, r3, e];exact movT D.Fs fun o e hx => k _ _ (D.cls_dict e (by rw [hx.1]; decide) ez hxz.1) e
 ·rw [r4] at hu;obtain ⟨o, e, hc, r⟩ := D.outs u hu;exact ⟨o, k _ _ (D.cls_dict e (by rw [hc]; decide) ez hxz.1) e, hc, r⟩
theorem DFAAt.newRow {w : World} {h h' : Heap} {c : DC} {q : Int} {l : Str} {d : Int} {t : Tok} {x : Addr} (D : DFAAt w h c) (hl : c.look q = none) (hx : h.get? x = none) (lx : 456 <= x)
  (k : KpD c.x.T h h') (hT : h'.DictOf (intKind PP w) c.x.T (c.kvs ++ [(q, .ref x)])) (hz : h'.DictOf (strKind PP w) x (intPairs [(l, d, t)])) : DFAAt w h' (c.addT q l d t x) := by
 obtain ⟨n1, n2, n3, n4, n5, n6, n7, n8, n9, n10, n11⟩ := D.ndx;refine (dob D.T) _ fun oz ez hxz => ?_;have kd : ∀ {K : Type} [DecidableEq K] {knd : KeyKind PP w K} {a : Addr} {kvs : List (K × Value)}, a ≠ c.x.T -> h.DictOf knd a kvs -> h'.DictOf knd a kvs := fun hne x =>
  movE x fun o e hx => k _ _ hne e
 have lv : ∀ {a : Addr} {o : Obj}, h.get? a = some o -> a ≠ x := fun e q => by rw [q, hx] at e; cases e
 have ld : ∀ {K : Type} [DecidableEq K] {knd : KeyKind PP w K} {a : Addr} {kvs : List (K × Value)}, h.DictOf knd a kvs -> a ≠ x := fun y => by obtain ⟨o, es, ep, e, _⟩ := y; exact lv e
 have e : c.addT q l d t x = { c with tra := c.tra ++ [(q, x, [(l, d, t)])] } := by unfold DC.addT; rw [hl]
 rw [e];obtain ⟨a, t0, t1, t2, t3, t4, t5, n, e⟩ := D.obj;refine ⟨⟨k _ _ (D.cls_dict a (by simp) ez hxz.1) a, t0, t1, t2, t3, t4, t5, n, k _ _ n1 e⟩, ?_, fun u hu => ?_, kd (Ne.symm n5) D.Df, ?_, kd (Ne.symm n6) D.Ol, fun u hu => ?_, D.loT, D.loDf, D.loOl, D.loFs, ?_⟩
 ·have ek : DC.kvs { c with tra := c.tra ++ [(q, x, [(l, d, t)])] } = c.kvs ++ [(q, .ref x)] := by unfold DC.kvs; rw [List.map_append]; rfl
  rw [ek]; exact hT
 ·rcases List.mem_append.mp hu with hu | hu
  ·exact ⟨kd (fun q => n7 (by rw [← q]; exact List.mem_map_of_mem (f := fun x : Int × Addr × List (Str × Int × Tok) => x.2.1) hu)) (D.rows u hu).1, (D.rows u hu).2⟩
  ·rw [List.mem_singleton] at hu; subst hu; exact ⟨hz, lx⟩
 ·exact movT D.Fs fun o e hx => k _ _ (D.cls_dict e (by rw [hx.1]; decide) ez hxz.1) e
 ·obtain ⟨o, e, hc, r⟩ := D.outs u hu;exact ⟨o, k _ _ (D.cls_dict e (by rw [hc]; decide) ez hxz.1) e, hc, r⟩
 ·show (c.x.d :: c.x.T :: c.x.Df :: c.x.Ol :: (c.tra ++ [(q, x, [(l, d, t)])]).map (·.2.1)).Nodup;rw [List.map_append];have hnew : x ∉ c.x.d :: c.x.T :: c.x.Df :: c.x.Ol :: c.tra.map (·.2.1) := by
   simp only [List.mem_cons, not_or];refine ⟨fun q => lv e q.symm, fun q => lv ez q.symm, fun q => ld D.Df q.symm, fun q => ld D.Ol q.symm, fun hm => ?_⟩;obtain ⟨u, hu, q⟩ := List.mem_map.mp hm;exact ld (D.rows u hu).1 q
  have := D.nd
  show ((c.x.d :: c.x.T :: c.x.Df :: c.x.Ol :: c.tra.map (·.2.1)) ++ [x]).Nodup;rw [List.nodup_append];exact ⟨this, by simp, fun a ha b hb => by rw [List.mem_singleton] at hb; subst hb; rintro rfl; exact hnew ha⟩
noncomputable def DC.rowW (c : DC) : Addr -> Prop := fun a => a = c.x.T ∨ a ∈ c.tra.map (·.2.1)
theorem DictOf_live {w : World} {K : Type} [DecidableEq K] {knd : KeyKind PP w K} {h : Heap} {a : Addr} {kvs : List (K × Value)} (x : h.DictOf knd a kvs) : ∃ o, h.get? a = some o := by obtain ⟨o, _, _, e, _⟩ := x; exact ⟨o, e⟩
theorem add_transition_spec {s0 : Shared} {c : DC} {q d : Int} {tq td : Tok} {l : Str} {tl : Tok} {Q : Value -> Shared -> Prop} {k : Nat} (g : G w mg mb s0.heap) (hA : Rm A k) (D : DFAAt w s0.heap c)
  (h1 : c.tra.length <= sizeLine) (h2 : ∀ z, c.look q = some z -> z.2.length <= sizeLine)
  (h : ∀ s' x, Stp c.rowW s0 s' -> DFAAt w s'.heap (c.addT q l d td x) -> s0.heap.get? x = none -> Q .none s') : wpAny (model PP w) A (call (.ref 236) [.ref c.x.m, .int q tq, .str l tl, .int d td]) Q E s0 := by
 refine wpAny_call (m_call c.rowW [("self", .ref c.x.m), ("src", .int q tq), ("label", .str l tl), ("dest", .int d td)] g hA.room (by rfl) (by kernel_rfl) (.of_eq (by rfl)) (locs (by rfl)) (fun s₁ F => ?_) (by decide));refine wpAny_execs_cons (wpAny_Assign_Subscript (m_local F (by rfl) (MethodCall_ (m_attr (m_local F (by rfl) (o_transitions F D.obj fun s F => ?_))))));refine gm_dsetdefault (D.T.keep F.keep) (m_cwb (args_cons (m_local F (by rfl) (args_cons (m_dict0 F fun s2 x F2 ex xn xL lx xf S => args_nil ?_)))));have D1 := D.keeps F.keep;have D2 := D.keeps F2.keep;obtain ⟨oT, eT⟩ := DictOf_live D.T;have TL : c.x.T ≠ s0.heap.objs.size := Nat.ne_of_lt (Heap.lt_size eT);refine d_setdefault D.loT (intKind_is _ _ _ _) D2.T (by unfold DC.kvs; rw [List.length_map]; exact h1) (fun v tv hv => ?_) (fun hv h' tv hT hs => ?_)
 ·rw [c.valueAt_kvs] at hv;cases hl : c.look q with
  | none => rw [hl] at hv; cases hv
  | some z =>
   rw [hl] at hv;obtain rfl : Value.ref z.1 = v := Option.some.inj hv;have F := F2.tok tv;refine m_local F (by rfl) (wpAny_setItem_pairs (strKind_is _ _ _ _) (D2.row hl).1 (fun h' hz hs => wpAny_execs_nil ?_) (by unfold intPairs; rw [List.length_map]; exact h2 z hl));rw [stored_intPairs] at hz;refine h _ x ?_ (D2.setRow hl (fun a o ha e => (hs.2 a ha).trans e) hz) xn;refine F.done.trans ((Stp.one hs (DictOf_live hz) (D2.row hl).2).mono fun u hu => .inr ?_);unfold DC.look at hl;cases hf : c.tra.find? fun x => decide (x.1 = q) with
   | none => rw [hf] at hl; cases hl
   | some y =>
    rw [hf] at hl;exact List.mem_map.mpr ⟨y, List.mem_of_find?_eq_some hf, by rw [hu]; exact congrArg Prod.fst (Option.some.inj hl)⟩
 ·have hl : c.look q = none := by
   rw [c.valueAt_kvs] at hv;cases hl : c.look q with
   | none => rfl
   | some z => rw [hl] at hv; cases hv
  have S1 : Stp (· = c.x.T) s2 ⟨h', s2.gens, s2.drawn, tv, s2.os⟩ := Stp.one hs (DictOf_live hT) D.loT;refine (F2.change S1 (Ne.symm TL) (fun p hp => nomatch hp) fun u o hu _ => .inl hu) _ fun b' F kb kn => ?_;have exT : x ≠ c.x.T := fun q => by rw [q, eT] at xn; cases xn
  have hx0 : Heap.DictOf (strKind PP w) h' x [] := ⟨_, _, _, (hs.2 x exT).trans ex, ⟨rfl, rfl, rfl⟩, rfl, (fun e he => by simp at he), .nil, .nil⟩;refine m_local F (by rfl) (wpAny_setItem_pairs (strKind_is _ _ _ _) hx0 (fun h'' hz hs' => wpAny_execs_nil ?_) (Nat.zero_le _));have hz' : Heap.DictOf (strKind PP w) h'' x (intPairs [(l, d, td)]) := hz;refine h _ x ?_ (D1.newRow (x := x) hl xf lx (fun a o ha e => (hs'.2 a (fun q => by rw [q, xf] at e; cases e)).trans ((hs.2 a ha).trans (S.all _ _ e))) ?_ hz') xn
  ·exact (F.change (Stp.one hs' (DictOf_live hz) lx) (fun q => xL (by rw [← q]; exact List.mem_cons_self)) (fun p hp => nomatch hp) fun u o hu e => absurd e (by rw [hu, xn]; simp)) _ fun _ F _ _ => F.done
  ·obtain ⟨o, es, ep, e, r⟩ := hT;exact ⟨o, es, ep, (hs'.2 _ (Ne.symm exT)).trans e, r⟩
end
end Mine
end
section
open PySem PySem.W PySem.Calls PyProof.Rows
namespace Mine
structure SetF (w : World) (C : Addr) (n : Str) : Prop where
 sa : findIn (KK w) (.ref C) "__setattr__" = some (some (.builtin "object.__setattr__"))
 pl : plainOver (KK w) C = true
 hd : hasDictIn (KK w) C = true
 tk : takerIn (KK w) C n = some none
section
variable {w : World} {A : Around} {E : Value -> Shared -> Prop} {s : Shared}
theorem dict_refKey {P : Str} {es : List DictEntry} (hl : (getL P es).isSome = true) : (!es.any (·.key.isStr P) && es.any (·.refKey)) = false := by
 unfold getL at hl;cases hf : es.find? (·.key.isStr P) with
 | some e => rw [List.any_eq_true.mpr ⟨e, List.mem_of_find?_eq_some hf, List.find?_some hf⟩]; rfl
 | none =>
  rw [hf] at hl;cases hr : es.any (·.refKey) with
  | false => rw [Bool.and_false]
  | true => rw [hr] at hl; cases hl
theorem nsSet_exact {dx : Addr} {es : List DictEntry} {n : Nat} {name : Str} {v : Value} {Q : Unit -> Shared -> Prop} (hd : s.heap.get? dx = some (dictOf es n)) (hl : (getL name es).isSome = true)
  (h : ∀ h', Heap.SameBut dx s.heap h' -> h'.get? dx = some (dictOf (putL name (PyData.keyHash w.params name) (.str name s.toks) v es) (putN name es n)) -> Q () { s with heap := h', toks := s.toks + 1 }) :
  wpAny (model PP w) A (nsSet dx name v) Q E s := by
 unfold nsSet;refine wpAny_bind (wpAny_bind (wpAny_askSetting (wpAny_pure (wpAny_bind (wpAny_mkText (wpAny_bind (wpAny_loadPart hd ?_)))))));dsimp only;have c : (!es.toArray.any (·.key.isStr name) && es.toArray.any (·.refKey)) = false := by
  rw [← Array.any_toList, ← Array.any_toList]; exact dict_refKey hl
 rw [aRefKeyMayBeTheName_at, c];refine wpAny_updatePart hd (h _ (Heap.SameBut.update ..) ?_);rw [Heap.get?_update_self _ hd (by rw [putName_dict]; rfl), putName_dict]
 rfl
theorem m_setattr {x C dx : Addr} {es : List DictEntry} {n : Nat} {name : Str} {v : Value} {Q : Unit -> Shared -> Prop} (X : (KK w).In s.heap) (f : SetF w C name)
  (hx : s.heap.get? x = some (instObj C dx)) (hd : s.heap.get? dx = some (dictOf es n)) (hl : (getL name es).isSome = true) (hz : (putL name 0 .none v es).length <= 1000)
  (h : ∀ h' t tk, Heap.SameBut dx s.heap h' -> h'.get? dx = some (dictOf (putL name (PyData.keyHash w.params name) (.str name tk) v es) (putN name es n)) -> Q () ⟨h', s.gens, s.drawn, t, s.os⟩) :
  wpAny (model PP w) A (setAttr (.ref x) name v) Q E s := by
 have I : ∀ t, InstAt ({ s with toks := t } : Shared).heap x (instObj C dx) C (some (dictOf es n)) := fun t => ⟨hx, rfl, rfl, hd⟩;refine set_plain X (I s.toks) f.sa (osa_open (s := { s with toks := s.toks + 1 }) X (I _) f.pl f.tk fun b => ?_);obtain ⟨cd, hc, hd'⟩ := any_some f.hd;dsimp only;have len : ∀ (l : List DictEntry) (a b : Int) (k k' : Value), (putL name a k v l).length = (putL name b k' v l).length := by
  intro l a b k k'
  induction l with
  | nil => rfl
  | cons e r ih =>
   simp only [putL]
   split
   ·rfl
   ·simp only [List.length_cons, ih]
 refine wpAny_bind (wpAny_pure (wpAny_bind (wpAny_bind (wpAny_loadPart hx (wpAny_bind (Looks.here (s := { s with toks := s.toks + 1 }) (looks_clsIn X hc) ?_))))));rw [hd'];refine wpAny_pure (a := some dx) (wpAny_bind (wpAny_pure (wpAny_bind (nsSet_exact hd hl fun h' hs hd2 => ?_))));refine wpAny_bind (wpAny_lookBehind hd2 (pastItsLine_dict ?_) (wpAny_pure (h _ _ _ hs hd2)));rw [List.size_toArray, sizeLine_eq, len es _ 0 _ .none]; exact ar264 hz
theorem m_AssignAttr {e value : PySem.Expr} {n : Str} {apos pos : Pos} {env : Env} {Q : Flow -> Shared -> Prop}
  (h : wpAny (model PP w) A (eval value env) (fun v s₁ => wpAny (model PP w) A (eval e env) (fun o s₂ => wpAny (model PP w) A (setAttr o n v) (fun _ => Q .next) E s₂) E s₁) E s)
  (hs : swapsWith value (some (.Attribute e n apos)) pos.line env = pure false := by rfl) :
  wpAny (model PP w) A (exec (.Assign [.Attribute e n apos] value pos) env) Q E s := plainObj_wpAny_Assign_Attribute h hs
end
section
variable (w : World)
theorem sf304 : findIn (KK w) (.ref 304) "__setattr__" = some (some (.builtin "object.__setattr__")) ∧ plainOver (KK w) 304 = true := ⟨by kernel_rfl, by kernel_rfl⟩
theorem sf344 : findIn (KK w) (.ref 344) "__setattr__" = some (some (.builtin "object.__setattr__")) ∧ plainOver (KK w) 344 = true := ⟨by kernel_rfl, by kernel_rfl⟩
theorem sf_initial : SetF w 304 "initial" := ⟨(sf304 w).1, (sf304 w).2, hd304 w, by kernel_rfl⟩
theorem sf_transitions : SetF w 304 "transitions" := ⟨(sf304 w).1, (sf304 w).2, hd304 w, by kernel_rfl⟩
theorem sf_defaults : SetF w 304 "defaults" := ⟨(sf304 w).1, (sf304 w).2, hd304 w, by kernel_rfl⟩
theorem sf_finals : SetF w 304 "final_states" := ⟨(sf304 w).1, (sf304 w).2, hd304 w, by kernel_rfl⟩
theorem sf_outlabels : SetF w 304 "outlabels" := ⟨(sf304 w).1, (sf304 w).2, hd304 w, by kernel_rfl⟩
theorem sf_n : SetF w 344 "n" := ⟨(sf344 w).1, (sf344 w).2, hd344 w, by kernel_rfl⟩
theorem sf_arcs : SetF w 344 "arcs" := ⟨(sf344 w).1, (sf344 w).2, hd344 w, by kernel_rfl⟩
theorem sf_final : SetF w 344 "final" := ⟨(sf344 w).1, (sf344 w).2, hd344 w, by kernel_rfl⟩
end
theorem Rm.make {A : Around} {k : Nat} {C : Addr} {vals : List Value} (r : Rm A (k + 1)) : Rm (A.under (.builtin "type.__call__" ⟨.ref C :: vals, []⟩)) k :=
 ⟨r.hh, by have := r.dp; show A.depth + 1 + k < _; exact ar15 this, by have := r.un; show A.units + 1 + 8 * k < _; exact ar45 this⟩
structure NA where
 x : Addr
 d : Addr
 a : Addr
noncomputable def nodeD (w : World) (p : NA) (n : Int) (fin : Bool) (t0 t1 t2 t3 : Tok) : List DictEntry := [ent w "n" t1 (.int n t0), ent w "arcs" t2 (.ref p.a), ent w "final" t3 (.bool fin)]
inductive NDic (w : World) (h : Heap) (p : NA) (n : Int) (fin : Bool) : Prop
 | mk (t0 t1 t2 t3 : Tok) (k : Nat) (e : h.get? p.d = some (dictOf (nodeD w p n fin t0 t1 t2 t3) k)) : NDic w h p n fin
structure NodeAt (w : World) (h : Heap) (p : NA) (n : Int) (arcs : List (Str × Int × Tok)) (fin : Bool) : Prop where
 obj : h.get? p.x = some (instObj 344 p.d)
 dic : NDic w h p n fin
 arc : h.DictOf (strKind PP w) p.a (intPairs arcs)
 lo : 456 <= p.a
theorem NodeAt.keeps {w : World} {h h' : Heap} {p : NA} {n : Int} {arcs : List (Str × Int × Tok)} {fin : Bool} (y : NodeAt w h p n arcs fin) (k : Kp h h') : NodeAt w h' p n arcs fin :=
 ⟨k _ _ y.obj, by obtain ⟨t0, t1, t2, t3, n, e⟩ := y.dic; exact ⟨t0, t1, t2, t3, n, k _ _ e⟩, y.arc.keep k, y.lo⟩
section
variable {w : World} {mg mb : Str -> Option Value} {A : Around} {E : Value -> Shared -> Prop}
variable {L : Addr} {sE s s' : Shared} {W : Addr -> Prop} {H : List (Addr × Obj)} {b : Heap} {m : Str -> Option Value} {env : Env}
theorem m_cbool {c : Bool} {k : Nat} {pos : Pos} {Q : Value -> Shared -> Prop} (h : Q (.bool c) s) : wpAny (model PP w) A (eval (.Constant (.bool c) k pos) env) Q E s := fun _ _ _ => h
theorem Fx.one {dx : Addr} {h' : Heap} {t : Nat} {d : Drawn} (F : Fx w mg mb L sE W H b s m) (hs : Heap.SameBut dx s.heap h') (he : ∃ o, h'.get? dx = some o) (lo : 456 <= dx) (hn : dx ∉ L :: H.map (·.1)) (hW : ∀ o, sE.heap.get? dx = some o -> W dx) :
  Rb w mg mb L sE W H (KpD dx b) ⟨h', s.gens, d, t, s.os⟩ m := by
 intro C kk;refine (F.change (Stp.one (t := t) (d := d) hs he lo) (fun q => hn (q ▸ List.mem_cons_self)) (fun p hp q => hn (q ▸ List.mem_cons_of_mem _ (List.mem_map_of_mem hp))) (fun a o ha e => by subst ha; exact hW o e)) _ fun b' F' k1 k2 => ?_;exact kk b' F' (fun a o ha e => k1 a o ha e) k2
theorem m_setF {x C dx : Addr} {es : List DictEntry} {n : Nat} {name : Str} {v : Value} {Q : Unit -> Shared -> Prop} (F : Fx w mg mb L sE W H b s m) (f : SetF w C name)
  (hx : b.get? x = some (instObj C dx)) (hd : b.get? dx = some (dictOf es n)) (lo : 456 <= dx) (hW : ∀ o, sE.heap.get? dx = some o -> W dx)
  (h : ∀ s' b' tk, Fx w mg mb L sE W H b' s' m -> KpD dx b b' -> b'.get? dx = some (dictOf (putL name (PyData.keyHash w.params name) (.str name tk) v es) (putN name es n)) -> Q () s')
  (hl : (getL name es).isSome = true := by rfl) (hz : (putL name 0 .none v es).length <= 1000 := by exact Nat.le_of_ble_eq_true (by rfl)) :
  wpAny (model PP w) A (setAttr (.ref x) name v) Q E s := by
 refine m_setattr F.g.X f (F.keep _ _ hx) (F.keep _ _ hd) hl hz fun h' t tk hs hd' => ?_;exact (F.one hs ⟨_, hd'⟩ lo (F.neH hd) hW) _ fun b' F' k1 k2 => h _ b' tk F' k1 (k2 _ _ (F.neH hd) hd')
theorem dmnode_spec {s0 : Shared} {n : Int} {tn : Tok} {Q : Value -> Shared -> Prop} {k : Nat} (g : G w mg mb s0.heap) (hA : Rm A (k + 2))
  (h : ∀ s' p, Stp W0 s0 s' -> NodeAt w s'.heap p n [] false -> s0.heap.get? p.x = none -> s0.heap.get? p.d = none -> s0.heap.get? p.a = none -> [p.x, p.d, p.a].Nodup -> 456 <= p.d -> Q (.ref p.x) s') :
  wpAny (model PP w) A (call (.ref 344) [.int n tn]) Q E s0 := by
 obtain ⟨h0, gn, dr, tk, os⟩ := s0;refine wpAny_call (make_core (init := .ref 320) (makes_of g.X (by kernel_rfl)) (looks_findIn g.X (by kernel_rfl)) (fun self => bind_fn g.X self (by kernel_rfl)) (.inl rfl) ?_);have S1 : Stp W0 ⟨h0, gn, dr, tk, os⟩ ⟨(h0.push emptyDict).push (instObj 344 h0.objs.size), gn, dr, tk, os⟩ := Stp.of fun _ _ e => Heap.get?_push_of_some _ (Heap.get?_push_of_some _ e);have hd0 : ((h0.push emptyDict).push (instObj 344 h0.objs.size)).get? h0.objs.size = some (dictOf [] 0) := Heap.get?_push_of_some _ (Heap.get?_push_size _ rfl);have hx0 : ((h0.push emptyDict).push (instObj 344 h0.objs.size)).get? (h0.objs.size + 1) = some (instObj 344 h0.objs.size) := by
  have := Heap.get?_push_size (h0.push emptyDict) (o := instObj 344 h0.objs.size) rfl
  rwa [Heap.size_push] at this
 have lo : 456 <= h0.objs.size := g.size;refine m_call (· = h0.objs.size) [("self", .ref (h0.objs.size + 1)), ("n", .int n tn)] (g.stp S1) hA.make.room (by rfl) (by kernel_rfl) (.of_eq (by rfl)) (locs (by rfl)) (fun s₁ F => ?_) (by decide);refine gQ1 fun Q0 hQ0 => ?_;refine wpAny_execs_cons (m_AssignAttr (m_local F (by rfl) (m_local F (by rfl) (m_setF F (sf_n w) hx0 hd0 lo (fun _ _ => rfl) fun s b1 t1 F1 kb hd => ?_))));have hx := kb _ _ (Nat.succ_ne_self _) hx0;refine wpAny_execs_cons (m_AssignAttr (m_dict0 F1 fun s a F ea an aL la af Sa => ?_));have ha : a ≠ h0.objs.size := fun q => by rw [q, hd] at an; cases an
 have hax : a ≠ h0.objs.size + 1 := fun q => by rw [q, hx] at an; cases an
 have nd0 : h0.get? h0.objs.size = none := Heap.get?_size_none _;have nx0 : h0.get? (h0.objs.size + 1) = none := by
  cases q : h0.get? (h0.objs.size + 1) with
  | none => rfl
  | some o => exact absurd (Heap.lt_size q) (Nat.not_lt.mpr (Nat.le_succ _))
 have na0 : h0.get? a = none := by
  cases q : h0.get? a with
  | none => rfl
  | some o =>
   obtain ⟨o', e'⟩ := F1.tot.live a o (S1.all _ _ q);rw [af] at e'; cases e'
 refine (F.rebase) _ fun b2 F kb2 kn2 => ?_;have ea := kn2 _ _ aL ea;have hx := kb2 _ _ hx;have hd := kb2 _ _ hd;refine m_local F (by rfl) (m_setF F (sf_arcs w) hx hd lo (fun _ _ => rfl) fun s b3 t3 F kb3 hd => ?_);have ea := kb3 _ _ ha ea;have hx := kb3 _ _ (Nat.succ_ne_self _) hx;refine wpAny_execs_cons (m_AssignAttr (m_cbool (m_local F (by rfl) (m_setF F (sf_final w) hx hd lo (fun _ _ => rfl) fun s b4 t4 F kb4 hd => wpAny_execs_nil (hQ0 _ _ ⟨rfl, ?_⟩)))));have ea := kb4 _ _ ha ea;have hx := kb4 _ _ (Nat.succ_ne_self _) hx;refine h s ⟨h0.objs.size + 1, h0.objs.size, a⟩ (((S1.mono fun _ h => h.elim).trans F.done).drop fun u o hu e => by rw [hu] at e; exact absurd e (by rw [nd0]; simp)) ⟨F.keep _ _ hx, ⟨tn, t1, t3, t4, _, F.keep _ _ hd⟩, ⟨_, _, _, F.keep _ _ ea, ⟨rfl, rfl, rfl⟩, rfl, (fun e he => by simp at he), .nil, .nil⟩, la⟩ nx0 nd0 na0 ?_ lo;simp only [List.nodup_cons, List.mem_cons, List.not_mem_nil, or_false, not_or, not_false_eq_true, List.nodup_nil, and_true];exact ⟨⟨Nat.succ_ne_self _, Ne.symm hax⟩, Ne.symm ha⟩
end
end Mine
end
section
open PySem PySem.W PySem.Calls PyProof.Rows
namespace Mine
theorem ng_set (w : World) : nsIn (KK w) mainGlobals "set" = some none := by kernel_rfl
theorem ng_len (w : World) : nsIn (KK w) mainGlobals "len" = some none := by kernel_rfl
theorem ng_next (w : World) : nsIn (KK w) mainGlobals "next" = some none := by kernel_rfl
theorem ng_sorted (w : World) : nsIn (KK w) mainGlobals "sorted" = some none := by kernel_rfl
theorem ng_tuple (w : World) : nsIn (KK w) mainGlobals "tuple" = some none := by kernel_rfl
theorem ng_list (w : World) : nsIn (KK w) mainGlobals "list" = some none := by kernel_rfl
theorem ng_range (w : World) : nsIn (KK w) mainGlobals "range" = some none := by kernel_rfl
theorem ng_sum (w : World) : nsIn (KK w) mainGlobals "sum" = some none := by kernel_rfl
theorem ng_abs (w : World) : nsIn (KK w) mainGlobals "abs" = some none := by kernel_rfl
theorem ng_iter (w : World) : nsIn (KK w) mainGlobals "iter" = some none := by kernel_rfl
theorem ng_enumerate (w : World) : nsIn (KK w) mainGlobals "enumerate" = some none := by kernel_rfl
theorem ng_Exception (w : World) : nsIn (KK w) mainGlobals "Exception" = some none := by kernel_rfl
theorem ng_KeyError (w : World) : nsIn (KK w) mainGlobals "KeyError" = some none := by kernel_rfl
theorem ng_type (w : World) : nsIn (KK w) mainGlobals "type" = some none := by kernel_rfl
theorem ng_int (w : World) : nsIn (KK w) mainGlobals "int" = some none := by kernel_rfl
theorem gl_DFA (w : World) : nsIn (KK w) mainGlobals "DFA" = some (some (.ref 304)) := by kernel_rfl
theorem gl_DMNode (w : World) : nsIn (KK w) mainGlobals "DMNode" = some (some (.ref 344)) := by kernel_rfl
theorem gl_count (w : World) : nsIn (KK w) mainGlobals "count" = some (some (.ref 403)) := by kernel_rfl
theorem gl_add_suffix (w : World) : nsIn (KK w) mainGlobals "add_suffix" = some (some (.ref 422)) := by kernel_rfl
theorem gl_strings_dfa (w : World) : nsIn (KK w) mainGlobals "strings_dfa" = some (some (.ref 415)) := by kernel_rfl
theorem gl_law_word (w : World) : nsIn (KK w) mainGlobals "_law_word" = some (some (.ref 429)) := by kernel_rfl
theorem gl_law_state (w : World) : nsIn (KK w) mainGlobals "_law_state" = some (some (.ref 436)) := by kernel_rfl
theorem gl_law_refused (w : World) : nsIn (KK w) mainGlobals "_law_refused" = some (some (.ref 443)) := by kernel_rfl
theorem gl_law_ascend (w : World) : nsIn (KK w) mainGlobals "_law_ascend" = some (some (.ref 450)) := by kernel_rfl
theorem gl_iteritems (w : World) : nsIn (KK w) mainGlobals "iteritems" = some (some (.ref 56)) := by kernel_rfl
theorem gl_unichr (w : World) : nsIn (KK w) mainGlobals "unichr" = some (some (.builtin "chr")) := by kernel_rfl
theorem gl_bisect (w : World) : nsIn (KK w) mainGlobals "bisect_left" = some (some (.builtin "_bisect.bisect_left")) := by kernel_rfl
theorem ke_304 (w : World) : keepIn (KK w) (.ref 304) = true := by kernel_rfl
theorem ke_344 (w : World) : keepIn (KK w) (.ref 344) = true := by kernel_rfl
theorem ke_403 (w : World) : keepIn (KK w) (.ref 403) = true := by kernel_rfl
section
variable {w : World} {mg mb : Str -> Option Value} {A : Around} {E : Value -> Shared -> Prop} {L : Addr} {sE s s' : Shared} {W : Addr -> Prop} {H : List (Addr × Obj)} {b : Heap} {m : Str -> Option Value} {env : Env}
theorem Stp.none_of {W : Addr -> Prop} {s s' : Shared} (x : Stp W s s') {a : Addr} (h : s'.heap.get? a = none) : s.heap.get? a = none := by
 cases q : s.heap.get? a with
 | none => rfl
 | some o => obtain ⟨o', e'⟩ := x.live a o q; rw [h] at e'; cases e'
theorem dfa_new_spec {s0 : Shared} {tn : Tok} {Q : Value -> Shared -> Prop} {k : Nat} (g : G w mg mb s0.heap) (hA : Rm A (k + 2))
  (h : ∀ s' x, Stp W0 s0 s' -> DFAAt w s'.heap ⟨x, [], fun _ => false, 0, []⟩ -> (∀ a ∈ [x.m, x.d, x.T, x.Df, x.Fs, x.Ol], s0.heap.get? a = none) -> Q (.ref x.m) s') :
  wpAny (model PP w) A (call (.ref 304) [.int 0 tn]) Q E s0 := by
 obtain ⟨h0, gn, dr, tk, os⟩ := s0;refine wpAny_call (make_core (init := .ref 222) (makes_of g.X (by kernel_rfl)) (looks_findIn g.X (by kernel_rfl)) (fun self => bind_fn g.X self (by kernel_rfl)) (.inl rfl) ?_);have S1 : Stp W0 ⟨h0, gn, dr, tk, os⟩ ⟨(h0.push emptyDict).push (instObj 304 h0.objs.size), gn, dr, tk, os⟩ := Stp.of fun _ _ e => Heap.get?_push_of_some _ (Heap.get?_push_of_some _ e);have hd0 : ((h0.push emptyDict).push (instObj 304 h0.objs.size)).get? h0.objs.size = some (dictOf [] 0) := Heap.get?_push_of_some _ (Heap.get?_push_size _ rfl);have hx0 : ((h0.push emptyDict).push (instObj 304 h0.objs.size)).get? (h0.objs.size + 1) = some (instObj 304 h0.objs.size) := by
  have := Heap.get?_push_size (h0.push emptyDict) (o := instObj 304 h0.objs.size) rfl
  rwa [Heap.size_push] at this
 have lo : 456 <= h0.objs.size := g.size;have nd0 : h0.get? h0.objs.size = none := Heap.get?_size_none _;have nx0 : h0.get? (h0.objs.size + 1) = none := by
  cases q : h0.get? (h0.objs.size + 1) with
  | none => rfl
  | some o => exact absurd (Heap.lt_size q) (Nat.not_lt.mpr (Nat.le_succ _))
 have sx := Nat.succ_ne_self h0.objs.size;refine m_call (· = h0.objs.size) [("self", .ref (h0.objs.size + 1)), ("initial", .int 0 tn)] (g.stp S1) hA.make.room (by rfl) (by kernel_rfl) (.of_eq (by rfl)) (locs (by rfl)) (fun s₁ F => ?_) (by decide);refine gQ1 fun Q0 hQ0 => ?_;refine wpAny_execs_cons (m_AssignAttr (m_local F (by rfl) (m_local F (by rfl) (m_setF F (sf_initial w) hx0 hd0 lo (fun _ _ => rfl) fun s b1 t1 F1 kb hd => ?_))));have hx := kb _ _ sx hx0;refine wpAny_execs_cons (m_AssignAttr (m_dict0 F1 fun s T F eT Tn TL lT Tf _ => ?_));have Td : T ≠ h0.objs.size := fun q => by rw [q, hd] at Tn; cases Tn
 have nT := S1.none_of (F1.tot.none_of Tf);refine (F.rebase) _ fun b2 F kb2 kn2 => ?_;have eT := kn2 _ _ TL eT;have hx := kb2 _ _ hx;refine m_local F (by rfl) (m_setF F (sf_transitions w) hx (kb2 _ _ hd) lo (fun _ _ => rfl) fun s b3 t3 F3 kb3 hd => ?_);have eT := kb3 _ _ Td eT;have hx := kb3 _ _ sx hx;refine wpAny_execs_cons (m_AssignAttr (m_dict0 F3 fun s D F eD Dn DL lD Df _ => ?_));have Dd : D ≠ h0.objs.size := fun q => by rw [q, hd] at Dn; cases Dn
 have DT : D ≠ T := fun q => by rw [q, eT] at Dn; cases Dn
 have nD := S1.none_of (F3.tot.none_of Df);refine (F.rebase) _ fun b4 F kb4 kn4 => ?_;have eD := kn4 _ _ DL eD;have eT := kb4 _ _ eT;have hx := kb4 _ _ hx;refine m_local F (by rfl) (m_setF F (sf_defaults w) hx (kb4 _ _ hd) lo (fun _ _ => rfl) fun s b5 t5 F5 kb5 hd => ?_);have eT := kb5 _ _ Td eT;have eD := kb5 _ _ Dd eD;have hx := kb5 _ _ sx hx;refine wpAny_execs_cons (m_AssignAttr (Call_ (m_bi F5 (ng_set w) boot_set (m_ct0 (call_set_0 fun led => ?_)))));refine F5.alloc (Q := fun a s' => wpAny (model PP w) _ (eval _ _) (fun ov s₂ => wpAny (model PP w) _ (setAttr ov _ (.ref a)) _ _ s₂) _ s') rfl fun s S F eS Sn SL lS Sf _ => ?_;have Sd : S ≠ h0.objs.size := fun q => by rw [q, hd] at Sn; cases Sn
 have nS := S1.none_of (F5.tot.none_of Sf);refine (F.rebase) _ fun b6 F kb6 kn6 => ?_;have eS := kn6 _ _ SL eS;have eT := kb6 _ _ eT;have eD := kb6 _ _ eD;have hx := kb6 _ _ hx;refine m_local F (by rfl) (m_setF F (sf_finals w) hx (kb6 _ _ hd) lo (fun _ _ => rfl) fun s b7 t7 F7 kb7 hd => ?_);have eT := kb7 _ _ Td eT;have eD := kb7 _ _ Dd eD;have eS := kb7 _ _ Sd eS;have hx := kb7 _ _ sx hx;refine wpAny_execs_cons (m_AssignAttr (m_dict0 F7 fun s O F eO On OL lO Of _ => ?_));have Od : O ≠ h0.objs.size := fun q => by rw [q, hd] at On; cases On
 have OT : O ≠ T := fun q => by rw [q, eT] at On; cases On
 have OD : O ≠ D := fun q => by rw [q, eD] at On; cases On
 have nO := S1.none_of (F7.tot.none_of Of);refine (F.rebase) _ fun b8 F kb8 kn8 => ?_;have eO := kn8 _ _ OL eO;have eT := kb8 _ _ eT;have eD := kb8 _ _ eD;have eS := kb8 _ _ eS;have hx := kb8 _ _ hx;refine m_local F (by rfl) (m_setF F (sf_outlabels w) hx (kb8 _ _ hd) lo (fun _ _ => rfl) fun s b9 t9 F kb9 hd => wpAny_execs_nil (hQ0 _ _ ⟨rfl, ?_⟩));have eT := F.keep _ _ (kb9 _ _ Td eT);have eD := F.keep _ _ (kb9 _ _ Dd eD);have eS := F.keep _ _ (kb9 _ _ Sd eS);have eO := F.keep _ _ (kb9 _ _ Od eO);have hx := F.keep _ _ (kb9 _ _ sx hx);have ed : ∀ {K : Type} [DecidableEq K] {knd : KeyKind PP w K} {a : Addr}, s.heap.get? a = some { cls := .type "dict", data := .dict #[] } -> s.heap.DictOf knd a [] := fun e => ⟨_, _, _, e, ⟨rfl, rfl, rfl⟩, rfl, (fun e he => by simp at he), .nil, .nil⟩;refine h s ⟨h0.objs.size + 1, h0.objs.size, T, D, S, O⟩ (((S1.mono fun _ h => h.elim).trans F.done).drop fun u o hu e => by rw [hu] at e; exact absurd e (by rw [nd0]; simp))
  ⟨⟨hx, _, _, _, _, _, _, _, F.keep _ _ hd⟩, ed eT, (fun x hx => nomatch hx), ed eD, ?_, ed eO, (fun x hx => nomatch hx), lT, lD, lO, lS, ?_⟩ ?_
 ·have := setObjOf_fresh (knd := oiKind w) led;have e := this.setOf eS (by decide);have e2 : DC.finO ⟨⟨h0.objs.size + 1, h0.objs.size, T, D, S, O⟩, [], fun _ => false, 0, []⟩ = fun _ => false := by funext k; cases k <;> rfl
  rw [e2]; exact e
 ·simp only [List.map_nil, List.nodup_cons, List.mem_cons, List.not_mem_nil, or_false, not_or, not_false_eq_true, List.nodup_nil, and_true];exact ⟨⟨Ne.symm Td, Ne.symm Dd, Ne.symm Od⟩, ⟨Ne.symm DT, Ne.symm OT⟩, Ne.symm OD⟩
 ·intro a ha;simp only [List.mem_cons, List.not_mem_nil, or_false] at ha;rcases ha with rfl | rfl | rfl | rfl | rfl | rfl <;> assumption
end
end Mine
end
section
open PySem PySem.W PySem.Calls PyProof.Rows
namespace Mine
theorem asc_id {cmp : Nat -> Nat -> (Bool -> Shared -> Prop) -> Shared -> Prop} {p : Array Nat} {G : Nat -> Shared -> Prop} {s : Shared} :
  ∀ (f n tk : Nat), (∀ i, n <= i -> i < n + f -> ∀ C tk, (∀ tk', C false { s with toks := tk' }) -> cmp (p.getD i 0) (p.getD (i - 1) 0) C { s with toks := tk }) ->
   (∀ tk', G (n + f) { s with toks := tk' }) -> (kas_asc p f n).kasWp cmp G { s with toks := tk }
 | 0, n, tk, _, h => h tk
 | f + 1, n, tk, hc, h => by
  show cmp _ _ _ _;refine hc n (Nat.le_refl _) (ar47) _ tk fun tk' => ?_;show KasT.kasWp _ (if false = true then _ else _) _ _;rw [if_neg (by simp)];exact asc_id f (n + 1) tk' (fun i h1 h2 => hc i (Nat.le_of_lt h1) (Nat.lt_of_lt_of_le h2 (Nat.le_of_eq (Nat.add_right_comm _ 1 _)))) (fun tk'' => by have := h tk''; rwa [show n + 1 + f = n + (f + 1) from ar48])
theorem sort_id {cmp : Nat -> Nat -> (Bool -> Shared -> Prop) -> Shared -> Prop} {n : Nat} {G : Array Nat -> Shared -> Prop} {s : Shared} {tk : Nat} (h2 : 2 <= n)
  (hc : ∀ i, 1 <= i -> i < n -> ∀ C tk, (∀ tk', C false { s with toks := tk' }) -> cmp i (i - 1) C { s with toks := tk }) (h : ∀ tk', G (List.toArray (List.range n)) { s with toks := tk' }) :
  (kas_sort n).kasWp cmp G { s with toks := tk } := by
 unfold kas_sort kas_count;rw [KasT.kasWp_bind, KasT.kasWp_bind];refine asc_id (n - 1) 1 tk (fun i h1 h3 C tk hC => ?_) fun tk' => ?_
 ·have e1 : (List.toArray (List.range n)).getD i 0 = i := by simp [Array.getD, show i < n from ar63 h2 h3]
  have e2 : (List.toArray (List.range n)).getD (i - 1) 0 = i - 1 := by simp [Array.getD, show i - 1 < n from ar223 h1 h3]
  rw [e1, e2];exact hc i h1 (ar63 h2 h3) C tk hC
 ·rw [show 1 + (n - 1) = n from Nat.add_sub_cancel' (Nat.le_of_lt h2)];simp only [beq_self_eq_true, if_true];show KasT.kasWp _ (if n < n then _ else _) _ _;rw [if_neg (Nat.lt_irrefl _)];exact h tk'
section
variable {w : World} {A : Around} {E : Value -> Shared -> Prop} {s : Shared}
theorem sortedHeap_old {h : Heap} {a : Addr} {vs : List Value} {out : Array Value} {b : Addr} {o : Obj} (hb : b ≠ a) (e : h.get? b = some o) : (sortedHeap h a vs out).get? b = some o := by
 unfold sortedHeap;have hl := Heap.lt_size e;rw [Heap.get?_update_ne _ _ _ _ hb, Heap.get?_push_ne _ _ _ (by rw [size_push', Heap.size_update]; exact Nat.ne_of_lt (Nat.lt_succ_of_lt hl)), Heap.get?_push_ne _ _ _ (by rw [Heap.size_update]; exact Nat.ne_of_lt hl), Heap.get?_update_ne _ _ _ _ hb];exact e
theorem list_sort_id {a : Addr} {vs : List Value} {n : Nat} {κ : SortKind} {P : PySem.Fin -> Shared -> Prop} (ho : s.heap.get? a = some (seqObj "list" vs.toArray n)) (h64 : vs.length < 64)
  (hk : ∀ s' : Shared, (∀ b o, b ≠ a -> s.heap.get? b = some o -> s'.heap.get? b = some o) -> 2 <= vs.length -> ∀ Q : SortKind -> Shared -> Prop, Q κ s' -> wpAny (model PP w) A (keyKind' vs.toArray) Q (fun _ _ => False) s')
  (hlt : ∀ s' : Shared, (∀ b o, b ≠ a -> s.heap.get? b = some o -> s'.heap.get? b = some o) -> ∀ i, 1 <= i -> i < vs.length -> ∀ C : Bool -> Shared -> Prop, (∀ tk', C false { s' with toks := tk' }) ->
   wpAny (model PP w) A (keyLt' κ (vs.getD i .none) (vs.getD (i - 1) .none)) C (fun _ _ => False) s')
  (h : ∀ tk, P (.done (.ret .none)) { s with heap := sortedHeap s.heap a vs vs.toArray, toks := tk }) :
  wpAny (model PP w) A (Builtin.«list.sort» ⟨[.ref a], []⟩) P E s := by
 rw [list_sort_plain];have ha : a < s.heap.objs.size := Heap.lt_size ho;refine wpAny_bind (listItems_at ho rfl ?_);refine wpAny_bind (listUpdate_at ho rfl ?_ (by rw [List.size_toArray, sizeLine_eq]; exact ar10 h64) (Nat.zero_le _));obtain ⟨e1, ho1⟩ : ∃ e1, (s.heap.update a (Obj.mapSeq fun _ => #[])).get? a = some (seqObj "list" #[] e1) := ⟨_, get?_update_seq ho (fun _ => #[])⟩;refine wpAny_bind (seqEpoch_at ho1 rfl ?_);refine wpAny_bind (wpAny_newTuple ?_ (by show vs.length <= _; rw [sizeLine_eq]; exact ar10 h64));refine wpAny_bind (wpAny_newList ?_ (Nat.zero_le _));refine wpAny_holding ?_;have ho6 : (((s.heap.update a (Obj.mapSeq fun _ => #[])).push (seqObj "tuple" vs.toArray 0)).push (seqObj "list" #[] 0)).get? a = some (seqObj "list" #[] e1) := by
  rw [Heap.get?_push_ne _ _ _ (by rw [size_push', Heap.size_update]; exact Nat.ne_of_lt (Nat.lt_succ_of_lt ha)), Heap.get?_push_ne _ _ _ (by rw [Heap.size_update]; exact Nat.ne_of_lt ha)];exact ho1
 have keep : ∀ b o, b ≠ a -> s.heap.get? b = some o -> (((s.heap.update a (Obj.mapSeq fun _ => #[])).push (seqObj "tuple" vs.toArray 0)).push (seqObj "list" #[] 0)).get? b = some o := fun b o hb e => by
  have hl := Heap.lt_size e;rw [Heap.get?_push_ne _ _ _ (by rw [size_push', Heap.size_update]; exact Nat.ne_of_lt (Nat.lt_succ_of_lt hl)), Heap.get?_push_ne _ _ _ (by rw [Heap.size_update]; exact Nat.ne_of_lt hl), Heap.get?_update_ne _ _ _ _ hb];exact e
 show wpAny (model PP w) A _ P E { s with heap := ((s.heap.update a (Obj.mapSeq fun _ => #[])).push (seqObj "tuple" vs.toArray 0)).push (seqObj "list" #[] 0) };dsimp only;have hsz : vs.toArray.size = vs.length := by simp
 by_cases h2 : vs.toArray.size < 2
 ·rw [if_pos h2, if_pos h2];refine wpAny_bind (wpAny_pure ?_);rw [StateT.run_pure];refine wpAny_bind (wpAny_pure ?_);dsimp only;refine wpAny_bind (seqEpoch_at ho6 rfl ?_);have eo : (arrOf (SortSt.mk' general' (vs.toArray.zip vs.toArray) #[] 7 none)).map (·.2) = vs.toArray := by
   show (vs.toArray.zip vs.toArray).map (·.2) = _;simp [List.map_snd_zip]
  rw [eo];refine wpAny_bind (listUpdate_at ho6 rfl ?_ (Nat.zero_le _) (by rw [List.size_toArray, sizeLine_eq]; exact ar181 hsz h2));simp only [bne_self_eq_false, Bool.false_eq_true, if_false];exact wpAny_pure (h _)
 ·rw [if_neg h2, if_neg h2];refine wpAny_bind (wpAny_mono (hk _ keep (ar26 hsz h2) (fun κ' s' => κ' = κ ∧ s' = { s with heap := ((s.heap.update a (Obj.mapSeq fun _ => #[])).push (seqObj "tuple" vs.toArray 0)).push (seqObj "list" #[] 0) }) ⟨rfl, rfl⟩) (fun κ' s' hκ => ?_) fun _ _ x => x.elim);obtain ⟨rfl, rfl⟩ := hκ;refine wpAny_bind (wpAny_mono (kat_run (Q := fun st' s' => ∃ (p : Array Nat) (tk : Nat), p = List.toArray (List.range vs.length) ∧ arrOf st' = p.map (kas_item (vs.toArray.zip vs.toArray)) ∧ failedOf st' = none ∧ s' = { s with heap := ((s.heap.update a (Obj.mapSeq fun _ => #[])).push (seqObj "tuple" vs.toArray 0)).push (seqObj "list" #[] 0), toks := tk })
   (G := fun p s' => ∃ tk, p = List.toArray (List.range vs.length) ∧ s' = { s with heap := ((s.heap.update a (Obj.mapSeq fun _ => #[])).push (seqObj "tuple" vs.toArray 0)).push (seqObj "list" #[] 0), toks := tk })
   rfl (ar26 hsz h2) h64 (fun p' st' s' a1 a2 a3 a4 => by obtain ⟨tk, e1, e2⟩ := a4; exact ⟨p', tk, e1, a2, a3, e2⟩)
   (sort_id (s := { s with heap := ((s.heap.update a (Obj.mapSeq fun _ => #[])).push (seqObj "tuple" vs.toArray 0)).push (seqObj "list" #[] 0) }) (tk := s.toks) (ar26 hsz h2) (fun i h1 h3 C tk hC => hlt _ (fun b o hb e => keep b o hb e) i h1 h3 C fun tk' => hC tk') fun tk' => ⟨tk', rfl, rfl⟩)) ?_ ee)
  rintro ⟨⟨⟩, st'⟩ s' ⟨p, tk, hp, har, hf, rfl⟩
  dsimp only;refine wpAny_bind (seqEpoch_at ho6 rfl ?_);have hout := kat_snds rfl har;have eo : (arrOf st').map (·.2) = vs.toArray := by
   rw [hout, hp]
   congr 1
   refine List.ext_getElem (by simp) fun i h1 h2 => ?_;simp [h2]
  rw [eo];refine wpAny_bind (listUpdate_at ho6 rfl ?_ (Nat.zero_le _) (by rw [List.size_toArray, sizeLine_eq]; exact Nat.le_trans (Nat.le_of_lt h64) (by decide)));rw [hf];simp only [bne_self_eq_false, Bool.false_eq_true, if_false];exact wpAny_pure (h tk)
end
end Mine
end
section
open PySem PySem.W PySem.Calls PyProof.Rows
namespace Mine
section
variable {w : World} {mg mb : Str -> Option Value} {A : Around} {E : Value -> Shared -> Prop} {L : Addr} {sE s s' : Shared} {W : Addr -> Prop} {H : List (Addr × Obj)} {b : Heap} {m : Str -> Option Value} {env : Env}
theorem m_callE {R : Result -> Shared -> Prop} {f : Addr} {name qual : Str} {params : Arguments} {body : PySem.Expr} {scope : Scope} {pm cdv ct oc : Value} {od : Option Addr} {osl : Array (Option Value)} {args : Args}
  (W : Addr -> Prop) (binds : List (Str × Value)) (g : G w mg mb s.heap) (hroom : A.depth < recursionLimit)
  (ho : (KK w).lookup f = some ⟨oc, od, .func (kla_fn name qual params body scope [] pm cdv ct), osl⟩) (hcd : codeIn (KK w) cdv qual = true)
  (hbind : BindsTo s (kla_fn name qual params body scope [] pm cdv ct) args binds) (hloc : ∀ y ∈ binds, scope.names.lookup y.1 = some .local)
  (h : ∀ s₁, Fx w mg mb s.heap.objs.size s W [] s.heap s₁ (fun y => binds.reverse.lookup y) ->
   wpAny (model PySem.Challenge.pw_ky0010_01 w) (A.deeper (envOf qual scope s.heap.objs.size f cdv)) (eval body (envOf qual scope s.heap.objs.size f cdv))
    (fun v s' => R (.ok (.ret v)) s')
    (fun e s' => wpAny (model PySem.Challenge.pw_ky0010_01 w) (A.deeper (envOf qual scope s.heap.objs.size f cdv)) (leaving (envOf qual scope s.heap.objs.size f cdv) e) (fun _ s'' => R (.error e) s'') (fun e' s'' => R (.error e') s'') s') s₁)
  (hcell : ∀ x ∈ scope.names, x.2 ≠ .cell) (hco : scope.isCoroutine = false := by rfl) (hgen : scope.isGenerator = false := by rfl) (hk : scope.kind = .function := by rfl) :
  codeAny (model PySem.Challenge.pw_ky0010_01 w) A (.call (.ref f) args) R s := by
 refine kla_callFunE (fd := kla_fn name qual params body scope [] pm cdv ct) (body := body) hroom (g.X _ _ ho) rfl hco hgen rfl (codeRec_of g.X hcd) (hbind _ _ _ _ ?_);refine PySem.wpAny_newFunctionEnv hcell hloc (fun h₁ hns hsb => ?_) hk;have hk₁ : Kp s.heap h₁ := fun c o e => hsb.extBut c o (Nat.ne_of_lt (Heap.lt_size e)) (Heap.get?_push_of_some _ e);refine ⟨g.lim.fresh _ hsb, kla_codeExpr (h _ ⟨g.low fun c o _ e => hk₁ c o e, g.size, hns, .of hk₁, hk₁, ?_, fun p hp => (nomatch hp)⟩)⟩;exact Heap.get?_size_none _
theorem iteritems_spec {K : Type} [DecidableEq K] {knd : KeyKind PP w K} {s0 : Shared} {d : Addr} {kvs : List (K × Value)} {Q : Value -> Shared -> Prop} {k : Nat} (g : G w mg mb s0.heap) (hA : Rm A k) (lo : 456 <= d) (hm : s0.heap.DictOf knd d kvs)
  (h : ∀ s' v, Stp W0 s0 s' -> s'.heap.IsItemsView v d -> s0.heap.get? v = none -> 456 <= v -> Q (.ref v) s') : wpAny (model PP w) A (call (.ref 56) [.ref d]) Q E s0 := by
 refine wpAny_call (m_callE W0 [("o", .ref d)] g hA.room (by rfl) (by kernel_rfl) (.of_eq (by rfl)) (locs (by rfl)) (fun s₁ F => ?_) (by decide));refine MethodCall_ (m_local F (by rfl) (gm_ditems (hm.keep F.keep) ?_));refine callWith_method0 ?_;refine call_meetsIn PySem.F.slot_dict_items (hm.keep F.keep).typeIs PySem.F.entry_dict_items (PySem.F.args_dict_items_1 _) (meets_dict_items knd d (sysM lo)) ⟨⟨_, hm.keep F.keep⟩, ?_⟩;refine F.alloc (Q := fun a s' => Q (.ref a) s') rfl fun s' a F' ea bn aL la an S => ?_;refine h s' a F'.done ⟨_, ea, rfl, rfl⟩ bn la
end
end Mine
end
section
open PySem PySem.W PySem.Calls PyProof.Rows
namespace Mine
noncomputable abbrev tupO (vs : List Value) : Obj := { cls := .type "tuple", data := .seq vs.toArray }
inductive ArcsAre (h : Heap) : List (Str × Int) -> List Value -> Prop
 | nil : ArcsAre h [] []
 | cons {a : Addr} {l : Str} {d : Int} {tl td : Tok} {r : List (Str × Int)} {vs : List Value} : h.get? a = some (tupO [.str l tl, .int d td]) -> ArcsAre h r vs -> ArcsAre h ((l, d) :: r) (.ref a :: vs)
theorem ArcsAre.keepT {h h' : Heap} {r : List (Str × Int)} {vs : List Value} (x : ArcsAre h r vs) (k : ∀ b vs, h.get? b = some (tupO vs) -> h'.get? b = some (tupO vs)) : ArcsAre h' r vs := by
 induction x with
 | nil => exact .nil
 | cons e _ ih => exact .cons (k _ _ e) ih
theorem ArcsAre.keep {h h' : Heap} {r : List (Str × Int)} {vs : List Value} (x : ArcsAre h r vs) (k : Kp h h') : ArcsAre h' r vs := x.keepT fun b vs => k b _
noncomputable def IsNKey (h : Heap) (key : List (Str × Int) × Bool) (a : Addr) : Prop :=
 ∃ t vs, h.get? a = some (tupO [.ref t, .bool key.2]) ∧ h.get? t = some (tupO vs) ∧ ArcsAre h key.1 vs
theorem IsNKey.keepT {h h' : Heap} {key : List (Str × Int) × Bool} {a : Addr} (x : IsNKey h key a) (k : ∀ b vs, h.get? b = some (tupO vs) -> h'.get? b = some (tupO vs)) : IsNKey h' key a :=
 by obtain ⟨t, vs, e1, e2, e3⟩ := x; exact ⟨t, vs, k _ _ e1, k _ _ e2, e3.keepT k⟩
theorem IsNKey.keep {h h' : Heap} {key : List (Str × Int) × Bool} {a : Addr} (x : IsNKey h key a) (k : Kp h h') : IsNKey h' key a := x.keepT fun b vs => k b _
noncomputable def Asc (arcs : List (Str × Int × Tok)) : Prop := arcs.Pairwise fun x y => x.1.cps.toList < y.1.cps.toList
noncomputable def keyOf (arcs : List (Str × Int × Tok)) : List (Str × Int) := arcs.map fun x => (x.1, x.2.1)
theorem intPairs_get {arcs : List (Str × Int × Tok)} {j : Nat} {k : Str} {x : Value} (h : (intPairs arcs)[j]? = some (k, x)) : ∃ d t, arcs[j]? = some (k, d, t) ∧ x = .int d t := by
 unfold intPairs at h;rw [List.getElem?_map] at h;cases q : arcs[j]? with
 | none => rw [q] at h; cases h
 | some y => rw [q] at h; cases h; exact ⟨_, _, rfl, rfl⟩
section
variable {w : World} {mg mb : Str -> Option Value} {A : Around} {E : Value -> Shared -> Prop} {L : Addr} {sE s s' : Shared} {W : Addr -> Prop} {H : List (Addr × Obj)} {b : Heap} {m : Str -> Option Value} {env : Env}
theorem arcsAre_of {h : Heap} {lo : Addr} {as : List Addr} : ∀ {arcs : List (Str × Int × Tok)}, as.length = arcs.length -> (∀ (j : Nat) (a : Addr), as[j]? = some a -> ∃ l d t tl, arcs[j]? = some (l, d, t) ∧ h.get? a = some (tupO [.str l tl, .int d t])) -> ArcsAre h (keyOf arcs) (as.map .ref) := by
 induction as with
 | nil => intro arcs hl _; cases arcs with
  | nil => exact .nil
  | cons _ _ => simp at hl
 | cons a as ih =>
  intro arcs hl hj;cases arcs with
  | nil => simp at hl
  | cons x arcs =>
   obtain ⟨l, d, t, tl, e, ea⟩ := hj 0 a rfl;simp at e; subst e;exact .cons ea (ih (by simpa using hl) fun j a' e' => by simpa using hj (j + 1) a' (by simpa using e'))
theorem oneLt_str' {b : Bool} {x y : Str} {t u : Tok} {Q : Bool -> Shared -> Prop} (h : Q (decide (x.cps.toList < y.cps.toList)) s) : wpAny (model PP w) A (oneLt' b (.str x t) (.str y u)) Q E s := by
 cases b with
 | true => exact oneLt_str h
 | false => exact kat_one _ _ (PyProof.Rows.lt_str h)
theorem lt_irr (a b : List Nat) (h : a < b) : ¬ b < a := fun h' => List.lt_irrefl a (List.lt_trans h h')
theorem sorted_items_spec {v d : Addr} {arcs : List (Str × Int × Tok)} {Q : Value -> Shared -> Prop} (hh : A.handled = none) (hv : s.heap.IsItemsView v d) (hm : s.heap.DictOf (strKind PP w) d (intPairs arcs)) (ha : Asc arcs) (h64 : arcs.length < 64)
  (h : ∀ s' B vs, Stp W0 s s' -> s'.heap.IsList B vs.toArray -> vs.length = arcs.length -> ArcsAre s'.heap (keyOf arcs) vs -> Q (.ref B) s') : wpAny (model PP w) A (call (.builtin "sorted") [.ref v]) Q E s := by
 obtain ⟨ep, hat⟩ := hm.dictAt;have hlen : (intPairs arcs).length = arcs.length := by unfold intPairs; rw [List.length_map]
 refine call_function_entry kind_sorted plain_sorted entry_sorted (args_sorted1 _) ?_;unfold Builtin.«sorted»;refine wpAny_bind (m := checkCount "sorted" 1 1 _) (wpAny_pure ?_);refine wpAny_bind (kdx_collect (A := A.in1) (knd := strKind PP w) (kvs := intPairs arcs) (ep := ep) hh hv hat (by rw [hlen, sizeLine_eq]; exact ar10 h64) fun h' tk as hk hl hG => ?_);rw [hlen] at hl;refine wpAny_bind (wpAny_newList ?_ (by rw [List.length_map, hl, sizeLine_eq]; exact ar10 h64));have hp : ∀ (j : Nat) (a : Addr), as[j]? = some a -> ∃ l d t tl, arcs[j]? = some (l, d, t) ∧ h'.get? a = some (tupO [.str l tl, .int d t]) := fun j a e => by
  obtain ⟨key, k, x, e1, e2, e3⟩ := hG.pairs j a e;obtain ⟨d, t, e4, rfl⟩ := intPairs_get e1;obtain ⟨tl, rfl⟩ := Value.isStrOf_shape e2;exact ⟨k, d, t, tl, e4, e3⟩
 have AA := arcsAre_of (lo := 0) hl hp;have keep1 : ∀ b o, h'.get? b = some o -> (h'.push (seqObj "list" (as.map Value.ref).toArray 0)).get? b = some o := fun b o e => Heap.get?_push_of_some _ e;have hB : (h'.push (seqObj "list" (as.map Value.ref).toArray 0)).get? h'.objs.size = some (seqObj "list" (as.map Value.ref).toArray 0) := Heap.get?_push_size _ rfl;have hne : ∀ {b : Addr} {o : Obj}, h'.get? b = some o -> b ≠ h'.objs.size := fun e => Nat.ne_of_lt (Heap.lt_size e);refine wpAny_bind (wpAny_holding (wpAny_call_entry slot_list_sort ⟨_, hB, rfl⟩ entry_list_sort ?body (args_list_sort _)))
 case body =>
  refine list_sort_id (s := { s with heap := h'.push (seqObj "list" (as.map Value.ref).toArray 0), toks := tk }) (κ := tuples' true) hB (by rw [List.length_map, hl]; exact h64) (fun s1 k1 h2 Q hQ => ?_) (fun s1 k1 i h1 h2 C hC => ?_) fun tk' => ?_
  ·-- the kind of the keys
   have tups : ∀ (as' : List Addr) (arcs' : List (Str × Int × Tok)), as'.length = arcs'.length -> (∀ (j : Nat) (a : Addr), as'[j]? = some a -> ∃ l d t tl, arcs'[j]? = some (l, d, t) ∧ h'.get? a = some (tupO [.str l tl, .int d t])) ->
     ∃ fs, KatTups s1.heap (as'.map Value.ref) fs ∧ fs.length = as'.length ∧ ∀ v ∈ fs, ∃ x t, v = .str x t := by
    intro as'
    induction as' with
    | nil => intro _ _ _; exact ⟨[], .nil, rfl, fun v hv => nomatch hv⟩
    | cons a as' ih =>
     intro arcs' hl' hj;cases arcs' with
     | nil => simp at hl'
     | cons x arcs' =>
      obtain ⟨fs, f1, f2, f3⟩ := ih arcs' (by simpa using hl') fun j a' e' => by simpa using hj (j + 1) a' (by simpa using e')
      obtain ⟨l, d, t, tl, e, ea⟩ := hj 0 a rfl;refine ⟨.str l tl :: fs, .cons (k1 _ _ (hne ea) (keep1 _ _ ea)) rfl rfl rfl f1, by simp [f2], fun v hv => ?_⟩;rcases List.mem_cons.mp hv with rfl | hv
      ·exact ⟨_, _, rfl⟩
      ·exact f3 v hv
   obtain ⟨fs, f1, f2, f3⟩ := tups as arcs hl hp;refine kat_kind (T := .type "str") f1 (by rw [f2]; rw [List.length_map] at h2; exact Nat.zero_lt_of_lt h2) (fun v hv => ?_) (by rfl) (by exact hQ);obtain ⟨x, t, rfl⟩ := f3 v hv;exact Looks.now
  ·-- one comparison
   rw [List.length_map] at h2;have g1 : as[i]? = some as[i] := List.getElem?_eq_getElem h2;have g0 : as[i - 1]? = some (as[i - 1]'(ar29 h2)) := List.getElem?_eq_getElem _;obtain ⟨l1, d1, t1, tl1, e1, ea1⟩ := hp i _ g1;obtain ⟨l0, d0, t0, tl0, e0, ea0⟩ := hp (i - 1) _ g0;have x1 : (as.map Value.ref).getD i .none = .ref as[i] := by simp [List.getD, h2]
   have x0 : (as.map Value.ref).getD (i - 1) .none = .ref (as[i - 1]'(ar29 h2)) := by simp [List.getD, show i - 1 < as.length from ar29 h2]
   rw [x1, x0];have hlt : l0.cps.toList < l1.cps.toList := by
    obtain ⟨i0, y0⟩ := List.getElem?_eq_some_iff.mp e0;obtain ⟨i1, y1⟩ := List.getElem?_eq_some_iff.mp e1;have := List.pairwise_iff_getElem.mp ha (i - 1) i i0 i1 (Nat.sub_one_lt_of_lt h1)
    rwa [y0, y1] at this
   refine kat_lt (k1 _ _ (hne ea1) (keep1 _ _ ea1)) rfl (k1 _ _ (hne ea0) (keep1 _ _ ea0)) rfl (kat_cons (wpAny_eqBool_str ?_));have ne : l1 ≠ l0 := by rintro rfl; exact List.lt_irrefl _ hlt
   rw [decide_eq_false ne];refine kat_no (oneLt_str' ?_);rw [decide_eq_false (lt_irr _ _ hlt)];exact hC s1.toks
  ·refine ⟨_, rfl, wpAny_pure ⟨_, rfl, ?_⟩⟩;have k2 : ∀ b o, h'.get? b = some o -> (sortedHeap (h'.push (seqObj "list" (as.map Value.ref).toArray 0)) h'.objs.size (as.map Value.ref) (as.map Value.ref).toArray).get? b = some o := fun b o e => sortedHeap_old (hne e) (keep1 _ _ e);obtain ⟨e2, he2⟩ := sortedHeap_at (out := (as.map Value.ref).toArray) hB;exact h _ _ (as.map Value.ref) (.of fun b o e => k2 b o (hk b o e)) ⟨_, he2, rfl, _, rfl⟩ (by rw [List.length_map, hl]) (AA.keep k2)
theorem Fx.tupL (F : Fx w mg mb L sE W H b s m) {a : Addr} {vs : List Value} (e : s.heap.get? a = some (tupO vs)) : a ≠ L := by
 rintro rfl
 obtain ⟨o, es, ep, e', hd, _⟩ := F.ns;rw [e] at e'; cases e'; cases hd
theorem tuple_spec {s0 : Shared} {p : NA} {n : Int} {arcs : List (Str × Int × Tok)} {fin : Bool} {Q : Value -> Shared -> Prop} {k : Nat} (g : G w mg mb s0.heap) (hA : Rm A (k + 1)) (D : NodeAt w s0.heap p n arcs fin) (ha : Asc arcs) (h64 : arcs.length < 64)
  (h : ∀ s' a, Stp W0 s0 s' -> IsNKey s'.heap (keyOf arcs, fin) a -> s0.heap.get? a = none -> 456 <= a -> Q (.ref a) s') :
  wpAny (model PP w) A (call (.ref 341) [.ref p.x]) Q E s0 := by
 refine wpAny_call (m_call W0 [("self", .ref p.x)] g hA.room (by rfl) (by kernel_rfl) (.of_eq (by rfl)) (locs (by rfl)) (fun s₁ F => ?_) (by decide));have hB : ∀ env, Rm (A.deeper env) k := fun env => hA.deeper env;obtain ⟨t0, t1, t2, t3, kk, e⟩ := D.dic;refine wpAny_execs_cons (wpAny_Assign_Name (Call_ (m_bi F (ng_tuple w) boot_tuple (m_ct (args_cons (Call_ (m_bi F (ng_sorted w) boot_sorted (m_cwb (args_cons (Call_ (m_glob F (gl_iteritems w) ?_)))))))))));refine m_cw (by rfl) (args_cons (m_attr (m_local F (by rfl) (m_get F (at_arcs w) D.obj e (by rfl) rfl fun s F => args_nil ⟨F.g.X, ?_⟩))));refine iteritems_spec F.g (hB _) D.lo (D.arc.keep F.keep) fun s' v S hv vn vl => args_nil ?_;have F := F.grow S;refine sorted_items_spec (hB default).hh hv (D.arc.keep F.keep) ha h64 fun s' B vs S hl hn AA => args_nil ?_;have F := F.grow S;refine call_tuple_list hl (fun h' hk => ?_) (by rw [List.size_toArray, hn, sizeLine_eq]; exact ar10 h64);have AA := AA.keep hk;have F := F.grow (s' := ⟨h', s'.gens, s'.drawn, s'.toks, s'.os⟩) (.of hk);refine F.alloc (Q := fun a s' => wpAny _ _ (storeName _ _ (.ref a)) _ _ s') rfl fun s'' T F eT bT TL lT nT S => ?_;have AA := AA.keep S.all;refine (F.rebase) _ fun b' F kb kn => ?_;have D := D.keeps kb;have eT := kn _ _ TL eT;have AA : ArcsAre b' (keyOf arcs) vs := AA.keepT fun a vs e => kn a _ (by simpa using F.tupL e) e;refine m_store F fun s F => ?_;obtain ⟨t0, t1, t2, t3, kk, e⟩ := D.dic;refine wpAny_execs_cons (wpAny_Return_some (wpAny_Tuple (args_cons (m_local F (by rfl) (args_cons (m_attr (m_local F (by rfl) (m_get F (at_final w) D.obj e (by rfl) rfl fun s F0 => args_nil ?_))))))));refine ⟨by rw [sizeLine_eq]; show 2 <= _; exact Nat.lt_succ_of_le (Nat.le_add_left _ _), F0.alloc (Q := fun a s' => Q (.ref a) s') rfl fun s2 R F eR bR RL lR nR S => ?_⟩;exact h s2 R F.done ⟨T, vs, eR, F.keep _ _ eT, AA.keep F.keep⟩ (F0.tot.none_of nR) lR
end
end Mine
end
section
open PySem PySem.W PySem.Calls PyProof.Rows
namespace Mine
section
variable {w : World} {A : Around} {E : Value -> Shared -> Prop} {s : Shared}
noncomputable def hashBool (c : Bool) : Int := if c then 1 else 0
theorem pyHash_bool {c : Bool} {Q : Int -> Shared -> Prop} (h : Q (hashBool c) { s with toks := s.toks + 1 }) : wpAny (model PP w) A (pyHash (.bool c)) Q E s := by
 have hT : s.TypeIs (.bool c) "bool" := rfl;unfold pyHash pyHashByItsType;refine wpAny_bind (wpAny_cRoomFor_byValue rfl ?_);refine wpAny_bind (wpAny_specialOf hT PySem.F.slot_bool_hash.lookup ?_);rw [if_neg (by rw [beq_builtin_none]; exact Bool.false_ne_true)];refine wpAny_bind (wpAny_specialOf hT PySem.F.slot_bool_hash.lookup ?_);rw [if_neg (by decide)];cases c with
 | true =>
  refine wpAny_bind (wpAny_callSpecialIfBoundUnlessNone?_slot hT PySem.F.slot_bool_hash (wpAny_call_entry PySem.F.slot_bool_hash hT PySem.entry_int_hash (show wpAny _ _ (do ret (← mkInt 1)) _ _ s from wpAny_ret_mkInt ?_) (by rfl)));show wpAny _ _ (pyHashByItsType.reduced 1) _ _ _;exact wpAny_pure h
 | false =>
  refine wpAny_bind (wpAny_callSpecialIfBoundUnlessNone?_slot hT PySem.F.slot_bool_hash (wpAny_call_entry PySem.F.slot_bool_hash hT PySem.entry_int_hash (show wpAny _ _ (do ret (← mkInt 0)) _ _ s from wpAny_ret_mkInt ?_) (by rfl)));show wpAny _ _ (pyHashByItsType.reduced 0) _ _ _;exact wpAny_pure h
theorem eqBool_bool {a b : Bool} {Q : Bool -> Shared -> Prop} (h : Q (decide (a = b)) s) : wpAny (model PP w) A (eqBool (.bool a) (.bool b)) Q E s := by
 have e : decide (a = b) = (a == b) := by cases a <;> cases b <;> rfl
 rw [e] at h;unfold eqBool;refine wpAny_holding ?_
 by_cases hab : (Value.bool a == Value.bool b) = true
 ·rw [if_pos hab];have e : a = b := by have := eq_of_beq hab; injection this
  subst e;exact wpAny_bind (wpAny_rule (wpAny_pure (by simpa using h)))
 ·rw [if_neg hab];exact wpAny_bind (PyProof.Rows.eq_bool (wpAny_truthy_bool h))
end
set_option genSizeOf false in
set_option genInjectivity false in
structure GKind (w : World) (K : Type) [DecidableEq K] where
 is : Heap -> K -> Value -> Prop
 lvl : Nat
 hash : K -> Int
 draws : K -> Nat
 inj : ∀ {h : Heap} {v : Value} {x y : K}, is h x v -> is h y v -> x = y
 keepT : ∀ {h h' : Heap} {k : K} {v : Value}, is h k v -> (∀ b vs, h.get? b = some (tupO vs) -> h'.get? b = some (tupO vs)) -> is h' k v
 pyHash : ∀ {A : Around} {E : Value -> Shared -> Prop} {s : Shared} {k : K} {v : Value} {Q : Int -> Shared -> Prop}, A.units + lvl < cLine -> is s.heap k v -> Q (hash k) { s with toks := s.toks + draws k } -> wpAny (model PP w) A (PySem.pyHash v) Q E s
 eqBool : ∀ {A : Around} {E : Value -> Shared -> Prop} {s : Shared} {x y : K} {u v : Value} {Q : Bool -> Shared -> Prop}, A.units + lvl < cLine -> is s.heap x u -> is s.heap y v -> Q (decide (x = y)) s -> wpAny (model PP w) A (PySem.eqBool u v) Q E s
 quiet : ∀ {A : Around} {E : Value -> Shared -> Prop} {s : Shared} {n : Nat} {k : K} {v : Value} {Q : Bool -> Shared -> Prop}, lvl <= n -> is s.heap k v -> Q true s -> wpAny (model PP w) A (eqIsQuiet n v) Q E s
noncomputable def strG (w : World) : GKind w Str where
 is := fun _ k v => ∃ t, v = .str k t
 lvl := 0
 hash := hashStr w
 draws := fun _ => 1
 inj := fun ⟨_, e⟩ ⟨_, e'⟩ => by rw [e] at e'; cases e'; rfl
 keepT := fun x _ => x
 pyHash := fun _ ⟨t, e⟩ h => by subst e; exact wpAny_pyHash_str h
 eqBool := fun _ ⟨t, e⟩ ⟨t', e'⟩ h => by subst e; subst e'; exact wpAny_eqBool_str h
 quiet := fun _ ⟨t, e⟩ h => by subst e; rw [eqIsQuiet_byValue _ rfl]; exact wpAny_pure h
noncomputable def intG (w : World) : GKind w Int where
 is := fun _ k v => ∃ t, v = .int k t
 lvl := 0
 hash := hashInt
 draws := fun _ => 1
 inj := fun ⟨_, e⟩ ⟨_, e'⟩ => by rw [e] at e'; cases e'; rfl
 keepT := fun x _ => x
 pyHash := fun _ ⟨t, e⟩ h => by subst e; exact wpAny_pyHash_int h
 eqBool := @fun A E s x y u v Q _ ⟨t, e⟩ ⟨t', e'⟩ h => by
  subst e; subst e'; refine wpAny_eqBool_int ?_;have e : (x == y) = decide (x = y) := by by_cases q : x = y <;> simp [q]
  rw [e]; exact h
 quiet := fun _ ⟨t, e⟩ h => by subst e; rw [eqIsQuiet_byValue _ rfl]; exact wpAny_pure h
noncomputable def boolG (w : World) : GKind w Bool where
 is := fun _ k v => v = .bool k
 lvl := 0
 hash := hashBool
 draws := fun _ => 1
 inj := fun e e' => by rw [e] at e'; cases e'; rfl
 keepT := fun x _ => x
 pyHash := fun _ e h => by subst e; exact pyHash_bool h
 eqBool := fun _ e e' h => by subst e; subst e'; exact eqBool_bool h
 quiet := fun _ e h => by subst e; rw [eqIsQuiet_byValue _ rfl]; exact wpAny_pure h
section
variable {w : World} {K : Type} [DecidableEq K] {K1 : Type} [DecidableEq K1] {K2 : Type} [DecidableEq K2]
inductive GItems (g : GKind w K) (h : Heap) : List K -> List Value -> Prop
 | nil : GItems g h [] []
 | cons {k : K} {v : Value} {ks : List K} {vs : List Value} : g.is h k v -> GItems g h ks vs -> GItems g h (k :: ks) (v :: vs)
theorem GItems.inj {g : GKind w K} {h : Heap} {x y : List K} {vs : List Value} (hx : GItems g h x vs) (hy : GItems g h y vs) : x = y := by
 induction hx generalizing y with
 | nil => cases hy; rfl
 | cons h1 _ ih => cases hy with | cons h2 t2 => rw [g.inj h1 h2, ih t2]
theorem GItems.keepT {g : GKind w K} {h h' : Heap} {x : List K} {vs : List Value} (hx : GItems g h x vs) (k : ∀ b vs, h.get? b = some (tupO vs) -> h'.get? b = some (tupO vs)) : GItems g h' x vs := by
 induction hx with
 | nil => exact .nil
 | cons h1 _ ih => exact .cons (g.keepT h1 k) ih
theorem GItems.length {g : GKind w K} {h : Heap} {x : List K} {vs : List Value} (hx : GItems g h x vs) : x.length = vs.length := by
 induction hx with
 | nil => rfl
 | cons _ _ ih => simp [ih]
variable {A : Around} {E : Value -> Shared -> Prop} {s : Shared}
inductive HItems (w : World) (A : Around) (s : Shared) : List Value -> List Int -> Nat -> Prop
 | nil : HItems w A s [] [] 0
 | cons {v : Value} {vs : List Value} {x : Int} {xs : List Int} {d n : Nat} : (∀ (E : Value -> Shared -> Prop) (Q : Int -> Shared -> Prop) tk, Q x { s with toks := tk + d } -> wpAny (model PP w) A (pyHash v) Q E { s with toks := tk }) ->
   HItems w A s vs xs n -> HItems w A s (v :: vs) (x :: xs) (d + n)
inductive EItems (w : World) (A : Around) (s : Shared) : List Value -> List Value -> Bool -> Prop
 | nil : EItems w A s [] [] true
 | left {v : Value} {vs : List Value} : EItems w A s (v :: vs) [] false
 | right {v : Value} {vs : List Value} : EItems w A s [] (v :: vs) false
 | same {u v : Value} {us vs : List Value} {b : Bool} : (∀ (E : Value -> Shared -> Prop) (Q : Bool -> Shared -> Prop), Q true s -> wpAny (model PP w) A (eqBool u v) Q E s) -> EItems w A s us vs b -> EItems w A s (u :: us) (v :: vs) b
 | differ {u v : Value} {us vs : List Value} : (∀ (E : Value -> Shared -> Prop) (Q : Bool -> Shared -> Prop), Q false s -> wpAny (model PP w) A (eqBool u v) Q E s) -> EItems w A s (u :: us) (v :: vs) false
theorem pyHash_tup {a : Addr} {vs : List Value} {hs : List Int} {n : Nat} {Q : Int -> Shared -> Prop} (hu : A.units < cLine) (ho : s.heap.get? a = some (tupO vs))
  (hi : HItems w A.in1 s vs hs n) (h : Q (reduceHash (Builtin.Tuple.tupleHashOf hs)) { s with toks := s.toks + (n + 1) }) :
  wpAny (model PP w) A (pyHash (.ref a)) Q E s := by
 have hT : s.TypeIs (.ref a) "tuple" := ⟨_, ho, rfl⟩;unfold pyHash pyHashByItsType;refine wpAny_bind (wpAny_cRoomFor_or (.inr hu) ?_);refine wpAny_bind (wpAny_specialOf hT F.slot_tuple_hash.lookup ?_);rw [if_neg (by rw [beq_builtin_none]; exact Bool.false_ne_true)];refine wpAny_bind (wpAny_specialOf hT F.slot_tuple_hash.lookup ?_);rw [if_neg (by decide)];refine wpAny_bind (wpAny_callSpecialIfBoundUnlessNone?_slot hT F.slot_tuple_hash (wpAny_call_entry F.slot_tuple_hash hT F.entry_tuple_hash ?_ (F.args_tuple_hash_1 _)));show wpAny _ _ (Builtin.Tuple.tupleItemsOf (.ref a) >>= _) _ _ s;refine wpAny_bind (wpAny_tupleItemsOf ho rfl ?_);refine wpAny_bind ?_;rw [← Array.forIn_toList];refine wpAny_forIn_list _
  (fun rest (b : Array Int) s' => ∃ left k m, b.toList ++ left = hs ∧ HItems w A.in1 s rest left m ∧ k + m = n ∧ s' = { s with toks := s.toks + k })
  _ ?_ ?_ _ _ ⟨hs, 0, n, rfl, hi, ar243, rfl⟩
 ·rintro x rest b s' ⟨left, k, m, hb, hl, hkm, rfl⟩
  cases hl with
  | @cons _ _ y ys d m' h1 hl' =>
   refine wpAny_bind (h1 _ _ (s.toks + k) ?_)
   first
    | exact wpAny_pure ⟨ys, k + d, m', by rw [← hb]; simp, hl', ((Nat.add_assoc _ _ _).trans hkm), by simp [Nat.add_assoc]⟩
    | exact wpAny_bind (wpAny_pure (wpAny_pure ⟨ys, k + d, m', by rw [← hb]; simp, hl', by lia, by simp [Nat.add_assoc]⟩))
 ·rintro b s' ⟨left, k, m, hb, hl, hkm, rfl⟩
  cases hl;rw [List.append_nil] at hb;show wpAny _ _ (retInt (Builtin.Tuple.tupleHashOf b.toList)) _ _ _;rw [hb];refine wpAny_ret_mkInt ?_;have ek : k = n := (hkm);subst ek;show wpAny _ _ (if (decide (-(2 : Int) ^ 63 <= Builtin.Tuple.tupleHashOf hs) && decide (Builtin.Tuple.tupleHashOf hs < 2 ^ 63)) = true then _ else _) Q E _;unfold reduceHash at h
  by_cases hr : (decide (-(2 : Int) ^ 63 <= Builtin.Tuple.tupleHashOf hs) && decide (Builtin.Tuple.tupleHashOf hs < 2 ^ 63)) = true
  ·rw [if_pos hr];rw [if_pos hr] at h;exact wpAny_pure (by simpa [Nat.add_assoc] using h)
  ·rw [if_neg hr];rw [if_neg hr] at h;exact wpAny_bind (wpAny_rule (wpAny_pure (by simpa [Nat.add_assoc] using h)))
theorem eq_tup_tree {a b : Addr} {us vs : List Value} {r : Bool} {P : Fin -> Shared -> Prop} (ha : s.heap.get? a = some (tupO us)) (hb : s.heap.get? b = some (tupO vs)) (hi : EItems w A s us vs r) (h : P (.done (.ret (.bool r))) s) :
  wpAny (model PP w) A (Builtin.«tuple.__eq__» ⟨[.ref a, .ref b], []⟩) P E s := by
 have hTb : s.TypeIs (.ref b) "tuple" := ⟨_, hb, rfl⟩;show wpAny _ _ (isInstance (.ref b) (.type "tuple") >>= _) _ _ s;refine wpAny_bind (wpAny_isInstance hTb isSubtype_tuple_tuple ?_);simp only [Bool.not_true, Bool.false_eq_true, if_false];refine wpAny_bind (wpAny_tupleItemsOf ha rfl ?_);refine wpAny_bind (wpAny_tupleItemsOf hb rfl ?_);refine wpAny_bind ?_;refine wpAny_forIn_list _
  (fun rest q s' => q.1 = none ∧ s' = s ∧ ∃ us' vs', rest = List.zip us' vs' ∧ EItems w A s us' vs' r ∧ (us'.length == vs'.length) = (us.length == vs.length))
  _ ?_ ?_ _ _ ⟨rfl, rfl, us, vs, by simp, hi, rfl⟩
 ·rintro ⟨u, v⟩ rest q s' ⟨hr, rfl, us', vs', hz, hi', hlen⟩
  cases hi' with
  | nil => simp at hz
  | left => simp at hz
  | right => simp at hz
  | same h1 h2 =>
   simp only [List.zip_cons_cons, List.cons.injEq, Prod.mk.injEq] at hz;obtain ⟨⟨rfl, rfl⟩, rfl⟩ := hz;refine wpAny_bind (h1 _ _ ?_);simp only [Bool.not_true, Bool.false_eq_true, if_false];exact wpAny_pure ⟨rfl, rfl, _, _, rfl, h2, by simpa using hlen⟩
  | differ h1 =>
   simp only [List.zip_cons_cons, List.cons.injEq, Prod.mk.injEq] at hz;obtain ⟨⟨rfl, rfl⟩, rfl⟩ := hz;refine wpAny_bind (h1 _ _ ?_);simp only [Bool.not_false, if_true];exact wpAny_bind (wpAny_pure (wpAny_pure (wpAny_pure h)))
 ·rintro ⟨r1, r2⟩ s' ⟨hr, rfl, us', vs', hz, hi', hlen⟩
  simp only at hr;subst hr;refine wpAny_pure ?_;have hfin : (us.toArray.size == vs.toArray.size) = r := by
   rw [List.size_toArray, List.size_toArray, ← hlen];cases hi' with
   | nil => rfl
   | left => rfl
   | right => rfl
   | same _ _ => simp at hz
   | differ _ => simp at hz
  show P (.done (.ret (.bool (us.toArray.size == vs.toArray.size)))) s';rw [hfin]; exact h
theorem eqBool_tup {a b : Addr} {us vs : List Value} {r : Bool} {Q : Bool -> Shared -> Prop} (hu : A.units < cLine) (ha : s.heap.get? a = some (tupO us)) (hb : s.heap.get? b = some (tupO vs)) (hi : EItems w A.in1 s us vs r)
  (hs : a = b -> r = true) (h : Q r s) : wpAny (model PP w) A (eqBool (.ref a) (.ref b)) Q E s := by
 have hTa : s.TypeIs (.ref a) "tuple" := ⟨_, ha, rfl⟩;have hTb : s.TypeIs (.ref b) "tuple" := ⟨_, hb, rfl⟩;unfold eqBool
 try with_reducible refine wpAny_holding ?_
 show wpAny _ _ (if (Value.ref a == Value.ref b) = true then _ else _) Q E s
 by_cases hab : (Value.ref a == Value.ref b) = true
 ·rw [if_pos hab];have e : a = b := by have := eq_of_beq hab; injection this
  rw [hs e] at h;exact wpAny_bind (wpAny_rule (wpAny_pure h))
 ·rw [if_neg hab];exact wpAny_bind (wpAny_richCompare_same_room (op := .Eq) hTa hTb F.slot_tuple_eq
   (wpAny_call_entry F.slot_tuple_eq hTa F.entry_tuple_eq (eq_tup_tree ha hb hi ⟨_, rfl, (fun e => nomatch e), wpAny_truthy_bool h⟩) (F.args_tuple_eq_2 _ _)) hu)
theorem quiet_tup {n : Nat} {a : Addr} {vs : List Value} {Q : Bool -> Shared -> Prop} (ho : s.heap.get? a = some (tupO vs)) (hi : ∀ v ∈ vs, ∀ (E : Value -> Shared -> Prop) (Q : Bool -> Shared -> Prop), Q true s -> wpAny (model PP w) A (eqIsQuiet n v) Q E s)
  (h : Q true s) : wpAny (model PP w) A (eqIsQuiet (n + 1) (.ref a)) Q E s := by
 have hT : s.TypeIs (.ref a) "tuple" := ⟨_, ho, rfl⟩;unfold eqIsQuiet;refine wpAny_bind (wpAny_specialOf hT F.slot_tuple_eq.lookup ?_);show wpAny _ _ (isInstance (.ref a) (.type "tuple") >>= _) _ _ s;refine wpAny_bind (wpAny_isInstance hT isSubtype_tuple_tuple ?_);simp only [Bool.not_true, Bool.false_eq_true, if_false];refine wpAny_bind (wpAny_seqItems ho rfl ?_);refine wpAny_bind ?_;show wpAny _ _ (forIn vs.toArray _ _) _ _ s;rw [← Array.forIn_toList];refine wpAny_forIn_list _ (fun rest r s' => r.1 = none ∧ s' = s ∧ ∀ v ∈ rest, v ∈ vs) _ ?_ ?_ _ _ ⟨rfl, rfl, fun v hv => by simpa using hv⟩
 ·rintro v rest r s' ⟨hr, rfl, hall⟩
  refine wpAny_bind (hi v (hall v List.mem_cons_self) _ _ ?_);simp only [Bool.not_true, Bool.false_eq_true, if_false];exact wpAny_pure ⟨rfl, rfl, fun u hu' => hall u (List.mem_cons_of_mem _ hu')⟩
 ·rintro ⟨r1, r2⟩ s' ⟨hr, rfl, _⟩
  simp only at hr;subst hr;exact wpAny_pure h
end
end Mine
end
section
open PySem PySem.W PySem.Calls PyProof.Rows
namespace Mine
section
variable {w : World} {K : Type} [DecidableEq K] {K1 : Type} [DecidableEq K1] {K2 : Type} [DecidableEq K2] {A : Around} {E : Value -> Shared -> Prop} {s : Shared}
theorem GItems.hash {g : GKind w K} (hA : A.units + g.lvl < cLine) {ks : List K} {vs : List Value} (x : GItems g s.heap ks vs) : HItems w A s vs (ks.map g.hash) ((ks.map g.draws).sum) := by
 induction x with
 | nil => exact .nil
 | cons h1 _ ih =>
  rw [List.map_cons, List.map_cons, List.sum_cons];exact .cons (fun E Q tk hQ => g.pyHash (s := { s with toks := tk }) hA h1 hQ) ih
theorem GItems.eq {g : GKind w K} (hA : A.units + g.lvl < cLine) {ks : List K} {vs : List Value} (x : GItems g s.heap ks vs) : ∀ {ls : List K} {us : List Value}, GItems g s.heap ls us -> EItems w A s vs us (decide (ks = ls)) := by
 induction x with
 | nil =>
  intro ls us y;cases y with
  | nil => exact .nil
  | cons _ _ => exact .right
 | @cons k v ks' vs' h1 h2 ih =>
  intro ls us y;cases y with
  | nil => exact .left
  | @cons l u ls' us' h3 h4 =>
   by_cases q : k = l
   ·subst q;have e : decide (k :: ks' = k :: ls') = decide (ks' = ls') := by simp
    rw [e];exact .same (fun E Q hQ => g.eqBool hA h1 h3 (by simpa using hQ)) (ih h4)
   ·have e : decide (k :: ks' = l :: ls') = false := by simp [q]
    rw [e];exact .differ (fun E Q hQ => g.eqBool hA h1 h3 (by simpa [q] using hQ))
inductive LsI (g : GKind w K) (h : Heap) (ks : List K) (v : Value) : Prop
 | mk (a : Addr) (vs : List Value) (e : v = .ref a) (ho : h.get? a = some (tupO vs)) (hi : GItems g h ks vs) : LsI g h ks v
noncomputable def listG (g : GKind w K) : GKind w (List K) where
 is := LsI g
 lvl := g.lvl + 1
 hash := fun ks => reduceHash (Builtin.Tuple.tupleHashOf (ks.map g.hash))
 draws := fun ks => (ks.map g.draws).sum + 1
 inj := fun hz1 hz2 => by
  obtain ⟨a, vs, e, ho, hi⟩ := hz1;obtain ⟨a', vs', e', ho', hi'⟩ := hz2;subst e; cases e'; rw [ho] at ho';have : vs = vs' := by
   have := congrArg Obj.data (Option.some.inj ho'); simpa using this
  subst this; exact hi.inj hi'
 keepT := fun hz1 k => by obtain ⟨a, vs, e, ho, hi⟩ := hz1; exact ⟨a, vs, e, k _ _ ho, hi.keepT k⟩
 pyHash := @fun A E s k v Q hA hz1 h => by
  obtain ⟨a, vs, e, ho, hi⟩ := hz1;subst e;exact pyHash_tup (ar11 hA) ho (hi.hash (A := A.in1) (by show A.units + 1 + _ < _; exact ar15 hA)) h
 eqBool := @fun A E s x y u v Q hA hz1 hz2 h => by
  obtain ⟨a, vs, e, ho, hi⟩ := hz1;obtain ⟨a', vs', e', ho', hi'⟩ := hz2;subst e; subst e';refine eqBool_tup (ar11 hA) ho ho' (hi.eq (A := A.in1) (by show A.units + 1 + _ < _; exact ar15 hA) hi') (fun q => ?_) h;subst q;rw [ho] at ho';have : vs = vs' := by
   have := congrArg Obj.data (Option.some.inj ho'); simpa using this
  subst this; exact decide_eq_true (hi.inj hi')
 quiet := @fun A E s n k v Q hn hz1 h => by
  obtain ⟨a, vs, e, ho, hi⟩ := hz1;subst e;obtain ⟨n, rfl⟩ : ∃ m, n = m + 1 := ⟨n - 1, (ar60 hn)⟩;have key : ∀ {ks : List K} {vs : List Value}, GItems g s.heap ks vs -> ∀ v ∈ vs, ∃ k, g.is s.heap k v := fun hi => by
   induction hi with
   | nil => intro v hv; cases hv
   | cons h1 _ ih =>
    intro v hv;rcases List.mem_cons.mp hv with rfl | hv
    ·exact ⟨_, h1⟩
    ·exact ih v hv
  refine quiet_tup ho (fun v hv E Q hQ => ?_) h;obtain ⟨k', h1⟩ := key hi v hv;exact g.quiet (ar62 hn) h1 hQ
inductive PrI (g1 : GKind w K1) (g2 : GKind w K2) (h : Heap) (k : K1 × K2) (v : Value) : Prop
 | mk (a : Addr) (u1 u2 : Value) (e : v = .ref a) (ho : h.get? a = some (tupO [u1, u2])) (h1 : g1.is h k.1 u1) (h2 : g2.is h k.2 u2) : PrI g1 g2 h k v
noncomputable def pairG (g1 : GKind w K1) (g2 : GKind w K2) : GKind w (K1 × K2) where
 is := PrI g1 g2
 lvl := max g1.lvl g2.lvl + 1
 hash := fun k => reduceHash (Builtin.Tuple.tupleHashOf [g1.hash k.1, g2.hash k.2])
 draws := fun k => (g1.draws k.1 + (g2.draws k.2 + 0)) + 1
 inj := fun hz1 hz2 => by
  obtain ⟨a, u1, u2, e, ho, h1, h2⟩ := hz1;obtain ⟨a', v1, v2, e', ho', h1', h2'⟩ := hz2;subst e; cases e'; rw [ho] at ho';have := congrArg Obj.data (Option.some.inj ho');simp at this;obtain ⟨rfl, rfl⟩ := this;exact Prod.ext (g1.inj h1 h1') (g2.inj h2 h2')
 keepT := fun hz1 k => by obtain ⟨a, u1, u2, e, ho, h1, h2⟩ := hz1; exact ⟨a, u1, u2, e, k _ _ ho, g1.keepT h1 k, g2.keepT h2 k⟩
 pyHash := @fun A E s k v Q hA hz1 h => by
  obtain ⟨a, u1, u2, e, ho, h1, h2⟩ := hz1;subst e;refine pyHash_tup (ar11 hA) ho (.cons (fun E Q tk hQ => g1.pyHash (s := { s with toks := tk }) ?_ h1 hQ) (.cons (fun E Q tk hQ => g2.pyHash (s := { s with toks := tk }) ?_ h2 hQ) .nil)) h
  ·show A.units + 1 + _ < _; have := Nat.le_max_left g1.lvl g2.lvl; exact ar14 hA this
  ·show A.units + 1 + _ < _; have := Nat.le_max_right g1.lvl g2.lvl; exact ar14 hA this
 eqBool := @fun A E s x y u v Q hA hz1 hz2 h => by
  obtain ⟨a, u1, u2, e, ho, h1, h2⟩ := hz1;obtain ⟨a', v1, v2, e', ho', h1', h2'⟩ := hz2;subst e; subst e';have l1 : A.in1.units + g1.lvl < cLine := by show A.units + 1 + _ < _; have := Nat.le_max_left g1.lvl g2.lvl; exact ar14 hA this
  have l2 : A.in1.units + g2.lvl < cLine := by show A.units + 1 + _ < _; have := Nat.le_max_right g1.lvl g2.lvl; exact ar14 hA this
  refine eqBool_tup (r := decide (x = y)) (ar11 hA) ho ho' ?_ (fun q => ?_) h
  ·obtain ⟨x1, x2⟩ := x;obtain ⟨y1, y2⟩ := y
   by_cases q : x1 = y1
   ·subst q;refine .same (fun E Q hQ => g1.eqBool l1 h1 h1' (by simpa using hQ)) ?_
    by_cases q : x2 = y2
    ·subst q;rw [decide_eq_true rfl];exact .same (fun E Q hQ => g2.eqBool l2 h2 h2' (by simpa using hQ)) .nil
    ·have e : decide ((x1, x2) = (x1, y2)) = false := by simp [q]
     rw [e];exact .differ (fun E Q hQ => g2.eqBool l2 h2 h2' (by simpa [q] using hQ))
   ·have e : decide ((x1, x2) = (y1, y2)) = false := by simp [q]
    rw [e];exact .differ (fun E Q hQ => g1.eqBool l1 h1 h1' (by simpa [q] using hQ))
  ·subst q;rw [ho] at ho';have := congrArg Obj.data (Option.some.inj ho');simp at this;obtain ⟨rfl, rfl⟩ := this;exact decide_eq_true (Prod.ext (g1.inj h1 h1') (g2.inj h2 h2'))
 quiet := @fun A E s n k v Q hn hz1 h => by
  obtain ⟨a, u1, u2, e, ho, h1, h2⟩ := hz1;subst e;have := Nat.le_max_left g1.lvl g2.lvl;have := Nat.le_max_right g1.lvl g2.lvl;obtain ⟨n, rfl⟩ : ∃ m, n = m + 1 := ⟨n - 1, (ar60 hn)⟩;refine quiet_tup ho (fun v hv => ?_) h;simp only [List.mem_cons, List.not_mem_nil, or_false] at hv;rcases hv with rfl | rfl
  ·intro E Q hQ; exact g1.quiet (ar40 (by assumption) hn) h1 hQ
  ·intro E Q hQ; exact g2.quiet (ar40 this hn) h2 hQ
noncomputable def GKind.heap (g : GKind w K) (h8 : g.lvl <= 8) : HeapKind PP w K where
 is := fun h k a => g.is h k (.ref a)
 hash := g.hash
 draws := g.draws
 room := fun A => A.units + g.lvl < cLine
 inj := fun x y => g.inj x y
 keeps := fun x ho hd hs => g.keepT x fun b vs e => (hs.2 b (fun q => by subst q; rw [ho] at e; cases e; cases hd)).trans e
 pyHash := fun hu hk h => g.pyHash hu hk h
 eqBool := fun hu hx hy h => g.eqBool hu hx hy h
 quiet := fun hk h => g.quiet h8 hk h
noncomputable def seenG (w : World) : GKind w (List (Str × Int) × Bool) := pairG (listG (pairG (strG w) (intG w))) (boolG w)
theorem IsNKey.is {h : Heap} {key : List (Str × Int) × Bool} {a : Addr} (x : IsNKey h key a) : (seenG w).is h key (.ref a) := by
 obtain ⟨t, vs, e1, e2, e3⟩ := x;refine ⟨a, _, _, rfl, e1, ⟨t, vs, rfl, e2, ?_⟩, rfl⟩;generalize key.1 = ks at e3;clear e1 e2
 induction e3 with
 | nil => exact .nil
 | cons e _ ih => exact .cons ⟨_, _, _, rfl, e, ⟨_, rfl⟩, ⟨_, rfl⟩⟩ ih
noncomputable def seenK (w : World) : HeapKind PP w (List (Str × Int) × Bool) := (seenG w).heap (by show 3 <= 8; exact Nat.lt_succ_of_le (Nat.le_add_left _ _))
end
end Mine
end
section
open PySem PySem.W PySem.Calls PyProof.Rows PySem.Builtin PySem.Builtin.ObjectAttr PySem.Builtin.Getset_descriptor
namespace Mine
section
variable {w : World} {mg mb : Str -> Option Value} {A : Around} {E : Value -> Shared -> Prop} {L : Addr} {sE s s' : Shared} {W : Addr -> Prop} {H : List (Addr × Obj)} {b : Heap} {m : Str -> Option Value} {env : Env}
theorem m_and {x y : PySem.Expr} {rest : List PySem.Expr} {pos : Pos} {Q : Value -> Shared -> Prop}
  (h : wpAny (model PP w) A (eval x env) (fun v s₁ => wpAny (model PP w) A (truthy v) (fun t s₂ => if t then wpAny (model PP w) A (eval (.BoolOp .And (y :: rest) pos) env) Q E s₂ else Q v s₂) E s₁) E s) :
  wpAny (model PP w) A (eval (.BoolOp .And (x :: y :: rest) pos) env) Q E s := by
 show wpAny _ A (do
  let v ← eval x env
  standAt pos
  let t ← holding [v] (truthy v)
  match BoolOp.And, t with
  | .And, false | .Or, true => pure v
  | _, _ => eval (.BoolOp .And (y :: rest) pos) env) Q E s
 refine wpAny_bind (wpAny_mono h (fun v s₁ h₁ => wpAny_bind (wpAny_standAt (wpAny_bind (wpAny_holding (wpAny_mono h₁ (fun t s₂ h₂ => ?_) ee))))) ee);cases t with
 | false => exact wpAny_pure h₂
 | true => exact h₂
theorem m_and1 {x : PySem.Expr} {pos : Pos} {Q : Value -> Shared -> Prop} (h : wpAny (model PP w) A (eval x env) Q E s) : wpAny (model PP w) A (eval (.BoolOp .And [x] pos) env) Q E s := h
theorem m_neg {a : Int} {t : Tok} {Q : Value -> Shared -> Prop} (F : Fx w mg mb L sE W H b s m) (h : ∀ s' t, Fx w mg mb L sE W H b s' m -> s'.heap = s.heap -> Q (.int (-a) t) s') : wpAny (model PP w) A (unaryOp .USub (.int a t)) Q E s := neg_int (h _ _ (F.tok _) rfl)
theorem m_sub {a c : Int} {t u : Tok} {Q : Value -> Shared -> Prop} (F : Fx w mg mb L sE W H b s m) (h : ∀ s' t, Fx w mg mb L sE W H b s' m -> s'.heap = s.heap -> Q (.int (a - c) t) s') : wpAny (model PP w) A (binaryOp .Sub (.int a t) (.int c u)) Q E s := sub_int (h _ _ (F.tok _) rfl)
theorem m_add {a c : Int} {t u : Tok} {Q : Value -> Shared -> Prop} (F : Fx w mg mb L sE W H b s m) (h : ∀ s' t, Fx w mg mb L sE W H b s' m -> s'.heap = s.heap -> Q (.int (a + c) t) s') : wpAny (model PP w) A (binaryOp .Add (.int a t) (.int c u)) Q E s := add_int (h _ _ (F.tok _) rfl)
theorem m_iadd {a c : Int} {t u : Tok} {Q : Value -> Shared -> Prop} (F : Fx w mg mb L sE W H b s m) (h : ∀ s' t, Fx w mg mb L sE W H b s' m -> s'.heap = s.heap -> Q (.int (a + c) t) s') : wpAny (model PP w) A (inplaceOp .Add (.int a t) (.int c u)) Q E s := iadd_int (h _ _ (F.tok _) rfl)
theorem gl_count_kind (w : World) : nsIn (KK w) mainGlobals "_count_kind" = some (some (.ref 362)) := by kernel_rfl
theorem gl_MAXSIZE (w : World) : ∃ t, nsIn (KK w) mainGlobals "_MAXSIZE" = some (some (.int 9223372036854775807 t)) := ⟨(match nsIn (KK w) mainGlobals "_MAXSIZE" with | some (some (.int _ t)) => t | _ => 0), by kernel_rfl⟩
theorem count_kind_spec {n : Int} {t : Tok} {Q : Value -> Shared -> Prop} {k : Nat} (g : G w mg mb s.heap) (hA : Rm A k) (h : ∀ s' t, Stp W0 s s' -> Q (.int 0 t) s') :
  wpAny (model PP w) A (call (.ref 362) [.int n t]) Q E s := by
 refine wpAny_call (m_call W0 [("x", .int n t)] g hA.room (by rfl) (by kernel_rfl) (.of_eq (by rfl)) (locs (by rfl)) (fun s₁ F => ?_) (by decide));refine wpAny_execs_cons (wpAny_Assign_Name (Call_ (m_bi F (ng_type w) boot_type (m_ct (args_cons (m_local F (by rfl) (args_nil (call_type_of (x := .int n t) (Tx := "int") rfl (by rfl) (m_store F fun s F => ?_)))))))));refine wpAny_execs_cons (wpAny_If (isTrue_or (wpAny_isTrue_Compare1 (m_local F (by rfl) (m_bi F (ng_int w) boot_int (wpAny_is_plain rfl (wpAny_truthy_bool ?_)))))));refine wpAny_execs_cons (wpAny_Return_some (m_cint F fun s t F _ => h _ _ F.done))
noncomputable abbrev ctrO (dx : Addr) (sl : Array (Option Value)) : Obj := { instObj 403 dx with slots := sl }
noncomputable def CtrAt (h : Heap) (x dx : Addr) (n : Int) : Prop := ∃ t t', h.get? x = some (ctrO dx #[some (.int n t'), some (.bool true), some (.int 1 t)]) ∧ h.get? dx = some emptyDict
theorem CtrAt.keeps {h h' : Heap} {x dx : Addr} {n : Int} (y : CtrAt h x dx n) (k : Kp h h') : CtrAt h' x dx n :=
 by obtain ⟨t, t', a, c⟩ := y; exact ⟨t, t', k _ _ a, k _ _ c⟩
structure SlotF (w : World) (n : Str) (p : Addr) (i : Nat) : Prop where
 pg : plainGet (KK w) 403 n = true
 cl : isClsIn (KK w) 403 = true
 fi : findIn (KK w) (.ref 403) n = some (some (.ref p))
 gt : specialIn (KK w) (.ref p) "__get__" = some (some (.builtin "member_descriptor.__get__"))
 tk : takesIn (KK w) (.ref p) = some true
 sl : slotIn (KK w) p 403 = some i
 sa : findIn (KK w) (.ref 403) "__setattr__" = some (some (.builtin "object.__setattr__"))
 po : plainOver (KK w) 403 = true
 tr : takerIn (KK w) 403 n = some (some (.ref p))
 ty : typeIn (KK w) (.ref p) = some (.type "member_descriptor")
theorem sl_cnt (w : World) : SlotF w "_cnt" 404 0 := ⟨by kernel_rfl, by kernel_rfl, by kernel_rfl, by kernel_rfl, by kernel_rfl, by kernel_rfl, by kernel_rfl, by kernel_rfl, by kernel_rfl, by kernel_rfl⟩
theorem sl_fast (w : World) : SlotF w "_fast" 405 1 := ⟨by kernel_rfl, by kernel_rfl, by kernel_rfl, by kernel_rfl, by kernel_rfl, by kernel_rfl, by kernel_rfl, by kernel_rfl, by kernel_rfl, by kernel_rfl⟩
theorem sl_step (w : World) : SlotF w "_step" 406 2 := ⟨by kernel_rfl, by kernel_rfl, by kernel_rfl, by kernel_rfl, by kernel_rfl, by kernel_rfl, by kernel_rfl, by kernel_rfl, by kernel_rfl, by kernel_rfl⟩
theorem slot_set' {x p i : Nat} {ox : Obj} {od : Option Obj} {v : Value} {R : Result -> Shared -> Prop} (X : (KK w).In s.heap) (I : InstAt s.heap x ox 403 od)
  (hp : slotIn (KK w) p 403 = some i) (hi : i < 1000)
  (h : ∀ h', Heap.SameBut x s.heap h' -> h' = s.heap.update x (fun o => { o with slots := (o.slots ++ Array.replicate (i + 1 - o.slots.size) none).setIfInBounds i (some v) }) -> R (.ok (.ret .none)) { s with heap := h' }) :
  codeAny (model PP w) A (.call (.builtin "member_descriptor.__set__") ⟨[.ref p, .ref x, v], []⟩) R s := by
 obtain ⟨n, tn, owner, behind, tb, d, sl, cd, ho, hc, hm, hb, rfl⟩ := slot_of X hp;obtain ⟨hh, g, dr, t, os⟩ := s;have L0 := I.type (M := model PP w);have L1 := looks_mroIn (M := model PP w) X hm;have L2 : Looks (model PP w) hh (Slots.slotNamesOf (.ref 403)) cd.slotNames := (looks_clsIn X hc).andThen .now;have hx := I.at_;dsimp only at ho hx L0 L1;have f0 := looks_field (M := model PP w) ho 0 (v := .str n tn) rfl;have f1 := looks_field (M := model PP w) ho 1 (v := owner) rfl;have f3 := looks_field (M := model PP w) ho 3 (v := .builtin "proto.slot#set") rfl;have f4 := looks_field (M := model PP w) ho 4 (v := .int behind tb) rfl;refine codeAny_call_builtin KF.slot_mset.plain KF.entry_mset (KF.slot_mset.check _ _ _ _ _ _ _ _ ⟨_, ho, rfl⟩ (KF.args_mset _ _ _) ?_);unfold Builtin.«member_descriptor.__set__» descrSet descrStoreThrough descrCheckInstance descrNameAndClass isInstance;have f5 : Looks (model PP w) hh (descrItself (.ref p)) [.ref p] := ((Looks.ld (part := none) ho).andThen .now).andThen (Looks.of_pure (by kernel_rfl))
 repeat lk
 refine ⟨Code.quiet_builtin _ (by decide +kernel), codeAny_builtin KF.entry_slotset ?_⟩;unfold Builtin.«proto.slot#set» Slots.target
 repeat lk
 rw [if_neg hb];refine wpAny_pure (wpAny_bind ?_);unfold setSlotAt;dsimp only;rw [if_neg (by rw [sizeLine_eq]; exact Nat.not_le.mpr (Nat.lt_of_lt_of_le hi (by decide)))];exact wpAny_updatePart hx (wpAny_pure (h _ (Heap.SameBut.update ..) rfl))
theorem m_slot {x p dx i : Nat} {n : Str} {sl : Array (Option Value)} {v : Value} {Q : Unit -> Shared -> Prop} (F : Fx w mg mb L sE W H b s m) (f : SlotF w n p i) (hi : i < 1000)
  (hx : b.get? x = some (ctrO dx sl)) (hd : b.get? dx = some emptyDict) (lo : 456 <= x) (hW : ∀ o, sE.heap.get? x = some o -> W x)
  (h : ∀ s' b', Fx w mg mb L sE W H b' s' m -> KpD x b b' -> b'.get? x = some (ctrO dx ((sl ++ Array.replicate (i + 1 - sl.size) none).setIfInBounds i (some v))) -> Q () s') :
  wpAny (model PP w) A (setAttr (.ref x) n v) Q E s := by
 have I : InstAt s.heap x (ctrO dx sl) 403 (some emptyDict) := ⟨F.keep _ _ hx, rfl, rfl, F.keep _ _ hd⟩;refine set_plain F.g.X I f.sa (osa_descr (s := { s with toks := s.toks + 1 }) KF.slot_mset F.g.X I f.po f.tr f.ty (slot_set' (s := { s with toks := s.toks + 1 }) F.g.X I f.sl hi fun h' hs he => ?_));have hx' : h'.get? x = some (ctrO dx ((sl ++ Array.replicate (i + 1 - sl.size) none).setIfInBounds i (some v))) := by
  rw [he]; exact Heap.get?_update_self _ (F.keep _ _ hx) rfl
 exact (F.one hs ⟨_, hx'⟩ lo (F.neH hx) hW) _ fun b' F' k1 k2 => h _ b' F' k1 (k2 _ _ (F.neH hx) hx')
theorem m_slotget {x p dx i : Nat} {n : Str} {sl : Array (Option Value)} {v : Value} {expr : Bool} {Q : Value -> Shared -> Prop} (F : Fx w mg mb L sE W H b s m) (f : SlotF w n p i)
  (hx : b.get? x = some (ctrO dx sl)) (hd : b.get? dx = some emptyDict) (hv : (sl[i]?).join = some v) (hh : handedIn v = true) (h : ∀ s', Fx w mg mb L sE W H b s' m -> Q v s') :
  wpAny (model PP w) A (getAttr (.ref x) n expr) Q E s := by
 have I : InstAt s.heap x (ctrO dx sl) 403 (some emptyDict) := ⟨F.keep _ _ hx, rfl, rfl, F.keep _ _ hd⟩;exact get_bind F.g.X I (plainGet_of f.pg).1 (findObj_data f.cl f.fi f.gt f.tk) (plainGet_of f.pg).2 (wpAny_call (slot_get (s := { s with toks := s.toks + 1 }) F.g.X I f.sl hv (handed_on hh (h _ (F.tok _)))))
theorem count_new_spec {s0 : Shared} {tn : Tok} {Q : Value -> Shared -> Prop} {k : Nat} (g : G w mg mb s0.heap) (hA : Rm A (k + 2))
  (h : ∀ s' x dx, Stp W0 s0 s' -> CtrAt s'.heap x dx 1 -> s0.heap.get? x = none -> s0.heap.get? dx = none -> 456 <= x -> Q (.ref x) s') : wpAny (model PP w) A (call (.ref 403) [.int 1 tn]) Q E s0 := by
 obtain ⟨h0, gn, dr, tk, os⟩ := s0;refine wpAny_call (make_core (init := .ref 378) (makes_of g.X (by kernel_rfl)) (looks_findIn g.X (by kernel_rfl)) (fun self => bind_fn g.X self (by kernel_rfl)) (.inl rfl) ?_);have S1 : Stp W0 ⟨h0, gn, dr, tk, os⟩ ⟨(h0.push emptyDict).push (instObj 403 h0.objs.size), gn, dr, tk, os⟩ := Stp.of fun _ _ e => Heap.get?_push_of_some _ (Heap.get?_push_of_some _ e);have hd0 : ((h0.push emptyDict).push (instObj 403 h0.objs.size)).get? h0.objs.size = some emptyDict := Heap.get?_push_of_some _ (Heap.get?_push_size _ rfl);have hx0 : ((h0.push emptyDict).push (instObj 403 h0.objs.size)).get? (h0.objs.size + 1) = some (ctrO h0.objs.size #[]) := by
  have := Heap.get?_push_size (h0.push emptyDict) (o := instObj 403 h0.objs.size) rfl
  rwa [Heap.size_push] at this
 have lo : 456 <= h0.objs.size + 1 := Nat.le_succ_of_le g.size;have nx0 : h0.get? (h0.objs.size + 1) = none := by
  cases q : h0.get? (h0.objs.size + 1) with
  | none => rfl
  | some o => exact absurd (Heap.lt_size q) (Nat.not_lt.mpr (Nat.le_succ _))
 have dne : h0.objs.size ≠ h0.objs.size + 1 := Ne.symm (Nat.succ_ne_self _);have hA' := hA.make (C := 403) (vals := [.int 1 tn]);have G1 := g.stp S1;refine m_call (· = h0.objs.size + 1) [("self", .ref (h0.objs.size + 1)), ("start", .int 1 tn), ("step", .int 1 752)] G1 hA'.room (by rfl) (by kernel_rfl) (.of_defaults rfl (G1.X _ _ (by rfl)) rfl (by rfl) (by rfl)) (locs (by rfl)) (fun s₁ F => ?_) (by decide);refine gQ1 fun Q0 hQ0 => ?_;have hB : ∀ env, Rm (Around.deeper _ env) k := fun env => hA'.deeper env;refine wpAny_execs_cons (wpAny_Assign_Name (Call_ (m_glob F (gl_count_kind w) (m_cw (by rfl) (args_cons (m_local F (by rfl) (args_nil ⟨F.g.X, ?_⟩)))))));refine count_kind_spec F.g (hB _) fun s t1 S => m_store (F.grow S) fun s F => ?_;refine wpAny_execs_cons (wpAny_Assign_Name (Call_ (m_glob F (gl_count_kind w) (m_cw (by rfl) (args_cons (m_local F (by rfl) (args_nil ⟨F.g.X, ?_⟩)))))));refine count_kind_spec F.g (hB _) fun s t2 S => m_store (F.grow S) fun s F => ?_;refine wpAny_execs_cons (wpAny_If (gQ1 fun Qv hQv => isTrue_or (wpAny_isTrue_Compare1 (m_local F (by rfl) (m_cint F fun s t F _ => eq_int (wpAny_truthy_bool ?_))))));refine isTrue_or (wpAny_isTrue_Compare1 (m_local F (by rfl) (m_cint F fun s t F _ => eq_int (wpAny_truthy_bool ?_))));refine isTrue_or_nil (hQv _ _ ?_);refine wpAny_execs_nil (wpAny_execs_cons (wpAny_Assign_Name (gQ1 fun Qw hQw => ?_)));refine m_and (wpAny_Compare1 (m_local F (by rfl) (m_cint F fun s t F _ => eq_int (wpAny_truthy_bool ?_))));refine m_and (wpAny_Compare1 (m_local F (by rfl) (m_cint F fun s t F _ => eq_int (wpAny_truthy_bool ?_))));refine m_and (wpAny_Compare1 (m_local F (by rfl) (m_cint F fun s t F _ => eq_int (wpAny_truthy_bool ?_))));obtain ⟨tM, eM⟩ := gl_MAXSIZE w;refine m_and (wpAny_Compare1 (wpAny_BinOp (wpAny_UnaryOp (m_glob F eM (m_neg F fun s t F _ => m_cint F fun s t F _ => m_sub F fun s t F _ => m_local F (by rfl) (le_int (wpAny_truthy_bool ?_)))))));refine m_and1 (wpAny_Compare1 (m_local F (by rfl) (m_glob F eM (le_int (hQw _ _ (m_store F fun s F => ?_))))));refine wpAny_execs_cons (wpAny_If (isTrue_plain (m_local F (by rfl) (wpAny_truthy_bool ?_)) (by rfl)));refine wpAny_execs_cons (wpAny_Assign_Name (wpAny_BinOp (m_local F (by rfl) (m_cint F fun s t F _ => m_add F fun s t F _ => m_store F fun s F => wpAny_execs_nil ?_))));refine wpAny_execs_cons (m_AssignAttr (m_local F (by rfl) (m_local F (by rfl) (m_slot F (sl_fast w) (by decide) hx0 hd0 lo (fun _ _ => rfl) fun s b1 F kb hx => ?_))));have hd := kb _ _ dne hd0;refine wpAny_execs_cons (m_AssignAttr (m_local F (by rfl) (m_local F (by rfl) (m_slot F (sl_cnt w) (by decide) hx hd lo (fun _ _ => rfl) fun s b1 F kb hx => ?_))));have hd := kb _ _ dne hd;refine wpAny_execs_cons (m_AssignAttr (m_local F (by rfl) (m_local F (by rfl) (m_slot F (sl_step w) (by decide) hx hd lo (fun _ _ => rfl) fun s b1 F kb hx => wpAny_execs_nil (hQ0 _ _ ⟨rfl, ?_⟩)))));have hd := kb _ _ dne hd;refine h s (h0.objs.size + 1) h0.objs.size (((S1.mono fun _ h => h.elim).trans F.done).drop fun u o hu e => by rw [hu] at e; exact absurd e (by rw [nx0]; simp)) ⟨_, _, F.keep _ _ hx, F.keep _ _ hd⟩ nx0 (Heap.get?_size_none _) lo
theorem next_spec {x dx : Addr} {n : Int} {Q : Value -> Shared -> Prop} {k : Nat} (g : G w mg mb s.heap) (hA : Rm A (k + 1)) (D : CtrAt s.heap x dx n) (lo : 456 <= x)
  (h : ∀ s' t, Stp (· = x) s s' -> CtrAt s'.heap x dx (n + 1) -> Q (.int n t) s') : wpAny (model PP w) A (call (.builtin "next") [.ref x]) Q E s := by
 have D0 := D;obtain ⟨t1, t2, hx, hd⟩ := D;have I : InstAt s.heap x _ 403 (some emptyDict) := ⟨hx, rfl, rfl, hd⟩;have hfi : findIn (KK w) (.ref 403) "__next__" = some (some (.ref 392)) := by kernel_rfl
 have L1 : Looks (model PP w) s.heap (specialOf (.ref x) "__next__") (some (.ref 392)) := I.type.andThen (looks_findIn g.X hfi);refine call_function_entry (by decide +kernel) (by decide +kernel) kdk_entry_next (kdk_args_next _) ?_;unfold Builtin.«next»;refine wpAny_bind (m := someArgs "next" 1 2 _) (wpAny_of_eq (a := [Value.ref x]) (by first | rfl | kernel_rfl!) ?_);dsimp only;refine wpAny_bind (L1.here ?_);refine wpAny_ite_split (fun hab => absurd hab (by decide)) (fun _ => ?_);have step : wpAny (model PP w) A.in1 (call (.ref 392) [.ref x]) (fun v s' => ∃ t, v = .int n t ∧ Stp (· = x) s s' ∧ CtrAt s'.heap x dx (n + 1)) E s := by
  refine wpAny_call (m_call (· = x) [("self", .ref x)] g (by have := hA.dp; show A.depth < _; exact ar11 this) (by rfl) (by kernel_rfl) (.of_eq (by rfl)) (locs (by rfl)) (fun s₁ F => ?_) (by decide));refine gQ1 fun Q0 hQ0 => ?_;refine wpAny_execs_cons (wpAny_Assign_Name (m_attr (m_local F (by rfl) (m_slotget F (sl_cnt w) hx hd (by rfl) (by rfl) fun s F => m_store F fun s F => ?_))));refine wpAny_execs_cons (m_AssignAttr (wpAny_BinOp (m_local F (by rfl) (m_attr (m_local F (by rfl) (m_slotget F (sl_step w) hx hd (by rfl) (by rfl) fun s F => m_add F fun s t F _ => m_local F (by rfl) (m_slot F (sl_cnt w) (by decide) hx hd lo (fun _ _ => rfl) fun s b1 F kb hx' => ?_)))))));have dne : dx ≠ x := fun q => by rw [q, hx] at hd; exact absurd (congrArg Obj.cls (Option.some.inj hd)) (by simp)
  refine wpAny_execs_cons (wpAny_Return_some (m_local F (by rfl) (hQ0 _ _ ⟨_, rfl, F.done, _, _, F.keep _ _ hx', F.keep _ _ (kb _ _ dne hd)⟩)))
 refine wpAny_bind (special_fn (name := "__next__") (args := []) g.X I hfi (by kernel_rfl) (wpAny_mono step (fun v s' ⟨t, e, S, C⟩ => ?_) ee));subst e;exact wpAny_pure ⟨_, rfl, h s' t S C⟩
end
end Mine
end
section
open PySem PySem.W PySem.Calls PyProof.Rows
namespace Mine
noncomputable abbrev fra (outer : List Env) : List Addr := outer.filterMap (·.frame)
structure Frs (A : Around) (outer : List Env) (h : Heap) : Prop where
 stack : A.frames = some outer
 ok : ∀ env ∈ outer, env.scope.kind ≠ .module ∧ ∃ L o, env.frame = some L ∧ h.get? L = some o ∧ (∃ es ep, o.data = .dict es ep) ∧ 456 <= L
theorem Frs.mem {A : Around} {outer : List Env} {h : Heap} (x : Frs A outer h) {a : Addr} (ha : a ∈ fra outer) : ∃ o, h.get? a = some o ∧ (∃ es ep, o.data = .dict es ep) ∧ 456 <= a := by
 obtain ⟨env, he, hf⟩ := List.mem_filterMap.mp ha;obtain ⟨_, L, o, hL, r⟩ := x.ok env he;rw [hL] at hf; cases hf; exact ⟨o, r⟩
theorem nfd {o : Obj} (h : ∃ es ep, o.data = .dict es ep) : ∀ vs, o.data ≠ .fields vs := fun vs e => by obtain ⟨_, _, h⟩ := h; rw [h] at e; cases e
theorem Frs.keep {A : Around} {outer : List Env} {h h' : Heap} (x : Frs A outer h) (k : ∀ a ∈ fra outer, ∀ o, h.get? a = some o -> ∃ sl, h'.get? a = some { o with slots := sl }) : Frs A outer h' :=
 ⟨x.stack, fun env he => by
  obtain ⟨hk, L, o, hL, e, hd, lo⟩ := x.ok env he;obtain ⟨sl, e'⟩ := k L (List.mem_filterMap.mpr ⟨env, he, hL⟩) o e;exact ⟨hk, L, _, hL, e', hd, lo⟩⟩
theorem Frs.stp {A : Around} {outer : List Env} {W : Addr -> Prop} {s s' : Shared} (x : Frs A outer s.heap) (S : Stp W s s') (hW : ∀ a ∈ fra outer, ¬ W a) : Frs A outer s'.heap :=
 x.keep fun a ha o e => ⟨o.slots, S.keep a o (.inr (hW a ha)) e⟩
theorem Frs.slots {A : Around} {outer : List Env} {S : List Addr} {h h' : Heap} (x : Frs A outer h) (k : Heap.SlotsOnly S h h') : Frs A outer h' := x.keep fun a _ o e => k.2.2 a o e
theorem funFrames {h base : Heap} : ∀ {l : List Env}, (∀ env ∈ l, env.scope.kind ≠ .module ∧ ∃ L o, env.frame = some L ∧ base.get? L = none ∧ h.get? L = some o ∧ (∀ vs, o.data ≠ .fields vs)) -> h.FunFrames base l
 | [], _ => trivial
 | env :: r, hl => by
  obtain ⟨a, L, o, b, c⟩ := hl env List.mem_cons_self;exact ⟨a, ⟨L, o, b, c⟩, funFrames fun e he => hl e (List.mem_cons_of_mem _ he)⟩
theorem slots_up {fr : List Addr} {g h : Heap} (u : ∀ a ∈ fr, ∀ o, g.get? a = some o -> ∃ sl, h.get? a = some { o with slots := sl }) :
  Heap.SlotsOnly fr g (ktsHeap h fr g) ∧ ∀ a ∈ fr, ∀ o, (ktsHeap h fr g).get? a = some o -> g.get? a ≠ none -> h.get? a = some o := by
 refine ⟨⟨ktsHeap_size .., fun a ha => ktsHeap_ne _ ha, fun a o e => ?_⟩, fun a ha o e hn => ?_⟩
 ·by_cases ha : a ∈ fr
  ·obtain ⟨sl, e'⟩ := u a ha o e;exact ⟨sl, ktsHeap_some _ ha e e'⟩
  ·exact ⟨o.slots, by rw [ktsHeap_ne _ ha]; exact e⟩
 ·cases q : g.get? a with
  | none => exact absurd q hn
  | some o' =>
   obtain ⟨sl, e'⟩ := u a ha o' q;rw [ktsHeap_some _ ha q e'] at e; cases e; exact e'
section
variable {w : World} {mg mb : Str -> Option Value} {A : Around} {E : Value -> Shared -> Prop} {L : Addr} {sE s s' : Shared} {W : Addr -> Prop} {H : List (Addr × Obj)} {b : Heap} {m : Str -> Option Value} {env : Env}
noncomputable def Shift (fr : List Addr) (sE sE' : Shared) : Prop := Heap.SlotsOnly fr sE.heap sE'.heap ∧ sE'.gens = sE.gens ∧ sE'.os = sE.os
theorem Shift.refl (fr : List Addr) (sE : Shared) : Shift fr sE sE := ⟨.refl .., rfl, rfl⟩
theorem Shift.trans {fr : List Addr} {a b c : Shared} (x : Shift fr a b) (y : Shift fr b c) : Shift fr a c := ⟨x.1.trans y.1, y.2.1.trans x.2.1, y.2.2.trans x.2.2⟩
theorem Shift.none {fr : List Addr} {a b : Shared} (x : Shift fr a b) {z : Addr} (e : a.heap.get? z = none) (hz : z ∉ fr) : b.heap.get? z = none := (x.1.2.1 z hz).trans e
theorem Shift.some {fr : List Addr} {a b : Shared} (x : Shift fr a b) {z : Addr} {o : Obj} (e : a.heap.get? z = some o) : ∃ o', b.heap.get? z = some o' := by obtain ⟨_, h⟩ := x.1.2.2 z o e; exact ⟨_, h⟩
noncomputable def Sft (w : World) (mg mb : Str -> Option Value) (L : Addr) (sE : Shared) (W : Addr -> Prop) (H : List (Addr × Obj)) (b : Heap) (fr : List Addr) (s : Shared) (m : Str -> Option Value) : Prop := ∀ C : Prop, (∀ (sE' : Shared) (sh : Shift fr sE sE') (F : Fx w mg mb L sE' W H b s m), C) -> C
theorem Fx.shift {fr : List Addr} (F : Fx w mg mb L sE W H b s m) (hb : NonF fr b) (live : ∀ a ∈ fr, (∃ o, sE.heap.get? a = some o) ∧ 456 <= a ∧ a ≠ L ∧ ¬ W a)
  (k : KpO (L :: fr) s.heap s'.heap) (u : ∀ a ∈ L :: fr, ∀ o, s.heap.get? a = some o -> ∃ sl, s'.heap.get? a = some { o with slots := sl }) (hg : s'.gens = s.gens) (ho : s'.os = s.os) :
  Sft w mg mb L sE W H b fr s' m := by
 have hfr : ∀ a ∈ fr, ∀ o, sE.heap.get? a = some o -> s.heap.get? a = some o := fun a ha o e => F.tot.keep a o (.inr fun h => h.elim (live a ha).2.2.1 (live a ha).2.2.2) e;obtain ⟨x1, x2⟩ := slots_up (fr := fr) (g := sE.heap) (h := s'.heap) fun a ha o e => u a (List.mem_cons_of_mem _ ha) o (hfr a ha o e);intro C kk;refine kk { sE with heap := ktsHeap s'.heap fr sE.heap } ⟨x1, rfl, rfl⟩ ?_;have hne : ∀ {a : Addr}, a < 456 -> a ∉ L :: fr := fun ha hm => by
  rcases List.mem_cons.mp hm with rfl | hm
  ·exact absurd ha (Nat.not_lt.mpr F.hL)
  ·exact absurd ha (Nat.not_lt.mpr (live _ hm).2.1)
 refine ⟨F.g.low fun a o ha e => k a o (hne ha) e, F.hL, ?_, ⟨fun c o e => ?_, fun c o hc e => ?_, hg.trans F.tot.gens, ho.trans F.tot.os⟩, fun a o e => ?_, F.noL, fun p hp => ?_⟩
 ·obtain ⟨o, es, ep, e, hd, r⟩ := F.ns;obtain ⟨sl, e'⟩ := u L List.mem_cons_self o e;exact ⟨_, es, ep, e', hd, r⟩
 ·have : ∃ o', sE.heap.get? c = some o' := by
   by_cases hc : c ∈ fr
   ·exact (live c hc).1
   ·rw [show (ktsHeap s'.heap fr sE.heap).get? c = _ from ktsHeap_ne _ hc] at e; exact ⟨o, e⟩
  obtain ⟨o', e'⟩ := this;obtain ⟨o2, e2⟩ := F.tot.live c o' e'
  by_cases hm : c ∈ L :: fr
  ·obtain ⟨sl, e3⟩ := u c hm o2 e2; exact ⟨_, e3⟩
  ·exact ⟨o2, k c o2 hm e2⟩
 ·by_cases hm : c ∈ fr
  ·exact x2 c hm o e (by obtain ⟨o', e'⟩ := (live c hm).1; rw [e']; simp)
  ·have e0 : sE.heap.get? c = some o := by rw [← e]; exact (ktsHeap_ne _ hm).symm
   refine k c o (fun hm' => ?_) (F.tot.keep c o hc e0);rcases List.mem_cons.mp hm' with rfl | hm'
   ·rcases hc with hc | hc
    ·exact absurd hc (Nat.not_lt.mpr F.hL)
    ·exact hc (.inl rfl)
   ·exact hm hm'
 ·refine k a o (fun hm => ?_) (F.keep a o e);rcases List.mem_cons.mp hm with rfl | hm
  ·rw [F.noL] at e; cases e
  ·rw [hb a hm] at e; cases e
 ·have h1 := F.hid p hp;have hn : p.1 ∉ fr := fun hm => by obtain ⟨o, e⟩ := (live _ hm).1; rw [h1.2.2.2.1] at e; cases e
  refine ⟨k _ _ (fun hm => (List.mem_cons.mp hm).elim h1.2.2.1 hn) h1.1, h1.2.1, h1.2.2.1, ?_, h1.2.2.2.2⟩
  show (ktsHeap s'.heap fr sE.heap).get? p.1 = _;rw [ktsHeap_ne _ hn]; exact h1.2.2.2.1
noncomputable def HdF (w : World) (mg mb : Str -> Option Value) (L : Addr) (sE : Shared) (W : Addr -> Prop) (H : List (Addr × Obj)) (b : Heap) (fr : List Addr) (s : Shared) (m : Str -> Option Value) : Prop := ∀ C : Prop, (∀ (F : Fx w mg mb L sE W H (hideAll b fr) s m) (hb : NonF fr (hideAll b fr)) (k : KpO fr b (hideAll b fr)), C) -> C
theorem Fx.hideF {fr : List Addr} (F : Fx w mg mb L sE W H b s m) : HdF w mg mb L sE W H b fr s m := by
 have low : Kp (hideAll b fr) b := fun a o e => of_hideAll _ e;have no : ∀ a, b.get? a = none -> (hideAll b fr).get? a = none := fun a e => by
  cases q : (hideAll b fr).get? a with
  | none => rfl
  | some o => rw [low a o q] at e; cases e
 intro C kk;exact kk ⟨F.g, F.hL, F.ns, F.tot, fun a o e => F.keep a o (low a o e), no _ F.noL, fun p hp => ⟨(F.hid p hp).1, no _ (F.hid p hp).2.1, (F.hid p hp).2.2⟩⟩ (fun a ha => hideAll_none _ ha) fun a o ha e => hide_get _ _ ha e
theorem m_catch {X : String} {x : Str} {env : Env} {outer : List Env} {e : Addr} {h' : Heap} {t : Nat} {np pos : Pos} {b₀ : Stmt} {suite : List Stmt} {rest : List ExceptHandler} {Q : Flow -> Shared -> Prop}
  (F : Fx w mg mb L sE W H b s m) (hb : NonF (fra outer) b) (R : Frs A (env :: outer) s.heap) (live : ∀ a ∈ fra outer, (∃ o, sE.heap.get? a = some o) ∧ 456 <= a ∧ a ≠ L ∧ ¬ W a)
  (hx : Heap.NewExc s.heap h' e X) (ng : nsIn (KK w) mainGlobals x = some none) (hv : bootBuiltins x = some (.type X))
  (hexc : isSubtype (.type X) (.type "BaseException") = pure true) (hnt : isSubtype (.type ((Manifest.find? X).elim "type" fun x => x.metatype)) (.type "tuple") = pure false) (hsub : isSubtype (.type X) (.type X) = pure true)
  (h : ∀ s' sE' E', Shift (fra outer) sE sE' -> Fx w mg mb L sE' W H b s' m -> wpAny (model PP w) (A.mark (some (.ref e))) (execs (b₀ :: suite) env) Q E' s')
  (hf : env.frame = some L := by rfl) (hn : x ≠ "__name__" := by decide) (hG : env.globals = mainGlobals := by rfl) (hB : env.builtins = builtinsNs := by rfl) (hk : env.scope.kind = .function := by rfl) (hkx : env.kindOf x = some .globalImplicit := by rfl) (hd : (x == ("__debug__" : Str)) = false := by decide) :
  wpAny (model PP w) A (noteFrame (.ref e) env) (fun _ s₂ => wpAny (model PP w) A (setFlight (.ref e) none) (fun _ s₃ => wpAny (model PP w) A (handleBy (.ref e) env (.ExceptHandler (some (.Name x np)) none (b₀ :: suite) pos :: rest)) Q E s₃) E s₂) E { s with heap := h', toks := t } := by
 obtain ⟨oe, t0, he, hc, hde⟩ := hx.there;have hLH : L :: fra outer = fra (env :: outer) := by simp [fra, hf]
 have hbase : ∀ a ∈ fra (env :: outer), (hideAll s.heap (L :: fra outer)).get? a = none := fun a ha => hideAll_none _ (by rw [hLH]; exact ha);have stays : (hideAll s.heap (L :: fra outer)).StaysIn h' := fun a o q => hx.keeps a o (of_hideAll _ q);have hne : (hideAll s.heap (L :: fra outer)).get? e = none := by
  cases q : (hideAll s.heap (L :: fra outer)).get? e with
  | none => rfl
  | some o => have := of_hideAll _ q; rw [hx.new] at this; cases this
 have fun0 : h'.FunFrames (hideAll s.heap (L :: fra outer)) (env :: outer) := funFrames fun en hen => by
  obtain ⟨hkk, L', o, hL', eL, hdL, _⟩ := R.ok en hen;exact ⟨hkk, L', o, hL', hbase _ (List.mem_filterMap.mpr ⟨en, hen, hL'⟩), hx.keeps _ _ eL, nfd hdL⟩
 unfold noteFrame;simp only [hf];refine wpAny_bind (wpAny_field (s := { s with heap := h', toks := t }) he hde rfl ?_);rw [if_neg (by simp)];refine wpAny_newEntryW (s := { s with heap := h', toks := t }) (base := hideAll s.heap (L :: fra outer)) (a0 := t0) R.stack fun0 hf he stays hne hde (by simp) (by simp) fun h1 hl => ?_;obtain ⟨l1, l2, l3, l4⟩ := hl;have ndL : ∀ a ∈ L :: fra outer, ∀ o, s.heap.get? a = some o -> ∀ vs, o.data ≠ .fields vs := fun a ha o eo => by
  rw [hLH] at ha;obtain ⟨o', e', hd', _⟩ := R.mem ha;rw [eo] at e'; cases e'; exact nfd hd'
 have K1 : KpO (L :: fra outer) s.heap h1 := fun a o ha eo => l1 a o (hide_get _ _ ha eo);have U1 : ∀ a ∈ L :: fra outer, ∀ o, s.heap.get? a = some o -> ∃ sl, h1.get? a = some { o with slots := sl } := fun a ha o eo => l4 a o (hx.keeps a o eo) (ndL a ha o eo);refine (F.shift (s' := { s with heap := h1, toks := t }) hb live K1 U1 rfl rfl) _ fun sE1 _ F1 => ?_;obtain ⟨ob, hob, hobc⟩ := l3.at.there;refine wpAny_handleBy_builtin (X := X) (T := X) (b := true) hexc hnt hsub (m_bi F1 ng hv ⟨rfl, ⟨ob, hob, hobc.trans hc⟩, ?_⟩ hn hG hB hk hkx hd);simp only [if_true];refine wpAny_setFlight_noneW (base := hideAll s.heap (L :: fra outer)) l1 l2 l3.at fun h2 z1 z2 z3 z4 => ?_;have K2 : KpO (L :: fra outer) s.heap h2 := fun a o ha eo => z1 a o (hide_get _ _ ha eo);have U2 : ∀ a ∈ L :: fra outer, ∀ o, s.heap.get? a = some o -> ∃ sl, h2.get? a = some { o with slots := sl } := fun a ha o eo => by
  obtain ⟨sl, e1⟩ := U1 a ha o eo;exact ⟨sl, z4 a _ e1 (ndL a ha o eo)⟩
 refine (F.shift (s' := { s with heap := h2, toks := t }) hb live K2 U2 rfl rfl) _ fun sE2 S2 F2 => ?_;exact h _ sE2 _ S2 F2
end
end Mine
end
section
open PySem PySem.W PySem.Calls PyProof.Rows
namespace Mine
section
variable {w : World} {mg mb : Str -> Option Value} {A : Around} {E : Value -> Shared -> Prop} {L : Addr} {sE s s' : Shared} {W : Addr -> Prop} {H : List (Addr × Obj)} {b : Heap} {m : Str -> Option Value} {env : Env}
variable {K : Type} [DecidableEq K] {knd : KeyKind PP w K}
noncomputable def LpI (w : World) (mg mb : Str -> Option Value) (L : Addr) (sE : Shared) (W : Addr -> Prop) (H : List (Addr × Obj)) (I d : Addr) (c ep : Nat) (J : Nat -> Heap -> (Str -> Option Value) -> Prop) (N : Nat) (s : Shared) : Prop := ∀ CC : Prop, (∀ (i : Nat) (b : Heap) (m : Str -> Option Value) (o : Obj) (ok ov : Value) (F : Fx w mg mb L sE W ((I, o) :: H) b s m) (eo : o = { cls := .type "dict_itemiterator", dict := none, data := .fields #[.none, .bool false, .ref d, .int i 0, .int c 0, .int ep 0, ok, ov], slots := #[] }) (hj : J i b m) (hin : i <= c) (e : N = c + 1 - i), CC) -> CC
theorem for_items {R : Result -> Shared -> Prop} {xk xv : Str} {pk pv pt : Pos} {x1} {body orelse : List Stmt} {v d : Addr} {kvs : List (K × Value)} {ep : Nat} (hh : A.handled = none)
  (J : Nat -> Heap -> (Str -> Option Value) -> Prop) (hS : ∀ i b m, J i b m -> b.DictAt knd d kvs ep) (F : Fx w mg mb L sE W H b s m) (hv : s.heap.IsItemsView v d) (j0 : J 0 b m)
  (step : ∀ i k val key s b m H', (∀ p ∈ H, p ∈ H') -> kvs[i]? = some (k, val) -> knd.is k key = true -> J i b m -> Fx w mg mb L sE W H' b s (upd (upd m xk key) xv val) ->
   wpAny (model PP w) A (execs body env) (fun f s' => match f with
    | .next | .cont => ∃ b' m', Fx w mg mb L sE W H' b' s' m' ∧ J (i + 1) b' m'
    | .brk => R (.ok .next) s'
    | .ret u => R (.ok (.ret u)) s') (notedBy (model PP w) A env fun e s' => R (.error e) s') s)
  (fin : ∀ s b m, J kvs.length b m -> Fx w mg mb L sE W H b s m -> wpAny (model PP w) A (execs orelse env) (fun f s' => R (.ok f) s') (notedBy (model PP w) A env fun e s' => R (.error e) s') s)
  (hL : env.locals = L := by rfl) (hk : env.scope.kind = .function := by rfl) (hlk : env.kindOf xk = some .local := by rfl) (hlv : env.kindOf xv = some .local := by rfl) :
  wpAny (model PP w) A (pyIter (.ref v)) (fun it s₂ => codeAny (model PP w) A (.forLoop (.Tuple [.Name xk pk, .Name xv pv] x1 pt) it body orelse env) R s₂) E s := by
 refine wpAny_pyIter_items (knd := knd) hv ((hS _ _ _ j0).keep F.keep) ?_;have hpI : ∀ p ∈ H, p.1 ≠ s.heap.objs.size := fun p hp e => absurd (Heap.lt_size (F.hid p hp).1) (by rw [e]; exact Nat.lt_irrefl _);generalize hI : s.heap.objs.size = I at hpI ⊢;refine codeAny_forLoop_any (LpI w mg mb L sE W H I d kvs.length ep J) ?_ (kvs.length + 1)
  (fun _ kk => kk 0 b m _ .none .none (by rw [← hI]; exact F.push rfl) rfl j0 (Nat.zero_le _) rfl)
 intro N s hLp;refine hLp _ fun i b m o ok ov F eq2 hj hin eq3 => ?_;subst eq2;subst eq3;have h1 := F.hid _ (List.mem_cons_self);have src := (hS _ _ _ hj).keep F.keep;cases hx : kvs[i]? with
 | none =>
  have hsz : i = kvs.length := Nat.le_antisymm hin (by simpa using hx);subst hsz;refine wpAny_pyNext_items_end hh h1.1 src hx fun h₁ he₁ => fin _ b m hj (F.over hpI (fun a o ha e => he₁ a o ha e) rfl rfl)
 | some kv =>
  obtain ⟨k, val⟩ := kv;have hlt : i < kvs.length := (List.getElem?_eq_some_iff.mp hx).1;have hiH : I < s.heap.objs.size := Heap.lt_size h1.1;refine wpAny_pyNext_items_item h1.1 src hx fun key h₁ hkey heo ht₁ hz₁ hk₁ => ?_;refine wpAny_letOwnedTupleGo_items heo fun h₂ he₂ hs₂ => ?_
  replace hs₂ : Heap.SameBut I h₁ h₂ := hs₂
  have ht₂ : h₂.IsTuple s.heap.objs.size #[key, val] := ⟨_, (hs₂.2 _ (Nat.ne_of_gt hiH)).trans ht₁, rfl, _, rfl⟩;have hz₂ : h₂.objs.size = s.heap.objs.size + 1 := hs₂.1.trans hz₁;refine wpAny_assign_Tuple hh ht₂ rfl rfl fun h₃ hx₃ => ?_
  replace hx₃ : Heap.ExtBut h₂.objs.size h₂ h₃ := hx₃
  have he₃ := hx₃ I _ (by rw [hz₂]; exact Nat.ne_of_lt (Nat.lt_succ_of_lt hiH)) he₂;have F' : Fx w mg mb L sE W ((I, _) :: H) b { s with heap := h₃ } m := F.turn hpI he₃ (fun a o ha e => hx₃ a o (by rw [hz₂]; exact Nat.ne_of_lt (Nat.lt_succ_of_lt (Heap.lt_size e))) ((hs₂.2 a ha).trans (hk₁ a o ha e))) rfl rfl;show wpAny _ _ (do holding [val] (assign (.Name xk pk) env key); do holding [] (assign (.Name xv pv) env val); pure ()) _ _ _;refine wpAny_bind (wpAny_holding (wpAny_assign_Name (m_store F' (fun s F => ?_) hL hk hlk)));refine wpAny_bind (wpAny_holding (wpAny_assign_Name (m_store F (fun s F => wpAny_pure ?_) hL hk hlv)));refine wpAny_mono (step i k val key s b m _ (fun p hp => List.mem_cons_of_mem _ hp) hx hkey hj F) (fun f s' hf => ?_) ee;cases f with
  | next => obtain ⟨b', m', F', hj'⟩ := hf; exact ⟨kvs.length + 1 - (i + 1), (ar17 hlt), fun _ kk => kk (i + 1) b' m' _ _ _ F' rfl hj' hlt rfl⟩
  | cont => obtain ⟨b', m', F', hj'⟩ := hf; exact ⟨kvs.length + 1 - (i + 1), (ar17 hlt), fun _ kk => kk (i + 1) b' m' _ _ _ F' rfl hj' hlt rfl⟩
  | brk => exact hf
  | ret u => exact hf
end
end Mine
end
section
open PySem PySem.W PySem.Calls PyProof.Rows
namespace Mine
structure PT where
 n : Int
 arcs : List (Nat × Int)
 fin : Bool
structure PL where
 n : Int
 pre : List (Nat × Int)
 fin : Bool
 lab : Nat
noncomputable abbrev RG := List ((List (Nat × Int) × Bool) × Int)
noncomputable def RG.id? (R : RG) (k : List (Nat × Int) × Bool) : Option Int := (R.find? fun x => x.1 = k).map (·.2)
noncomputable def reg (R : RG) (t : PT) : RG × Int := match R.id? (t.arcs, t.fin) with
 | some i => (R, i)
 | none => (((t.arcs, t.fin), t.n) :: R, t.n)
noncomputable def up (l : PL) (i : Int) : PT := ⟨l.n, l.pre ++ [(l.lab, i)], l.fin⟩
noncomputable def outc (d : Nat) : RG -> PT -> List PL -> RG × Option (PT × List PL)
 | R, t, [] => if 1 <= d then (R, some (t, [])) else ((reg R t).1, none)
 | R, t, l :: bl => if bl.length + 2 <= d then (R, some (t, l :: bl)) else outc d (reg R t).1 (up l (reg R t).2) bl
noncomputable def outS (d : Nat) (R : RG) : Option (PT × List PL) -> RG × Option (PT × List PL)
 | none => (R, none)
 | some (t, bl) => outc d R t bl
noncomputable def ssLen : Option (PT × List PL) -> Nat
 | none => 0
 | some (_, bl) => bl.length + 1
noncomputable def lab (c : Nat) : Str := ⟨#[c]⟩
noncomputable def enc (arcs : List (Nat × Int)) : List (Str × Int) := arcs.map fun x => (lab x.1, x.2)
theorem lab_inj {a b : Nat} (h : lab a = lab b) : a = b := by
 have := congrArg (fun x : Str => x.cps.toList) h
 simpa [lab] using this
theorem enc_inj : ∀ {a b : List (Nat × Int)}, enc a = enc b -> a = b
 | [], [], _ => rfl
 | [], _ :: _, h => by simp [enc] at h
 | _ :: _, [], h => by simp [enc] at h
 | x :: a, y :: b, h => by
  simp only [enc, List.map_cons, List.cons.injEq, Prod.mk.injEq] at h;have := enc_inj (a := a) (b := b) h.2;rw [this, Prod.ext (lab_inj h.1.1) h.1.2]
theorem enc_append (a b : List (Nat × Int)) : enc (a ++ b) = enc a ++ enc b := List.map_append
noncomputable def pyBelow : Int -> List PL -> List (Int × List (Nat × Int) × Bool)
 | _, [] => []
 | i, l :: bl => (l.n, l.pre ++ [(l.lab, i)], l.fin) :: pyBelow l.n bl
noncomputable def pyOf : Option (PT × List PL) -> List (Int × List (Nat × Int) × Bool)
 | none => []
 | some (t, bl) => (t.n, t.arcs, t.fin) :: pyBelow t.n bl
theorem pyBelow_len : ∀ (i : Int) (bl : List PL), (pyBelow i bl).length = bl.length
 | _, [] => rfl
 | i, l :: bl => by simp [pyBelow, pyBelow_len]
theorem pyOf_len (ss : Option (PT × List PL)) : (pyOf ss).length = ssLen ss := by
 cases ss with
 | none => rfl
 | some x => simp [pyOf, ssLen, pyBelow_len]
noncomputable def rowsOf (R : RG) : List (Int × List (Nat × Int)) := R.reverse.filterMap fun x => if x.1.1 = [] then none else some (x.2, x.1.1)
noncomputable def finOf (R : RG) (q : Int) : Bool := R.any fun x => x.2 = q && x.1.2
theorem rowsOf_cons (a : List (Nat × Int)) (f : Bool) (i : Int) (R : RG) : rowsOf (((a, f), i) :: R) = rowsOf R ++ (if a = [] then [] else [(i, a)]) := by
 unfold rowsOf;rw [List.reverse_cons, List.filterMap_append]
 congr 1
 by_cases h : a = [] <;> simp [h]
theorem finOf_cons (a : List (Nat × Int)) (f : Bool) (i : Int) (R : RG) (q : Int) : finOf (((a, f), i) :: R) q = (finOf R q || (f && decide (q = i))) := by
 unfold finOf;rw [List.any_cons];have e : decide (i = q) = decide (q = i) := by
  by_cases h : i = q
  ·subst h; rfl
  ·rw [decide_eq_false h, decide_eq_false (Ne.symm h)]
 cases f <;> simp [e, Bool.or_comm]
noncomputable def pStore (arcs : List (Str × Int)) (l : Str) (d : Int) : List (Str × Int) :=
 if arcs.any (fun x => x.1 = l) then arcs.map (fun x => if x.1 = l then (x.1, d) else x) else arcs ++ [(l, d)]
noncomputable def pAddT (rows : List (Int × List (Str × Int))) (q : Int) (l : Str) (d : Int) : List (Int × List (Str × Int)) :=
 if rows.any (fun x => x.1 = q) then rows.map (fun x => if x.1 = q then (x.1, pStore x.2 l d) else x) else rows ++ [(q, [(l, d)])]
noncomputable def DC.rows (c : DC) : List (Int × List (Str × Int)) := c.tra.map fun x => (x.1, keyOf x.2.2)
theorem keyOf_storedI (arcs : List (Str × Int × Tok)) (l : Str) (d : Int) (t : Tok) : keyOf (storedI arcs l d t) = pStore (keyOf arcs) l d := by
 unfold keyOf storedI pStore;rw [List.any_map];have e : ((fun x : Str × Int => decide (x.1 = l)) ∘ fun x : Str × Int × Tok => (x.1, x.2.1)) = fun x => decide (x.1 = l) := rfl;rw [e]
 split
 ·rw [List.map_map, List.map_map];refine List.map_congr_left fun x _ => ?_;simp only [Function.comp_apply]
  split <;> rfl
 ·rw [List.map_append]; rfl
theorem DC.look_none {c : DC} {q : Int} : c.look q = none ↔ c.rows.any (fun x => x.1 = q) = false := by
 unfold DC.look DC.rows;rw [List.any_map]
 induction c.tra with
 | nil => simp
 | cons x r ih =>
  simp only [List.find?_cons, List.any_cons, Function.comp_apply]
  by_cases h : x.1 = q
  ·simp [h]
  ·simp only [h, decide_false, Bool.false_or]; exact ih
theorem DC.rows_addT (c : DC) (q : Int) (l : Str) (d : Int) (t : Tok) (x : Addr) : (c.addT q l d t x).rows = pAddT c.rows q l d := by
 unfold DC.addT pAddT;cases h : c.look q with
 | none =>
  rw [DC.look_none.mp h];simp [DC.rows, keyOf]
 | some z =>
  have : c.rows.any (fun x => x.1 = q) = true := by
   cases hh : c.rows.any (fun x => x.1 = q) with
   | true => rfl
   | false => rw [DC.look_none.mpr hh] at h; cases h
  rw [if_pos this];show List.map _ (List.map _ c.tra) = List.map _ (List.map _ c.tra);rw [List.map_map, List.map_map];refine List.map_congr_left fun y _ => ?_;simp only [Function.comp_apply]
  split
  ·rw [keyOf_storedI]
  ·rfl
theorem DC.addT_rest (c : DC) (q : Int) (l : Str) (d : Int) (t : Tok) (x : Addr) : (c.addT q l d t x).x = c.x ∧ (c.addT q l d t x).fin = c.fin ∧ (c.addT q l d t x).nf = c.nf ∧ (c.addT q l d t x).out = c.out := by
 unfold DC.addT; cases c.look q <;> exact ⟨rfl, rfl, rfl, rfl⟩
theorem pStore_same {arcs : List (Str × Int)} {l : Str} {d : Int} (hn : (arcs.map (·.1)).Nodup) (h : (l, d) ∈ arcs) : pStore arcs l d = arcs := by
 unfold pStore;rw [if_pos (List.any_eq_true.mpr ⟨_, h, by simp⟩)]
 conv => rhs; rw [← List.map_id arcs]
 refine List.map_congr_left fun x hx => ?_
 by_cases e : x.1 = l
 ·rw [if_pos e];have : x = (l, d) := by
   have h1 := List.mem_iff_getElem?.mp hx;have h2 := List.mem_iff_getElem?.mp h;obtain ⟨i, hi⟩ := h1;obtain ⟨j, hj⟩ := h2;have : i = j := by
    refine (List.getElem?_inj (l := arcs.map (·.1)) ?_ hn).mp ?_
    ·rw [List.length_map]; exact (List.getElem?_eq_some_iff.mp hi).1
    ·rw [List.getElem?_map, List.getElem?_map, hi, hj]; simp [e]
   subst this;rw [hi] at hj; exact Option.some.inj hj
  rw [this]; rfl
 ·rw [if_neg e]; rfl
theorem pAddT_same {rows : List (Int × List (Str × Int))} {q : Int} {l : Str} {d : Int} {arcs : List (Str × Int)} (hk : (rows.map (·.1)).Nodup) (hq : (q, arcs) ∈ rows) (hn : (arcs.map (·.1)).Nodup) (h : (l, d) ∈ arcs) : pAddT rows q l d = rows := by
 unfold pAddT;rw [if_pos (List.any_eq_true.mpr ⟨_, hq, by simp⟩)]
 conv => rhs; rw [← List.map_id rows]
 refine List.map_congr_left fun x hx => ?_
 by_cases e : x.1 = q
 ·rw [if_pos e];have : x = (q, arcs) := by
   have h1 := List.mem_iff_getElem?.mp hx;have h2 := List.mem_iff_getElem?.mp hq;obtain ⟨i, hi⟩ := h1;obtain ⟨j, hj⟩ := h2;have : i = j := by
    refine (List.getElem?_inj (l := rows.map (·.1)) ?_ hk).mp ?_
    ·rw [List.length_map]; exact (List.getElem?_eq_some_iff.mp hi).1
    ·rw [List.getElem?_map, List.getElem?_map, hi, hj]; simp [e]
   subst this;rw [hi] at hj; exact Option.some.inj hj
  rw [this]
  show (q, pStore arcs l d) = (q, arcs);rw [pStore_same hn h]
 ·rw [if_neg e]; rfl
theorem pAddT_new {rows : List (Int × List (Str × Int))} {q : Int} {l : Str} {d : Int} (hq : ∀ x ∈ rows, x.1 ≠ q) : pAddT rows q l d = rows ++ [(q, [(l, d)])] := by
 unfold pAddT;rw [if_neg];intro h;obtain ⟨x, hx, e⟩ := List.any_eq_true.mp h;exact hq x hx (by simpa using e)
theorem pAddT_more {rows : List (Int × List (Str × Int))} {q : Int} {l : Str} {d : Int} {arcs : List (Str × Int)} (hq : ∀ x ∈ rows, x.1 ≠ q) (hl : ∀ x ∈ arcs, x.1 ≠ l) : pAddT (rows ++ [(q, arcs)]) q l d = rows ++ [(q, arcs ++ [(l, d)])] := by
 unfold pAddT;rw [if_pos (by simp), List.map_append]
 congr 1
 ·conv => rhs; rw [← List.map_id rows]
  exact List.map_congr_left fun x hx => by rw [if_neg (hq x hx)]; rfl
 ·simp only [List.map_cons, List.map_nil, if_true];have : pStore arcs l d = arcs ++ [(l, d)] := by
   unfold pStore;rw [if_neg];intro h;obtain ⟨x, hx, e⟩ := List.any_eq_true.mp h;exact hl x hx (by simpa using e)
  rw [this]
end Mine
end
section
open PySem PySem.W PySem.Calls PyProof.Rows
namespace Mine
noncomputable abbrev listO (vs : List Value) (k : Nat) : Obj := { cls := .type "list", data := .seq vs.toArray k }
section
variable {w : World} {mg mb : Str -> Option Value} {A : Around} {E : Value -> Shared -> Prop} {L : Addr} {sE s s' : Shared} {W : Addr -> Prop} {H : List (Addr × Obj)} {b : Heap} {m : Str -> Option Value} {env : Env}
theorem gm_list {N : Addr} {vs : List Value} {k : Nat} {name : Str} {id : String} {pl : Sem Bool} {Q : Value × List Value -> Shared -> Prop} (e : s.heap.get? N = some (listO vs k)) (slot : Slot "list" name id) (hty : typeOf (.builtin id) = pure (.type "method_descriptor"))
  (h : Q (.builtin id, [.ref N]) s) : wpAny (model PP w) A (getMethod (.ref N) name pl) Q E s :=
 getMethod_builtin ⟨_, e, rfl⟩ PySem.F.plainAttrs_list slot hty (fun a q => by cases q; exact ⟨_, e, rfl⟩) h
theorem upd_list {h : Heap} {N : Addr} {vs vs' : List Value} {k : Nat} {f : Array Value -> Array Value} (e : h.get? N = some (listO vs k)) (he : f vs.toArray = vs'.toArray) (hs : vs'.length ≠ vs.length) :
  (h.update N (Obj.mapSeq f)).get? N = some (listO vs' (k + 1)) := by
 rw [get?_update_seq e f, he];simp [hs]
theorem m_pop {N : Addr} {p : List Value} {y : Value} {k : Nat} {Q : Value -> Shared -> Prop} (F : Fx w mg mb L sE W H b s m) (e : b.get? N = some (listO (p ++ [y]) k)) (lo : 456 <= N) (hW : ∀ o, sE.heap.get? N = some o -> W N) (hz : p.length + 1 <= sizeLine)
  (h : ∀ s' b', Fx w mg mb L sE W H b' s' m -> KpD N b b' -> b'.get? N = some (listO p (k + 1)) -> Q y s') :
  wpAny (model PP w) A (call (.builtin "list.pop") [.ref N]) Q E s := by
 have es := F.keep _ _ e;have hsz : (p ++ [y]).toArray.size - 1 = p.length := by rw [List.size_toArray, List.length_append]; rfl
 have hy : (p ++ [y]).toArray[(p ++ [y]).toArray.size - 1]? = some y := by rw [hsz]; simp
 refine call_meets PySem.F.slot_list_pop ⟨_, es, rfl⟩ PySem.F.entry_list_pop (PySem.F.args_list_pop_1 _) (PySem.MeetsSeq.list_pop_last N _ k y hy (by rw [List.size_toArray, List.length_append]; exact hz)) ⟨es, ?_⟩;have e2 := upd_list (f := fun a => a.eraseIdxIfInBounds ((p ++ [y]).toArray.size - 1)) (vs' := p) es (by rw [hsz, kl_erase, List.append_nil]) (by simp);refine (F.one (Heap.SameBut.update s.heap N _) ⟨_, e2⟩ lo (F.neH e) hW (t := s.toks) (d := s.drawn)) _ fun b' F' k1 k2 => ?_;exact h _ b' F' k1 (k2 _ _ (F.neH e) e2)
theorem m_append {N : Addr} {p : List Value} {y : Value} {k : Nat} {Q : Value -> Shared -> Prop} (F : Fx w mg mb L sE W H b s m) (e : b.get? N = some (listO p k)) (lo : 456 <= N) (hW : ∀ o, sE.heap.get? N = some o -> W N) (hz : p.length <= sizeLine)
  (h : ∀ s' b', Fx w mg mb L sE W H b' s' m -> KpD N b b' -> b'.get? N = some (listO (p ++ [y]) (k + 1)) -> Q .none s') :
  wpAny (model PP w) A (call (.builtin "list.append") [.ref N, y]) Q E s := by
 have es := F.keep _ _ e;refine wpAny_call_entry (name := "append") PySem.F.slot_list_append ⟨_, es, rfl⟩ PySem.entry_list_append ?_ (PySem.args_list_append _ _);unfold Builtin.«list.append»;refine wpAny_bind (m := PySem.selfAndOne "list.append" _) (wpAny_pure (a := (Value.ref N, y)) ?_);have e2 := upd_list (f := fun a => a.push y) (vs' := p ++ [y]) es (by simp) (by simp);refine wpAny_bind (listUpdate_at es rfl ?_ (by rw [List.size_toArray]; exact hz) (by rw [Array.size_push, List.size_toArray]; exact ar16 hz));refine (F.one (Heap.SameBut.update s.heap N _) ⟨_, e2⟩ lo (F.neH e) hW (t := s.toks) (d := s.drawn)) _ fun b' F' k1 k2 => ?_;exact wpAny_pure ⟨_, rfl, h _ b' F' k1 (k2 _ _ (F.neH e) e2)⟩
theorem m_len {N : Addr} {items : Array Value} {Q : Value -> Shared -> Prop} (F : Fx w mg mb L sE W H b s m) (hl : s.heap.IsList N items) (hz : items.size <= sizeLine)
  (h : ∀ s' t, Fx w mg mb L sE W H b s' m -> s'.heap = s.heap -> Q (.int items.size t) s') : wpAny (model PP w) A (call (.builtin "len") [.ref N]) Q E s :=
 call_len_list hl (by rw [sizeLine_eq] at hz; lia) (by first | exact h _ _ (F.tok _) rfl | exact fun t => h _ _ (F.tok _) rfl)
end
structure NR where
 p : NA
 n : Int
 arcs : List (Str × Int × Tok)
 fin : Bool
noncomputable abbrev SK := List (Str × Int) × Bool
noncomputable def DC.addrs (c : DC) : List Addr := [c.x.m, c.x.d, c.x.T, c.x.Df, c.x.Fs, c.x.Ol] ++ c.tra.map (·.2.1)
noncomputable def NR.adr (r : NR) : List Addr := [r.p.x, r.p.d, r.p.a]
noncomputable def ownA (c : DC) (N S : Addr) (ns : List NR) : List Addr := [N, S] ++ (c.addrs ++ ns.flatMap NR.adr)
structure BAt (w : World) (h : Heap) (c : DC) (N S : Addr) (ns : List NR) (xs : List (SK × Addr × Value)) (rows : List (Int × List (Str × Int))) (R : RG) (ss : Option (PT × List PL)) : Prop where
 D : DFAAt w h c
 stk : ∃ k, h.get? N = some (listO (ns.reverse.map fun r => Value.ref r.p.x) k)
 nodes : ∀ r ∈ ns, NodeAt w h r.p r.n r.arcs r.fin ∧ 456 <= r.p.d
 seen : h.DictOfH (seenK w) S xs
 py : ns.map (fun r => (r.n, keyOf r.arcs, r.fin)) = (pyOf ss).map (fun x => (x.1, enc x.2.1, x.2.2))
 rows : c.rows = rows
 fin : c.fin = finOf R
 nf : c.nf <= R.length
 out : c.out = []
 len : xs.length = R.length
 hit : ∀ k i, R.id? k = some i -> ∃ a t, atKey xs (enc k.1, k.2) = some (a, .int i t)
 miss : ∀ k, R.id? k = none -> atKey xs (enc k.1, k.2) = none
 own : (ownA c N S ns).Nodup
 loN : 456 <= N
 loS : 456 <= S
noncomputable def encR (r : List (Int × List (Nat × Int))) : List (Int × List (Str × Int)) := r.map fun x => (x.1, enc x.2)
theorem DFAAt.other {w : World} {h h' : Heap} {c : DC} (D : DFAAt w h c) (ho : c.out = []) (k : ∀ a ∈ c.addrs, ∀ o, h.get? a = some o -> h'.get? a = some o) : DFAAt w h' c := by
 have mem : ∀ {a}, a ∈ [c.x.m, c.x.d, c.x.T, c.x.Df, c.x.Fs, c.x.Ol] -> a ∈ c.addrs := fun h => List.mem_append_left _ h;have kd : ∀ {K : Type} [DecidableEq K] {knd : KeyKind PP w K} {a : Addr} {kvs : List (K × Value)}, a ∈ c.addrs -> h.DictOf knd a kvs -> h'.DictOf knd a kvs := fun ha x =>
  movD x fun o e => k _ ha _ e
 obtain ⟨a, t0, t1, t2, t3, t4, t5, n, e⟩ := D.obj;refine ⟨⟨k _ (mem (by simp)) _ a, t0, t1, t2, t3, t4, t5, n, k _ (mem (by simp)) _ e⟩, kd (mem (by simp)) D.T, fun x hx => ⟨kd (List.mem_append_right _ (List.mem_map.mpr ⟨x, hx, rfl⟩)) (D.rows x hx).1, (D.rows x hx).2⟩, kd (mem (by simp)) D.Df, ?_, kd (mem (by simp)) D.Ol, fun x hx => ?_, D.loT, D.loDf, D.loOl, D.loFs, D.nd⟩
 ·exact movT D.Fs fun o e _ => k _ (mem (by simp)) _ e
 ·rw [ho] at hx; cases hx
theorem NodeAt.other {w : World} {h h' : Heap} {r : NR} (D : NodeAt w h r.p r.n r.arcs r.fin) (k : ∀ a ∈ r.adr, ∀ o, h.get? a = some o -> h'.get? a = some o) : NodeAt w h' r.p r.n r.arcs r.fin := by
 obtain ⟨t0, t1, t2, t3, n, e⟩ := D.dic;exact ⟨k _ (by simp [NR.adr]) _ D.obj, ⟨t0, t1, t2, t3, n, k _ (by simp [NR.adr]) _ e⟩, movD D.arc fun o e2 => k _ (by simp [NR.adr]) _ e2, D.lo⟩
theorem dobH {w : World} {h : Heap} {S : Addr} {K : Type} [DecidableEq K] {knd : HeapKind PP w K} {xs : List (K × Addr × Value)} (x : h.DictOfH knd S xs) : DOb h S := by
 intro C kk; obtain ⟨o, _, _, e, q, _⟩ := x; exact kk o e q
theorem DictOfH_other {w : World} {h h' : Heap} {S : Addr} {xs : List (SK × Addr × Value)} (x : h.DictOfH (seenK w) S xs) (k : ∀ o, h.get? S = some o -> h'.get? S = some o) (kt : ∀ b vs, h.get? b = some (tupO vs) -> h'.get? b = some (tupO vs)) : h'.DictOfH (seenK w) S xs := by
 obtain ⟨o, es, ep, e, a, b, c, d, f⟩ := x;exact ⟨o, es, ep, k _ e, a, b, c, fun y hy => (seenG w).keepT (d y hy) kt, f⟩
end Mine
end
section
open PySem PySem.W PySem.Calls PyProof.Rows
namespace Mine
section
variable {w : World} {h h' : Heap} {c : DC} {N S : Addr} {ns : List NR} {xs : List (SK × Addr × Value)} {rows : List (Int × List (Str × Int))} {R : RG} {ss : Option (PT × List PL)}
noncomputable def There (h : Heap) (a : Addr) : Prop := ∃ o, h.get? a = some o ∧ o.cls ≠ .type "tuple"
theorem There.ex {h : Heap} {a : Addr} (x : There h a) : ∃ o, h.get? a = some o := by obtain ⟨o, e, _⟩ := x; exact ⟨o, e⟩
theorem There.neT {h : Heap} {a b : Addr} {vs : List Value} (x : There h a) (e : h.get? b = some (tupO vs)) : b ≠ a := fun q => by obtain ⟨o, e', hc⟩ := x; rw [q, e'] at e; cases e; exact hc rfl
theorem There.keep {h h' : Heap} {a : Addr} (x : There h a) (k : ∀ o, h.get? a = some o -> h'.get? a = some o) : There h' a := by obtain ⟨o, e, q⟩ := x; exact ⟨o, k o e, q⟩
theorem DFAAt.there (D : DFAAt w h c) : ∀ a ∈ c.addrs, There h a := by
 intro a ha;have kd : ∀ {K : Type} [DecidableEq K] {knd : KeyKind PP w K} {a : Addr} {kvs : List (K × Value)}, h.DictOf knd a kvs -> There h a := fun x =>
  (by obtain ⟨o, es, ep, e, q, _⟩ := x; exact ⟨o, e, by rw [q.1]; decide⟩)
 obtain ⟨o1, t0, t1, t2, t3, t4, t5, n, e⟩ := D.obj;rcases List.mem_append.mp ha with ha | ha
 ·simp only [List.mem_cons, List.not_mem_nil, or_false] at ha;rcases ha with rfl | rfl | rfl | rfl | rfl | rfl
  ·exact ⟨_, o1, by simp⟩
  ·exact ⟨_, e, by simp⟩
  ·exact kd D.T
  ·exact kd D.Df
  ·refine (sob D.Fs) _ fun o e q => ?_; exact ⟨o, e, by rw [q.1]; decide⟩
  ·exact kd D.Ol
 ·obtain ⟨x, hx, rfl⟩ := List.mem_map.mp ha;exact kd (D.rows x hx).1
theorem NodeAt.there {r : NR} (D : NodeAt w h r.p r.n r.arcs r.fin) : ∀ a ∈ r.adr, There h a := by
 intro a ha;obtain ⟨t0, t1, t2, t3, n, e⟩ := D.dic;refine (dob D.arc) _ fun o e2 q => ?_;simp only [NR.adr, List.mem_cons, List.not_mem_nil, or_false] at ha;rcases ha with rfl | rfl | rfl
 ·exact ⟨_, D.obj, by simp⟩
 ·exact ⟨_, e, by simp⟩
 ·exact ⟨o, e2, by rw [q.1]; decide⟩
theorem BAt.there (B : BAt w h c N S ns xs rows R ss) : ∀ a ∈ ownA c N S ns, There h a := by
 intro a ha;unfold ownA at ha;rcases List.mem_append.mp ha with ha | ha
 ·simp only [List.mem_cons, List.not_mem_nil, or_false] at ha;rcases ha with rfl | rfl
  ·obtain ⟨k, e⟩ := B.stk; exact ⟨_, e, by simp⟩
  ·obtain ⟨o, es, ep, e, q, _⟩ := B.seen; exact ⟨o, e, by rw [q.1]; decide⟩
 ·rcases List.mem_append.mp ha with ha | ha
  ·exact B.D.there a ha
  ·obtain ⟨r, hr, ha⟩ := List.mem_flatMap.mp ha;exact (B.nodes r hr).1.there a ha
theorem own_nN (nd : (ownA c N S ns).Nodup) {a : Addr} (ha : a ∈ [S] ++ (c.addrs ++ ns.flatMap NR.adr)) : a ≠ N := fun q => by
 rw [q] at ha; unfold ownA at nd; exact (List.nodup_cons.mp nd).1 (by simpa using ha)
theorem own_nS (nd : (ownA c N S ns).Nodup) {a : Addr} (ha : a ∈ [N] ++ (c.addrs ++ ns.flatMap NR.adr)) : a ≠ S := fun q => by
 have e : ownA c N S ns = N :: S :: (c.addrs ++ ns.flatMap NR.adr) := rfl;rw [e] at nd; rw [q] at ha;rcases List.mem_append.mp ha with ha | ha
 ·rw [List.mem_singleton] at ha; exact (List.nodup_cons.mp nd).1 (by simp [ha])
 ·exact (List.nodup_cons.mp (List.nodup_cons.mp nd).2).1 ha
theorem mem_ownN : N ∈ ownA c N S ns := by simp [ownA]
theorem mem_ownS : S ∈ ownA c N S ns := by simp [ownA]
theorem mem_ownC {a : Addr} (ha : a ∈ c.addrs) : a ∈ ownA c N S ns := List.mem_append_right _ (List.mem_append_left _ ha)
theorem mem_ownR {a : Addr} {r : NR} (hr : r ∈ ns) (ha : a ∈ r.adr) : a ∈ ownA c N S ns := List.mem_append_right _ (List.mem_append_right _ (List.mem_flatMap.mpr ⟨r, hr, ha⟩))
theorem BAt.keep (B : BAt w h c N S ns xs rows R ss) (k : ∀ a ∈ ownA c N S ns, ∀ o, h.get? a = some o -> h'.get? a = some o) (kt : ∀ b vs, h.get? b = some (tupO vs) -> h'.get? b = some (tupO vs)) : BAt w h' c N S ns xs rows R ss :=
 ⟨B.D.other B.out fun a ha => k a (mem_ownC ha), (by obtain ⟨n, e⟩ := B.stk; exact ⟨n, k _ mem_ownN _ e⟩), fun r hr => ⟨(B.nodes r hr).1.other fun a ha => k a (mem_ownR hr ha), (B.nodes r hr).2⟩,
  DictOfH_other B.seen (k _ mem_ownS) kt, B.py, B.rows, B.fin, B.nf, B.out, B.len, B.hit, B.miss, B.own, B.loN, B.loS⟩
theorem BAt.machine {c' : DC} {rows' : List (Int × List (Str × Int))} (B : BAt w h c N S ns xs rows R ss) (D : DFAAt w h' c') (k : ∀ a ∈ ownA c N S ns, a ∉ c.addrs -> ∀ o, h.get? a = some o -> h'.get? a = some o)
  (kt : ∀ b vs, h.get? b = some (tupO vs) -> h'.get? b = some (tupO vs)) (hr : c'.rows = rows') (hf : c'.fin = finOf R) (hn : c'.nf <= R.length) (ho : c'.out = []) (hown : (ownA c' N S ns).Nodup) : BAt w h' c' N S ns xs rows' R ss := by
 have dis : ∀ a ∈ [N, S] ++ ns.flatMap NR.adr, a ∈ ownA c N S ns ∧ a ∉ c.addrs := by
  intro a ha;have nd := B.own;unfold ownA at nd ⊢;rw [List.nodup_append] at nd;obtain ⟨n1, n2, n3⟩ := nd;rw [List.nodup_append] at n2;rcases List.mem_append.mp ha with ha | ha
  ·exact ⟨List.mem_append_left _ ha, fun hc => n3 a ha a (List.mem_append_left _ hc) rfl⟩
  ·exact ⟨List.mem_append_right _ (List.mem_append_right _ ha), fun hc => n2.2.2 a hc a ha rfl⟩
 have k' : ∀ a ∈ [N, S] ++ ns.flatMap NR.adr, ∀ o, h.get? a = some o -> h'.get? a = some o := fun a ha => k a (dis a ha).1 (dis a ha).2;exact ⟨D, (by obtain ⟨n, e⟩ := B.stk; exact ⟨n, k' _ (by simp) _ e⟩), fun r hr => ⟨(B.nodes r hr).1.other fun a ha => k' a (List.mem_append_right _ (List.mem_flatMap.mpr ⟨r, hr, ha⟩)), (B.nodes r hr).2⟩,
  DictOfH_other B.seen (k' _ (by simp)) kt, B.py, hr, hf, hn, ho, B.len, B.hit, B.miss, hown, B.loN, B.loS⟩
theorem addT_addrs (c : DC) (q : Int) (l : Str) (d : Int) (t : Tok) (x : Addr) : (c.addT q l d t x).addrs = c.addrs ∨ (c.addT q l d t x).addrs = c.addrs ++ [x] := by
 unfold DC.addrs DC.addT;cases c.look q with
 | some z =>
  left
  show [c.x.m, c.x.d, c.x.T, c.x.Df, c.x.Fs, c.x.Ol] ++ (c.tra.map _).map _ = _;rw [List.map_map]
  congr 1
  exact List.map_congr_left fun y _ => by simp only [Function.comp_apply]; split <;> rfl
 | none =>
  right
  show [c.x.m, c.x.d, c.x.T, c.x.Df, c.x.Fs, c.x.Ol] ++ (c.tra ++ [(q, x, [(l, d, t)])]).map _ = _;rw [List.map_append]; simp
end
section
variable {w : World} {mg mb : Str -> Option Value} {A : Around} {E : Value -> Shared -> Prop} {L : Addr} {sE s s' : Shared} {W : Addr -> Prop} {H : List (Addr × Obj)} {b : Heap} {m : Str -> Option Value} {env : Env}
noncomputable def RbF (w : World) (mg mb : Str -> Option Value) (L : Addr) (sE : Shared) (W : Addr -> Prop) (H : List (Addr × Obj)) (K : Heap -> Prop) (fr : List Addr) (s : Shared) (m : Str -> Option Value) : Prop := ∀ C : Prop, (∀ (b' : Heap) (F : Fx w mg mb L sE W H b' s m) (hb : NonF fr b') (k : K b') (kn : KpLF L H fr s.heap b'), C) -> C
noncomputable def OnF (w : World) (mg mb : Str -> Option Value) (L : Addr) (sE : Shared) (W : Addr -> Prop) (H : List (Addr × Obj)) (K : Heap -> Prop) (fr : List Addr) (dx : Addr) (o : Obj) (s : Shared) (m : Str -> Option Value) : Prop := ∀ C : Prop, (∀ (b' : Heap) (F : Fx w mg mb L sE W H b' s m) (hb : NonF fr b') (k : K b') (e : b'.get? dx = some o), C) -> C
theorem Fx.rebaseF {fr : List Addr} (F : Fx w mg mb L sE W H b s m) (hb : NonF fr b) : RbF w mg mb L sE W H (Kp b) fr s m := by
 intro C kk;refine (F.rebase) _ fun b1 F1 k1 k2 => ?_;refine (F1.hideF (fr := fr)) _ fun F2 n2 k3 => ?_;exact kk _ F2 n2 (fun a o e => k3 a o (fun hm => by rw [hb a hm] at e; cases e) (k1 a o e)) fun a o h1 h2 e => k3 a o h2 (k2 a o h1 e)
theorem Fx.changeF {fr : List Addr} {W' : Addr -> Prop} (F : Fx w mg mb L sE W H b s m) (hb : NonF fr b) (x : Stp W' s s') (hL : ¬ W' L) (hH : ∀ p ∈ H, ¬ W' p.1) (hW : ∀ a o, W' a -> sE.heap.get? a = some o -> W a) :
  RbF w mg mb L sE W H (KpN W' b) fr s' m := by
 intro C kk;refine (F.change x hL hH hW) _ fun b1 F1 k1 k2 => ?_;refine (F1.hideF (fr := fr)) _ fun F2 n2 k3 => ?_;exact kk _ F2 n2 (fun a o h e => k3 a o (fun hm => by rw [hb a hm] at e; cases e) (k1 a o h e)) fun a o h1 h2 e => k3 a o h2 (k2 a o h1 e)
theorem Fx.oneF {fr : List Addr} {dx : Addr} {h' : Heap} {t : Nat} {d : Drawn} (F : Fx w mg mb L sE W H b s m) (hb : NonF fr b) (hs : Heap.SameBut dx s.heap h') {o : Obj} (he : h'.get? dx = some o) (lo : 456 <= dx) {o0 : Obj} (hn : b.get? dx = some o0) (hW : ∀ o, sE.heap.get? dx = some o -> W dx) :
  OnF w mg mb L sE W H (KpD dx b) fr dx o ⟨h', s.gens, d, t, s.os⟩ m := by
 intro C kk;refine (F.changeF hb (Stp.one (t := t) (d := d) hs ⟨o, he⟩ lo) (fun q => F.neH hn (q ▸ List.mem_cons_self)) (fun p hp q => F.neH hn (q ▸ List.mem_cons_of_mem _ (List.mem_map_of_mem hp))) (fun a o ha e => by subst ha; exact hW o e)) _ fun b' F' n k1 k2 => ?_;exact kk b' F' n (fun a o ha e => k1 a o ha e) (k2 _ _ (F.neH hn) (fun hm => by rw [hb _ hm] at hn; cases hn) he)
theorem Fx.frs {outer : List Env} (F : Fx w mg mb L sE W H b s m) (R : Frs A outer sE.heap) (hW : ∀ a ∈ fra outer, ¬ W a ∧ a ≠ L) (hk : env.scope.kind ≠ .module) (hf : env.frame = some L) : Frs (A.deeper env) (env :: outer) s.heap := by
 refine ⟨Around.frames_deeper R.stack, fun en hen => ?_⟩;rcases List.mem_cons.mp hen with rfl | hen
 ·obtain ⟨o, es, ep, e, hd, _⟩ := F.ns;exact ⟨hk, L, o, hf, e, ⟨es, ep, hd⟩, F.hL⟩
 ·obtain ⟨hkk, L', o, hL', e, hd, lo⟩ := R.ok en hen;have hm : L' ∈ fra outer := List.mem_filterMap.mpr ⟨en, hen, hL'⟩;exact ⟨hkk, L', o, hL', F.tot.keep _ _ (.inr fun h => h.elim (hW _ hm).2 (hW _ hm).1) e, hd, lo⟩
theorem Fx.tupN {outer : List Env} (F : Fx w mg mb L sE W [] b s m) (R : Frs A outer s.heap) {a : Addr} {vs : List Value} (e : s.heap.get? a = some (tupO vs)) : a ∉ L :: ([] : List (Addr × Obj)).map (·.1) ∧ a ∉ fra outer := by
 refine ⟨by simpa using F.tupL e, fun hm => ?_⟩;obtain ⟨o, e', ⟨es, ep, hd⟩, _⟩ := R.mem hm;rw [e] at e'; cases e'; cases hd
end
end Mine
end
section
open PySem PySem.W PySem.Calls PyProof.Rows
namespace Mine
noncomputable def AscL (arcs : List (Nat × Int)) : Prop := arcs.Pairwise fun x y => x.1 < y.1
theorem boot_KeyError : bootBuiltins "KeyError" = some (.type "KeyError") := by kernel_rfl
structure SuffixP (u : Str) (d : Nat) (P : RG -> PT -> List PL -> Prop) : Prop where
 asc : ∀ R t bl, P R t bl -> AscL t.arcs ∧ t.arcs.length < 64
 root : ∀ R t, P R t [] -> d = 0 -> R.id? (t.arcs, t.fin) = none
 lab : ∀ R t l bl, P R t (l :: bl) -> u.cps[bl.length]? = some l.lab
 pre : ∀ R t l bl, P R t (l :: bl) -> ∀ x ∈ l.pre, x.1 ≠ l.lab
 next : ∀ R t l bl, P R t (l :: bl) -> P (reg R t).1 (up l (reg R t).2) bl
 row : ∀ R t bl, P R t bl -> ∀ i, R.id? (t.arcs, t.fin) = some i -> t.arcs ≠ [] -> (i, t.arcs) ∈ rowsOf R
 new : ∀ R t bl, P R t bl -> R.id? (t.arcs, t.fin) = none -> ∀ x ∈ rowsOf R, x.1 ≠ t.n
 bound : ∀ R t bl, P R t bl -> R.length + bl.length <= 1000
 rlen : ∀ R t bl, P R t bl -> ∀ x ∈ R, x.1.1.length < 64
noncomputable def addAll (q : Int) (rows : List (Int × List (Str × Int))) (arcs : List (Str × Int)) : List (Int × List (Str × Int)) := arcs.foldl (fun r x => pAddT r q x.1 x.2) rows
theorem addAll_new {q : Int} {rows : List (Int × List (Str × Int))} (hq : ∀ x ∈ rows, x.1 ≠ q) : ∀ (arcs pre : List (Str × Int)), ((pre ++ arcs).map (·.1)).Nodup -> pre ≠ [] -> addAll q (rows ++ [(q, pre)]) arcs = rows ++ [(q, pre ++ arcs)]
 | [], pre, _, _ => by simp [addAll]
 | x :: arcs, pre, hn, hp => by
  show addAll q (pAddT (rows ++ [(q, pre)]) q x.1 x.2) arcs = _;rw [pAddT_more hq]
  ·have := addAll_new hq arcs (pre ++ [x]) (by simpa using hn) (by simp);rw [show (x.1, x.2) = x from rfl, this]; simp
  ·intro y hy e;rw [List.map_append, List.nodup_append] at hn;exact hn.2.2 y.1 (List.mem_map_of_mem hy) x.1 (by simp) e
theorem addAll_fresh {q : Int} {rows : List (Int × List (Str × Int))} (hq : ∀ x ∈ rows, x.1 ≠ q) (arcs : List (Str × Int)) (hn : (arcs.map (·.1)).Nodup) : addAll q rows arcs = rows ++ (if arcs = [] then [] else [(q, arcs)]) := by
 cases arcs with
 | nil => simp [addAll]
 | cons x arcs =>
  show addAll q (pAddT rows q x.1 x.2) arcs = _;rw [pAddT_new hq, show [(q, [(x.1, x.2)])] = [(q, [x])] from rfl, addAll_new hq arcs [x] (by simpa using hn) (by simp)];simp
theorem addAll_same {q : Int} {rows : List (Int × List (Str × Int))} {arcs : List (Str × Int)} (hk : (rows.map (·.1)).Nodup) (hq : (q, arcs) ∈ rows) (hn : (arcs.map (·.1)).Nodup) : ∀ (r : List (Str × Int)), (∀ x ∈ r, x ∈ arcs) -> addAll q rows r = rows
 | [], _ => rfl
 | x :: r, h => by
  show addAll q (pAddT rows q x.1 x.2) r = _;rw [pAddT_same hk hq hn (h x (by simp)), addAll_same hk hq hn r fun y hy => h y (by simp [hy])]
theorem addAll_snoc (q : Int) (rows : List (Int × List (Str × Int))) (arcs : List (Str × Int)) (x : Str × Int) : addAll q rows (arcs ++ [x]) = pAddT (addAll q rows arcs) q x.1 x.2 := by simp [addAll]
theorem enc_nodup {arcs : List (Nat × Int)} (h : AscL arcs) : ((enc arcs).map (·.1)).Nodup := by
 unfold enc;rw [List.map_map]
 show (arcs.map fun x => lab x.1).Nodup;unfold List.Nodup;rw [List.pairwise_map];exact List.Pairwise.imp (fun {x y} hxy e => absurd (lab_inj e) (Nat.ne_of_lt hxy)) h
structure DC.Small (c : DC) (n : Nat) : Prop where
 a : c.tra.length <= 2000 + n
 b : ∀ z ∈ c.tra, z.2.2.length <= 64 + n
theorem DC.Small.addT {c : DC} {n : Nat} (h : c.Small n) (q : Int) (l : Str) (d : Int) (t : Tok) (x : Addr) : (c.addT q l d t x).Small (n + 1) := by
 unfold DC.addT;cases c.look q with
 | none =>
  refine ⟨by show (c.tra ++ _).length <= _; have := h.a; simp; exact Nat.succ_le_succ this, fun z hz => ?_⟩;rcases List.mem_append.mp hz with hz | hz
  ·have := h.b z hz; exact ar25 this
  ·rw [List.mem_singleton] at hz; subst hz; simp; exact ar241
 | some y =>
  refine ⟨by show (c.tra.map _).length <= _; have := h.a; simp; exact ar172 this, fun z hz => ?_⟩;obtain ⟨v, hv, rfl⟩ := List.mem_map.mp hz;have hb := h.b v hv
  by_cases e : v.1 = q
  ·rw [if_pos e]
   show (storedI v.2.2 l d t).length <= _;unfold storedI
   split <;> simp <;> lia
  ·rw [if_neg e]; exact ar25 hb
inductive SfI (w : World) (mg mb : Str -> Option Value) (L : Addr) (s0 : Shared) (q : Heap) (outer : List Env) (c0 : DC) (N S : Addr) (ns0 : List NR) (u : Str) (tu : Tok) (d : Nat) (td : Tok) (R0 : RG) (ss0 : Option (PT × List PL)) (P : RG -> PT -> List PL -> Prop)
  (s : Shared) (sE : Shared) (b : Heap) (m : Str -> Option Value) (c : DC) (ns : List NR) (xs : List (SK × Addr × Value)) (R : RG) (ss : Option (PT × List PL)) : Prop
 | mk (F : Fx w mg mb L sE (· ∈ ownA c0 N S ns0) [] b s m) (sh : Shift (fra outer) s0 sE) (hb : NonF (fra outer) b) (kq : KpO (ownA c0 N S ns0) q b) (B : BAt w b c N S ns xs (encR (rowsOf R)) R ss) (sub : ∀ a ∈ ownA c N S ns, a ∈ ownA c0 N S ns0 ∨ s0.heap.get? a = none) (cx : c.x = c0.x) (out : outS d R ss = outS d R0 ss0) (pp : ∀ t bl, ss = some (t, bl) -> P R t bl) (len : R.length + ssLen ss <= 1001) (m1 : m "dfa" = some (.ref c0.x.m)) (m2 : m "nodes" = some (.ref N)) (m3 : m "last" = some (.str u tu)) (m4 : m "downto" = some (.int d td)) (m5 : m "seen" = some (.ref S)) : SfI w mg mb L s0 q outer c0 N S ns0 u tu d td R0 ss0 P s sE b m c ns xs R ss
theorem Fx.frsO {w : World} {mg mb : Str -> Option Value} {L : Addr} {sE s : Shared} {W : Addr -> Prop} {H : List (Addr × Obj)} {b : Heap} {m : Str -> Option Value} {A : Around} {outer : List Env} (F : Fx w mg mb L sE W H b s m) (R : Frs A outer sE.heap) (hW : ∀ a ∈ fra outer, ¬ W a ∧ a ≠ L) : Frs A outer s.heap :=
 R.keep fun a ha o e => ⟨o.slots, F.tot.keep a o (.inr fun h => h.elim (hW a ha).2 (hW a ha).1) e⟩
inductive Mid (w : World) (mg mb : Str -> Option Value) (L : Addr) (s0 : Shared) (q : Heap) (outer : List Env) (c0 : DC) (N S : Addr) (ns0 : List NR) (u : Str) (tu : Tok) (d : Nat) (td : Tok) (rows : List (Int × List (Str × Int))) (r0 : NR) (this : Int) (R : RG) (ss : Option (PT × List PL))
  (s : Shared) (sE : Shared) (b : Heap) (m : Str -> Option Value) (c : DC) (ns : List NR) (xs : List (SK × Addr × Value)) : Prop
 | mk (F : Fx w mg mb L sE (· ∈ ownA c0 N S ns0) [] b s m) (sh : Shift (fra outer) s0 sE) (hb : NonF (fra outer) b) (kq : KpO (ownA c0 N S ns0) q b) (B : BAt w b c N S ns xs rows R ss) (nod : NodeAt w b r0.p r0.n r0.arcs r0.fin) (dis : ∀ a ∈ r0.adr, a ∉ ownA c N S ns) (sub : ∀ a ∈ ownA c N S ns, a ∈ ownA c0 N S ns0 ∨ s0.heap.get? a = none) (cx : c.x = c0.x) (m1 : m "dfa" = some (.ref c0.x.m)) (m2 : m "nodes" = some (.ref N)) (m3 : m "last" = some (.str u tu)) (m4 : m "downto" = some (.int d td)) (m5 : m "seen" = some (.ref S)) (m6 : m "node" = some (.ref r0.p.x)) (m7 : ∃ t, m "this" = some (.int this t)) : Mid w mg mb L s0 q outer c0 N S ns0 u tu d td rows r0 this R ss s sE b m c ns xs
theorem pStore_last {pre : List (Nat × Int)} {l : Nat} {a i : Int} (h : ∀ x ∈ pre, x.1 ≠ l) : pStore (enc (pre ++ [(l, a)])) (lab l) i = enc (pre ++ [(l, i)]) := by
 unfold pStore;rw [if_pos (by simp [enc]), enc_append, enc_append, List.map_append]
 congr 1
 ·conv => rhs; rw [← List.map_id (enc pre)]
  refine List.map_congr_left fun x hx => ?_;obtain ⟨y, hy, rfl⟩ := List.mem_map.mp hx;rw [if_neg fun q => h y hy (lab_inj q)]; rfl
 ·simp [enc]
theorem own_pop {c : DC} {N S : Addr} {r0 : NR} {nr : List NR} (h : (ownA c N S (r0 :: nr)).Nodup) : (ownA c N S nr).Nodup ∧ (∀ a ∈ r0.adr, a ∉ ownA c N S nr) ∧ ∀ a ∈ ownA c N S nr, a ∈ ownA c N S (r0 :: nr) := by
 have e : ownA c N S (r0 :: nr) = ([N, S] ++ c.addrs) ++ (r0.adr ++ nr.flatMap NR.adr) := by simp [ownA]
 have e2 : ownA c N S nr = ([N, S] ++ c.addrs) ++ nr.flatMap NR.adr := by simp [ownA]
 rw [e, List.nodup_append] at h;obtain ⟨h1, h2, h3⟩ := h;rw [List.nodup_append] at h2;rw [e2, e];refine ⟨List.nodup_append.mpr ⟨h1, h2.2.1, fun a ha b hb => h3 a ha b (List.mem_append_right _ hb)⟩, fun a ha hm => ?_, fun a ha => ?_⟩
 ·rcases List.mem_append.mp hm with hm | hm
  ·exact h3 a hm a (List.mem_append_left _ ha) rfl
  ·exact h2.2.2 a ha a hm rfl
 ·rcases List.mem_append.mp ha with ha | ha
  ·exact List.mem_append_left _ ha
  ·exact List.mem_append_right _ (List.mem_append_right _ ha)
theorem atKey_append {K : Type} [DecidableEq K] (xs : List (K × Addr × Value)) (k0 : K) (a : Addr) (v : Value) (k : K) : atKey (xs ++ [(k0, a, v)]) k = (atKey xs k).or (if k0 = k then some (a, v) else none) := by
 unfold atKey;rw [List.find?_append];cases xs.find? fun x => decide (x.1 = k) with
 | some x => rfl
 | none => by_cases h : k0 = k <;> simp [h]
theorem id_cons (x : List (Nat × Int) × Bool) (i : Int) (R : RG) (k : List (Nat × Int) × Bool) : RG.id? ((x, i) :: R) k = if x = k then some i else R.id? k := by
 unfold RG.id?;rw [List.find?_cons]
 by_cases h : x = k <;> simp [h]
theorem DictOfH_more {w : World} {h h' h2 : Heap} {S : Addr} {xs : List (SK × Addr × Value)} {k : SK} {a : Addr} {v : Value} (x : h'.DictOfH (seenK w) S (xs ++ [(k, a, v)])) (e : ∀ o, h'.get? S = some o -> h2.get? S = some o) (old : h.DictOfH (seenK w) S xs) (ka : (seenK w).is h k a)
  (kt : ∀ b vs, h.get? b = some (tupO vs) -> h2.get? b = some (tupO vs)) : h2.DictOfH (seenK w) S (xs ++ [(k, a, v)]) := by
 obtain ⟨o, es, ep, eo, a1, b1, c1, d1, f1⟩ := x;obtain ⟨_, _, _, _, _, _, _, d2, _⟩ := old;refine ⟨o, es, ep, e _ eo, a1, b1, c1, fun y hy => ?_, f1⟩;rcases List.mem_append.mp hy with hy | hy
 ·exact (seenG w).keepT (d2 y hy) kt
 ·rw [List.mem_singleton] at hy; subst hy; exact (seenG w).keepT ka kt
noncomputable def nextS (t : PT) (bl : List PL) (i : Int) : Option (PT × List PL) := match bl with
 | [] => none
 | l :: bl => some (up l i, bl)
theorem Fx.done' {w : World} {mg mb : Str -> Option Value} {L : Addr} {sE s : Shared} {W : Addr -> Prop} {H : List (Addr × Obj)} {b : Heap} {m : Str -> Option Value} (F : Fx w mg mb L sE W H b s m) (hL : sE.heap.get? L = none) : Stp W sE s :=
 F.tot.drop fun a o ha e => ha.elim (fun q => by rw [q, hL] at e; cases e) id
section
variable {w : World} {mg mb : Str -> Option Value} {A : Around} {E : Value -> Shared -> Prop}
inductive SfE (I : Shared -> Shared -> Heap -> (Str -> Option Value) -> DC -> List NR -> List (SK × Addr × Value) -> RG -> Option (PT × List PL) -> Prop) (n : Nat) (s : Shared) : Prop
 | mk (sE : Shared) (b : Heap) (m : Str -> Option Value) (c : DC) (ns : List NR) (xs : List (SK × Addr × Value)) (R : RG) (ss : Option (PT × List PL)) (h : I s sE b m c ns xs R ss) (e : n = ssLen ss) : SfE I n s
inductive MdE (I : Shared -> Shared -> Heap -> (Str -> Option Value) -> DC -> List NR -> List (SK × Addr × Value) -> Prop) (f : Flow) (s : Shared) : Prop
 | mk (ef : f = .next) (sE : Shared) (b : Heap) (m : Str -> Option Value) (c : DC) (ns : List NR) (xs : List (SK × Addr × Value)) (h : I s sE b m c ns xs) : MdE I f s
theorem Mid.ex {w : World} {mg mb : Str -> Option Value} {L : Addr} {s0 : Shared} {q : Heap} {outer : List Env} {c0 : DC} {N S : Addr} {ns0 : List NR} {u : Str} {tu : Tok} {d : Nat} {td : Tok} {rows : List (Int × List (Str × Int))} {r0 : NR} {this : Int} {R : RG} {ss : Option (PT × List PL)}
  {s : Shared} {sE : Shared} {b : Heap} {m : Str -> Option Value} {c : DC} {ns : List NR} {xs : List (SK × Addr × Value)} (M : Mid w mg mb L s0 q outer c0 N S ns0 u tu d td rows r0 this R ss s sE b m c ns xs) :
  MdE (Mid w mg mb L s0 q outer c0 N S ns0 u tu d td rows r0 this R ss) .next s := ⟨rfl, _, _, _, _, _, _, M⟩
noncomputable def MwJ (w : World) (FF : Heap -> Shared -> (Str -> Option Value) -> Prop) (fr : List Addr) (b2 : Heap) (c : DC) (fi : Int -> Bool) (nf : Nat) (vd vn vl vt vs vo vu : Value) (n : Int) (f : Flow) (s : Shared) : Prop := ∀ CC : Prop, (∀ (ef : f = .next) (b3 : Heap) (m3 : Str -> Option Value) (c3 : DC) (F : FF b3 s m3) (hb3 : NonF fr b3) (k3 : KpD c.x.Fs b2 b3) (hD3 : DFAAt w b3 c3) (hrows3 : c3.rows = c.rows) (hfin3 : c3.fin = fi) (hnf3 : c3.nf <= nf) (hout3 : c3.out = []) (hx3 : c3.x = c.x) (had3 : c3.addrs = c.addrs)
   (n1 : m3 "dfa" = some vd) (n2 : m3 "nodes" = some vn) (n3 : m3 "last" = some vl) (n4 : m3 "downto" = some vt) (n5 : m3 "seen" = some vs) (n6 : m3 "node" = some vo) (n7 : m3 "tup" = some vu) (tn : Tok) (n8 : m3 "this" = some (.int n tn)), CC) -> CC
noncomputable def MwK (w : World) (N S : Addr) (ns : List NR) (xs : List (SK × Addr × Value)) (rws : Nat -> List (Int × List (Str × Int))) (R : RG) (ss : Option (PT × List PL)) (fr oa : List Addr) (q : Heap) (r0 : NR) (ep : Nat) (h0 : Heap) (cx : DA) (vl vt : Value) (th : Int) (i : Nat) (b : Heap) (m : Str -> Option Value) : Prop := ∀ CC : Prop, (∀ (c1 : DC) (B : BAt w b c1 N S ns xs (rws i) R ss) (sm : c1.Small i) (hb : NonF fr b) (kq : KpO oa q b) (nod : NodeAt w b r0.p r0.n r0.arcs r0.fin) (hat : b.DictAt (strKind PP w) r0.p.a (intPairs r0.arcs) ep) (dis : ∀ a ∈ r0.adr, a ∉ ownA c1 N S ns) (sub : ∀ a ∈ ownA c1 N S ns, a ∈ oa ∨ h0.get? a = none) (ecx : c1.x = cx)
   (n1 : m "dfa" = some (.ref cx.m)) (n2 : m "nodes" = some (.ref N)) (n3 : m "last" = some vl) (n4 : m "downto" = some vt) (n5 : m "seen" = some (.ref S)) (tt : Tok) (n7 : m "this" = some (.int th tt)), CC) -> CC
theorem add_suffix_spec {s0 : Shared} {q : Heap} {c0 : DC} {N S : Addr} {ns0 : List NR} {xs0 : List (SK × Addr × Value)} {R0 : RG} {ss0 : Option (PT × List PL)} {u : Str} {tu : Tok} {d : Nat} {td : Tok} {outer : List Env} {P : RG -> PT -> List PL -> Prop} {Q : Value -> Shared -> Prop} {k : Nat}
  (g : G w mg mb s0.heap) (hA : Rm A (k + 3)) (hF : Frs A outer s0.heap) (hq : Kp q s0.heap) (hqf : NonF (fra outer) q)
  (B0 : BAt w q c0 N S ns0 xs0 (encR (rowsOf R0)) R0 ss0) (hP : SuffixP u d P) (p0 : ∀ t bl, ss0 = some (t, bl) -> P R0 t bl) (hn : R0.length + ssLen ss0 <= 1001)
  (h : ∀ s1 s' q' c' ns' xs', Shift (fra outer) s0 s1 -> Stp (· ∈ ownA c0 N S ns0) s1 s' -> Kp q' s'.heap -> (NonF (fra outer) q') -> (KpO (ownA c0 N S ns0) q q') ->
   BAt w q' c' N S ns' xs' (encR (rowsOf (outS d R0 ss0).1)) (outS d R0 ss0).1 (outS d R0 ss0).2 -> (∀ a ∈ ownA c' N S ns', a ∈ ownA c0 N S ns0 ∨ s0.heap.get? a = none) -> c'.x = c0.x -> Q .none s') :
  wpAny (model PP w) A (call (.ref 422) [.ref c0.x.m, .ref N, .str u tu, .int d td, .ref S]) Q E s0 := by
 refine wpAny_call (m_call (· ∈ ownA c0 N S ns0) [("dfa", .ref c0.x.m), ("nodes", .ref N), ("last", .str u tu), ("downto", .int d td), ("seen", .ref S)] g hA.room (by rfl) (by kernel_rfl) (.of_eq (by rfl)) (locs (by rfl)) (fun s₁ F => ?_) (by decide));refine gQ fun Q0 E0 hQ0 hE0 => ?_;have hB : ∀ env, Rm (A.deeper env) (k + 2) := fun env => hA.deeper env;have own_q : ∀ a ∈ ownA c0 N S ns0, There q a := B0.there;have frW : ∀ a ∈ fra outer, a ∉ ownA c0 N S ns0 ∧ a ≠ s0.heap.objs.size := fun a ha =>
  ⟨fun hm => (by obtain ⟨o, e⟩ := (own_q a hm).ex; rw [hqf a ha] at e; cases e), fun hm => by obtain ⟨o, e, _⟩ := hF.mem ha; exact absurd (Heap.lt_size e) (by rw [hm]; exact Nat.lt_irrefl _)⟩
 have liveE : ∀ sE, Shift (fra outer) s0 sE -> ∀ a ∈ fra outer, (∃ o, sE.heap.get? a = some o) ∧ 456 <= a ∧ a ≠ s0.heap.objs.size ∧ ¬ a ∈ ownA c0 N S ns0 := fun sE sh a ha => by
  obtain ⟨o, e, _, lo⟩ := hF.mem ha;obtain ⟨o', e'⟩ := sh.some e;exact ⟨⟨o', e'⟩, lo, (frW a ha).2, (frW a ha).1⟩
 have subW : ∀ {sE : Shared}, Shift (fra outer) s0 sE -> ∀ {a : Addr}, (a ∈ ownA c0 N S ns0 ∨ s0.heap.get? a = none) -> ∀ o, sE.heap.get? a = some o -> a ∈ ownA c0 N S ns0 := fun {sE} sh {a} hs o e => by
  rcases hs with hs | hs
  ·exact hs
  ·have hf : a ∉ fra outer := fun hm => by obtain ⟨o', e', _⟩ := hF.mem hm; rw [hs] at e'; cases e'
   rw [sh.none hs hf] at e; cases e
 have qL : q.get? s0.heap.objs.size = none := by
  cases e : q.get? s0.heap.objs.size with
  | none => rfl
  | some o => exact absurd (Heap.lt_size (hq _ o e)) (Nat.lt_irrefl _)
 have F0 : Fx w mg mb s0.heap.objs.size s0 (· ∈ ownA c0 N S ns0) [] q s₁ _ := ⟨F.g, F.hL, F.ns, F.tot, fun a o e => F.keep a o (hq a o e), qL, fun p hp => nomatch hp⟩;have hb0 := hqf;refine wpAny_execs_cons (wpAny_While ?_);refine (nmP (SfE (SfI w mg mb s0.heap.objs.size s0 q outer c0 N S ns0 u tu d td R0 ss0 P))) _ fun J0 j0i j0o => ?_;refine whileQ J0 ?_ (ssLen ss0) (j0i _ _ ⟨s0, q, _, c0, ns0, xs0, R0, ss0, ⟨F0, .refl .., hb0, fun a o _ e => e, B0, fun a ha => .inl ha, rfl, rfl, p0, hn, rfl, rfl, rfl, rfl, rfl⟩, rfl⟩);intro n s hJ0 Q1 Q2 E1 hQ1 hQ2 hE1;obtain ⟨sE, b, m, c, ns, xs, R, ss, ⟨I_F, I_sh, I_hb, I_kq, I_B, I_sub, I_cx, I_out, I_pp, I_len, I_m1, I_m2, I_m3, I_m4, I_m5⟩, rfl⟩ := j0o _ _ hJ0;obtain ⟨kN, eN⟩ := I_B.stk;have hlen : ns.length = ssLen ss := by rw [← pyOf_len, ← List.length_map (f := fun r : NR => (r.n, keyOf r.arcs, r.fin)), I_B.py, List.length_map]
 have F := I_F;refine wpAny_isTrue_Compare1 (Call_ (m_bi F (ng_len w) boot_len (m_cwb (args_cons (m_local F (by exact I_m2) (args_nil ?_))))));refine m_len F ⟨_, F.keep _ _ eN, rfl, _, rfl⟩ (by rw [List.size_toArray, List.length_map, List.length_reverse, hlen, sizeLine_eq]; have := I_len; exact Nat.le_trans (Nat.le_trans (Nat.le_add_left _ _) this) (by decide)) fun s t F _ => ?_;refine m_local F (by exact I_m4) (gt_int (wpAny_truthy_bool ?_));rw [List.size_toArray, List.length_map, List.length_reverse, hlen]
 by_cases hgt : d < ssLen ss
 ·refine ifT (show decide ((d : Int) < (ssLen ss : Int)) = true by simpa using hgt) ?_;obtain ⟨t0, bl, rfl⟩ : ∃ t0 bl, ss = some (t0, bl) := by
   cases ss with
   | none => simp [ssLen] at hgt
   | some x => exact ⟨x.1, x.2, rfl⟩
  have py := I_B.py;cases ns with
  | nil => simp [pyOf] at py
  | cons r0 nr =>
  simp only [List.map_cons, pyOf, List.cons.injEq, Prod.mk.injEq] at py;obtain ⟨⟨hrn, hra, hrf⟩, hnr⟩ := py;have B := I_B;have hPt := I_pp _ _ rfl;obtain ⟨hasc, h64⟩ := hP.asc _ _ _ hPt;have hNW : ∀ o, sE.heap.get? N = some o -> N ∈ ownA c0 N S ns0 := fun o e => subW I_sh (I_sub _ mem_ownN) o e;rw [List.reverse_cons, List.map_append] at eN;refine wpAny_execs_cons (wpAny_Assign_Name (MethodCall_ (m_local F (by exact I_m2) (gm_list (F.keep _ _ eN) PySem.F.slot_list_pop PySem.F.type_list_pop (callWith_method0 ?_)))));refine m_pop F eN B.loN hNW (by rw [List.length_map, List.length_reverse, sizeLine_eq]; have := I_len; have h2 : nr.length + 1 = ssLen (some (t0, bl)) := hlen; exact ar129 this h2) fun s b1 F k1 eN1 => m_store F fun s F => ?_;refine (F.hideF (fr := fra outer)) _ fun F hb kh => ?_;have k1 : ∀ a o, a ≠ N -> b.get? a = some o -> (hideAll b1 (fra outer)).get? a = some o := fun a o ha e => kh a o (fun hm => by rw [I_hb a hm] at e; cases e) (k1 a o ha e);have hNf : N ∉ fra outer := fun hm => by obtain ⟨o, e⟩ := (B.there _ mem_ownN).ex; rw [I_hb _ hm] at e; cases e
  have eN1 := kh _ _ hNf eN1;generalize hideAll b1 (fra outer) = b1 at F hb k1 eN1;have nd := B.own;have nN : ∀ {a}, a ∈ [S] ++ (c.addrs ++ (r0 :: nr).flatMap NR.adr) -> a ≠ N := own_nN nd;have hr0 := (B.nodes r0 (by simp)).1.other (h' := b1) fun a ha o e => k1 a o (nN (by simp [ha])) e;obtain ⟨ta, tb, tc, td', kk, ed⟩ := hr0.dic;refine wpAny_execs_cons (wpAny_Assign_Name (MethodCall_ (m_local F (by rfl) (m_meth F (mt_tuple w) hr0.obj ed (by rfl) (m_cw0 (by rfl) F.g.X ?_)))));have hAsc : Asc r0.arcs := by
   have : keyOf r0.arcs = enc t0.arcs := hra;have e2 : (keyOf r0.arcs).Pairwise (fun x y => x.1.cps.toList < y.1.cps.toList) := by
    rw [this]; unfold enc; rw [List.pairwise_map];exact List.Pairwise.imp (fun {x y} hxy => by show [x.1] < [y.1]; exact List.Lex.rel hxy) hasc
   unfold keyOf at e2; rw [List.pairwise_map] at e2; exact e2
  have h64' : r0.arcs.length < 64 := by
   have := congrArg List.length hra;simp only [keyOf, enc, List.length_map] at this; exact lt_of_eq_of_lt this h64
  refine tuple_spec F.g (hB _) (hr0.keeps F.keep) hAsc h64' fun s' ka S1 hka hkn klo => ?_;have F1 := F.grow S1;have frW' : ∀ a ∈ fra outer, ¬ (a ∈ ownA c0 N S ns0) ∧ a ≠ s0.heap.objs.size := frW;have RO := F1.frsO (hF.slots I_sh.1) frW';refine (F1.rebaseF hb) _ fun b2 F2 hb2 k2 kn2 => ?_;have hka2 : IsNKey b2 (keyOf r0.arcs, r0.fin) ka := hka.keepT fun a vs e => (by obtain ⟨h1, h2⟩ := F1.tupN RO e; exact kn2 a _ h1 h2 e);refine m_store F2 fun s F => ?_;have B1 : ∀ a ∈ ownA c N S (r0 :: nr), a ≠ N -> ∀ o, b.get? a = some o -> b2.get? a = some o := fun a _ hn o e => k2 _ _ (k1 a o hn e);have tk : ∀ b' vs, b.get? b' = some (tupO vs) -> b2.get? b' = some (tupO vs) := fun b' vs e => k2 _ _ (k1 _ _ ((B.there _ mem_ownN).neT e) e);have hS2 : b2.DictOfH (seenK w) S xs := DictOfH_other B.seen (fun o e => B1 S mem_ownS (nN (by simp)) o e) tk;have hr2 := hr0.keeps k2;have hD2 : DFAAt w b2 c := B.D.other B.out fun a ha o e => B1 a (mem_ownC ha) (nN (List.mem_append_right _ (List.mem_append_left _ ha))) o e;have hnodes2 : ∀ r ∈ nr, NodeAt w b2 r.p r.n r.arcs r.fin ∧ 456 <= r.p.d := fun r hr => ⟨(B.nodes r (by simp [hr])).1.other fun a ha o e => B1 a (mem_ownR (by simp [hr]) ha) (nN (List.mem_append_right _ (List.mem_append_right _ (List.mem_flatMap.mpr ⟨r, by simp [hr], ha⟩)))) o e, (B.nodes r (by simp [hr])).2⟩;have eN2 := k2 _ _ eN1;have key : (keyOf r0.arcs, r0.fin) = (enc t0.arcs, t0.fin) := by rw [show keyOf r0.arcs = enc t0.arcs from hra, hrf]
  have hroom : ∀ env, (seenK w).room (Around.in1 (A.deeper env)) := fun env => by
   have : A.units + 3 + 8 * (k + 2) < cLine := (hB env).un;show A.units + 3 + 1 + 3 < cLine;exact ar138 this
  have hSs : s.heap.DictOfH (seenK w) S xs := DictOfH_other hS2 (fun o e => F.keep _ _ e) fun b vs e => F.keep _ _ e;have hks : (seenK w).is s.heap (enc t0.arcs, t0.fin) ka := by rw [← key]; exact (hka2.keep F.keep).is
  refine (nmP (MdE (Mid w mg mb s0.heap.objs.size s0 q outer c0 N S ns0 u tu d td (encR (rowsOf R)) r0 (reg R t0).2 (reg R t0).1 (nextS t0 bl (reg R t0).2)))) _ fun J1 j1i j1o => ?_;refine wpAny_execs_cons (wpAny_mono (Q := J1) (wpAny_Try_except ?_) ?_ ee)
  ·refine wpAny_execs_cons (wpAny_Assign_Name (Subscript_ (m_local F (by exact I_m5) (m_local F (by rfl) (subscriptTail_builtin hSs.typeIs PySem.slot_dict_getitem.lookup ?_)))));cases hid : R.id? (t0.arcs, t0.fin) with
   | none =>
    refine wpAny_getItem_missing_heap (hroom _) hks (sysM B.loS) (hB default).hh hSs (B.miss _ hid) fun h' e hx => ?_;refine m_catch F hb2 (F.frs (hF.slots I_sh.1) frW' (fun hk => nomatch hk) rfl) (liveE sE I_sh) hx (ng_KeyError w) boot_KeyError kr_isExc_KeyError (by rw [isSubtype_type]; kernel_rfl) (by rw [isSubtype_type]; kernel_rfl) fun s' sE' E' sh' F => ?_;have sh2 := I_sh.trans sh';have hreg : reg R t0 = (((t0.arcs, t0.fin), t0.n) :: R, t0.n) := by unfold reg; rw [hid]
    obtain ⟨ta, tb, tc, td', kk, ed⟩ := hr2.dic;refine wpAny_execs_cons (wpAny_Assign_Name (m_attr (m_local F (by rfl) (m_get F (at_n w) hr2.obj ed (by rfl) rfl fun s F => m_store F fun s F => ?_))));refine (nmP (MwJ w (Fx w mg mb s0.heap.objs.size sE' (· ∈ ownA c0 N S ns0) []) (fra outer) b2 c (finOf (((t0.arcs, t0.fin), t0.n) :: R)) (R.length + 1) (.ref c0.x.m) (.ref N) (.str u tu) (.int d td) (.ref S) (.ref r0.p.x) (.ref ka) t0.n)) _ fun J2 j2i j2o => ?_;refine wpAny_execs_cons (wpAny_mono (Q := J2) (wpAny_If (isTrue_plain (m_attr (m_local F (by rfl) (m_get F (at_final w) hr2.obj ed (by rfl) rfl fun s F => wpAny_truthy_bool ?_))) (by rfl))) ?_ ee)
    ·cases hfin : r0.fin with
     | true =>
      refine ifT rfl ?_;have hf0 : t0.fin = true := by rw [← hrf, hfin]
      have mFs : c.x.Fs ∈ c.addrs := by simp [DC.addrs]
      refine wpAny_execs_cons (wpAny_Expr (MethodCall_ (m_local F (v := .ref c.x.m) (by have := I_m1; rw [← I_cx] at this; exact this) (o_meth F (mt_add_final w) hD2.obj (m_cw (by rfl) (args_cons (m_local F (by rfl) (args_nil ⟨F.g.X, ?_⟩))))))) (by rfl) (by rfl));refine add_final_spec (q := r0.n) F.g (hB default).room (hD2.keeps F.keep) (by have := B.nf; have := I_len; show _ < 4096; exact Nat.lt_of_le_of_lt (Nat.succ_le_succ (Nat.le_trans (by assumption) (Nat.le_trans (Nat.le_add_right _ _) this))) (by decide)) fun s' S3 D3 => ?_;have oFs := (hD2.there _ mFs).ex;refine (F.changeF hb2 S3 (fun q => by obtain ⟨o, e⟩ := oFs; exact F.ne e q.symm) (fun p hp => nomatch hp) (fun a o ha e => by subst ha; exact subW sh2 (I_sub _ (mem_ownC mFs)) o e)) _ fun b3 F hb3 k3 kn3 => ?_;refine wpAny_execs_nil (j2i _ _ (fun _ kk => kk rfl b3 _ (c.addF r0.n) F hb3 (fun a o ha e => k3 a o ha e) ?_ rfl ?_ ?_ B.out rfl rfl I_m1 I_m2 I_m3 I_m4 I_m5 rfl rfl _ (by rw [← hrn]; rfl)))
      ·refine D3.other B.out fun a ha o e => kn3 a o ?_ ?_ e
       ·obtain ⟨o', e'⟩ := (hD2.there a ha).ex; exact F2.neH e'
       ·intro hm; obtain ⟨o', e'⟩ := (hD2.there a ha).ex; rw [hb2 a hm] at e'; cases e'
      ·funext q; rw [finOf_cons, hf0, ← hrn]; show (c.fin q || decide (q = r0.n)) = _; rw [B.fin]; simp
      ·show (if c.fin r0.n then c.nf else c.nf + 1) <= _;have := B.nf
       split <;> lia
     | false =>
      refine ifF rfl ?_;have hf0 : t0.fin = false := by rw [← hrf, hfin]
      refine wpAny_execs_nil (j2i _ _ (fun _ kk => kk rfl b2 _ c F hb2 (fun a o _ e => e) hD2 rfl ?_ (Nat.le_succ_of_le B.nf) B.out rfl rfl I_m1 I_m2 I_m3 I_m4 I_m5 rfl rfl _ (by rw [← hrn]; rfl)));rw [B.fin]; funext q; rw [finOf_cons, hf0]; simp
    ·intro f s hJ2;refine (j2o _ _ hJ2) _ fun eq15 b3 m3 c3 F hb3 k3 hD3 hrows3 hfin3 hnf3 hout3 hx3 had3 n1 n2 n3 n4 n5 n6 n7 tn n8 => ?_;subst eq15;obtain ⟨hop, hodis, hosub⟩ := own_pop B.own;have mFs : c.x.Fs ∈ c.addrs := by simp [DC.addrs]
     have nFs : ∀ {a}, a ∈ [N, S] ++ (r0 :: nr).flatMap NR.adr -> a ≠ c.x.Fs := fun {a} ha q => by
      have nd := B.own;have e : ownA c N S (r0 :: nr) = [N, S] ++ (c.addrs ++ (r0 :: nr).flatMap NR.adr) := rfl;rw [e, List.nodup_append] at nd;rcases List.mem_append.mp ha with ha | ha
      ·exact nd.2.2 a ha _ (List.mem_append_left _ (q ▸ mFs)) rfl
      ·exact (List.nodup_append.mp nd.2.1).2.2 _ (q ▸ mFs) a ha rfl
     have kt3 : ∀ b' vs, b2.get? b' = some (tupO vs) -> b3.get? b' = some (tupO vs) := fun b' vs e => k3 _ _ ((hD2.there _ mFs).neT e) e;have hS3 := DictOfH_other hS2 (fun o e => k3 _ _ (nFs (by simp)) e) kt3;have hka3 := hka2.keepT kt3;have hSs := DictOfH_other hS3 (fun o e => F.keep _ _ e) fun b vs e => F.keep _ _ e;have hks3 : (seenK w).is s.heap (enc t0.arcs, t0.fin) ka := by rw [← key]; exact (hka3.keep F.keep).is
     refine wpAny_execs_cons (wpAny_Assign_Subscript (m_local F n8 (m_local F n5 (m_local F n7 (wpAny_setItem_heap (knd := seenK w) (by exact hroom default) hks3 hSs (fun h' hm' hs' => ?_) (by rw [sizeLine_eq, B.len]; have := I_len; exact Nat.le_trans (Nat.le_trans (Nat.le_add_right _ _) this) (by decide)))))));have hmiss := B.miss _ hid;rw [storedH_new hmiss] at hm';refine (dobH hm') _ fun oS eS _ => ?_;refine (dobH hS3) _ fun oS3 eS3 hxS3 => ?_;refine (F.oneF hb3 hs' eS B.loS eS3 (fun o e => subW sh2 (I_sub _ mem_ownS) o e) (t := s.toks + (seenK w).draws (enc t0.arcs, t0.fin)) (d := s.drawn)) _ fun b4 F hb4 k4 eS4 => ?_;have nS : ∀ {a}, a ∈ [N] ++ (c.addrs ++ (r0 :: nr).flatMap NR.adr) -> a ≠ S := own_nS B.own;have kt4 : ∀ b' vs, b3.get? b' = some (tupO vs) -> b4.get? b' = some (tupO vs) := fun b' vs e => k4 _ _ (There.neT ⟨_, eS3, by rw [hxS3.1]; decide⟩ e) e;refine wpAny_execs_nil (j1i _ _ ⟨rfl, sE', b4, m3, c3, nr, xs ++ [((enc t0.arcs, t0.fin), ka, .int t0.n tn)], ?_⟩);rw [hreg];refine ⟨F, sh2, hb4, fun a o ha e => ?_, ?_, ?_, ?_, ?_, hx3.trans I_cx, n1, n2, n3, n4, n5, n6, tn, n8⟩
     ·-- what was, and is not the builder's
      have ne : ∀ z ∈ ownA c N S (r0 :: nr), a ≠ z := fun z hz q => by
       rcases I_sub z hz with h1 | h1
       ·exact ha (q ▸ h1)
       ·rw [← q, hq _ o e] at h1; cases h1
      exact k4 _ _ (ne _ mem_ownS) (k3 _ _ (ne _ (mem_ownC mFs)) (k2 _ _ (k1 _ _ (ne _ mem_ownN) (I_kq a o ha e))))
     ·refine ⟨hD3.other hout3 fun a ha o e => k4 _ _ (nS (List.mem_append_right _ (List.mem_append_left _ (had3 ▸ ha)))) e, ⟨_, k4 _ _ (nS (by simp)) (k3 _ _ (nFs (by simp)) eN2)⟩, fun r hr => ⟨(hnodes2 r hr).1.other fun a ha o e => k4 _ _ (nS ?_) (k3 _ _ (nFs ?_) e), (hnodes2 r hr).2⟩, ?_, ?_, hrows3.trans B.rows, hfin3, hnf3, hout3, by simp [B.len], fun kk i hi => ?_, fun kk hi => ?_, by unfold ownA; rw [had3]; exact hop, B.loN, B.loS⟩
      ·exact List.mem_append_right _ (List.mem_append_right _ (List.mem_flatMap.mpr ⟨r, by simp [hr], ha⟩))
      ·exact List.mem_append_right _ (List.mem_flatMap.mpr ⟨r, by simp [hr], ha⟩)
      ·exact DictOfH_more hm' (fun o e => by rw [eS] at e; cases e; exact eS4) hS3 (by rw [← key]; exact hka3.is) kt4
      ·cases bl with
       | nil => exact hnr
       | cons l bl => exact hnr
      ·rw [id_cons] at hi;rw [atKey_append]
       by_cases hk : (t0.arcs, t0.fin) = kk
       ·rw [if_pos hk] at hi;obtain rfl := Option.some.inj hi;subst hk;rw [hmiss];exact ⟨ka, tn, by simp⟩
       ·rw [if_neg hk] at hi;obtain ⟨a', t', ha'⟩ := B.hit _ _ hi;exact ⟨a', t', by rw [ha']; rfl⟩
      ·rw [id_cons] at hi;rw [atKey_append]
       by_cases hk : (t0.arcs, t0.fin) = kk
       ·rw [if_pos hk] at hi; cases hi
       ·rw [if_neg hk] at hi;rw [B.miss _ hi, if_neg]
        ·rfl
        ·intro hq;have h1 := congrArg Prod.fst hq;have h2 := congrArg Prod.snd hq;exact hk (Prod.ext (enc_inj h1) h2)
     ·exact hr2.other fun a ha o e => k4 _ _ (nS (List.mem_append_right _ (List.mem_append_right _ (by simp [ha])))) (k3 _ _ (nFs (List.mem_append_right _ (by simp [ha]))) e)
     ·intro a ha; unfold ownA; rw [had3]; exact hodis a ha
     ·intro a ha; unfold ownA at ha; rw [had3] at ha; exact I_sub a (hosub a ha)
   | some i =>
    obtain ⟨a', ti, hat⟩ := B.hit _ _ hid;refine wpAny_getItem_heap (hroom _) hks hSs hat ?_;have hreg : reg R t0 = (R, i) := by unfold reg; rw [hid]
    refine m_store (F.tok _) fun s F => wpAny_execs_nil ?_;dsimp only;cases bl with
    | nil =>
     have : R.id? (t0.arcs, t0.fin) = none := hP.root _ _ hPt (by simp [ssLen] at hgt; exact hgt);rw [hid] at this; cases this
    | cons l bl =>
    cases nr with
    | nil => simp [pyBelow] at hnr
    | cons r1 nr =>
    simp only [List.map_cons, pyBelow, List.cons.injEq, Prod.mk.injEq] at hnr;obtain ⟨⟨h1n, h1a, h1f⟩, hnr⟩ := hnr;have hlen1 : nr.length = bl.length := by
     have := congrArg List.length hnr
     simpa [pyBelow_len] using this
    have hsz : bl.length <= 1000 := by have := hP.bound _ _ _ hPt; simp at this; exact ar222 this
    obtain ⟨hr1, hr1d⟩ := hnodes2 r1 (by simp);obtain ⟨ua, ub, uc, ud, uk, ue⟩ := hr1.dic;rw [List.reverse_cons, List.map_append] at eN2;have hl2 : ∀ {s : Shared} {m : Str -> Option Value}, Fx w mg mb s0.heap.objs.size sE (· ∈ ownA c0 N S ns0) [] b2 s m -> s.heap.IsList N ((nr.reverse.map fun r => Value.ref r.p.x) ++ [Value.ref r1.p.x]).toArray := fun F => ⟨_, F.keep _ _ eN2, rfl, _, rfl⟩;have hsz2 : ((nr.reverse.map fun r => Value.ref r.p.x) ++ [Value.ref r1.p.x]).toArray.size = bl.length + 1 := by rw [List.size_toArray, List.length_append, List.length_map, List.length_reverse, hlen1]; rfl
    refine wpAny_execs_cons (wpAny_Assign_Name (Subscript_ (m_local F (by exact I_m2) (wpAny_UnaryOp (m_cint F fun s t F _ => m_neg F fun s t F _ => subscriptTail_builtin (hl2 F).typeIs PySem.slot_list_getitem.lookup ?_)))));refine wpAny_getItem_list_neg (x := .ref r1.p.x) (hl2 F) (by decide) (by rw [hsz2]; exact ar31) (by decide) ?_ (m_store F fun s F => ?_)
    ·rw [hsz2, show ((-1 : Int) + ((bl.length + 1 : Nat) : Int)).toNat = bl.length from ar33, ← hlen1]; simp
    refine wpAny_execs_cons (wpAny_Assign_Name (Subscript_ (m_local F (by exact I_m3) (wpAny_BinOp (Call_ (m_bi F (ng_len w) boot_len (m_cwb (args_cons (m_local F (by exact I_m2) (args_nil ?_))))))))));refine m_len F (hl2 F) (by rw [hsz2, sizeLine_eq]; exact ar71 hsz) fun s t F _ => m_cint F fun s t F _ => m_sub F fun s t F _ => subscriptTail_builtin (T := "str") rfl PyProof.Rows.slot_str_getitem.lookup ?_;have hlab := hP.lab _ _ _ _ hPt;refine getItem_str (c := l.lab) ?_ ?_ (m_store (F.tok _) fun s F => ?_)
    ·rw [hsz2]; simp; exact (Int.ofNat_lt (m := 9223372036854775808)).mpr (Nat.lt_of_le_of_lt hsz (by decide))
    ·rw [hsz2, show (((bl.length + 1 : Nat) : Int) - 1) = (bl.length : Int) from ar245];have hlt : bl.length < u.cps.size := (Array.getElem?_eq_some_iff.mp hlab).1;have e : seqIndex? (bl.length : Int) u.length = some bl.length := by
      have hu : u.length = u.cps.size := rfl;have h0 : ¬ ((bl.length : Int) < 0) := ar8;simp only [seqIndex?, h0, if_false, hu, Int.toNat_natCast];rw [if_pos (by simp; exact hlt)]
     rw [e]; exact hlab
    refine wpAny_execs_cons (wpAny_Assign_Subscript (m_local F (by rfl) (m_attr (m_local F (by rfl) (m_get F (at_arcs w) hr1.obj ue (by rfl) rfl fun s F => m_local F (by rfl) ?_)))));refine wpAny_setItem_pairs (strKind_is _ _ (lab l.lab) _) (hr1.arc.keep F.keep) (fun h' hz hs' => wpAny_execs_nil ?_) ?_
    ·rw [stored_intPairs] at hz;obtain ⟨hop, hodis, hosub⟩ := own_pop B.own;have nd1 := hop;obtain ⟨hop1, hodis1, hosub1⟩ := own_pop hop;have ea : r1.p.a ∈ ownA c N S (r1 :: nr) := mem_ownR (r := r1) (by simp) (by simp [NR.adr]);obtain ⟨oz, ezs, eze, ez, hzr⟩ := id hz;refine (dob hr1.arc) _ fun oa ea1 hxa => ?_;refine (F.oneF hb2 hs' ez hr1.lo ea1 (fun o e => subW I_sh (I_sub _ (hosub _ ea)) o e) (t := s.toks + 1) (d := s.drawn)) _ fun b4 F hb4 k4 e4 => ?_;have ne : ∀ z ∈ ownA c N S (r0 :: r1 :: nr), ∀ a o, a ∉ ownA c0 N S ns0 -> q.get? a = some o -> a ≠ z := fun z hz a o ha e q => by
      rcases I_sub z hz with h1 | h1
      ·exact ha (q ▸ h1)
      ·rw [← q, hq _ o e] at h1; cases h1
     have kt4 : ∀ b' vs, b2.get? b' = some (tupO vs) -> b4.get? b' = some (tupO vs) := fun b' vs e => k4 _ _ (There.neT ⟨_, ea1, by rw [hxa.1]; decide⟩ e) e;have e1 : ownA c N S (r1 :: nr) = ([N, S] ++ c.addrs) ++ ([r1.p.x, r1.p.d, r1.p.a] ++ nr.flatMap NR.adr) := by simp [ownA, NR.adr]
     rw [e1, List.nodup_append] at nd1;obtain ⟨z1, z2, z3⟩ := nd1;have a1 : ∀ {z}, z ∈ [N, S] ++ c.addrs -> z ≠ r1.p.a := fun hz q => z3 _ hz r1.p.a (by simp) q;simp only [List.cons_append, List.nil_append, List.nodup_cons, List.mem_cons, not_or] at z2;have a2 : ∀ {z}, z ∈ nr.flatMap NR.adr -> z ≠ r1.p.a := fun hz q => z2.2.2.1 (q ▸ hz);refine j1i _ _ ?_;rw [hreg];refine Mid.ex (ns := { r1 with arcs := storedI r1.arcs (lab l.lab) i ti } :: nr) ⟨F, I_sh, hb4, fun a o ha e => k4 _ _ (ne _ (hosub _ ea) a o ha e) (k2 _ _ (k1 _ _ (ne _ mem_ownN a o ha e) (I_kq a o ha e))), ⟨hD2.other B.out fun a ha o e => k4 _ _ (a1 (List.mem_append_right _ ha)) e, ⟨_, k4 _ _ (a1 (by simp)) (by rw [List.reverse_cons, List.map_append]; exact eN2)⟩, fun r hr => ?_, DictOfH_other hS2 (fun o e => k4 _ _ (a1 (by simp)) e) kt4, ?_, B.rows, B.fin, B.nf, B.out, B.len, B.hit, B.miss, hop, B.loN, B.loS⟩, ?_, hodis, fun a ha => I_sub a (hosub a ha), I_cx, I_m1, I_m2, I_m3, I_m4, I_m5, rfl, ti, rfl⟩
     ·rcases List.mem_cons.mp hr with rfl | hr
      ·exact ⟨⟨k4 _ _ (fun q => z2.1.2.1 q) hr1.obj, ⟨ua, ub, uc, ud, uk, k4 _ _ (fun q => z2.2.1.1 q) ue⟩, ⟨oz, ezs, eze, e4, hzr⟩, hr1.lo⟩, hr1d⟩
      ·exact ⟨(hnodes2 r (by simp [hr])).1.other fun a ha o e => k4 _ _ (a2 (List.mem_flatMap.mpr ⟨r, hr, ha⟩)) e, (hnodes2 r (by simp [hr])).2⟩
     ·show _ :: _ = _ :: _;rw [show pyBelow (up l i).n bl = pyBelow l.n bl from rfl, ← hnr]
      congr 1
      show (r1.n, keyOf (storedI r1.arcs (lab l.lab) i ti), r1.fin) = (l.n, enc (l.pre ++ [(l.lab, i)]), l.fin);rw [keyOf_storedI, show keyOf r1.arcs = enc (l.pre ++ [(l.lab, t0.n)]) from h1a, pStore_last (hP.pre _ _ _ _ hPt), h1n, h1f]
     ·exact hr2.other fun a ha o e => k4 _ _ (fun q => hodis a ha (q ▸ ea)) e
    ·unfold intPairs;rw [List.length_map];have := congrArg List.length (show keyOf r1.arcs = enc (l.pre ++ [(l.lab, t0.n)]) from h1a);simp only [keyOf, enc, List.length_map, List.length_append, List.length_cons, List.length_nil] at this;have h9 := (hP.asc _ _ _ (hP.next _ _ _ _ hPt)).2;simp only [up, List.length_append, List.length_cons, List.length_nil] at h9;rw [sizeLine_eq]; exact ar182 this h9
  ·intro f s hJ1;obtain ⟨rfl, sE, b, m, c, ns, xs, ⟨M_F, M_sh, M_hb, M_kq, M_B, M_nod, M_dis, M_sub, M_cx, M_m1, M_m2, M_m3, M_m4, M_m5, M_m6, M_m7⟩⟩ := j1o _ _ hJ1;have F := M_F;dsimp only;refine wpAny_execs_cons (wpAny_For (Call_ (m_glob F (gl_iteritems w) ?_)) (by intro _; rfl));obtain ⟨va, vb, vc, vd, vk, ve⟩ := M_nod.dic;refine m_cw (by rfl) (args_cons (m_attr (m_local F (by exact M_m6) (m_get F (at_arcs w) M_nod.obj ve (by rfl) rfl fun s F => args_nil ⟨F.g.X, ?_⟩))));refine iteritems_spec F.g (hB _) M_nod.lo (M_nod.arc.keep F.keep) fun s v St hv vn vl => ?_;have F := F.grow St;obtain ⟨ep, hat⟩ := M_nod.arc.dictAt;have sh := M_sh;have hfin : addAll (reg R t0).2 (encR (rowsOf R)) (keyOf r0.arcs) = encR (rowsOf (reg R t0).1) := by
    rw [show keyOf r0.arcs = enc t0.arcs from hra];cases hid : R.id? (t0.arcs, t0.fin) with
    | none =>
     have hreg : reg R t0 = (((t0.arcs, t0.fin), t0.n) :: R, t0.n) := by unfold reg; rw [hid]
     rw [hreg];show addAll t0.n (encR (rowsOf R)) (enc t0.arcs) = encR (rowsOf (((t0.arcs, t0.fin), t0.n) :: R));rw [rowsOf_cons, addAll_fresh (fun x hx => by obtain ⟨y, hy, rfl⟩ := List.mem_map.mp hx; exact hP.new _ _ _ hPt hid y hy) _ (enc_nodup hasc)];unfold encR;rw [List.map_append]
     congr 1
     by_cases he : t0.arcs = []
     ·rw [he]; rfl
     ·rw [if_neg he, if_neg (by intro q; exact he (enc_inj (b := []) q))]; rfl
    | some i =>
     have hreg : reg R t0 = (R, i) := by unfold reg; rw [hid]
     rw [hreg]
     by_cases he : t0.arcs = []
     ·rw [he]; rfl
     ·refine addAll_same (arcs := enc t0.arcs) ?_ ?_ (enc_nodup hasc) _ (fun x hx => hx)
      ·obtain ⟨_, _, _, _, _, _, _, _, hn⟩ := M_B.D.T;rw [← M_B.rows];have e : c.rows.map (·.1) = c.kvs.map (·.1) := by unfold DC.rows DC.kvs; rw [List.map_map, List.map_map]; rfl
       rw [e]; exact hn
      ·exact List.mem_map.mpr ⟨_, hP.row _ _ _ hPt i hid he, rfl⟩
   have hsm : c.Small 0 := by
    have e1 := congrArg List.length M_B.rows;have e0 : (rowsOf R).length <= R.length := by unfold rowsOf; refine Nat.le_trans (List.length_filterMap_le _ _) ?_; rw [List.length_reverse]; exact Nat.le_refl _
    simp only [DC.rows, encR, List.length_map] at e1;refine ⟨by have := I_len; exact ar84 e0 e1 this, fun z hz => ?_⟩;have hz' : (z.1, keyOf z.2.2) ∈ encR (rowsOf R) := by rw [← M_B.rows]; exact List.mem_map.mpr ⟨z, hz, rfl⟩
    obtain ⟨y, hy, e⟩ := List.mem_map.mp hz';obtain ⟨v, hv, e2⟩ := List.mem_filterMap.mp hy;have := hP.rlen _ _ _ hPt v (List.mem_reverse.mp hv);have e3 := congrArg (fun p : Int × List (Str × Int) => p.2.length) e;simp only [enc, keyOf, List.length_map] at e3
    split at e2
    ·cases e2
    ·cases e2; simp at e3; exact ar204 this e3
   obtain ⟨tt7, m7⟩ := M_m7;refine for_items (knd := strKind PP w) (kvs := intPairs r0.arcs) (ep := ep) (hB default).hh (MwK w N S ns xs (fun i => addAll (reg R t0).2 (encR (rowsOf R)) ((keyOf r0.arcs).take i)) (reg R t0).1 (nextS t0 bl (reg R t0).2) (fra outer) (ownA c0 N S ns0) q r0 ep s0.heap c0.x (.str u tu) (.int d td) (reg R t0).2)
    (fun i b m h => h _ fun _ _ _ _ _ _ hat _ _ _ _ _ _ _ _ _ _ => hat) F hv (fun _ kk => kk c M_B hsm M_hb M_kq M_nod hat M_dis M_sub M_cx M_m1 M_m2 M_m3 M_m4 M_m5 tt7 m7) ?_ ?_
   ·intro i l val key s b m H' hH hkv hkey hJ3 F;refine gQ fun Q3 E3 hQ3 hE3 => ?_;refine hJ3 _ fun c1 B sm hb kq nod hat dis sub cx n1 n2 n3 n4 n5 tt n7 => ?_;obtain ⟨dd, td', harc, rfl⟩ := intPairs_get hkv;obtain ⟨tl, rfl⟩ := Value.isStrOf_shape hkey;refine wpAny_execs_cons (wpAny_Expr (MethodCall_ (m_local F (v := .ref c1.x.m) (by have := n1; rw [← cx] at this; exact this) (o_meth F (mt_add_transition w) B.D.obj (m_cw (by rfl) (args_cons (m_local F (by exact n7) (args_cons (m_local F (by rfl) (args_cons (m_local F (by rfl) (args_nil ⟨F.g.X, ?_⟩))))))))))) (by rfl) (by rfl));have hi : i < r0.arcs.length := (List.getElem?_eq_some_iff.mp harc).1;refine add_transition_spec F.g (hB _) (B.D.keeps F.keep) (by have := sm.a; rw [sizeLine_eq]; exact Nat.le_trans (Nat.le_trans this (Nat.add_le_add_left (Nat.le_of_lt (Nat.lt_trans hi h64')) _)) (by decide)) (fun z hz => ?_) fun s' x St D' xn => ?_
    ·unfold DC.look at hz;cases hf : c1.tra.find? fun x => decide (x.1 = (reg R t0).2) with
     | none => rw [hf] at hz; cases hz
     | some y =>
      rw [hf] at hz; cases hz;have := sm.b y (List.mem_of_find?_eq_some hf);show y.2.2.length <= _;rw [sizeLine_eq]; exact Nat.le_trans (Nat.le_trans this (Nat.add_le_add_left (Nat.le_of_lt (Nat.lt_trans hi h64')) _)) (by decide)
    have rsub : ∀ a, c1.rowW a -> a ∈ c1.addrs := fun a ha => by
     rcases ha with rfl | ha
     ·simp [DC.addrs]
     ·exact List.mem_append_right _ ha
    have liveA : ∀ a ∈ c1.addrs, ∃ o, b.get? a = some o := fun a ha => (B.D.there a ha).ex;have F0 := F;refine (F.changeF hb St (fun q => by obtain ⟨o, e⟩ := liveA _ (rsub _ q); exact F.ne e rfl) (fun p hp q => by obtain ⟨o, e⟩ := liveA _ (rsub _ q); exact F.neH e (List.mem_cons_of_mem _ (List.mem_map_of_mem hp))) (fun a o ha e => subW sh (sub _ (mem_ownC (rsub a ha))) o e)) _ fun b' F hb' kb kn => ?_;have hadr : ∀ a ∈ (c1.addT (reg R t0).2 l dd td' x).addrs, a ∈ c1.addrs ∨ a = x := fun a ha => by
     rcases addT_addrs c1 (reg R t0).2 l dd td' x with h1 | h1
     ·rw [h1] at ha; exact .inl ha
     ·rw [h1] at ha;rcases List.mem_append.mp ha with ha | ha
      ·exact .inl ha
      ·rw [List.mem_singleton] at ha; exact .inr ha
    have xfresh : b.get? x = none := by
     cases e : b.get? x with
     | none => rfl
     | some o => rw [F0.keep _ _ e] at xn; cases xn
    have xf0 : s0.heap.get? x = none := by
     have e1 := F0.tot.none_of xn;cases e : s0.heap.get? x with
     | none => rfl
     | some o => obtain ⟨o', e'⟩ := sh.some e; rw [e1] at e'; cases e'
    have ktb : ∀ b1 vs, b.get? b1 = some (tupO vs) -> b'.get? b1 = some (tupO vs) := fun b1 vs e => kb _ _ (fun q => (B.D.there _ (rsub _ q)).neT e rfl) e;obtain ⟨r1, r2, r3, r4⟩ := c1.addT_rest (reg R t0).2 l dd td' x;have hown' : (ownA (c1.addT (reg R t0).2 l dd td' x) N S ns).Nodup := by
     rcases addT_addrs c1 (reg R t0).2 l dd td' x with h1 | h1
     ·unfold ownA; rw [h1]; exact B.own
     ·have hx : x ∉ ownA c1 N S ns := fun hm => by obtain ⟨o, e⟩ := (B.there _ hm).ex; rw [xfresh] at e; cases e
      have e2 : ownA (c1.addT (reg R t0).2 l dd td' x) N S ns = ([N, S] ++ c1.addrs) ++ (x :: ns.flatMap NR.adr) := by unfold ownA; rw [h1]; simp
      have e3 : ownA c1 N S ns = ([N, S] ++ c1.addrs) ++ ns.flatMap NR.adr := by unfold ownA; simp
      have nd := B.own;rw [e3] at nd hx;rw [e2];rw [List.nodup_append] at nd ⊢;simp only [List.mem_append, not_or] at hx;refine ⟨nd.1, List.nodup_cons.mpr ⟨hx.2, nd.2.1⟩, fun a ha b hb => ?_⟩;rcases List.mem_cons.mp hb with rfl | hb
      ·intro q; rw [q] at ha;rcases List.mem_append.mp ha with ha | ha
       ·exact hx.1.1 ha
       ·exact hx.1.2 ha
      ·exact nd.2.2 a ha b hb
    have hownsub : ∀ a ∈ ownA (c1.addT (reg R t0).2 l dd td' x) N S ns, a ∈ ownA c1 N S ns ∨ a = x := fun a ha => by
     unfold ownA at ha;rcases List.mem_append.mp ha with ha | ha
     ·exact .inl (List.mem_append_left _ ha)
     ·rcases List.mem_append.mp ha with ha | ha
      ·rcases hadr a ha with h1 | h1
       ·exact .inl (mem_ownC h1)
       ·exact .inr h1
      ·exact .inl (List.mem_append_right _ (List.mem_append_right _ ha))
    refine wpAny_execs_nil (hQ3 _ _ ⟨b', _, F, fun _ kk => kk (c1.addT (reg R t0).2 l dd td' x) (B.machine ?_ (fun a ha hna o e => kb _ _ (fun q => hna (rsub _ q)) e) ktb ?_ (r2.trans B.fin) (by rw [r3]; exact B.nf) (r4.trans B.out) hown') (sm.addT _ _ _ _ _) hb' (fun a o ha e => ?_) (nod.other fun a ha o e => ?_) ?_ (fun a ha hm => ?_) (fun a ha => ?_) (r1 ▸ cx) n1 n2 n3 n4 n5 tt n7⟩)
    ·refine D'.other (r4.trans B.out) fun a ha o e => ?_;rcases hadr a ha with h1 | h1
     ·obtain ⟨o', e'⟩ := liveA a h1;exact kn a o (F0.neH e') (fun hm => by rw [hb a hm] at e'; cases e') e
     ·rw [h1] at e ⊢;refine kn x o (fun hm => ?_) (fun hm => ?_) e
      ·rcases List.mem_cons.mp hm with rfl | hm
       ·exact absurd F0.lt (Nat.not_lt.mpr (by have := (F0.none_of (a := s0.heap.objs.size)); exact Nat.le_of_not_lt fun hl => by obtain ⟨oL, _, _, eL, _⟩ := F0.ns; rw [xn] at eL; cases eL))
       ·obtain ⟨p, hp, q⟩ := List.mem_map.mp hm;have := (F0.hid p hp).1; rw [q, xn] at this; cases this
      ·obtain ⟨o', e', _⟩ := hF.mem hm; rw [xf0] at e'; cases e'
    ·rw [DC.rows_addT, B.rows];have e : (keyOf r0.arcs).take (i + 1) = (keyOf r0.arcs).take i ++ [(l, dd)] := by
      rw [List.take_add_one];unfold keyOf;rw [List.getElem?_map, harc]; rfl
     dsimp only;rw [e, addAll_snoc]
    ·refine kb _ _ (fun q' => ?_) (kq a o ha e);rcases sub a (mem_ownC (rsub _ q')) with h1 | h1
     ·exact ha h1
     ·rw [hq _ o e] at h1; cases h1
    ·exact kb _ _ (fun q => dis a ha (mem_ownC (rsub _ q))) e
    ·exact hat.at fun o e => kb _ _ (fun q => dis _ (by simp [NR.adr]) (mem_ownC (rsub _ q))) e
    ·rcases hownsub a hm with h1 | h1
     ·exact dis a ha h1
     ·obtain ⟨o, e⟩ := (nod.there _ ha).ex; rw [h1, xfresh] at e; cases e
    ·rcases hownsub a ha with h1 | h1
     ·exact sub a h1
     ·rw [h1]; exact .inr xf0
   ·intro s b m hLp F;refine hLp _ fun c1 B sm hb kq nod hat dis sub cx n1 n2 n3 n4 n5 tt n7 => ?_;dsimp only at B;rw [List.take_of_length_le (by unfold keyOf intPairs; simp), hfin] at B;refine wpAny_execs_nil (wpAny_execs_nil (hQ1 _ _ ⟨ssLen (nextS t0 bl (reg R t0).2), ?_, j0i _ _ ⟨sE, b, m, c1, ns, xs, (reg R t0).1, nextS t0 bl (reg R t0).2, ⟨F, sh, hb, kq, B, sub, cx, ?_, ?_, ?_, n1, n2, n3, n4, n5⟩, rfl⟩⟩))
    ·cases bl <;> simp [nextS, ssLen]
    ·rw [← I_out];cases bl with
     | nil =>
      show _ = outc d R t0 [];unfold outc;rw [if_neg (by simp [ssLen] at hgt; exact ar268 hgt)]; rfl
     | cons l bl =>
      show outc d (reg R t0).1 (up l (reg R t0).2) bl = outc d R t0 (l :: bl)
      conv => rhs; unfold outc
      rw [if_neg (by simp [ssLen] at hgt; exact Nat.not_le_of_lt hgt)]
    ·intro t bl' e;cases bl with
     | nil => cases e
     | cons l bl => cases e; exact hP.next _ _ _ _ hPt
    ·have h1 := I_len;have h2 : (reg R t0).1.length <= R.length + 1 := by unfold reg; split <;> simp
     cases bl <;> simp [nextS, ssLen] at h1 ⊢ <;> lia
 ·refine ifF (show decide ((d : Int) < (ssLen ss : Int)) = false by simpa using hgt) ?_;refine wpAny_execs_nil (hQ2 _ _ (wpAny_execs_nil ?_));have ho : outS d R ss = (R, ss) := by
   cases ss with
   | none => rfl
   | some x =>
    obtain ⟨t, bl⟩ := x;show outc d R t bl = _;cases bl with
    | nil => unfold outc; rw [if_pos (by simp [ssLen] at hgt; exact Nat.one_le_iff_ne_zero.mpr hgt)]
    | cons l bl => unfold outc; rw [if_pos (by simp [ssLen] at hgt; exact hgt)]
  have B := I_B;have hout := I_out;rw [ho] at hout;rw [← hout] at h;exact hQ0 _ _ (h sE _ b c ns xs I_sh (F.done' (I_sh.none (Heap.get?_size_none _) fun hm => (frW _ hm).2 rfl)) F.keep I_hb I_kq B I_sub I_cx)
end
end Mine
end
section
open PySem PySem.W PySem.Calls PyProof.Rows
namespace Mine
noncomputable def ids (R : RG) : List Int := R.map (·.2)
noncomputable def own (arcs : List (Nat × Int)) (fin : Bool) (f : Int -> List (List Nat)) : List (List Nat) := (if fin then [[]] else []) ++ arcs.flatMap fun x => (f x.2).map (x.1 :: ·)
noncomputable def lang : RG -> Int -> List (List Nat)
 | [], _ => []
 | ((arcs, fin), id) :: r, q => if q = id then own arcs fin (lang r) else lang r q
noncomputable def ArcOk (I : List Int) (x : Nat × Int) : Prop := x.2 ∈ I ∧ 97 <= x.1 ∧ x.1 <= 99
noncomputable def WF : RG -> Prop
 | [] => True
 | ((arcs, fin), id) :: r => WF r ∧ id ∉ ids r ∧ (arcs, fin) ∉ r.map (·.1) ∧ AscL arcs ∧ (∀ x ∈ arcs, ArcOk (ids r) x) ∧ (fin = true ∨ arcs ≠ [])
noncomputable def tot (f : Int -> List (List Nat)) : List (List Nat) -> List PL -> List (List Nat)
 | acc, [] => acc
 | acc, l :: bl => tot f (own l.pre l.fin f ++ acc.map (l.lab :: ·)) bl
noncomputable def path (bl : List PL) : List Nat := (bl.map (·.lab)).reverse
theorem own_congr {arcs : List (Nat × Int)} {fin : Bool} {f g : Int -> List (List Nat)} (h : ∀ x ∈ arcs, f x.2 = g x.2) : own arcs fin f = own arcs fin g := by
 unfold own
 congr 1
 induction arcs with
 | nil => rfl
 | cons x r ih =>
  rw [List.flatMap_cons, List.flatMap_cons, h x (by simp), ih fun y hy => h y (by simp [hy])]
theorem own_snoc (arcs : List (Nat × Int)) (fin : Bool) (f : Int -> List (List Nat)) (l : Nat) (i : Int) : own (arcs ++ [(l, i)]) fin f = own arcs fin f ++ (f i).map (l :: ·) := by
 unfold own; rw [List.flatMap_append]; simp
theorem tot_congr {f g : Int -> List (List Nat)} : ∀ (bl : List PL) (acc : List (List Nat)), (∀ l ∈ bl, ∀ x ∈ l.pre, f x.2 = g x.2) -> tot f acc bl = tot g acc bl
 | [], _, _ => rfl
 | l :: bl, acc, h => by
  show tot f _ bl = tot g _ bl;rw [own_congr (h l (by simp))];exact tot_congr bl _ fun l' hl => h l' (by simp [hl])
theorem tot_append {f : Int -> List (List Nat)} : ∀ (bl : List PL) (a b : List (List Nat)), tot f (a ++ b) bl = tot f a bl ++ b.map (path bl ++ ·)
 | [], a, b => by simp [tot, path]
 | l :: bl, a, b => by
  show tot f _ bl = tot f _ bl ++ _;rw [List.map_append, ← List.append_assoc, tot_append bl]
  congr 1
  rw [List.map_map];refine List.map_congr_left fun x _ => ?_;simp [path]
theorem id?_mem {R : RG} {k : List (Nat × Int) × Bool} {i : Int} (h : R.id? k = some i) : (k, i) ∈ R := by
 unfold RG.id? at h;cases hf : R.find? fun x => decide (x.1 = k) with
 | none => rw [hf] at h; cases h
 | some x =>
  rw [hf] at h;have h1 := List.mem_of_find?_eq_some hf;have h2 := List.find?_some hf;simp at h2 h;obtain ⟨a, b⟩ := x;simp at h2 h; subst h2; subst h; exact h1
theorem id?_none {R : RG} {k : List (Nat × Int) × Bool} (h : R.id? k = none) : k ∉ R.map (·.1) := by
 intro hm;obtain ⟨x, hx, e⟩ := List.mem_map.mp hm;unfold RG.id? at h;rw [Option.map_eq_none_iff, List.find?_eq_none] at h;exact h x hx (by simp [e])
theorem lang_cons {a : List (Nat × Int)} {f : Bool} {i q : Int} {R : RG} (h : i ∉ ids R) (hq : q ∈ ids R) : lang (((a, f), i) :: R) q = lang R q := by
 show (if q = i then _ else _) = _;rw [if_neg (fun e : q = i => h (e ▸ hq))]
structure LangM (R : RG) (a : List (Nat × Int)) (f : Bool) (i : Int) : Prop where
 e : lang R i = own a f (lang R)
 ok : ∀ x ∈ a, ArcOk (ids R) x
 asc : AscL a
 ne : f = true ∨ a ≠ []
theorem lang_mem {R : RG} (w : WF R) : ∀ {a : List (Nat × Int)} {f : Bool} {i : Int}, ((a, f), i) ∈ R -> LangM R a f i := by
 induction R with
 | nil => intro a f i h; cases h
 | cons x r ih =>
  obtain ⟨⟨a0, f0⟩, i0⟩ := x;obtain ⟨w1, w2, w3, w4, w5, w6⟩ := w;intro a f i h;have up : ∀ x : Nat × Int, ArcOk (ids r) x -> ArcOk (ids (((a0, f0), i0) :: r)) x := fun x hx => ⟨List.mem_cons_of_mem _ hx.1, hx.2⟩;rcases List.mem_cons.mp h with h | h
  ·cases h;refine ⟨?_, fun x hx => up x (w5 x hx), w4, w6⟩
   show (if i0 = i0 then _ else _) = _;rw [if_pos rfl];exact (own_congr fun x hx => (lang_cons w2 (w5 x hx).1)).symm
  ·obtain ⟨h1, h2, h3, h4⟩ := ih w1 h;have hi : i ∈ ids r := List.mem_map.mpr ⟨_, h, rfl⟩;refine ⟨?_, fun x hx => up x (h2 x hx), h3, h4⟩;rw [lang_cons w2 hi, h1];exact (own_congr fun x hx => (lang_cons w2 (h2 x hx).1)).symm
theorem AscL.len {a : List (Nat × Int)} (h : AscL a) (hl : ∀ x ∈ a, 97 <= x.1 ∧ x.1 <= 99) : a.length <= 3 := by
 rcases a with _ | ⟨w, _ | ⟨x, _ | ⟨y, _ | ⟨z, r⟩⟩⟩⟩
 ·simp
 ·simp
 ·simp
 ·simp
 ·exfalso
  simp only [AscL, List.pairwise_cons, List.mem_cons] at h;have h1 := h.1 x (by simp);have h2 := h.2.1 y (by simp);have h3 := h.2.2.1 z (by simp);have a1 := hl w (by simp);have a4 := hl z (by simp);exact ar90 h1 h2 h3 a1 a4
structure Inv (u : List Nat) (D : List (List Nat)) (n : Int) (R : RG) (t : PT) (bl : List PL) : Prop where
 wf : WF R
 nd : (t.n :: bl.map (·.n) ++ ids R).Nodup
 lt : ∀ i ∈ t.n :: bl.map (·.n) ++ ids R, 0 <= i ∧ i < n
 root : (t.n :: bl.map (·.n)).getLast (by simp) = 0
 ta : AscL t.arcs ∧ ∀ x ∈ t.arcs, ArcOk (ids R) x
 ba : ∀ l ∈ bl, AscL (l.pre ++ [(l.lab, 0)]) ∧ (∀ x ∈ l.pre, ArcOk (ids R) x) ∧ 97 <= l.lab ∧ l.lab <= 99
 pa : path bl = u.take bl.length ∧ bl.length <= u.length
 full : bl.length = u.length -> t.arcs = [] ∧ (u ≠ [] -> t.fin = true)
 part : bl.length < u.length -> ∃ pre i, t.arcs = pre ++ [(u.getD bl.length 0, i)]
 lan : tot (lang R) (own t.arcs t.fin (lang R)) bl = D
 rch : ∀ i ∈ ids R, ∃ z, z ≠ [] ∧ ∀ x ∈ lang R i, z ++ x ∈ D
 tgt : ∀ i ∈ ids R, (∃ y ∈ R, i ∈ y.1.1.map (·.2)) ∨ i ∈ t.arcs.map (·.2) ∨ ∃ l ∈ bl, i ∈ l.pre.map (·.2)
 ne : u ≠ [] -> D ≠ []
 sz : R.length + bl.length + 1 <= n.toNat
theorem Inv.init : Inv [] [] 1 [] ⟨0, [], false⟩ [] where
 wf := trivial
 nd := by simp [ids]
 lt := by intro i hi; simp [ids] at hi; exact ar298 hi
 root := rfl
 ta := ⟨.nil, fun x hx => nomatch hx⟩
 ba := fun l hl => nomatch hl
 pa := ⟨rfl, by simp⟩
 full := fun _ => ⟨rfl, fun h => absurd rfl h⟩
 part := fun h => by simp at h
 lan := rfl
 rch := fun i hi => nomatch hi
 tgt := fun i hi => nomatch hi
 ne := fun h => absurd rfl h
 sz := by simp
theorem reg_spec {R : RG} {t : PT} (w : WF R) (hn : t.n ∉ ids R) (ha : AscL t.arcs) (hx : ∀ x ∈ t.arcs, ArcOk (ids R) x) (ht : t.fin = true ∨ t.arcs ≠ []) :
  WF (reg R t).1 ∧ (∀ q ∈ ids R, lang (reg R t).1 q = lang R q ∧ q ∈ ids (reg R t).1) ∧ lang (reg R t).1 (reg R t).2 = own t.arcs t.fin (lang R) ∧ (reg R t).2 ∈ ids (reg R t).1 ∧ (∀ q ∈ ids (reg R t).1, q ∈ ids R ∨ (q = (reg R t).2 ∧ q = t.n)) ∧ (reg R t).1.length <= R.length + 1 ∧
  ((reg R t).1 = R ∧ ((t.arcs, t.fin), (reg R t).2) ∈ R ∨ (reg R t) = (((t.arcs, t.fin), t.n) :: R, t.n) ∧ R.id? (t.arcs, t.fin) = none) := by
 cases hid : R.id? (t.arcs, t.fin) with
 | none =>
  have e : reg R t = (((t.arcs, t.fin), t.n) :: R, t.n) := by unfold reg; rw [hid]
  rw [e];refine ⟨⟨w, hn, id?_none hid, ha, hx, ht⟩, fun q hq => ⟨lang_cons hn hq, List.mem_cons_of_mem _ hq⟩, ?_, by simp [ids], fun q hq => ?_, by simp, .inr ⟨rfl, rfl⟩⟩
  ·show (if t.n = t.n then _ else _) = _;rw [if_pos rfl]
  ·simp only [ids, List.map_cons, List.mem_cons] at hq;rcases hq with hq | hq
   ·exact .inr ⟨hq, hq⟩
   ·exact .inl hq
 | some i =>
  have e : reg R t = (R, i) := by unfold reg; rw [hid]
  rw [e];have hm := id?_mem hid;exact ⟨w, fun q hq => ⟨rfl, hq⟩, (lang_mem w hm).e, List.mem_map.mpr ⟨_, hm, rfl⟩, fun q hq => .inl hq, by simp, .inl ⟨rfl, hm⟩⟩
theorem ArcOk.mono {I J : List Int} {x : Nat × Int} (h : ArcOk I x) (hs : ∀ q ∈ I, q ∈ J) : ArcOk J x := ⟨hs _ h.1, h.2⟩
theorem AscL.swap {pre : List (Nat × Int)} {l : Nat} {i j : Int} (h : AscL (pre ++ [(l, i)])) : AscL (pre ++ [(l, j)]) := by
 unfold AscL at *;rw [List.pairwise_append] at *;refine ⟨h.1, by simp, fun x hx y hy => ?_⟩;rw [List.mem_singleton] at hy; subst hy;exact h.2.2 x hx (l, i) (by simp)
theorem Inv.trim {u : List Nat} {D : List (List Nat)} {n : Int} {R : RG} {t : PT} {bl : List PL} (I : Inv u D n R t bl) (hu : u ≠ []) : t.fin = true ∨ t.arcs ≠ [] := by
 by_cases h : bl.length = u.length
 ·exact .inl ((I.full h).2 hu)
 ·obtain ⟨pre, i, e⟩ := I.part (by have := I.pa.2; exact ar50 h this)
  right; rw [e]; simp
theorem Inv.notin {u : List Nat} {D : List (List Nat)} {n : Int} {R : RG} {t : PT} {bl : List PL} (I : Inv u D n R t bl) : t.n ∉ ids R := by
 have := I.nd;simp only [List.cons_append, List.nodup_cons, List.mem_append, not_or] at this;exact this.1.2
theorem tot_mem {f : Int -> List (List Nat)} {x : List Nat} : ∀ (bl : List PL) (acc : List (List Nat)), x ∈ acc -> path bl ++ x ∈ tot f acc bl
 | [], acc, h => by simpa [path, tot] using h
 | l :: bl, acc, h => by
  have := tot_mem (f := f) (x := l.lab :: x) bl (own l.pre l.fin f ++ acc.map (l.lab :: ·)) (List.mem_append_right _ (List.mem_map.mpr ⟨x, h, rfl⟩))
  simpa [path, tot] using this
theorem Inv.pop {u : List Nat} {D : List (List Nat)} {n : Int} {R : RG} {t : PT} {l : PL} {bl : List PL} (I : Inv u D n R t (l :: bl)) : Inv u D n (reg R t).1 (up l (reg R t).2) bl := by
 have hu : u ≠ [] := by have := I.pa.2; intro q; rw [q] at this; simp at this
 obtain ⟨s1, s2, s3, s4, s5, s6, s7⟩ := reg_spec I.wf I.notin I.ta.1 I.ta.2 (I.trim hu);obtain ⟨b1, b2, b3, b4⟩ := I.ba l (by simp);have sub : ∀ q ∈ ids R, q ∈ ids (reg R t).1 := fun q hq => (s2 q hq).2;have hl : l.lab = u.getD bl.length 0 := by
  have h1 := I.pa.1;have h2 := I.pa.2;simp only [path, List.map_cons, List.reverse_cons, List.length_cons] at h1 h2;rw [List.take_add_one] at h1;have h3 : (List.map (·.lab) bl).reverse.length = (u.take bl.length).length := by simp; lia
  have h4 := (List.append_inj h1 h3).2;rw [List.getElem?_eq_getElem (h2)] at h4;simp at h4;rw [h4]; simp [List.getD, List.getElem?_eq_getElem (show bl.length < u.length from h2)]
 have hp : path bl = u.take bl.length := by
  have h1 := I.pa.1;have h2 := I.pa.2;simp only [path, List.map_cons, List.reverse_cons, List.length_cons] at h1 h2;rw [List.take_add_one] at h1;exact (List.append_inj h1 (by simp; lia)).1
 have hlen : bl.length < u.length := by have := I.pa.2; simp at this; exact this
 have nd := I.nd;have lan := I.lan;refine ⟨s1, ?_, ?_, ?_, ⟨b1.swap, fun x hx => ?_⟩, fun l' hl' => ?_, ⟨hp, (ar27 hlen)⟩, fun h => absurd h (ar12 hlen), fun _ => ⟨l.pre, _, by rw [← hl]; rfl⟩, ?_, fun i hi => ?_, fun i hi => ?_, I.ne, ?_⟩
 ·-- ids apart
  simp only [List.map_cons, List.cons_append, List.nodup_cons, List.mem_cons, List.mem_append, not_or] at nd;obtain ⟨⟨n1, n2, n3⟩, ⟨n4, n5⟩, n6⟩ := nd
  show ((up l _).n :: bl.map (·.n) ++ _).Nodup;have e : (up l (reg R t).2).n = l.n := rfl;rw [e];simp only [List.cons_append, List.nodup_cons, List.mem_append, not_or];rw [List.nodup_append] at n6 ⊢;refine ⟨⟨n4, fun hm => ?_⟩, n6.1, ?_, fun a ha b hb => ?_⟩
  ·rcases s5 _ hm with h | h
   ·exact n5 h
   ·exact n1 h.2.symm
  ·rcases s7 with ⟨e, _⟩ | ⟨e, _⟩
   ·rw [e]; exact n6.2.1
   ·rw [e]; exact List.nodup_cons.mpr ⟨n3, n6.2.1⟩
  ·rcases s5 b hb with h | h
   ·exact n6.2.2 a ha b h
   ·intro q; subst q; exact n2 (h.2 ▸ ha)
 ·intro i hi;have e : (up l (reg R t).2).n = l.n := rfl;rw [e] at hi;rcases List.mem_append.mp hi with hi | hi
  ·exact I.lt i (List.mem_append_left _ (List.mem_cons_of_mem _ hi))
  ·rcases s5 i hi with h | h
   ·exact I.lt i (List.mem_append_right _ h)
   ·exact I.lt i (by rw [h.2]; simp)
 ·have := I.root
  simpa [up, List.getLast_cons] using this
 ·rcases List.mem_append.mp hx with hx | hx
  ·exact (b2 x hx).mono sub
  ·rw [List.mem_singleton] at hx; subst hx; exact ⟨s4, b3, b4⟩
 ·obtain ⟨c1, c2, c3⟩ := I.ba l' (by simp [hl']);exact ⟨c1, fun x hx => (c2 x hx).mono sub, c3⟩
 ·rw [← lan];show tot (lang (reg R t).1) (own (l.pre ++ [(l.lab, (reg R t).2)]) l.fin (lang (reg R t).1)) bl = tot (lang R) (own l.pre l.fin (lang R) ++ (own t.arcs t.fin (lang R)).map (l.lab :: ·)) bl;rw [own_snoc, s3, own_congr (f := lang (reg R t).1) (g := lang R) fun x hx => (s2 _ (b2 x hx).1).1];exact tot_congr bl _ fun l' hl' x hx => (s2 _ ((I.ba l' (by simp [hl'])).2.1 x hx).1).1
 ·rcases s5 i hi with h | ⟨h, h'⟩
  ·obtain ⟨z, z1, z2⟩ := I.rch i h;exact ⟨z, z1, by rw [(s2 i h).1]; exact z2⟩
  ·refine ⟨path (l :: bl), by simp [path], fun x hx => ?_⟩;rw [h, s3] at hx;rw [← lan];exact tot_mem (l :: bl) _ hx
 ·have arcsIn : ∀ i, i ∈ t.arcs.map (·.2) -> ∃ y ∈ (reg R t).1, i ∈ y.1.1.map (·.2) := fun i hi => by
   rcases s7 with ⟨e, hm⟩ | ⟨e, _⟩
   ·rw [e]; exact ⟨_, hm, hi⟩
   ·rw [e]; exact ⟨_, List.mem_cons_self, hi⟩
  have old : ∀ y ∈ R, y ∈ (reg R t).1 := fun y hy => by
   rcases s7 with ⟨e, _⟩ | ⟨e, _⟩
   ·rw [e]; exact hy
   ·rw [e]; exact List.mem_cons_of_mem _ hy
  rcases s5 i hi with h | ⟨h, h'⟩
  ·rcases I.tgt i h with ⟨y, hy, hi⟩ | hi | ⟨l', hl', hi⟩
   ·exact .inl ⟨y, old y hy, hi⟩
   ·exact .inl (arcsIn i hi)
   ·rcases List.mem_cons.mp hl' with rfl | hl'
    ·exact .inr (.inl (by simp only [up, List.map_append, List.mem_append]; exact .inl hi))
    ·exact .inr (.inr ⟨l', hl', hi⟩)
  ·exact .inr (.inl (by simp [up, h]))
 ·have := I.sz;simp only [List.length_cons] at this;exact ar93 s6 this
end Mine
end
section
open PySem PySem.W PySem.Calls PyProof.Rows
namespace Mine
noncomputable def mkS (l : List Nat) : Str := ⟨l.toArray⟩
theorem longest : ∀ (D : List (List Nat)), D ≠ [] -> ∃ x ∈ D, ∀ y ∈ D, y.length <= x.length
 | [], h => absurd rfl h
 | [x], _ => ⟨x, by simp, fun y hy => by simp at hy; subst hy; exact Nat.le_refl _⟩
 | x :: y :: r, _ => by
  obtain ⟨z, hz, h⟩ := longest (y :: r) (by simp)
  by_cases c : z.length <= x.length
  ·exact ⟨x, by simp, fun w hw => by
    rcases List.mem_cons.mp hw with rfl | hw
    ·exact Nat.le_refl _
    ·exact Nat.le_trans (h w hw) c⟩
  ·exact ⟨z, List.mem_cons_of_mem _ hz, fun w hw => by
    rcases List.mem_cons.mp hw with rfl | hw
    ·exact ar49 c
    ·exact h w hw⟩
theorem no_loop {D : List (List Nat)} {z : List Nat} (hD : D ≠ []) (hz : z ≠ []) (h : ∀ x ∈ D, z ++ x ∈ D) : False := by
 obtain ⟨x, hx, hm⟩ := longest D hD;have := hm _ (h x hx);rw [List.length_append] at this;exact hz (List.eq_nil_of_length_eq_zero (ar207 this))
theorem Inv.fresh_root {u : List Nat} {D : List (List Nat)} {n : Int} {R : RG} {t : PT} (I : Inv u D n R t []) (hu : u ≠ []) : R.id? (t.arcs, t.fin) = none := by
 cases h : R.id? (t.arcs, t.fin) with
 | none => rfl
 | some i =>
  exfalso
  have hm := id?_mem h;obtain ⟨z, z1, z2⟩ := I.rch i (List.mem_map.mpr ⟨_, hm, rfl⟩);have e : lang R i = D := by rw [(lang_mem I.wf hm).e]; exact I.lan
  rw [e] at z2;exact no_loop (I.ne hu) z1 z2
theorem Inv.suffix (u : List Nat) (D : List (List Nat)) (n : Int) (d : Nat) (hn : n <= 1000) (hd : d = 0 -> u ≠ []) : SuffixP (mkS u) d (Inv u D n) where
 asc := fun R t bl I => ⟨I.ta.1, by have := I.ta.1.len (fun x hx => (I.ta.2 x hx).2); exact ar36 this⟩
 root := fun R t I h => I.fresh_root (hd h)
 lab := fun R t l bl I => by
  have h1 := I.pa.1;have h2 := I.pa.2;simp only [path, List.map_cons, List.reverse_cons, List.length_cons] at h1 h2;rw [List.take_add_one] at h1;have h4 := (List.append_inj h1 (by simp; lia)).2;rw [List.getElem?_eq_getElem (h2)] at h4;simp at h4;show u.toArray[bl.length]? = _;rw [List.getElem?_toArray, List.getElem?_eq_getElem (h2), h4]
 pre := fun R t l bl I x hx => by
  have := (I.ba l (by simp)).1;unfold AscL at this;rw [List.pairwise_append] at this;exact Nat.ne_of_lt (this.2.2 x hx (l.lab, 0) (by simp))
 next := fun R t l bl I => I.pop
 row := fun R t bl I i h ha => by
  unfold rowsOf;refine List.mem_filterMap.mpr ⟨_, List.mem_reverse.mpr (id?_mem h), ?_⟩;simp [ha]
 new := fun R t bl I h x hx => by
  obtain ⟨y, hy, e⟩ := List.mem_filterMap.mp hx;intro q
  split at e
  ·cases e
  ·cases e;exact I.notin (List.mem_map.mpr ⟨y, List.mem_reverse.mp hy, q⟩)
 bound := fun R t bl I => by have := I.sz; exact ar287 hn this
 rlen := fun R t bl I x hx => by
  obtain ⟨⟨a, f⟩, i⟩ := x;obtain ⟨_, h2, h3, _⟩ := lang_mem I.wf hx;have := h3.len fun x hx => (h2 x hx).2;show a.length < 64;exact ar36 this
theorem Inv.outc {u : List Nat} {D : List (List Nat)} {n : Int} {p : Nat} : ∀ {bl : List PL} {R : RG} {t : PT}, Inv u D n R t bl -> p <= bl.length -> ∃ R' t' bl', outc (p + 1) R t bl = (R', some (t', bl')) ∧ bl'.length = p ∧ Inv u D n R' t' bl'
 | [], R, t, I, h => by
  refine ⟨R, t, [], ?_, by simp at h; exact h.symm, I⟩;unfold Mine.outc;rw [if_pos (ar240)]
 | l :: bl, R, t, I, h => by
  by_cases c : bl.length + 2 <= p + 1
  ·refine ⟨R, t, l :: bl, ?_, by simp at h ⊢; exact Nat.eq_of_le_of_lt_succ h c, I⟩;unfold Mine.outc;rw [if_pos c]
  ·obtain ⟨R', t', bl', e, e2, I'⟩ := Inv.outc I.pop (p := p) (ar157 c);refine ⟨R', t', bl', ?_, e2, I'⟩
   conv => lhs; unfold Mine.outc
   rw [if_neg c]; exact e
noncomputable def push : PT -> List PL -> Int -> List Nat -> PT × List PL × Int
 | t, bl, n, [] => (⟨t.n, t.arcs, true⟩, bl, n)
 | t, bl, n, c :: r => push ⟨n, [], false⟩ (⟨t.n, t.arcs, t.fin, c⟩ :: bl) (n + 1) r
structure Mids (v : List Nat) (q : Nat) (D : List (List Nat)) (n : Int) (R : RG) (t : PT) (bl : List PL) : Prop where
 wf : WF R
 nd : (t.n :: bl.map (·.n) ++ ids R).Nodup
 lt : ∀ i ∈ t.n :: bl.map (·.n) ++ ids R, 0 <= i ∧ i < n
 root : (t.n :: bl.map (·.n)).getLast (by simp) = 0
 ta : AscL t.arcs ∧ ∀ x ∈ t.arcs, ArcOk (ids R) x
 ba : ∀ l ∈ bl, AscL (l.pre ++ [(l.lab, 0)]) ∧ (∀ x ∈ l.pre, ArcOk (ids R) x) ∧ 97 <= l.lab ∧ l.lab <= 99
 pa : path bl = v.take q ∧ bl.length = q ∧ q <= v.length
 last : q < v.length -> ∀ x ∈ t.arcs, x.1 < v.getD q 0
 full : q = v.length -> t.arcs = []
 lan : ∀ acc, tot (lang R) (own t.arcs t.fin (lang R) ++ acc) bl = D ++ acc.map (path bl ++ ·)
 fin0 : q = v.length -> t.fin = false
 rch : ∀ i ∈ ids R, ∃ z, z ≠ [] ∧ ∀ x ∈ lang R i, z ++ x ∈ D
 tgt : ∀ i ∈ ids R, (∃ y ∈ R, i ∈ y.1.1.map (·.2)) ∨ i ∈ t.arcs.map (·.2) ∨ ∃ l ∈ bl, i ∈ l.pre.map (·.2)
 sz : R.length + bl.length + 1 <= n.toNat
 npos : 0 < n
theorem Inv.mids {u v : List Nat} {D : List (List Nat)} {n : Int} {R : RG} {t : PT} {bl : List PL} (I : Inv u D n R t bl) (h1 : v.take bl.length = u.take bl.length) (h2 : bl.length < v.length) (h3 : bl.length < u.length -> u.getD bl.length 0 < v.getD bl.length 0) : Mids v bl.length D n R t bl where
 wf := I.wf
 nd := I.nd
 lt := I.lt
 root := I.root
 ta := I.ta
 ba := I.ba
 pa := ⟨by rw [h1]; exact I.pa.1, rfl, Nat.le_of_lt h2⟩
 last := fun _ x hx => by
  by_cases c : bl.length = u.length
  ·rw [(I.full c).1] at hx; cases hx
  ·have hl : bl.length < u.length := by have := I.pa.2; exact ar50 c this
   obtain ⟨pre, i, e⟩ := I.part hl;have ha := I.ta.1;rw [e] at hx ha;rcases List.mem_append.mp hx with hx | hx
   ·unfold AscL at ha;rw [List.pairwise_append] at ha;exact Nat.lt_trans (ha.2.2 x hx (u.getD bl.length 0, i) (by simp)) (h3 hl)
   ·rw [List.mem_singleton] at hx; subst hx; exact h3 hl
 full := fun h => absurd h (Nat.ne_of_lt h2)
 lan := fun acc => by rw [tot_append, I.lan]
 fin0 := fun h => absurd h (Nat.ne_of_lt h2)
 rch := I.rch
 tgt := I.tgt
 sz := I.sz
 npos := by have := I.lt t.n (by simp); exact Int.lt_of_le_of_lt this.1 this.2
theorem Mids.one {v : List Nat} {q : Nat} {D : List (List Nat)} {n : Int} {R : RG} {t : PT} {bl : List PL} (I : Mids v q D n R t bl) (hq : q < v.length) (hv : ∀ c ∈ v, 97 <= c ∧ c <= 99) :
  Mids v (q + 1) D (n + 1) R ⟨n, [], false⟩ (⟨t.n, t.arcs, t.fin, v.getD q 0⟩ :: bl) := by
 have hg : v.getD q 0 = v[q] := by simp [List.getD, List.getElem?_eq_getElem hq]
 have hle := hv _ (List.getElem_mem hq);refine ⟨I.wf, ?_, ?_, ?_, ⟨.nil, fun x hx => (nomatch hx)⟩, fun l hl => ?_, ⟨?_, by simp [I.pa.2.1], hq⟩, fun _ x hx => (nomatch hx), fun _ => rfl, fun acc => ?_, fun _ => rfl, I.rch, fun i hi => ?_, ?_, by have := I.npos; exact Int.lt_add_one_of_le (Int.le_of_lt this)⟩
 ·show (n :: t.n :: bl.map (·.n) ++ ids R).Nodup;exact List.nodup_cons.mpr ⟨fun h => by have := I.lt n h; exact ar300 this, I.nd⟩
 ·intro i hi;rcases List.mem_cons.mp hi with rfl | hi
  ·have := I.npos; exact ⟨Int.le_of_lt this, Int.lt_succ _⟩
  ·have := I.lt i hi; exact ⟨this.1, Int.lt_add_one_of_le (Int.le_of_lt this.2)⟩
 ·have := I.root
  simpa [List.getLast_cons] using this
 ·rcases List.mem_cons.mp hl with rfl | hl
  ·refine ⟨?_, I.ta.2, by rw [hg]; exact hle.1, by rw [hg]; exact hle.2⟩;unfold AscL;rw [List.pairwise_append];exact ⟨I.ta.1, by simp, fun x hx y hy => by rw [List.mem_singleton] at hy; subst hy; exact I.last hq x hx⟩
  ·exact I.ba l hl
 ·have := I.pa.1;rw [List.take_add_one, List.getElem?_eq_getElem hq, ← this, hg];simp [path]
 ·show tot (lang R) (own t.arcs t.fin (lang R) ++ (own [] false (lang R) ++ acc).map (v.getD q 0 :: ·)) bl = _;rw [I.lan, List.map_map]
  congr 1
  simp only [own, Bool.false_eq_true, if_false, List.flatMap_nil, List.append_nil, List.nil_append];refine List.map_congr_left fun x _ => ?_;simp [path]
 ·rcases I.tgt i hi with h | h | ⟨l, hl, h⟩
  ·exact .inl h
  ·exact .inr (.inr ⟨_, List.mem_cons_self, h⟩)
  ·exact .inr (.inr ⟨l, List.mem_cons_of_mem _ hl, h⟩)
 ·have := I.sz; have := I.npos; simp; exact ar147 (by assumption)
theorem Mids.last_ {v : List Nat} {D : List (List Nat)} {n : Int} {R : RG} {t : PT} {bl : List PL} (I : Mids v v.length D n R t bl) : Inv v (D ++ [v]) n R ⟨t.n, t.arcs, true⟩ bl where
 wf := I.wf
 nd := I.nd
 lt := I.lt
 root := I.root
 ta := I.ta
 ba := I.ba
 pa := ⟨by rw [I.pa.2.1]; exact I.pa.1, Nat.le_of_eq I.pa.2.1⟩
 full := fun _ => ⟨I.full rfl, fun _ => rfl⟩
 part := fun h => absurd h (by rw [I.pa.2.1]; exact ar231)
 lan := by
  have h := I.lan [[]];have e1 : own t.arcs t.fin (lang R) ++ [[]] = own t.arcs true (lang R) := by rw [I.full rfl, I.fin0 rfl]; rfl
  rw [e1] at h;rw [h, I.pa.1, List.take_of_length_le (Nat.le_refl _)]; simp
 rch := fun i hi => (by obtain ⟨z, z1, z2⟩ := I.rch i hi; exact ⟨z, z1, fun x hx => List.mem_append_left _ (z2 x hx)⟩)
 tgt := I.tgt
 ne := fun _ => by simp
 sz := I.sz
end Mine
end
section
open PySem PySem.W PySem.Calls PyProof.Rows
namespace Mine
noncomputable def cp : List Nat -> List Nat -> Nat
 | a :: u, b :: v => if a = b then cp u v + 1 else 0
 | _, _ => 0
theorem cp_le : ∀ (u v : List Nat), cp u v <= u.length ∧ cp u v <= v.length
 | [], _ => by simp [cp]
 | _ :: _, [] => by simp [cp]
 | a :: u, b :: v => by
  have := cp_le u v;unfold cp
  split <;> simp <;> exact this
theorem cp_take : ∀ (u v : List Nat), v.take (cp u v) = u.take (cp u v)
 | [], v => by simp [cp]
 | _ :: _, [] => by simp [cp]
 | a :: u, b :: v => by
  unfold cp
  split
  ·rename_i h; subst h; simp [cp_take u v]
  ·simp
theorem cp_next : ∀ (u v : List Nat), u < v -> cp u v < v.length ∧ (cp u v < u.length -> u.getD (cp u v) 0 < v.getD (cp u v) 0)
 | [], [], h => absurd h (List.lt_irrefl _)
 | [], b :: v, _ => by simp [cp]
 | a :: u, [], h => by cases h
 | a :: u, b :: v, h => by
  unfold cp
  by_cases e : a = b
  ·subst e;have h' : u < v := by
    cases h with
    | rel h => exact absurd h (Nat.lt_irrefl _)
    | cons h => exact h
   have := cp_next u v h';rw [if_pos rfl];simp only [List.length_cons];refine ⟨(ar77 this), fun hl => ?_⟩;have := this.2 (Nat.le_of_succ_le_succ hl)
   simpa [List.getD] using this
  ·have h' : a < b := by
    cases h with
    | rel h => exact h
    | cons h => exact absurd rfl e
   rw [if_neg e];exact ⟨by simp, fun _ => by simpa [List.getD] using h'⟩
theorem cp_step {u v : List Nat} {i : Nat} (h : i <= cp u v) : i < u.length ∧ i < v.length ∧ u.getD i 0 = v.getD i 0 ↔ i < cp u v := by
 induction u generalizing v i with
 | nil => simp [cp] at h ⊢
 | cons a u ih =>
  cases v with
  | nil => simp [cp]
  | cons b v =>
   unfold cp at h ⊢
   by_cases e : a = b
   ·subst e;rw [if_pos rfl] at h ⊢;cases i with
    | zero => simp [List.getD]
    | succ i =>
     have := ih (v := v) (i := i) (ar62 h);simp only [List.length_cons, List.getD, List.getElem?_cons_succ];simp only [List.getD] at this;exact ar74 this
   ·rw [if_neg e] at h ⊢;obtain rfl : i = 0 := (ar37 h);simp [List.getD, e]
noncomputable def FinR (W : List (List Nat)) (R : RG) : Prop :=
 (W = [] ∧ R = []) ∨ (W ≠ [] ∧ WF R ∧ (∃ k r, R = (k, 0) :: r) ∧ lang R 0 = W ∧ (∀ i ∈ ids R, i ≠ 0 -> ∃ y ∈ R, i ∈ y.1.1.map (·.2)) ∧ R.length <= 1000 ∧ ∀ i ∈ ids R, 0 <= i)
theorem Inv.final {u : List Nat} {D : List (List Nat)} {n : Int} (hn : n <= 1000) (hu : u ≠ []) : ∀ {bl : List PL} {R : RG} {t : PT}, Inv u D n R t bl -> ∃ R', Mine.outc 0 R t bl = (R', none) ∧ FinR D R'
 | [], R, t, I => by
  have hid := I.fresh_root hu;have e : reg R t = (((t.arcs, t.fin), t.n) :: R, t.n) := by unfold reg; rw [hid]
  have h0 : t.n = 0 := I.root;refine ⟨_, by unfold Mine.outc; rw [if_neg (Nat.not_add_one_le_zero 0), e], .inr ⟨I.ne hu, ?_, ⟨_, R, by rw [h0]⟩, ?_, fun i hi hi0 => ?_, ?_, fun i hi => ?_⟩⟩
  ·exact ⟨I.wf, I.notin, id?_none hid, I.ta.1, I.ta.2, I.trim hu⟩
  ·show (if (0 : Int) = t.n then _ else _) = _;rw [if_pos h0.symm]; exact I.lan
  ·simp only [ids, List.map_cons, List.mem_cons] at hi;rcases hi with hi | hi
   ·exact absurd (hi.trans h0) hi0
   ·rcases I.tgt i hi with ⟨y, hy, h⟩ | h | ⟨l, hl, _⟩
    ·exact ⟨y, List.mem_cons_of_mem _ hy, h⟩
    ·exact ⟨_, List.mem_cons_self, h⟩
    ·cases hl
  ·have := I.sz; simp at this ⊢; exact ar292 hn this
  ·simp only [ids, List.map_cons, List.mem_cons] at hi;rcases hi with hi | hi
   ·exact ar293 h0 hi
   ·exact (I.lt i (by simp; exact .inr hi)).1
 | l :: bl, R, t, I => by
  obtain ⟨R', e, h⟩ := Inv.final hn hu I.pop;refine ⟨R', ?_, h⟩
  conv => lhs; unfold Mine.outc
  rw [if_neg (ar232)]; exact e
end Mine
end
section
open PySem PySem.W PySem.Calls PyProof.Rows
namespace Mine
section
variable {w : World} {mg mb : Str -> Option Value} {L : Addr} {sE s s' : Shared} {W : Addr -> Prop} {H : List (Addr × Obj)} {b : Heap} {m : Str -> Option Value}
variable {A : Around} {E : Value -> Shared -> Prop} {env : Env}
noncomputable def LpS (w : World) (mg mb : Str -> Option Value) (L : Addr) (W : Addr -> Prop) (H : List (Addr × Obj)) (I : Addr) (It : Nat -> Obj -> Prop) (J : Nat -> Shared -> Heap -> (Str -> Option Value) -> Prop) (n N : Nat) (s : Shared) : Prop := ∀ CC : Prop, (∀ (i : Nat) (sE : Shared) (b : Heap) (m : Str -> Option Value) (o : Obj) (F : Fx w mg mb L sE W ((I, o) :: H) b s m) (hi : It i o) (hj : J i sE b m) (hin : i <= n) (e : N = n - i), CC) -> CC
theorem for_listS {R : Result -> Shared -> Prop} {v : Str} {px : Pos} {body orelse : List Stmt} {ax : Addr} {items : Array Value} (hh : A.handled = none)
  (J : Nat -> Shared -> Heap -> (Str -> Option Value) -> Prop) (hS : ∀ i sE b m, J i sE b m -> b.IsList ax items) (F : Fx w mg mb L sE W H b s m) (j0 : J 0 sE b m)
  (step : ∀ i val s sE b m I o, (∀ p ∈ H, p.1 ≠ I) -> o.cls = .type "list_iterator" -> items[i]? = some val -> J i sE b m -> Fx w mg mb L sE W ((I, o) :: H) b s (upd m v val) ->
   wpAny (model PP w) A (execs body env) (fun f s' => match f with
    | .next | .cont => ∃ sE' b' m', Fx w mg mb L sE' W ((I, o) :: H) b' s' m' ∧ J (i + 1) sE' b' m'
    | .brk => R (.ok .next) s'
    | .ret u => R (.ok (.ret u)) s') (notedBy (model PP w) A env fun e s' => R (.error e) s') s)
  (fin : ∀ s sE b m, J items.size sE b m -> Fx w mg mb L sE W H b s m -> wpAny (model PP w) A (execs orelse env) (fun f s' => R (.ok f) s') (notedBy (model PP w) A env fun e s' => R (.error e) s') s)
  (hL : env.locals = L := by rfl) (hk : env.scope.kind = .function := by rfl) (hl : env.kindOf v = some .local := by rfl) :
  wpAny (model PP w) A (pyIter (.ref ax)) (fun it s₂ => codeAny (model PP w) A (.forLoop (.Name v px) it body orelse env) R s₂) E s := by
 refine wpAny_pyIter_list (keepsL (hS _ _ _ _ j0) F.keep) ?_;have T : Iter w s.heap.objs.size (fun i o => o.cls = .type "list_iterator" ∧ o.data = .fields #[.ref ax, .int i 0]) items.size (fun i v => items[i]? = some v) (fun h => h.IsList ax items) := Iter.list;have hI : ∀ p ∈ H, p.1 ≠ s.heap.objs.size := fun p hp e => absurd (Heap.lt_size (F.hid p hp).1) (by rw [e]; exact Nat.lt_irrefl _);generalize hIe : s.heap.objs.size = I at hI T ⊢;refine codeAny_forLoop (LpS w mg mb L W H I (fun i o => o.cls = .type "list_iterator" ∧ o.data = .fields #[.ref ax, .int (i : Nat) 0]) J items.size) ?_ items.size (fun _ kk => kk 0 sE b m _ (by rw [← hIe]; exact F.push rfl) ⟨rfl, rfl⟩ j0 (Nat.zero_le _) rfl);intro N s hLp;refine hLp _ fun i sE b m o F hi hj hin eq4 => ?_;subst eq4;have h1 := F.hid _ (List.mem_cons_self);have src := T.keep _ _ (hS _ _ _ _ hj) F.keep
 by_cases hlt : i < items.size
 ·refine T.item A i s _ _ o hh hlt h1.1 hi src fun val h' tk o' hp he hi' hk' => ?_;have F' : Fx w mg mb L sE W ((I, o') :: H) b { s with heap := h', toks := tk } m := F.turn hI he hk' rfl rfl;refine wpAny_assign_Name (m_store F' (fun s F => ?_) hL hk hl);refine wpAny_mono (step i val s sE b m I o' hI hi'.1 hp hj F) (fun f s' hf => ?_) ee;cases f with
  | next => obtain ⟨sE', b', m', F', hj'⟩ := hf; exact ⟨items.size - (i + 1), (ar1 hlt), fun _ kk => kk (i + 1) sE' b' m' o' F' hi' hj' hlt rfl⟩
  | cont => obtain ⟨sE', b', m', F', hj'⟩ := hf; exact ⟨items.size - (i + 1), (ar1 hlt), fun _ kk => kk (i + 1) sE' b' m' o' F' hi' hj' hlt rfl⟩
  | brk => exact hf
  | ret u => exact hf
 ·have e : i = items.size := (ar2 hin hlt);subst e;exact T.done A s _ _ o hh h1.1 hi src fun h' tk hk' => fin _ sE b m hj (F.over hI hk' rfl rfl)
end
noncomputable def AscW : List Nat -> List (List Nat) -> Prop
 | _, [] => True
 | u, v :: r => u < v ∧ AscW v r
noncomputable def WordsAre (vals : Array Value) (W : List (List Nat)) : Prop := vals.size = W.length ∧ ∀ (i : Nat) (wd : List Nat), W[i]? = some wd -> ∃ t, vals[i]? = some (Value.str (mkS wd) t)
inductive Flown (w : World) (outer : List Env) (s0 : Shared) (X : String) (e : Addr) (s' : Shared) : Prop
 | mk (s1 : Shared) (base : Heap) (a0 : Value) (sh : Shift (fra outer) s0 s1) (hbe : ∀ a, a ∉ fra outer -> base.get? a = s1.heap.get? a) (hbn : NonF (fra outer) base) (hfl : Heap.FlyingW base outer e (.type X) a0 s'.heap) (hfe : ∀ a ∈ fra outer, s'.heap.get? a = s1.heap.get? a) (hg : s'.gens = s0.gens) (ho : s'.os = s0.os) : Flown w outer s0 X e s'
end Mine
end
section
open PySem PySem.W PySem.Calls PyProof.Rows
namespace Mine
theorem mkS_list (x : Str) : mkS x.cps.toList = x := by obtain ⟨⟨l⟩⟩ := x; rfl
theorem mkS_cps (l : List Nat) : (mkS l).cps.toList = l := rfl
theorem mkS_len (l : List Nat) : (mkS l).length = l.length := by show l.toArray.size = _; simp
section
variable {w : World} {mg mb : Str -> Option Value} {L : Addr} {sE s s' : Shared} {W : Addr -> Prop} {H : List (Addr × Obj)} {b : Heap} {m : Str -> Option Value}
variable {A : Around} {E : Value -> Shared -> Prop} {env : Env}
theorem slice_post {x : List Nat} {t : Tok} {l u : Option (Int × Tok)} {y : List Nat} {Q : Value -> Shared -> Prop} (F : Fx w mg mb L sE W H b s m) (hy : PySem.StrLaws.sliceText (mkS x) (l.map (·.1)) (u.map (·.1)) = mkS y) (hz : y.length <= sizeLine)
  (h : ∀ s' t, Fx w mg mb L sE W H b s' m -> s'.heap = s.heap -> Q (.str (mkS y) t) s') : (sliceMade (mkS x) t l u none).post Q s := by
 unfold sliceMade slicePicked;unfold PySem.StrLaws.sliceText at hy;show Made.post (if ((1 : Int) == 1 && (Builtin.Str.strSliceIndices (l.map (·.1)) (u.map (·.1)) 1 (mkS x).length).length == (mkS x).length) = true then .val (.str (mkS x) t) else .str ⟨((Builtin.Str.strSliceIndices (l.map (·.1)) (u.map (·.1)) 1 (mkS x).length).filterMap ((mkS x).cps[·]?)).toArray⟩) Q s
 split
 ·rename_i hc
  rw [if_pos hc] at hy;rw [hy];exact h s t F rfl
 ·rename_i hc
  rw [if_neg hc] at hy;rw [hy];exact ⟨by rw [mkS_len]; exact hz, h _ _ (F.tok _) rfl⟩
theorem sl_from {x : List Nat} {p : Nat} (h : p <= x.length) : PySem.StrLaws.sliceText (mkS x) (some (p : Int)) none = mkS (x.drop p) := by
 rw [PySem.StrLaws.sliceText_from ⟨ar18, by rw [mkS_cps]; exact ar52 h⟩, mkS_cps];unfold mkS
 congr 2
 rw [List.take_of_length_le (by rw [List.length_drop]; exact ar151)]
 rfl
theorem sl_to {x : List Nat} {p : Nat} (h : p <= x.length) : PySem.StrLaws.sliceText (mkS x) none (some (p : Int)) = mkS (x.take p) := by
 rw [PySem.StrLaws.sliceText_to ⟨ar18, by rw [mkS_cps]; exact ar52 h⟩, mkS_cps]
 rfl
theorem m_from {value e : PySem.Expr} {p' pos : Pos} {x : List Nat} {p : Nat} {Q : Value -> Shared -> Prop} (hp : p <= x.length) (hz : x.length <= sizeLine)
  (h : wpAny (model PP w) A (eval value env) (fun o s₁ => ∃ t, o = .str (mkS x) t ∧ wpAny (model PP w) A (eval e env) (fun v s₂ => ∃ u b m, v = .int p u ∧ Fx w mg mb L sE W H b s₂ m ∧ ∀ s' t, Fx w mg mb L sE W H b s' m -> Q (.str (mkS (x.drop p)) t) s') E s₁) E s)
  (ht : ∀ o r, letTemporaryGo value o r = pure () := by intro _ _; rfl) :
  wpAny (model PP w) A (eval (.Subscript value (.Slice (some e) none none p') pos) env) Q E s := by
 refine wpAny_Subscript_str_slice (wpAny_mono h (fun o s₁ hz9 => ?_) ee) ht;obtain ⟨t, ho, h₁⟩ := hz9;rw [PySem.evalPart_some];refine wpAny_mono h₁ (fun v s₂ hz9 => ?_) ee;obtain ⟨u, b, m, hv, F, hQ⟩ := hz9;rw [PySem.evalPart_none];refine wpAny_pure ⟨mkS x, t, some (p, u), none, ho, hv, rfl, ?_⟩;have F2 := F.grow (s' := { s₂ with heap := s₂.heap.push { cls := .type "slice", data := .fields #[v, Value.none, .none] } }) (.of fun _ _ e => Heap.get?_push_of_some _ e);exact slice_post F2 (sl_from hp) (by rw [List.length_drop]; exact Nat.le_trans (Nat.sub_le _ _) hz) fun s' t F _ => hQ s' t F
theorem m_to {value e : PySem.Expr} {p' pos : Pos} {x y : List Nat} {p : Int} {Q : Value -> Shared -> Prop} (hp : PySem.StrLaws.sliceText (mkS x) none (some p) = mkS y) (hz : y.length <= sizeLine)
  (h : wpAny (model PP w) A (eval value env) (fun o s₁ => ∃ t, o = .str (mkS x) t ∧ wpAny (model PP w) A (eval e env) (fun v s₂ => ∃ u b m, v = .int p u ∧ Fx w mg mb L sE W H b s₂ m ∧ ∀ s' t, Fx w mg mb L sE W H b s' m -> Q (.str (mkS y) t) s') E s₁) E s)
  (ht : ∀ o r, letTemporaryGo value o r = pure () := by intro _ _; rfl) :
  wpAny (model PP w) A (eval (.Subscript value (.Slice none (some e) none p') pos) env) Q E s := by
 refine wpAny_Subscript_str_slice (wpAny_mono h (fun o s₁ hz9 => ?_) ee) ht;obtain ⟨t, ho, h₁⟩ := hz9;rw [PySem.evalPart_none];refine wpAny_pure ?_;rw [PySem.evalPart_some];refine wpAny_mono h₁ (fun v s₂ hz9 => ?_) ee;obtain ⟨u, b, m, hv, F, hQ⟩ := hz9;refine ⟨mkS x, t, none, some (p, u), ho, rfl, hv, ?_⟩;have F2 := F.grow (s' := { s₂ with heap := s₂.heap.push { cls := .type "slice", data := .fields #[Value.none, v, .none] } }) (.of fun _ _ e => Heap.get?_push_of_some _ e);exact slice_post F2 hp hz fun s' t F _ => hQ s' t F
end
end Mine
end
section
open PySem PySem.W PySem.Calls PyProof.Rows
namespace Mine
theorem dictCls {w : World} {K : Type} [DecidableEq K] {knd : KeyKind PP w K} {h : Heap} {a : Addr} {kvs : List (K × Value)} {o : Obj} (e : h.get? a = some o) (x : h.DictOf knd a kvs) : o.cls = .type "dict" := by
 refine (dob x) _ fun o' e' q => ?_;rw [e] at e'; cases e'; exact q.1
theorem DFAAt.addrs_nodup {w : World} {h : Heap} {c : DC} (D : DFAAt w h c) : c.addrs.Nodup := by
 obtain ⟨om, _, _, _, _, _, _, _, ed⟩ := D.obj;refine (sob D.Fs) _ fun oF eF qF => ?_;have hd : ∀ {a : Addr} {o : Obj}, h.get? a = some o -> o.cls ≠ .type "dict" -> a ∉ c.x.d :: c.x.T :: c.x.Df :: c.x.Ol :: c.tra.map (·.2.1) := fun {a o} e hn hm => by
  rcases List.mem_cons.mp hm with hm | hm
  ·rw [hm, ed] at e; cases e; exact hn rfl
  rcases List.mem_cons.mp hm with hm | hm
  ·exact hn (dictCls e (hm ▸ D.T))
  rcases List.mem_cons.mp hm with hm | hm
  ·exact hn (dictCls e (hm ▸ D.Df))
  rcases List.mem_cons.mp hm with hm | hm
  ·exact hn (dictCls e (hm ▸ D.Ol))
  obtain ⟨x, hx, hm⟩ := List.mem_map.mp hm;exact hn (dictCls e (hm ▸ (D.rows x hx).1))
 have hmf : c.x.m ≠ c.x.Fs := fun q => by rw [q, eF] at om; cases om; cases qF.1
 refine (List.Perm.nodup_iff ((List.perm_middle (l₁ := [c.x.d, c.x.T, c.x.Df]) (l₂ := c.x.Ol :: c.tra.map fun x : Int × Addr × List (Str × Int × Tok) => x.2.1) (a := c.x.Fs)).cons c.x.m)).mpr (List.nodup_cons.mpr ⟨fun hm => (List.mem_cons.mp hm).elim hmf (hd om (by simp)), List.nodup_cons.mpr ⟨hd eF (by rw [qF.1]; simp), D.nd⟩⟩)
theorem AscW_last : ∀ {l : List (List Nat)} {a v : List Nat}, AscW a (l ++ [v]) -> l.getLastD a < v
 | [], a, v, h => h.1
 | x :: l, a, v, h => by
  have := AscW_last h.2;cases l with
  | nil => exact this
  | cons y r => exact this
theorem AscW_take : ∀ {l : List (List Nat)} {a : List Nat} (n : Nat), AscW a l -> AscW a (l.take n)
 | [], _, _, _ => by simp [AscW]
 | x :: l, a, 0, _ => trivial
 | x :: l, a, n + 1, h => ⟨h.1, AscW_take n h.2⟩
theorem AscW_ne {W : List (List Nat)} (h : AscW [] W) (h2 : W.getLastD [] = []) : W = [] := by
 rcases List.eq_nil_or_concat W with rfl | ⟨l, v, rfl⟩
 ·rfl
 ·exfalso
  rw [List.concat_eq_append] at h h2;have := AscW_last h;have e : v = [] := by simpa using h2
  rw [e] at this;exact absurd this (List.not_lt_nil _)
theorem boot_Exception : bootBuiltins "Exception" = some (.type "Exception") := by kernel_rfl
theorem AscW_snoc : ∀ {l : List (List Nat)} {a v : List Nat}, AscW a l -> l.getLastD a < v -> AscW a (l ++ [v])
 | [], a, v, _, h => ⟨h, trivial⟩
 | x :: l, a, v, h, h2 => ⟨h.1, AscW_snoc h.2 (by
   cases l with
   | nil => simpa using h2
   | cons y r => exact h2)⟩
theorem le_sum_of_mem {l : List Nat} {x : Nat} (h : x ∈ l) : x <= l.sum := by
 induction l with
 | nil => cases h
 | cons y r ih =>
  rw [List.sum_cons];rcases List.mem_cons.mp h with rfl | h
  ·exact ar23
  ·have := ih h; lia
section
variable {w : World} {mg mb : Str -> Option Value} {A : Around} {E : Value -> Shared -> Prop}
theorem Fx.freshN {L : Addr} {sE s : Shared} {W : Addr -> Prop} {H : List (Addr × Obj)} {b : Heap} {m : Str -> Option Value} {B : Around} {outer : List Env} (F : Fx w mg mb L sE W H b s m) (R : Frs B outer s.heap) {a : Addr} (h : s.heap.get? a = none) : a ∉ L :: H.map (·.1) ∧ a ∉ fra outer ∧ b.get? a = none := by
 refine ⟨fun hm => ?_, fun hm => ?_, ?_⟩
 ·rcases List.mem_cons.mp hm with rfl | hm
  ·obtain ⟨o, _, _, e, _⟩ := F.ns; rw [h] at e; cases e
  ·obtain ⟨p, hp, rfl⟩ := List.mem_map.mp hm; rw [(F.hid p hp).1] at h; cases h
 ·obtain ⟨o, e, _⟩ := R.mem hm; rw [h] at e; cases e
 ·cases e : b.get? a with
  | none => rfl
  | some o => rw [F.keep _ _ e] at h; cases h
theorem m_lenS {L : Addr} {sE s : Shared} {W : Addr -> Prop} {H : List (Addr × Obj)} {b : Heap} {m : Str -> Option Value} {x : List Nat} {t : Tok} {Q : Value -> Shared -> Prop} (F : Fx w mg mb L sE W H b s m) (hz : x.length <= 1000)
  (h : ∀ s' t, Fx w mg mb L sE W H b s' m -> s'.heap = s.heap -> Q (.int x.length t) s') : wpAny (model PP w) A (call (.builtin "len") [.str (mkS x) t]) Q E s := by
 refine len_str (by rw [mkS_len]; lia) ?_;rw [mkS_len];exact h _ _ (F.tok _) rfl
theorem m_at {L : Addr} {sE s : Shared} {W : Addr -> Prop} {H : List (Addr × Obj)} {b : Heap} {m : Str -> Option Value} {x : List Nat} {t u : Tok} {j : Nat} {Q : Value -> Shared -> Prop} (F : Fx w mg mb L sE W H b s m) (hj : j < x.length) (hz : x.length <= 1000)
  (h : ∀ s' t, Fx w mg mb L sE W H b s' m -> s'.heap = s.heap -> Q (.str ⟨#[x.getD j 0]⟩ t) s') : wpAny (model PP w) A (getItem (.str (mkS x) t) (.int (j : Nat) u)) Q E s := by
 refine getItem_str (c := x.getD j 0) ?_ ?_ (h _ _ (F.tok _) rfl)
 ·simp; exact (Int.ofNat_lt (m := 9223372036854775808)).mpr (Nat.lt_of_lt_of_le hj (Nat.le_trans hz (by decide)))
 ·have e : seqIndex? (j : Int) (mkS x).length = some j := by
   have h0 : ¬ ((j : Int) < 0) := ar8;simp only [seqIndex?, h0, if_false, mkS_len, Int.toNat_natCast];rw [if_pos (by simp; exact hj)]
  rw [e];show x.toArray[j]? = _;rw [List.getElem?_toArray, List.getElem?_eq_getElem hj];simp [List.getD, List.getElem?_eq_getElem hj]
theorem CtrAt.live {h : Heap} {C dC : Addr} {n : Int} (x : CtrAt h C dC n) : ∀ z, z = C ∨ z = dC -> ∃ o, h.get? z = some o := fun z hz => by
 obtain ⟨_, _, e1, e2⟩ := x;rcases hz with q | q
 ·rw [q]; exact ⟨_, e1⟩
 ·rw [q]; exact ⟨_, e2⟩
theorem CtrAt.mov {h h' : Heap} {C dC : Addr} {n : Int} (x : CtrAt h C dC n) (k : ∀ z, z = C ∨ z = dC -> ∀ o, h.get? z = some o -> h'.get? z = some o) : CtrAt h' C dC n :=
 by obtain ⟨y1, y2, e1, e2⟩ := x; exact ⟨y1, y2, k C (.inl rfl) _ e1, k dC (.inr rfl) _ e2⟩
noncomputable def SdE (w : World) (q : Heap) (outer : List Env) (s0 : Shared) (ws : Addr) (W : List (List Nat)) (i : Nat) (sE : Shared) (b : Heap) (m : Str -> Option Value) : Prop := ∀ CC : Prop, (∀ (N S C dC : Addr) (c : DC) (ns : List NR) (xs : List (SK × Addr × Value)) (R : RG) (t : PT) (bl : List PL) (u : List Nat) (n : Int) (sh : Shift (fra outer) s0 sE) (hb : NonF (fra outer) b) (kq : Kp q b) (B : BAt w b c N S ns xs (encR (rowsOf R)) R (some (t, bl))) (fresh : NonF (ownA c N S ns) s0.heap) (ct : CtrAt b C dC n) (cf : s0.heap.get? C = none ∧ s0.heap.get? dC = none) (clo : 456 <= C) (cn : C ∉ ownA c N S ns ∧ dC ∉ ownA c N S ns) (I : Inv u (W.take i) n R t bl) (asc : AscW [] (W.take i)) (fl : bl.length = u.length) (r0 : u = [] -> R = []) (ul : u = (W.take i).getLastD []) (sz : n <= 1 + ((W.take i).map List.length).sum) (m1 : m "dfa" = some (.ref c.x.m)) (m2 : m "c" = some (.ref C)) (m3 : ∃ tu, m "last" = some (Value.str (mkS u) tu)) (m4 : m "seen" = some (.ref S)) (m5 : m "nodes" = some (.ref N)), CC) -> CC
inductive MzN (FF : Shared -> (Str -> Option Value) -> Prop) (vs vd vc vl ve vn : Value) (iv : Nat) (s : Shared) : Prop
 | mk (m : Str -> Option Value) (t' : Tok) (F : FF s m) (n1 : m "i" = some (.int iv t')) (n2 : m "string" = some vs) (n3 : m "dfa" = some vd) (n4 : m "c" = some vc) (n5 : m "last" = some vl) (n6 : m "seen" = some ve) (n7 : m "nodes" = some vn) : MzN FF vs vd vc vl ve vn iv s
inductive MzA (P : Shared -> Prop) (f : Flow) (s : Shared) : Prop
 | mk (e : f = .next) (h : P s) : MzA P f s
inductive MzB (P : Nat -> Shared -> Prop) (c k : Nat) (s : Shared) : Prop
 | mk (j : Nat) (hj : j <= c) (e : k = c - j) (h : P j s) : MzB P c k s
noncomputable def MzC (w : World) (wd : List Nat) (p : Nat) (D : List (List Nat)) (R : RG) (c : DC) (N S : Addr) (xs : List (SK × Addr × Value)) (C dC : Addr) (t' : PT) (bl' : List PL) (n : Int) (fr : List Addr) (q h0 : Heap) (vd vc vs : Value) (kx : Nat) (b : Heap) (m : Str -> Option Value) : Prop := ∀ CC : Prop, (∀ (ns : List NR) (t2 : PT) (bl2 : List PL) (n2 : Int) (MM : Mids wd (p + kx) D n2 R t2 bl2) (B2 : BAt w b c N S ns xs (encR (rowsOf R)) R (some (t2, bl2))) (hpush : push t' bl' n (wd.drop p) = push t2 bl2 n2 (wd.drop (p + kx))) (ct2 : CtrAt b C dC n2) (hnn : n2 = n + kx)
   (hb2 : NonF fr b) (kq2 : Kp q b) (fr2 : NonF (ownA c N S ns) h0) (cn2 : C ∉ ownA c N S ns ∧ dC ∉ ownA c N S ns) (p1 : m "dfa" = some vd) (p2 : m "c" = some vc) (p3 : m "seen" = some (.ref S)) (p4 : m "nodes" = some (.ref N)) (p5 : m "string" = some vs), CC) -> CC
theorem strings_dfa_spec {s0 : Shared} {q : Heap} {ws : Addr} {vals : Array Value} {W : List (List Nat)} {outer : List Env} {Q : Value -> Shared -> Prop} {k : Nat}
  (g : G w mg mb s0.heap) (hA : Rm A (k + 6)) (hF : Frs A outer s0.heap) (hq : Kp q s0.heap) (hqf : NonF (fra outer) q)
  (hl : q.IsList ws vals) (hv : WordsAre vals W) (hW : ∀ wd ∈ W, ∀ c ∈ wd, 97 <= c ∧ c <= 99) (hsz : (W.map List.length).sum < 900)
  (hok : AscW [] W -> ∀ s1 s' q' c R, Shift (fra outer) s0 s1 -> Stp W0 s1 s' -> Kp q' s'.heap -> (NonF (fra outer) q') -> Kp q q' ->
   DFAAt w q' c -> c.rows = encR (rowsOf R) -> c.fin = finOf R -> c.out = [] -> FinR W R -> NonF c.addrs s0.heap -> Q (.ref c.x.m) s')
  (hbad : ¬ AscW [] W -> ∀ e s', Flown w outer s0 "Exception" e s' -> E (.ref e) s') :
  wpAny (model PP w) A (call (.ref 415) [.ref ws]) Q E s0 := by
 refine wpAny_call (m_call W0 [("strings", .ref ws)] g hA.room (by rfl) (by kernel_rfl) (.of_eq (by rfl)) (locs (by rfl)) (fun s₁ F => ?_) (by decide));refine gQ1 fun Q0 hQ0 => ?_;have hB : ∀ env, Rm (A.deeper env) (k + 5) := fun env => hA.deeper env;have qL : q.get? s0.heap.objs.size = none := by
  cases e : q.get? s0.heap.objs.size with
  | none => rfl
  | some o => exact absurd (Heap.lt_size (hq _ o e)) (Nat.lt_irrefl _)
 have F : Fx w mg mb s0.heap.objs.size s0 W0 [] q s₁ _ := ⟨F.g, F.hL, F.ns, F.tot, fun a o e => F.keep a o (hq a o e), qL, fun p hp => nomatch hp⟩;have frW : ∀ a ∈ fra outer, ¬ W0 a ∧ a ≠ s0.heap.objs.size := fun a ha => ⟨fun h => h, fun hm => by obtain ⟨o, e, _⟩ := hF.mem ha; exact absurd (Heap.lt_size e) (by rw [hm]; exact Nat.lt_irrefl _)⟩;have RO : ∀ {s : Shared} {b : Heap} {m : Str -> Option Value}, Fx w mg mb s0.heap.objs.size s0 W0 [] b s m -> Frs A outer s.heap := fun F => F.frsO hF frW;refine wpAny_execs_cons (wpAny_Assign_Name (Call_ (m_glob F (gl_DFA w) (callWith_K F.g.X (ke_304 w) (args_cons (m_cint F fun s t F _ => args_nil ⟨F.g.X, ?_⟩))))));refine dfa_new_spec F.g (hB _) fun s' x S1 hD hfx => ?_;refine ((F.grow S1).rebaseF hqf) _ fun b1 F1 hb1 k1 kn1 => ?_;have hfx' : ∀ a ∈ DC.addrs ⟨x, [], fun _ => false, 0, []⟩, s.heap.get? a = none := fun a ha => hfx a (by simpa [DC.addrs] using ha);have hD := hD.other rfl fun a ha o e => kn1 a o (F.freshN (RO F) (hfx' a ha)).1 (F.freshN (RO F) (hfx' a ha)).2.1 e;have fx0 : ∀ a ∈ DC.addrs ⟨x, [], fun _ => false, 0, []⟩, s0.heap.get? a = none := fun a ha => F.tot.none_of (hfx' a ha);refine m_store F1 fun s F => ?_;refine wpAny_execs_cons (wpAny_Assign_Name (Call_ (m_glob F (gl_count w) (callWith_K F.g.X (ke_403 w) (args_cons (m_cint F fun s t F _ => args_nil ⟨F.g.X, ?_⟩))))));refine count_new_spec F.g (hB _) fun s' C dC S2 hC fC fdC lC => ?_;refine ((F.grow S2).rebaseF hb1) _ fun b2 F2 hb2 k2 kn2 => ?_;have hC : CtrAt b2 C dC 1 := by
  obtain ⟨t, t', e1, e2⟩ := hC;exact ⟨t, t', kn2 _ _ (F.freshN (RO F) fC).1 (F.freshN (RO F) fC).2.1 e1, kn2 _ _ (F.freshN (RO F) fdC).1 (F.freshN (RO F) fdC).2.1 e2⟩
 have b1C := (F.freshN (RO F) fC).2.2;have b1dC := (F.freshN (RO F) fdC).2.2;have f0C : s0.heap.get? C = none := F.tot.none_of fC;have f0dC : s0.heap.get? dC = none := F.tot.none_of fdC;refine m_store F2 fun s F => ?_;refine wpAny_execs_cons (wpAny_Assign_Name (m_cstr F fun s tl F _ => m_store F fun s F => ?_));refine wpAny_execs_cons (wpAny_Assign_Name (m_dict0 F fun s' S F3 eS bS SL lS fS S3 => ?_));refine (F3.rebaseF hb2) _ fun b3 F3 hb3 k3 kn3 => ?_;have eS := kn3 _ _ SL (F.freshN (RO F) fS).2.1 eS;have f0S : s0.heap.get? S = none := F.tot.none_of fS;refine m_store F3 fun s F => ?_;refine wpAny_execs_cons (wpAny_Assign_Name (wpAny_List (args_cons (Call_ (m_glob F (gl_DMNode w) (callWith_K F.g.X (ke_344 w) (args_cons (m_cint F fun s t F _ => args_nil ⟨F.g.X, ?_⟩))))))));have F3' := F;refine dmnode_spec F.g (hB _) fun s' p S4 hp fpx fpd fpa ndp ldp => args_nil ⟨by rw [sizeLine_eq]; show 1 <= _; exact ar21, ?_⟩;refine ((F.grow S4).rebaseF hb3) _ fun b4 F4 hb4 k4 kn4 => ?_;have nx := F.freshN (RO F) fpx;have nd := F.freshN (RO F) fpd;have na := F.freshN (RO F) fpa;have hp : NodeAt w b4 p 0 [] false := by
  obtain ⟨t0, t1, t2, t3, kk, e⟩ := hp.dic;obtain ⟨o, es, ep, e2, r⟩ := hp.arc;exact ⟨kn4 _ _ nx.1 nx.2.1 hp.obj, ⟨t0, t1, t2, t3, kk, kn4 _ _ nd.1 nd.2.1 e⟩, ⟨o, es, ep, kn4 _ _ na.1 na.2.1 e2, r⟩, hp.lo⟩
 refine F4.alloc (Q := fun a s' => wpAny _ _ (storeName _ _ (.ref a)) _ _ s') rfl fun s' N F5 eN bN NL lN fN S5 => ?_;refine (F5.rebaseF hb4) _ fun b5 F5 hb5 k5 kn5 => ?_;have eN := kn5 _ _ NL (F4.freshN (RO F4) fN).2.1 eN;have f0N : s0.heap.get? N = none := F4.tot.none_of fN;refine m_store F5 fun s F => ?_;have hD5 := (((hD.keeps k2).keeps k3).keeps k4).keeps k5;have lvA : ∀ a ∈ DC.addrs ⟨x, [], fun _ => false, 0, []⟩, ∃ o, b1.get? a = some o := fun a ha => (hD.there a ha).ex;have apart : ∀ {bb : Heap} {a z : Addr}, bb.get? z = none -> (∃ o, bb.get? a = some o) -> a ≠ z := fun hz ⟨o, e⟩ q => by rw [q, hz] at e; cases e
 have up2 : ∀ {a}, (∃ o, b1.get? a = some o) -> ∃ o, b2.get? a = some o := fun ⟨o, e⟩ => ⟨o, k2 _ _ e⟩;have up3 : ∀ {a}, (∃ o, b2.get? a = some o) -> ∃ o, b3.get? a = some o := fun ⟨o, e⟩ => ⟨o, k3 _ _ e⟩;have up4 : ∀ {a}, (∃ o, b3.get? a = some o) -> ∃ o, b4.get? a = some o := fun ⟨o, e⟩ => ⟨o, k4 _ _ e⟩;have lvC : ∃ o, b2.get? C = some o := by obtain ⟨_, _, e, _⟩ := hC; exact ⟨_, e⟩
 have lvdC : ∃ o, b2.get? dC = some o := by obtain ⟨_, _, _, e⟩ := hC; exact ⟨_, e⟩
 have lvS : ∃ o, b3.get? S = some o := ⟨_, eS⟩;have lvp : ∀ a ∈ [p.x, p.d, p.a], ∃ o, b4.get? a = some o := fun a ha => (NodeAt.there (r := ⟨p, 0, [], false⟩) hp a ha).ex;have b3p : ∀ a ∈ [p.x, p.d, p.a], b3.get? a = none := fun a ha => by
  simp only [List.mem_cons, List.not_mem_nil, or_false] at ha;rcases ha with rfl | rfl | rfl
  ·exact nx.2.2
  ·exact nd.2.2
  ·exact na.2.2
 have hown : (ownA ⟨x, [], fun _ => false, 0, []⟩ N S [⟨p, 0, [], false⟩]).Nodup := by
  have e : ownA ⟨x, [], fun _ => false, 0, []⟩ N S [⟨p, 0, [], false⟩] = N :: S :: (DC.addrs ⟨x, [], fun _ => false, 0, []⟩ ++ [p.x, p.d, p.a]) := by simp [ownA, NR.adr]
  rw [e];refine List.nodup_cons.mpr ⟨fun hm => ?_, List.nodup_cons.mpr ⟨fun hm => ?_, List.nodup_append.mpr ⟨hD.addrs_nodup, ndp, fun a ha z hz => ?_⟩⟩⟩
  ·rcases List.mem_cons.mp hm with h | hm
   ·exact apart bN (up4 lvS) h.symm
   ·rcases List.mem_append.mp hm with hm | hm
    ·exact apart bN (up4 (up3 (up2 (lvA _ hm)))) rfl
    ·exact apart bN (lvp _ hm) rfl
  ·rcases List.mem_append.mp hm with hm | hm
   ·exact apart bS (up2 (lvA _ hm)) rfl
   ·exact apart (b3p _ hm) lvS rfl
  ·exact apart (b3p z hz) (up3 (up2 (lvA a ha)))
 have hcn : ∀ z, b1.get? z = none -> (∃ o, b2.get? z = some o) -> z ∉ ownA ⟨x, [], fun _ => false, 0, []⟩ N S [⟨p, 0, [], false⟩] := fun z hz lz hm => by
  have e : ownA ⟨x, [], fun _ => false, 0, []⟩ N S [⟨p, 0, [], false⟩] = N :: S :: (DC.addrs ⟨x, [], fun _ => false, 0, []⟩ ++ [p.x, p.d, p.a]) := by simp [ownA, NR.adr]
  rw [e] at hm;rcases List.mem_cons.mp hm with h | hm
  ·exact apart bN (up4 (up3 lz)) h
  ·rcases List.mem_cons.mp hm with h | hm
   ·exact apart bS lz h
   ·rcases List.mem_append.mp hm with hm | hm
    ·exact apart hz (lvA _ hm) rfl
    ·exact apart (b3p _ hm) (up3 lz) rfl
 have hfr : ∀ a ∈ ownA ⟨x, [], fun _ => false, 0, []⟩ N S [⟨p, 0, [], false⟩], s0.heap.get? a = none := fun a hm => by
  have e : ownA ⟨x, [], fun _ => false, 0, []⟩ N S [⟨p, 0, [], false⟩] = N :: S :: (DC.addrs ⟨x, [], fun _ => false, 0, []⟩ ++ [p.x, p.d, p.a]) := by simp [ownA, NR.adr]
  rw [e] at hm;rcases List.mem_cons.mp hm with h | hm
  ·rw [h]; exact f0N
  ·rcases List.mem_cons.mp hm with h | hm
   ·rw [h]; exact f0S
   ·rcases List.mem_append.mp hm with hm | hm
    ·exact fx0 a hm
    ·have := b3p a hm;simp only [List.mem_cons, List.not_mem_nil, or_false] at hm;rcases hm with rfl | rfl | rfl
     ·exact F3'.tot.none_of fpx
     ·exact F3'.tot.none_of fpd
     ·exact F3'.tot.none_of fpa
 have B5 : BAt w b5 ⟨x, [], fun _ => false, 0, []⟩ N S [⟨p, 0, [], false⟩] [] (encR (rowsOf [])) [] (some (⟨0, [], false⟩, [])) := by
  refine ⟨hD5, ⟨0, eN⟩, fun r hr => ?_, ⟨_, _, _, k5 _ _ (k4 _ _ eS), ⟨rfl, rfl, rfl⟩, rfl, rfl, fun y hy => (nomatch hy), .nil⟩, rfl, rfl, rfl, Nat.le_refl _, rfl, rfl, fun k i h => (nomatch h), fun k h => rfl, hown, lN, lS⟩;rw [List.mem_singleton] at hr; subst hr;exact ⟨hp.keeps k5, ldp⟩
 refine wpAny_execs_cons (wpAny_For (m_local F (by rfl) (for_listS (items := vals) (hB default).hh (SdE w q outer s0 ws W) ?_ F
  (fun _ kk => kk N S C dC _ _ _ [] ⟨0, [], false⟩ [] [] 1 (.refl ..) hb5 (fun a o e => k5 _ _ (k4 _ _ (k3 _ _ (k2 _ _ (k1 _ _ e))))) B5 hfr (((hC.keeps k3).keeps k4).keeps k5) ⟨f0C, f0dC⟩ lC ⟨hcn _ b1C lvC, hcn _ b1dC lvdC⟩ Inv.init trivial rfl (fun _ => rfl) rfl (by simp) rfl rfl ⟨_, rfl⟩ rfl rfl) ?_ ?_)))
 ·intro i sE b m hJ;exact hJ _ fun _ _ _ _ _ _ _ _ _ _ _ _ _ _ kq _ _ _ _ _ _ _ _ _ _ _ _ _ _ _ _ _ => keepsL hl kq
 ·intro i val s sE b m I o hI hoc hval hJ F;refine gQ fun Qb Eb hQb hEb => ?_;refine hJ _ fun N S C dC c ns xs R t bl u n J_sh J_hb J_kq J_B J_fresh J_ct J_cf J_clo J_cn J_I J_asc J_fl J_r0 J_ul J_sz J_m1 J_m2 J_m3 J_m4 J_m5 => ?_;have hi : i < W.length := by rw [← hv.1]; exact (Array.getElem?_eq_some_iff.mp hval).1
  obtain ⟨wd, hwd⟩ : ∃ wd, W[i]? = some wd := ⟨_, List.getElem?_eq_getElem hi⟩;obtain ⟨tv, hval'⟩ := hv.2 i wd hwd;rw [hval] at hval'; cases hval';obtain ⟨tu, hm3⟩ := J_m3;have hwm : wd ∈ W := List.mem_of_getElem? hwd;have hwl : wd.length < 900 := by
   have : wd.length <= (W.map List.length).sum := le_sum_of_mem (List.mem_map_of_mem hwm);exact Nat.lt_of_le_of_lt this hsz
  refine wpAny_execs_cons (wpAny_If (wpAny_isTrue_Compare1 (m_local F (by rfl) (m_local F (by exact hm3) (PySem.P.le_str (wpAny_truthy_bool ?_))))))
  by_cases hlt : u < wd
  ·refine ifF (show (!decide ((mkS u).cps.toList < (mkS wd).cps.toList)) = false by rw [decide_eq_true (show (mkS u).cps.toList < (mkS wd).cps.toList from hlt)]; rfl) ?_;have hne : wd ≠ [] := fun q => by subst q; cases hlt
   refine wpAny_execs_nil (wpAny_execs_cons (wpAny_If (isTrue_not (isTrue_plain (m_local F (by rfl) (P.truthy_str (by rw [mkS_len]; lia) ?_)) (by rfl)))));have hl0 : wd.length ≠ 0 := fun q => hne (List.eq_nil_of_length_eq_zero q);refine ifF (show (!(((mkS wd).length : Int) != 0)) = false by rw [mkS_len]; simp [hl0]) ?_;have F := F.tok (s.toks + 1 + 1);refine wpAny_execs_nil (wpAny_execs_cons (wpAny_Assign_Name (m_cint F fun s ti F _ => m_store F fun s F => ?_)));have hcu := cp_le u wd;have hul : u.length <= 900 := by
    have hu : u = [] ∨ u ∈ W := by
     rw [J_ul];cases hx : (W.take i).getLast? with
     | none => left; rw [List.getLastD_eq_getLast?, hx]; rfl
     | some y => right; rw [List.getLastD_eq_getLast?, hx]; exact List.mem_of_mem_take (List.mem_of_getLast? hx)
    rcases hu with rfl | hu
    ·simp
    ·have := le_sum_of_mem (List.mem_map_of_mem (f := List.length) hu); exact Nat.le_of_lt (Nat.lt_of_le_of_lt this hsz)
   refine (nmP (MzA (MzN (Fx w mg mb s0.heap.objs.size sE W0 ((I, o) :: []) b) (.str (mkS wd) tv) (.ref c.x.m) (.ref C) (.str (mkS u) tu) (.ref S) (.ref N) (cp u wd)))) _ fun J1 j1i j1o => ?_;refine wpAny_execs_cons (wpAny_mono (Q := J1) (wpAny_While ?_) ?_ ee)
   ·refine (nmP (MzB (MzN (Fx w mg mb s0.heap.objs.size sE W0 ((I, o) :: []) b) (.str (mkS wd) tv) (.ref c.x.m) (.ref C) (.str (mkS u) tu) (.ref S) (.ref N)) (cp u wd))) _ fun J2 j2i j2o => ?_;refine whileQ J2 ?_ (cp u wd) (j2i _ _ ⟨0, Nat.zero_le _, rfl, _, _, F, rfl, rfl, J_m1, J_m2, hm3, J_m4, J_m5⟩);intro k s hJ2 Qw Qe Ew hQw hQe hEw;obtain ⟨j, hj, rfl, ⟨m, t', F, n1, n2, n3, n4, n5, n6, n7⟩⟩ := j2o _ _ hJ2;have hout : ∀ {s : Shared} {m : Str -> Option Value}, ¬ j < cp u wd -> Fx w mg mb s0.heap.objs.size sE W0 ((I, o) :: []) b s m -> m "i" = some (.int (j : Nat) t') -> m "string" = some (.str (mkS wd) tv) -> m "dfa" = some (.ref c.x.m) -> m "c" = some (.ref C) -> m "last" = some (.str (mkS u) tu) -> m "seen" = some (.ref S) -> m "nodes" = some (.ref N) ->
      MzN (Fx w mg mb s0.heap.objs.size sE W0 ((I, o) :: []) b) (.str (mkS wd) tv) (.ref c.x.m) (.ref C) (.str (mkS u) tu) (.ref S) (.ref N) (cp u wd) s := fun hc F n1 n2 n3 n4 n5 n6 n7 => by
     have e : j = cp u wd := (ar2 hj hc);subst e;exact ⟨_, t', F, n1, n2, n3, n4, n5, n6, n7⟩
    have hstep := cp_step hj;refine isTrue_and (wpAny_isTrue_Compare1 (m_local F (by exact n1) (Call_ (m_bi F (ng_len w) boot_len (m_cwb (args_cons (m_local F (by exact n5) (args_nil (m_lenS F (ar67 hul) fun s t1 F _ => lt_int (wpAny_truthy_bool ?_))))))))))
    by_cases h1 : j < u.length
    ·refine ifT (show decide ((j : Int) < (u.length : Int)) = true by simpa using h1) ?_;refine isTrue_and (wpAny_isTrue_Compare1 (m_local F (by exact n1) (Call_ (m_bi F (ng_len w) boot_len (m_cwb (args_cons (m_local F (by exact n2) (args_nil (m_lenS F (ar73 hwl) fun s t1 F _ => lt_int (wpAny_truthy_bool ?_))))))))))
     by_cases h2 : j < wd.length
     ·refine ifT (show decide ((j : Int) < (wd.length : Int)) = true by simpa using h2) ?_;refine isTrue_and (wpAny_isTrue_Compare1 (Subscript_ (m_local F (by exact n5) (m_local F (by exact n1) (subscriptTail_builtin (T := "str") (o := .str (mkS u) tu) rfl PyProof.Rows.slot_str_getitem.lookup ?_)))));refine m_at F h1 (ar67 hul) fun s t1 F _ => Subscript_ (m_local F (by exact n2) (m_local F (by exact n1) (subscriptTail_builtin (T := "str") (o := .str (mkS wd) tv) rfl PyProof.Rows.slot_str_getitem.lookup ?_)));refine m_at F h2 (ar73 hwl) fun s t2 F _ => eq_str (wpAny_truthy_bool ?_)
      by_cases h3 : u.getD j 0 = wd.getD j 0
      ·rw [h3, show ((⟨#[wd.getD j 0]⟩ : Str) == ⟨#[wd.getD j 0]⟩) = true by simp, if_pos rfl];refine isTrue_and_nil ?_;refine ifT rfl ?_;refine wpAny_execs_cons (wpAny_AugAssign_Name (m_local' F (by exact n1) (m_cint F fun s t3 F _ => m_iadd F fun s t4 F _ => m_store F fun s F => wpAny_execs_nil ?_)));have hjc := hstep.mp ⟨h1, h2, h3⟩;exact hQw _ _ ⟨cp u wd - (j + 1), (Nat.sub_succ_lt_self _ _ (hstep.mp ⟨h1, h2, h3⟩)), j2i _ _ ⟨j + 1, hjc, rfl, _, t4, F, rfl, n2, n3, n4, n5, n6, n7⟩⟩
      ·refine ifF (show ((⟨#[u.getD j 0]⟩ : Str) == ⟨#[wd.getD j 0]⟩) = false by simpa using h3) (ifF rfl ?_);exact wpAny_execs_nil (hQe _ _ (j1i _ _ ⟨rfl, hout (fun h => h3 (hstep.mpr h).2.2) F n1 n2 n3 n4 n5 n6 n7⟩))
     ·refine ifF (show decide ((j : Int) < (wd.length : Int)) = false by simpa using h2) (ifF rfl ?_);exact wpAny_execs_nil (hQe _ _ (j1i _ _ ⟨rfl, hout (fun h => h2 (hstep.mpr h).2.1) F n1 n2 n3 n4 n5 n6 n7⟩))
    ·refine ifF (show decide ((j : Int) < (u.length : Int)) = false by simpa using h1) (ifF rfl ?_);exact wpAny_execs_nil (hQe _ _ (j1i _ _ ⟨rfl, hout (fun h => h1 (hstep.mpr h).1) F n1 n2 n3 n4 n5 n6 n7⟩))
   ·intro f s hJ1;obtain ⟨rfl, ⟨m, ti, F, n1, n2, n3, n4, n5, n6, n7⟩⟩ := j1o _ _ hJ1;have hn900 : n <= 1 + ((W.take i).map List.length).sum := J_sz;have hsum : ((W.take i).map List.length).sum + wd.length <= (W.map List.length).sum := by
     have e : W = W.take i ++ W[i] :: W.drop (i + 1) := by rw [← List.drop_eq_getElem_cons hi]; exact (List.take_append_drop i W).symm
     have e2 : W[i] = wd := by rw [List.getElem?_eq_getElem hi] at hwd; exact Option.some.inj hwd
     conv => rhs; rw [e]
     simp only [List.map_append, List.map_cons, List.sum_append, List.sum_cons, e2]; exact ar94
    refine wpAny_execs_cons (wpAny_Assign_Name (m_local F (by exact n1) (m_store F fun s F => ?_)));refine wpAny_execs_cons (wpAny_Expr (Call_ (m_glob F (gl_add_suffix w) (m_cw (by rfl) (args_cons (m_local F (by exact n3) (args_cons (m_local F (by exact n7) (args_cons (m_local F (by exact n5) (args_cons (wpAny_BinOp (m_local F (by rfl) (m_cint F fun s t1 F _ => m_add F fun s t2 F _ => args_cons (m_local F (by exact n6) (args_nil ⟨F.g.X, ?_⟩))))))))))))))) (by rfl) (by rfl));rw [show ((cp u wd : Int) + 1) = ((cp u wd + 1 : Nat) : Int) from ar66];obtain ⟨R', t', bl', ho, hbl, I'⟩ := J_I.outc (p := cp u wd) (by rw [J_fl]; exact hcu.1);have hlen1 : R.length + ssLen (some (t, bl)) <= 1001 := by have := J_I.sz; simp [ssLen]; exact ar225 hsz hn900 hsum this
    refine add_suffix_spec (q := b) F.g (hB _) (F.frs (hF.slots J_sh.1) frW (fun hk => nomatch hk) rfl) F.keep ?_ J_B (Inv.suffix u (W.take i) n (cp u wd + 1) (ar226 hsz hn900 hsum) (fun h => absurd h (ar233))) (fun t bl e => by cases e; exact J_I) hlen1 fun s1 s' q' c' ns' xs' sh1 St hq' hqf' kq' B' sub' cx' => ?_
    ·intro a ha;rcases List.mem_cons.mp (show a ∈ s0.heap.objs.size :: fra outer from ha) with rfl | ha
     ·exact F.noL
     ·exact J_hb a ha
    ·rw [show outS (cp u wd + 1) R (some (t, bl)) = (R', some (t', bl')) from ho] at B';dsimp only at B';have lvF : ∀ a ∈ fra outer, (∃ o, sE.heap.get? a = some o) ∧ 456 <= a ∧ a ≠ s0.heap.objs.size ∧ ¬ W0 a := fun a ha => by
      obtain ⟨o, e, _, lo⟩ := hF.mem ha;exact ⟨J_sh.some e, lo, (frW a ha).2, (frW a ha).1⟩
     refine (F.shift (s' := s1) J_hb lvF (fun a o ha e => (sh1.1.2.1 a ha).trans e) (fun a _ o e => sh1.1.2.2 a o e) sh1.2.1 sh1.2.2) _ fun sE' shE F1 => ?_;have lvO : ∀ a ∈ ownA c N S ns, ∃ o, b.get? a = some o := fun a ha => (J_B.there a ha).ex;have noE : ∀ {a}, s0.heap.get? a = none -> sE'.heap.get? a = none := fun {a} e => (J_sh.trans shE).none e fun hm => by obtain ⟨o, e', _⟩ := hF.mem hm; rw [e] at e'; cases e'
     refine (F1.changeF J_hb St (fun q => by obtain ⟨o, e⟩ := lvO _ q; exact F.ne e rfl) (fun p hp q => by obtain ⟨o, e⟩ := lvO _ q; exact F.neH e (List.mem_cons_of_mem _ (List.mem_map_of_mem hp))) (fun a o' ha e => by rw [noE (J_fresh a ha)] at e; cases e)) _ fun b2 F2 hb2 _ _ => ?_;have hI1 := F.hid (I, o) List.mem_cons_self;have noI : ∀ {a o'}, a ≠ I -> q'.get? a = some o' -> (hideAll q' [I]).get? a = some o' := fun ha e => hide_get _ _ (by simpa using ha) e;have hnL : (hideAll q' [I]).get? s0.heap.objs.size = none := by
      cases e : (hideAll q' [I]).get? s0.heap.objs.size with
      | none => rfl
      | some o' =>
       have h1 := of_hideAll _ e;rw [hqf' _ (show s0.heap.objs.size ∈ s0.heap.objs.size :: fra outer by simp)] at h1;cases h1
     have F3 : Fx w mg mb s0.heap.objs.size sE' W0 ((I, o) :: []) (hideAll q' [I]) s' _ := ⟨F2.g, F2.hL, F2.ns, F2.tot, fun a o e => hq' a o (of_hideAll _ e), hnL, fun p hp => ⟨(F2.hid p hp).1, hideAll_none _ (by simp at hp; subst hp; simp), (F2.hid p hp).2.2⟩⟩;have hb3 : NonF (fra outer) (hideAll q' [I]) := fun a ha => by
      cases e : (hideAll q' [I]).get? a with
      | none => rfl
      | some o' => have := of_hideAll _ e; rw [hqf' _ (show a ∈ s0.heap.objs.size :: fra outer from List.mem_cons_of_mem _ ha)] at this; cases this
     have ownI : ∀ a ∈ ownA c' N S ns', a ≠ I := fun a ha q => by
      rcases sub' a ha with h | h
      ·obtain ⟨o', e⟩ := lvO a h; rw [q, hI1.2.1] at e; cases e
      ·rw [q, hI1.1] at h; cases h
     have B3 : BAt w (hideAll q' [I]) c' N S ns' xs' (encR (rowsOf R')) R' (some (t', bl')) := B'.keep (fun a ha o e => noI (ownI a ha) e) fun z vs e => noI (fun q => by rw [q] at e; have := (F2.hid (I, o) List.mem_cons_self).1; rw [hq' _ _ e] at this; cases this; simp at hoc) e;have kq3 : Kp q (hideAll q' [I]) := fun a o' e => noI (fun qq => by have := J_kq a o' e; rw [qq, hI1.2.1] at this; cases this) (kq' a o' (fun hm => by have h1 := J_fresh a hm; have h2 := hq a o' e; rw [h1] at h2; cases h2) (J_kq a o' e));have ct3 : CtrAt (hideAll q' [I]) C dC n := by
      obtain ⟨y1, y2, e1, e2⟩ := J_ct;exact ⟨y1, y2, noI (fun qq => by rw [qq, hI1.2.1] at e1; cases e1) (kq' _ _ J_cn.1 e1), noI (fun qq => by rw [qq, hI1.2.1] at e2; cases e2) (kq' _ _ J_cn.2 e2)⟩
     have fresh3 : NonF (ownA c' N S ns') s0.heap := fun a ha => by
      rcases sub' a ha with h | h
      ·exact J_fresh a h
      ·exact Stp.none_of F.tot h |> fun h => by
        cases e : s0.heap.get? a with
        | none => rfl
        | some o' => obtain ⟨o2, e2⟩ := J_sh.some e; rw [h] at e2; cases e2
     have lvC := J_ct.live;have cn3 : C ∉ ownA c' N S ns' ∧ dC ∉ ownA c' N S ns' := by
      have : ∀ z, z = C ∨ z = dC -> z ∉ ownA c N S ns -> z ∉ ownA c' N S ns' := fun z hz hn hm => by
       rcases sub' z hm with h | h
       ·exact hn h
       ·obtain ⟨o', e⟩ := lvC z hz; rw [F.keep _ _ e] at h; cases h
      exact ⟨this C (.inl rfl) J_cn.1, this dC (.inr rfl) J_cn.2⟩
     have sh3 := J_sh.trans shE;obtain ⟨hcl, hcg⟩ := cp_next u wd hlt;have MM := I'.mids (v := wd) (by rw [hbl]; exact cp_take u wd) (by rw [hbl]; exact hcl) (by rw [hbl]; exact hcg);rw [hbl] at MM;have F := F3;have hwc := hW wd hwm;have hasc : ((mkS (wd.drop (cp u wd))).cps.all (· < 128)) = true := by
      show ((wd.drop (cp u wd)).toArray.all _) = true;rw [List.all_toArray, List.all_eq_true];intro c hc;have := hwc c (List.mem_of_mem_drop hc);simp; exact ar4 this
     generalize hb3e : hideAll q' [I] = b3 at *;refine wpAny_execs_cons (wpAny_For (m_from (x := wd) (p := cp u wd) hcu.2 (by rw [sizeLine_eq]; exact Nat.le_trans (Nat.le_of_lt hwl) (by decide)) (m_local F (by exact n2) ⟨_, rfl, m_local F (by rfl) ⟨_, _, _, rfl, F, fun s t F => ?_⟩⟩)));refine for_str (hB default).hh hasc (MzC w wd (cp u wd) (W.take i) R' c' N S xs' C dC t' bl' n (fra outer) q s0.heap (.ref c.x.m) (.ref C) (.str (mkS wd) tv)) F (fun _ kk => kk ns' t' bl' n MM B3 rfl ct3 (by simp) hb3 kq3 fresh3 cn3 n3 n4 n6 n7 n2) ?_ ?_
     ·intro kx ch tu2 s b m H' hH hch hJ2 F;refine gQ fun Qc Ec hQc hEc => ?_;refine hJ2 _ fun ns2 t2 bl2 nn2 MM B2 hpush ct2 hnn hb2 kq2 fr2 cn2 p1 p2 p3 p4 p5 => ?_;have hlenC : kx < (wd.drop (cp u wd)).length := by
       have := (Array.getElem?_eq_some_iff.mp hch).1
       simpa [mkS] using this
      have hch' : wd.getD (cp u wd + kx) 0 = ch := by
       have h1 : (wd.drop (cp u wd))[kx]? = some ch := by simpa [mkS] using hch
       rw [List.getElem?_drop] at h1;simp [List.getD, h1]
      have hkl : cp u wd + kx < wd.length := by simp at hlenC; exact Nat.add_lt_of_lt_sub' hlenC
      have frE : ∀ {a}, s0.heap.get? a = none -> sE'.heap.get? a = none := noE;refine wpAny_execs_cons (wpAny_Assign_Name (Call_ (m_glob F (gl_DMNode w) (callWith_K F.g.X (ke_344 w) (args_cons (Call_ (m_bi F (ng_next w) boot_next (m_cwb (args_cons (m_local F (by exact p2) (args_nil ?_)))))))))));refine next_spec F.g (hB _) (ct2.keeps F.keep) J_clo fun s' tn St hct => ?_;have lvC2 := ct2.live;have dCC : dC ≠ C := fun qq => by obtain ⟨y1, y2, e1, e2⟩ := ct2; rw [qq, e1] at e2; exact absurd (congrArg Obj.cls (Option.some.inj e2)) (by simp)
      refine (F.changeF hb2 St (fun qq => by obtain ⟨o', e⟩ := lvC2 C (.inl rfl); exact F.ne e qq.symm) (fun p hp qq => by obtain ⟨o', e⟩ := lvC2 C (.inl rfl); exact F.neH e (qq ▸ List.mem_cons_of_mem _ (List.mem_map_of_mem hp))) (fun a o' ha e => by rw [ha, frE J_cf.1] at e; cases e)) _ fun b4 F4 hb4 k4 kn4 => ?_;have keepNC : ∀ z, z = C ∨ z = dC -> ∀ o', s'.heap.get? z = some o' -> b4.get? z = some o' := fun z hz o' e => by
       obtain ⟨o2, e2⟩ := lvC2 z hz;exact kn4 _ _ (F.neH e2) (fun hm => by rw [hb2 _ hm] at e2; cases e2) e
      have ct4 : CtrAt b4 C dC (nn2 + 1) := hct.mov keepNC;have kt4 : ∀ z vs, b.get? z = some (tupO vs) -> b4.get? z = some (tupO vs) := fun z vs e => k4 _ _ (fun qq => by obtain ⟨y1, y2, e1, e2⟩ := ct2; have qq : z = C := qq; rw [qq, e1] at e; exact absurd (congrArg Obj.cls (Option.some.inj e)) (by simp)) e;have B4 := B2.keep (h' := b4) (fun a ha o' e => k4 _ _ (fun qq => cn2.1 (by have qq : a = C := qq; rw [← qq]; exact ha)) e) kt4;have kq4 : Kp q b4 := fun a o' e => k4 _ _ (fun qq => by have qq : a = C := qq; have := hq a o' e; rw [qq, J_cf.1] at this; cases this) (kq2 a o' e);refine args_nil ⟨F4.g.X, ?_⟩;refine dmnode_spec F4.g (hB _) fun s'' p S5 hp fpx fpd fpa ndp ldp => ?_;have hFs : ∀ {s : Shared} {b : Heap} {m : Str -> Option Value}, Fx w mg mb s0.heap.objs.size sE' W0 H' b s m -> Frs A outer s.heap := fun F => F.frsO (hF.slots (J_sh.trans shE).1) frW;refine ((F4.grow S5).rebaseF hb4) _ fun b5 F5 hb5 k5 kn5 => ?_;have nx := F4.freshN (hFs F4) fpx;have nd := F4.freshN (hFs F4) fpd;have na := F4.freshN (hFs F4) fpa;have hp5 : NodeAt w b5 p nn2 [] false := by
       obtain ⟨t0, t1, t2, t3, kk, e⟩ := hp.dic;obtain ⟨o', es, ep, e2, r⟩ := hp.arc;exact ⟨kn5 _ _ nx.1 nx.2.1 hp.obj, ⟨t0, t1, t2, t3, kk, kn5 _ _ nd.1 nd.2.1 e⟩, ⟨o', es, ep, kn5 _ _ na.1 na.2.1 e2, r⟩, hp.lo⟩
      have b4p : ∀ a ∈ [p.x, p.d, p.a], b4.get? a = none ∧ s0.heap.get? a = none := fun a ha => by
       have bk : ∀ {z}, s'.heap.get? z = none -> s0.heap.get? z = none := fun {z} hz => by
        have h1 := F4.tot.none_of hz;cases e : s0.heap.get? z with
        | none => rfl
        | some o' => obtain ⟨o2, e2⟩ := (J_sh.trans shE).some e; rw [h1] at e2; cases e2
       simp only [List.mem_cons, List.not_mem_nil, or_false] at ha;rcases ha with rfl | rfl | rfl
       ·exact ⟨nx.2.2, bk fpx⟩
       ·exact ⟨nd.2.2, bk fpd⟩
       ·exact ⟨na.2.2, bk fpa⟩
      refine m_store F5 fun s F => ?_;have B5 := B4.keep (h' := b5) (fun a _ o' e => k5 _ _ e) fun z vs e => k5 _ _ e;have ct5 := ct4.keeps k5;have kq5 := fun a o' (e : q.get? a = some o') => k5 _ _ (kq4 a o' e);have hpy := B5.py;cases ns2 with
      | nil => simp [pyOf] at hpy
      | cons r0 nr =>
      simp only [List.map_cons, pyOf, List.cons.injEq, Prod.mk.injEq] at hpy;obtain ⟨⟨hrn, hra, hrf⟩, hnr⟩ := hpy;obtain ⟨hr0, hr0d⟩ := B5.nodes r0 (by simp);obtain ⟨ua, ub, uc, ud, uk, ue⟩ := hr0.dic;obtain ⟨va, vb, vc, vd, vk, ve⟩ := hp5.dic;obtain ⟨kN, eN⟩ := B5.stk;rw [List.reverse_cons, List.map_append] at eN;have hnrl : nr.length = bl2.length := by have := congrArg List.length hnr; simpa [pyBelow_len] using this
      have hbl2 : bl2.length <= 900 := by rw [MM.pa.2.1]; exact Nat.le_trans (Nat.le_of_lt (Nat.lt_of_lt_of_le hkl (Nat.le_trans (Nat.le_add_left _ _) hsum))) (Nat.le_of_lt hsz)
      have hl2 : ∀ {s : Shared} {m : Str -> Option Value}, Fx w mg mb s0.heap.objs.size sE' W0 H' b5 s m -> s.heap.IsList N ((nr.reverse.map fun r => Value.ref r.p.x) ++ [Value.ref r0.p.x]).toArray := fun F => ⟨_, F.keep _ _ eN, rfl, _, rfl⟩;have hsz2 : ((nr.reverse.map fun r => Value.ref r.p.x) ++ [Value.ref r0.p.x]).toArray.size = bl2.length + 1 := by rw [List.size_toArray, List.length_append, List.length_map, List.length_reverse, hnrl]; rfl
      refine wpAny_execs_cons (wpAny_Assign_Subscript (m_attr (m_local F (by rfl) (m_get F (at_n w) hp5.obj ve (by rfl) rfl fun s F => m_attr (Subscript_ (m_local F (by exact p4) (wpAny_UnaryOp (m_cint F fun s t F _ => m_neg F fun s t F _ => subscriptTail_builtin (hl2 F).typeIs PySem.slot_list_getitem.lookup ?_))))))));refine wpAny_getItem_list_neg (x := .ref r0.p.x) (hl2 F) (by decide) (by rw [hsz2]; exact ar31) (by decide) ?_ (m_get F (at_arcs w) hr0.obj ue (by rfl) rfl fun s F => m_local F (by rfl) ?_)
      ·rw [hsz2, show ((-1 : Int) + ((bl2.length + 1 : Nat) : Int)).toNat = bl2.length from ar33, ← hnrl]; simp
      refine wpAny_setItem_pairs (strKind_is _ _ (lab ch) _) (hr0.arc.keep F.keep) (fun h' hz hs' => ?_) ?_
      ·rw [stored_intPairs] at hz;obtain ⟨oz, ezs, eze, ez, hzr⟩ := id hz;refine (dob hr0.arc) _ fun oa ea1 hxa => ?_;have mra : r0.p.a ∈ ownA c' N S (r0 :: nr) := mem_ownR (r := r0) (by simp) (by simp [NR.adr]);refine (F.oneF hb5 hs' ez hr0.lo ea1 (fun o' e => by rw [frE (fr2 _ mra)] at e; cases e) (t := s.toks + 1) (d := s.drawn)) _ fun b7 F7 hb7 k7 e7 => ?_;have nd1 := B5.own;have e1 : ownA c' N S (r0 :: nr) = ([N, S] ++ c'.addrs) ++ ([r0.p.x, r0.p.d, r0.p.a] ++ nr.flatMap NR.adr) := by simp [ownA, NR.adr]
       rw [e1, List.nodup_append] at nd1;obtain ⟨z1, z2, z3⟩ := nd1;have a1 : ∀ {z}, z ∈ [N, S] ++ c'.addrs -> z ≠ r0.p.a := fun hz qq => z3 _ hz r0.p.a (by simp) qq;simp only [List.cons_append, List.nil_append, List.nodup_cons, List.mem_cons, not_or] at z2;have a2 : ∀ {z}, z ∈ nr.flatMap NR.adr -> z ≠ r0.p.a := fun hz qq => z2.2.2.1 (qq ▸ hz);have bNp : ∀ a ∈ ownA c' N S (r0 :: nr), ∃ o', b4.get? a = some o' := fun a ha => (B4.there a ha).ex;have pne : ∀ {z}, z ∈ [p.x, p.d, p.a] -> ∀ y ∈ ownA c' N S (r0 :: nr), z ≠ y := fun hz y hy qq => by obtain ⟨o', e⟩ := bNp y hy; rw [← qq, (b4p _ hz).1] at e; cases e
       have eN7 := k7 _ _ (a1 (by simp)) eN;refine wpAny_execs_cons (wpAny_Expr (MethodCall_ (m_local F7 (by exact p4) (gm_list (F7.keep _ _ eN7) PySem.F.slot_list_append PySem.type_list_append (m_cwb (args_cons (m_local F7 (by rfl) (args_nil ?_))))))) (by rfl) (by rfl));refine m_append F7 eN7 B5.loN (fun o' e => by rw [frE (fr2 _ mem_ownN)] at e; cases e) (by rw [List.length_append, List.length_map, List.length_reverse, hnrl, sizeLine_eq]; simp; exact ar251 hbl2) fun s b8 F k8 eN8 => wpAny_execs_nil ?_;refine (F.hideF (fr := fra outer)) _ fun F hb8 kh => ?_;have k8 : ∀ a o', a ≠ N -> b7.get? a = some o' -> (hideAll b8 (fra outer)).get? a = some o' := fun a o' ha e => kh a o' (fun hm => by rw [hb7 a hm] at e; cases e) (k8 a o' ha e);have eN8 := kh _ _ (fun hm => by rw [hb7 _ hm] at eN7; cases eN7) eN8;generalize hideAll b8 (fra outer) = b8 at F hb8 k8 eN8;have nN : ∀ {z}, z ∈ S :: c'.addrs ++ ([r0.p.x, r0.p.d, r0.p.a] ++ nr.flatMap NR.adr) -> z ≠ N := fun hz qq => by
        have nd2 := B5.own;rw [e1] at nd2;simp only [List.cons_append, List.nil_append, List.nodup_cons] at nd2;exact nd2.1 (by rw [← qq]; simpa using hz)
       have kt7 : ∀ z vs, b5.get? z = some (tupO vs) -> b8.get? z = some (tupO vs) := fun z vs e => k8 _ _ (There.neT ⟨_, eN, by simp⟩ e) (k7 _ _ (There.neT ⟨_, ea1, by rw [hxa.1]; decide⟩ e) e);have hml := MM.last (hkl);rw [hch'] at hml;have hownN : (ownA c' N S (⟨p, nn2, [], false⟩ :: { r0 with arcs := storedI r0.arcs (lab ch) nn2 va } :: nr)).Nodup := by
        have e2 : ownA c' N S (⟨p, nn2, [], false⟩ :: { r0 with arcs := storedI r0.arcs (lab ch) nn2 va } :: nr) = ([N, S] ++ c'.addrs) ++ ([p.x, p.d, p.a] ++ (r0.adr ++ nr.flatMap NR.adr)) := by simp [ownA, NR.adr]
        have e3 : ownA c' N S (r0 :: nr) = ([N, S] ++ c'.addrs) ++ (r0.adr ++ nr.flatMap NR.adr) := by simp [ownA]
        have nd2 := B5.own;rw [e3, List.nodup_append] at nd2;rw [e2, List.nodup_append];refine ⟨nd2.1, List.nodup_append.mpr ⟨ndp, nd2.2.1, fun a ha y hy => pne ha y (by rw [e3]; exact List.mem_append_right _ hy)⟩, fun a ha y hy => ?_⟩;rcases List.mem_append.mp hy with hy | hy
        ·exact fun qq => pne hy a (by rw [e3]; exact List.mem_append_left _ ha) qq.symm
        ·exact nd2.2.2 a ha y hy
       have hownS : ∀ a ∈ ownA c' N S (⟨p, nn2, [], false⟩ :: { r0 with arcs := storedI r0.arcs (lab ch) nn2 va } :: nr), a ∈ ownA c' N S (r0 :: nr) ∨ a ∈ [p.x, p.d, p.a] := fun a ha => by
        simp only [ownA, List.flatMap_cons, List.mem_append, NR.adr] at ha ⊢;rcases ha with h | h | h | h | h
        ·exact .inl (.inl h)
        ·exact .inl (.inr (.inl h))
        ·exact .inr h
        ·exact .inl (.inr (.inr (.inl h)))
        ·exact .inl (.inr (.inr (.inr h)))
       have keep58 : ∀ {z o'}, z ≠ r0.p.a -> z ≠ N -> b5.get? z = some o' -> b8.get? z = some o' := fun h1 h2 e => k8 _ _ h2 (k7 _ _ h1 e);have cOwn : ∀ z, z = C ∨ z = dC -> ∀ o', b5.get? z = some o' -> b8.get? z = some o' := fun z hz o' e => by
        have hn : z ∉ ownA c' N S (r0 :: nr) := by rcases hz with qq | qq <;> rw [qq]; exact cn2.1; exact cn2.2
        exact keep58 (fun qq => hn (qq ▸ mra)) (fun qq => hn (qq ▸ mem_ownN)) e
       refine hQc .next _ ⟨b8, _, F, fun _ kk => kk (⟨p, nn2, [], false⟩ :: { r0 with arcs := storedI r0.arcs (lab ch) nn2 va } :: nr) ⟨nn2, [], false⟩ (⟨t2.n, t2.arcs, t2.fin, wd.getD (cp u wd + kx) 0⟩ :: bl2) (nn2 + 1) (MM.one hkl hwc) ?_ ?_ ?_ (by rw [hnn]; push_cast; exact Int.add_assoc _ _ _) hb8 (fun a o' e => ?_) (fun a ha => ?_) ?_ p1 p2 p3 p4 p5⟩
       ·refine ⟨B5.D.other B5.out (fun a ha o' e => keep58 (a1 (List.mem_append_right _ ha)) (nN (List.mem_append_left _ (List.mem_cons_of_mem _ ha))) e), ⟨_, by rw [List.reverse_cons, List.reverse_cons, List.map_append, List.map_append]; exact eN8⟩, fun r hr => ?_, DictOfH_other B5.seen (fun o' e => keep58 (a1 (by simp)) (nN (by simp)) e) kt7, ?_, B5.rows, B5.fin, B5.nf, B5.out, B5.len, B5.hit, B5.miss, hownN, B5.loN, B5.loS⟩
        ·rcases List.mem_cons.mp hr with rfl | hr
         ·exact ⟨NodeAt.other (r := ⟨p, nn2, [], false⟩) hp5 fun a ha o' e => keep58 (pne ha _ mra) (pne ha _ mem_ownN) e, ldp⟩
         ·rcases List.mem_cons.mp hr with rfl | hr
          ·exact ⟨⟨keep58 (fun qq => z2.1.2.1 qq) (nN (by simp)) hr0.obj, ⟨ua, ub, uc, ud, uk, keep58 (fun qq => z2.2.1.1 qq) (nN (by simp)) ue⟩, ⟨oz, ezs, eze, k8 _ _ (nN (by simp)) e7, hzr⟩, hr0.lo⟩, hr0d⟩
          ·exact ⟨(B5.nodes r (by simp [hr])).1.other fun a ha o' e => keep58 (a2 (List.mem_flatMap.mpr ⟨r, hr, ha⟩)) (nN (List.mem_append_right _ (List.mem_append_right _ (List.mem_flatMap.mpr ⟨r, hr, ha⟩)))) e, (B5.nodes r (by simp [hr])).2⟩
        ·show _ :: _ :: _ = _ :: _ :: _;rw [show (nr.map fun r => (r.n, keyOf r.arcs, r.fin)) = _ from hnr];have e4 : keyOf (storedI r0.arcs (lab ch) nn2 va) = enc (t2.arcs ++ [(wd.getD (cp u wd + kx) 0, nn2)]) := by
          rw [keyOf_storedI, show keyOf r0.arcs = enc t2.arcs from hra, hch'];unfold pStore;rw [if_neg, enc_append]
          ·rfl
          ·intro h;obtain ⟨y, hy, e⟩ := List.any_eq_true.mp h;obtain ⟨y', hy', rfl⟩ := List.mem_map.mp hy;have := hml y' hy';have e5 := lab_inj (by simpa using e);exact Nat.ne_of_lt this e5
         show (nn2, keyOf [], false) :: (r0.n, keyOf (storedI r0.arcs (lab ch) nn2 va), r0.fin) :: _ = (nn2, enc [], false) :: (t2.n, enc (t2.arcs ++ [(wd.getD (cp u wd + kx) 0, nn2)]), t2.fin) :: _;rw [e4, hrn, hrf]; rfl
       ·rw [hpush];have e4 : wd.drop (cp u wd + kx) = wd.getD (cp u wd + kx) 0 :: wd.drop (cp u wd + (kx + 1)) := by
         rw [List.drop_eq_getElem_cons hkl];simp [List.getD, List.getElem?_eq_getElem hkl, Nat.add_assoc]
        rw [e4]; rfl
       ·exact ct5.mov cOwn
       ·have hn : ∀ z ∈ ownA c' N S (r0 :: nr), a ≠ z := fun z hz qq => by have := hq a o' e; rw [qq, fr2 z hz] at this; cases this
        exact keep58 (hn _ mra) (hn _ mem_ownN) (kq5 a o' e)
       ·rcases hownS a ha with h | h
        ·exact fr2 a h
        ·exact (b4p a h).2
       ·have hC4 := ct4.live;have : ∀ z, z = C ∨ z = dC -> z ∉ ownA c' N S (r0 :: nr) -> z ∉ ownA c' N S (⟨p, nn2, [], false⟩ :: { r0 with arcs := storedI r0.arcs (lab ch) nn2 va } :: nr) := fun z hz hn hm => by
         rcases hownS z hm with h | h
         ·exact hn h
         ·obtain ⟨o', e⟩ := hC4 z hz; rw [(b4p z h).1] at e; cases e
        exact ⟨this C (.inl rfl) cn2.1, this dC (.inr rfl) cn2.2⟩
      ·unfold intPairs;rw [List.length_map];have h1 := congrArg List.length (show keyOf r0.arcs = enc t2.arcs from hra);simp only [keyOf, enc, List.length_map] at h1;have h2 := MM.ta.1.len fun x hx => (MM.ta.2 x hx).2;rw [sizeLine_eq]; exact ar180 h1 h2
     ·intro s b m hLp F;refine hLp _ fun ns2 t2 bl2 nn2 MM B2 hpush ct2 hnn hb2 kq2 fr2 cn2 p1 p2 p3 p4 p5 => ?_;have hszd : (mkS (wd.drop (cp u wd))).cps.size = wd.length - cp u wd := by show (wd.drop (cp u wd)).toArray.size = _; rw [List.size_toArray, List.length_drop]
      rw [hszd, show cp u wd + (wd.length - cp u wd) = wd.length from Nat.add_sub_cancel' (Nat.le_of_lt hcl)] at MM;rw [hszd] at hnn;have hpy := B2.py;cases ns2 with
      | nil => simp [pyOf] at hpy
      | cons r0 nr =>
      simp only [List.map_cons, pyOf, List.cons.injEq, Prod.mk.injEq] at hpy;obtain ⟨⟨hrn, hra, hrf⟩, hnr⟩ := hpy;obtain ⟨hr0, hr0d⟩ := B2.nodes r0 (by simp);obtain ⟨ua, ub, uc, ud, uk, ue⟩ := hr0.dic;obtain ⟨kN, eN⟩ := B2.stk;rw [List.reverse_cons, List.map_append] at eN;have hnrl : nr.length = bl2.length := by have := congrArg List.length hnr; simpa [pyBelow_len] using this
      have hbl2 : bl2.length <= 900 := by rw [MM.pa.2.1]; exact Nat.le_of_lt hwl
      have hl2 : ∀ {s : Shared} {m : Str -> Option Value}, Fx w mg mb s0.heap.objs.size sE' W0 ((I, o) :: []) b s m -> s.heap.IsList N ((nr.reverse.map fun r => Value.ref r.p.x) ++ [Value.ref r0.p.x]).toArray := fun F => ⟨_, F.keep _ _ eN, rfl, _, rfl⟩;have hsz2 : ((nr.reverse.map fun r => Value.ref r.p.x) ++ [Value.ref r0.p.x]).toArray.size = bl2.length + 1 := by rw [List.size_toArray, List.length_append, List.length_map, List.length_reverse, hnrl]; rfl
      have mrd : r0.p.d ∈ ownA c' N S (r0 :: nr) := mem_ownR (r := r0) (by simp) (by simp [NR.adr]);refine wpAny_execs_nil (wpAny_execs_cons (m_AssignAttr (m_cbool (Subscript_ (m_local F (by exact p4) (wpAny_UnaryOp (m_cint F fun s t F _ => m_neg F fun s t F _ => subscriptTail_builtin (hl2 F).typeIs PySem.slot_list_getitem.lookup ?_)))))));refine wpAny_getItem_list_neg (x := .ref r0.p.x) (hl2 F) (by decide) (by rw [hsz2]; exact ar31) (by decide) ?_ (m_setF F (sf_final w) hr0.obj ue hr0d (fun o' e => by rw [noE (fr2 _ mrd)] at e; cases e) fun s b6 tk F k6 ed6 => ?_)
      ·rw [hsz2, show ((-1 : Int) + ((bl2.length + 1 : Nat) : Int)).toNat = bl2.length from ar33, ← hnrl]; simp
      refine (F.hideF (fr := fra outer)) _ fun F hb6 kh => ?_;have k6 : ∀ a o', a ≠ r0.p.d -> b.get? a = some o' -> (hideAll b6 (fra outer)).get? a = some o' := fun a o' ha e => kh a o' (fun hm => by rw [hb2 a hm] at e; cases e) (k6 a o' ha e);have ed6 := kh _ _ (fun hm => by rw [hb2 _ hm] at ue; cases ue) ed6;generalize hideAll b6 (fra outer) = b6 at F hb6 k6 ed6;have nd1 := B2.own;have e1 : ownA c' N S (r0 :: nr) = ([N, S] ++ c'.addrs) ++ ([r0.p.x, r0.p.d, r0.p.a] ++ nr.flatMap NR.adr) := by simp [ownA, NR.adr]
      rw [e1, List.nodup_append] at nd1;obtain ⟨z1, z2, z3⟩ := nd1;have a1 : ∀ {z}, z ∈ [N, S] ++ c'.addrs -> z ≠ r0.p.d := fun hz qq => z3 _ hz r0.p.d (by simp) qq;simp only [List.cons_append, List.nil_append, List.nodup_cons, List.mem_cons, not_or] at z2;have a2 : ∀ {z}, z ∈ nr.flatMap NR.adr -> z ≠ r0.p.d := fun hz qq => z2.2.1.2 (qq ▸ hz);have kt6 : ∀ z vs, b.get? z = some (tupO vs) -> b6.get? z = some (tupO vs) := fun z vs e => k6 _ _ (fun qq => by rw [qq, ue] at e; exact absurd (congrArg Obj.cls (Option.some.inj e)) (by simp)) e;refine wpAny_execs_cons (wpAny_Assign_Name (m_local F (by exact p5) (m_store F fun s F => wpAny_execs_nil ?_)));have htk : W.take (i + 1) = W.take i ++ [wd] := by rw [List.take_add_one, hwd]; rfl
      have hIn := MM.last_;rw [← htk] at hIn;have cOwn : ∀ z, z ∉ ownA c' N S (r0 :: nr) -> ∀ o', b.get? z = some o' -> b6.get? z = some o' := fun z hz o' e => k6 _ _ (fun qq => hz (qq ▸ mrd)) e;refine hQb .next _ ⟨sE', b6, _, F, fun _ kk => kk N S C dC c' ({ r0 with fin := true } :: nr) xs' R' ⟨t2.n, t2.arcs, true⟩ bl2 wd nn2 sh3 hb6 (fun a o' e => ?_) ?_ fr2 ?_ J_cf J_clo cn2 hIn ?_ MM.pa.2.1 (fun h => absurd h hne) ?_ ?_ (by rw [cx']; exact p1) p2 ⟨tv, rfl⟩ p3 p4⟩
      ·exact cOwn a (fun hm => by have := hq a o' e; rw [fr2 a hm] at this; cases this) _ (kq2 a o' e)
      ·refine ⟨B2.D.other B2.out (fun a ha o' e => k6 _ _ (a1 (List.mem_append_right _ ha)) e), ⟨_, by rw [List.reverse_cons, List.map_append]; exact k6 _ _ (a1 (by simp)) eN⟩, fun r hr => ?_, DictOfH_other B2.seen (fun o' e => k6 _ _ (a1 (by simp)) e) kt6, ?_, B2.rows, B2.fin, B2.nf, B2.out, B2.len, B2.hit, B2.miss, B2.own, B2.loN, B2.loS⟩
       ·rcases List.mem_cons.mp hr with rfl | hr
        ·obtain ⟨oa, x1, x2, x3, x4⟩ := hr0.arc;exact ⟨⟨k6 _ _ (fun qq => z2.1.1 qq) hr0.obj, ⟨ua, ub, uc, ud, _, ed6⟩, ⟨oa, x1, x2, k6 _ _ (fun qq => z2.2.1.1 qq.symm) x3, x4⟩, hr0.lo⟩, hr0d⟩
        ·exact ⟨(B2.nodes r (by simp [hr])).1.other fun a ha o' e => k6 _ _ (a2 (List.mem_flatMap.mpr ⟨r, hr, ha⟩)) e, (B2.nodes r (by simp [hr])).2⟩
       ·show (r0.n, keyOf r0.arcs, true) :: _ = (t2.n, enc t2.arcs, true) :: _;rw [hrn, show keyOf r0.arcs = enc t2.arcs from hra];exact congrArg _ hnr
      ·obtain ⟨y1, y2, e1, e2⟩ := ct2;exact ⟨y1, y2, cOwn C cn2.1 _ e1, cOwn dC cn2.2 _ e2⟩
      ·rw [htk]; exact AscW_snoc J_asc (by rw [← J_ul]; exact hlt)
      ·rw [htk]; simp
      ·rw [htk, List.map_append, List.sum_append];simp only [List.map_cons, List.map_nil, List.sum_cons, List.sum_nil];exact ar288 hn900 hnn
  ·-- not in order
   refine ifT (show (!decide ((mkS u).cps.toList < (mkS wd).cps.toList)) = true by rw [decide_eq_false (show ¬ (mkS u).cps.toList < (mkS wd).cps.toList from hlt)]; rfl) ?_;have hnot : ¬ AscW [] W := fun h => by
    have h1 := AscW_take (i + 1) h;have htk : W.take (i + 1) = W.take i ++ [wd] := by rw [List.take_add_one, hwd]; rfl
    rw [htk] at h1;have := AscW_last h1;rw [← J_ul] at this;exact hlt this
   refine wpAny_execs_cons (Raise_madeB PySem.F.excCall_Exception PySem.F.excRaise_Exception (hB default).hh (m_bi F (ng_Exception w) boot_Exception ⟨rfl, args_cons (m_cstr F fun s t F _ => args_nil ⟨by rw [sizeLine_eq]; show 1 <= _; exact ar21, fun h' e hx => ?_⟩)⟩));refine hEb _ _ ?_;refine (show PassesOwn _ _ _ _ from by passes_own) _ _ ?_;have hL0 : sE.heap.get? s0.heap.objs.size = none := J_sh.none (Heap.get?_size_none _) fun hm => (frW _ hm).2 rfl;have hOs := F.frsO (hF.slots J_sh.1) frW;have hbase : ∀ a ∈ fra outer, (hideAll sE.heap (fra outer)).get? a = none := fun a ha => hideAll_none _ ha;have hkb : (hideAll sE.heap (fra outer)).StaysIn s.heap := fun a o' e => by
    have e1 := of_hideAll _ e;exact F.tot.keep _ _ (.inr fun h => h.elim (fun q => by rw [q, hL0] at e1; cases e1) id) e1
   have hbL : (hideAll sE.heap (fra outer)).get? s0.heap.objs.size = none := by
    cases e1 : (hideAll sE.heap (fra outer)).get? s0.heap.objs.size with
    | none => rfl
    | some o' => have := of_hideAll _ e1; rw [hL0] at this; cases this
   refine wpAny_leaves_madeW (outer := outer) (L := s0.heap.objs.size) (base := hideAll sE.heap (fra outer)) (h := s.heap) (Around.frames_deeper hOs.stack) rfl hkb (funFrames fun en hen => ?_) hx.of fun h2 ta hfl _ _ hup => hbad hnot e _ ?_
   ·rcases List.mem_cons.mp hen with rfl | hen
    ·obtain ⟨oL, es, ep, eL, hd, _⟩ := F.ns;exact ⟨fun hk => (nomatch hk), _, oL, rfl, hbL, eL, nfd ⟨es, ep, hd⟩⟩
    ·obtain ⟨hkk, L', o', hL', eL, hdL, _⟩ := hOs.ok en hen;exact ⟨hkk, L', o', hL', hbase _ (List.mem_filterMap.mpr ⟨en, hen, hL'⟩), eL, nfd hdL⟩
   ·have hsame : ∀ a ∈ fra outer, ∀ o', sE.heap.get? a = some o' -> s.heap.get? a = some o' := fun a ha o' e1 => F.tot.keep _ _ (.inr fun h => h.elim (frW a ha).2 (frW a ha).1) e1;obtain ⟨x1, x2⟩ := slots_up (fr := fra outer) (g := sE.heap) (h := h2) fun a ha o' e1 => by
     obtain ⟨o2, e2, hd, _⟩ := hOs.mem ha;have e3 := hsame a ha o' e1;rw [e2] at e3; cases e3;exact hup a _ (hx.keeps a _ e2) (nfd hd)
    refine ⟨{ sE with heap := ktsHeap h2 (fra outer) sE.heap }, hideAll sE.heap (fra outer), _, J_sh.trans ⟨x1, rfl, rfl⟩, fun a ha => ?_, hbase, hfl, fun a ha => ?_, ?_, ?_⟩
    ·show _ = (ktsHeap h2 (fra outer) sE.heap).get? a;rw [ktsHeap_ne _ ha];cases e1 : sE.heap.get? a with
     | some o' => exact hide_get _ _ ha e1
     | none =>
      cases e2 : (hideAll sE.heap (fra outer)).get? a with
      | none => rfl
      | some o' => have := of_hideAll _ e2; rw [e1] at this; cases this
    ·obtain ⟨o2, e2, hd, _⟩ := hF.mem ha;obtain ⟨o3, e3⟩ := J_sh.some e2;show h2.get? a = (ktsHeap h2 (fra outer) sE.heap).get? a;obtain ⟨sl, e4⟩ := x1.2.2 a o3 e3;rw [e4];exact x2 a ha _ e4 (by rw [e3]; simp)
    ·exact F.tot.gens.trans J_sh.2.1
    ·exact F.tot.os.trans J_sh.2.2
 ·intro s sE b m hJ F;refine hJ _ fun N S C dC c ns xs R t bl u n J_sh J_hb J_kq J_B J_fresh J_ct J_cf J_clo J_cn J_I J_asc J_fl J_r0 J_ul J_sz J_m1 J_m2 J_m3 J_m4 J_m5 => ?_;have hWt : W.take vals.size = W := List.take_of_length_le (by rw [hv.1]; exact Nat.le_refl _);obtain ⟨tu, hm3⟩ := J_m3;obtain ⟨kN, eN⟩ := J_B.stk;have hasc : AscW [] W := by have := J_asc; rwa [hWt] at this
  have hlen : ns.length = bl.length + 1 := by
   have := congrArg List.length J_B.py
   simpa [pyOf, pyBelow_len] using this
  have hn900 : n <= 1 + (W.map List.length).sum := by have := J_sz; rwa [hWt] at this
  have hI : Inv u W n R t bl := by have := J_I; rwa [hWt] at this
  have hszb : bl.length <= 1000 := by have := hI.sz; exact ar227 hsz hn900 this
  refine wpAny_execs_nil (wpAny_execs_cons (wpAny_If (wpAny_isTrue_Compare1 (Call_ (m_bi F (ng_len w) boot_len (m_cwb (args_cons (m_local F (by exact J_m5) (args_nil ?_)))))))));refine m_len F ⟨_, F.keep _ _ eN, rfl, _, rfl⟩ (by rw [List.size_toArray, List.length_map, List.length_reverse, hlen, sizeLine_eq]; exact ar71 hszb) fun s t1 F _ => m_cint F fun s t2 F _ => gt_int (wpAny_truthy_bool ?_);rw [List.size_toArray, List.length_map, List.length_reverse, hlen]
  by_cases hu : u = []
  ·have hbl0 : bl.length = 0 := by rw [J_fl, hu]; rfl
   rw [hbl0, show decide ((1 : Int) < ((0 + 1 : Nat) : Int)) = false by decide, if_neg (by simp)];refine wpAny_execs_nil (wpAny_execs_cons (wpAny_Return_some (m_local F (by exact J_m1) ?_)));have hW0 : W = [] := AscW_ne hasc (by have := J_ul; rw [hWt] at this; rw [← this, hu]);refine hQ0 _ _ (hok hasc sE _ b c R J_sh (F.done' (J_sh.none (Heap.get?_size_none _) fun hm => (frW _ hm).2 rfl)) F.keep J_hb J_kq J_B.D J_B.rows J_B.fin J_B.out (.inl ⟨hW0, J_r0 hu⟩) fun a ha => J_fresh a (mem_ownC ha))
  ·have hbl0 : bl.length ≠ 0 := by rw [J_fl]; exact fun h => hu (List.eq_nil_of_length_eq_zero h)
   refine ifT (show decide ((1 : Int) < ((bl.length + 1 : Nat) : Int)) = true by simp; exact ar267 hbl0) ?_;refine wpAny_execs_cons (wpAny_Expr (Call_ (m_glob F (gl_add_suffix w) (m_cw (by rfl) (args_cons (m_local F (by exact J_m1) (args_cons (m_local F (by exact J_m5) (args_cons (m_local F (by exact hm3) (args_cons (m_cint F fun s t1 F _ => args_cons (m_local F (by exact J_m4) (args_nil ⟨F.g.X, ?_⟩))))))))))))) (by rfl) (by rfl));obtain ⟨R', ho, hfin⟩ := Inv.final (ar64 hsz hn900) hu hI;have hlen1 : R.length + ssLen (some (t, bl)) <= 1001 := by have := hI.sz; simp [ssLen]; exact ar228 hsz hn900 this
   refine add_suffix_spec (q := b) (d := 0) F.g (hB _) (F.frs (hF.slots J_sh.1) frW (fun hk => nomatch hk) rfl) F.keep ?_ J_B (Inv.suffix u W n 0 (ar64 hsz hn900) (fun _ => hu)) (fun t bl e => by cases e; exact hI) hlen1 fun s1 s' q' c' ns' xs' sh1 St hq' hqf' kq' B' sub' cx' => ?_
   ·intro a ha;rcases List.mem_cons.mp (show a ∈ s0.heap.objs.size :: fra outer from ha) with rfl | ha
    ·exact F.noL
    ·exact J_hb a ha
   rw [show outS 0 R (some (t, bl)) = (R', none) from ho] at B';dsimp only at B';have lvF : ∀ a ∈ fra outer, (∃ o, sE.heap.get? a = some o) ∧ 456 <= a ∧ a ≠ s0.heap.objs.size ∧ ¬ W0 a := fun a ha => by
    obtain ⟨o, e, _, lo⟩ := hF.mem ha;exact ⟨J_sh.some e, lo, (frW a ha).2, (frW a ha).1⟩
   refine (F.shift (s' := s1) J_hb lvF (fun a o ha e => (sh1.1.2.1 a ha).trans e) (fun a _ o e => sh1.1.2.2 a o e) sh1.2.1 sh1.2.2) _ fun sE' shE F1 => ?_;have lvO : ∀ a ∈ ownA c N S ns, ∃ o, b.get? a = some o := fun a ha => (J_B.there a ha).ex;have noE : ∀ {a}, s0.heap.get? a = none -> sE'.heap.get? a = none := fun {a} e => (J_sh.trans shE).none e fun hm => by obtain ⟨o, e', _⟩ := hF.mem hm; rw [e] at e'; cases e'
   refine (F1.changeF J_hb St (fun q => by obtain ⟨o, e⟩ := lvO _ q; exact F.ne e rfl) (fun p hp => nomatch hp) (fun a o' ha e => by rw [noE (J_fresh a ha)] at e; cases e)) _ fun b2 F2 hb2 _ _ => ?_;have hnL : q'.get? s0.heap.objs.size = none := hqf' _ (show s0.heap.objs.size ∈ s0.heap.objs.size :: fra outer by simp);have F3 : Fx w mg mb s0.heap.objs.size sE' W0 [] q' s' _ := ⟨F2.g, F2.hL, F2.ns, F2.tot, hq', hnL, fun p hp => nomatch hp⟩;refine wpAny_execs_nil (wpAny_execs_cons (wpAny_Return_some (m_local F3 (by exact J_m1) ?_)));have sh3 := J_sh.trans shE;rw [← cx'];refine hQ0 _ _ (hok hasc sE' _ q' c' R' sh3 (F3.done' (sh3.none (Heap.get?_size_none _) fun hm => (frW _ hm).2 rfl)) F3.keep (fun a ha => hqf' a (show a ∈ s0.heap.objs.size :: fra outer from List.mem_cons_of_mem _ ha)) (fun a o' e => kq' a o' (fun hm => by have h1 := J_fresh a hm; have h2 := hq a o' e; rw [h1] at h2; cases h2) (J_kq a o' e)) B'.D B'.rows B'.fin B'.out hfin fun a ha => ?_);rcases sub' a (mem_ownC ha) with h | h
   ·exact J_fresh a h
   ·have h1 := F.tot.none_of h;cases e : s0.heap.get? a with
    | none => rfl
    | some o' => obtain ⟨o2, e2⟩ := J_sh.some e; rw [h1] at e2; cases e2
end
end Mine
end
section
open PySem PySem.W PySem.Calls PyProof.Rows
namespace Mine
noncomputable def arcsOf (R : RG) (q : Int) : List (Nat × Int) := ((R.find? fun x => x.2 = q).map (·.1.1)).getD []
noncomputable def toR (arcs : List (Nat × Int)) (c : Nat) : Option Int := (arcs.find? fun x => x.1 = c).map (·.2)
noncomputable def runR (R : RG) : Int -> List Nat -> Option Int
 | q, [] => some q
 | q, c :: s => (toR (arcsOf R q) c).bind fun d => runR R d s
noncomputable def strip (c : Nat) : List Nat -> Option (List Nat)
 | a :: r => if a = c then some r else none
 | [] => none
noncomputable def ends : List Nat -> List (List Nat) -> List (List Nat)
 | [], W => W
 | c :: s, W => ends s (W.filterMap (strip c))
theorem find_mem {R : RG} (w : WF R) : ∀ {k : List (Nat × Int) × Bool} {i : Int}, (k, i) ∈ R -> (R.find? fun x => x.2 = i) = some (k, i) := by
 induction R with
 | nil => intro k i h; cases h
 | cons x r ih =>
  obtain ⟨⟨a0, f0⟩, i0⟩ := x;obtain ⟨w1, w2, w3, w4, w5, w6⟩ := w;intro k i h;rw [List.find?_cons];rcases List.mem_cons.mp h with h | h
  ·cases h; simp
  ·have hi : i ∈ ids r := List.mem_map.mpr ⟨_, h, rfl⟩;have : ¬ i0 = i := fun e => w2 (e ▸ hi);simp only [this, decide_false];exact ih w1 h
theorem arcsOf_mem {R : RG} (w : WF R) {a : List (Nat × Int)} {f : Bool} {i : Int} (h : ((a, f), i) ∈ R) : arcsOf R i = a := by
 unfold arcsOf; rw [find_mem w h]; rfl
theorem mem_ids {R : RG} {i : Int} (h : i ∈ ids R) : ∃ a f, ((a, f), i) ∈ R := by
 obtain ⟨⟨⟨a, f⟩, j⟩, hx, rfl⟩ := List.mem_map.mp h;exact ⟨a, f, hx⟩
theorem strip_map (l c : Nat) (L : List (List Nat)) : (L.map (l :: ·)).filterMap (strip c) = if l = c then L else [] := by
 rw [List.filterMap_map]
 by_cases h : l = c
 ·rw [if_pos h];have : (strip c ∘ fun x => l :: x) = some := by funext x; simp [strip, h]
  rw [this, List.filterMap_some]
 ·rw [if_neg h];have : (strip c ∘ fun x => l :: x) = fun _ => none := by funext x; simp [strip, h]
  rw [this]; simp
theorem strip_flat {f : Int -> List (List Nat)} {c : Nat} : ∀ {arcs : List (Nat × Int)}, AscL arcs -> (arcs.flatMap fun x => (f x.2).map (x.1 :: ·)).filterMap (strip c) = ((toR arcs c).map f).getD []
 | [], _ => rfl
 | x :: r, h => by
  rw [List.flatMap_cons, List.filterMap_append, strip_map];have h2 : AscL r := (List.pairwise_cons.mp h).2;rw [strip_flat h2];unfold toR;rw [List.find?_cons]
  by_cases e : x.1 = c
  ·have hn : r.find? (fun y => decide (y.1 = c)) = none := by
    rw [List.find?_eq_none];intro y hy;have := (List.pairwise_cons.mp h).1 y hy;simp; exact ar43 e this
   simp [e, hn]
  ·simp [e]
theorem strip_own {f : Int -> List (List Nat)} {c : Nat} {arcs : List (Nat × Int)} {fin : Bool} (h : AscL arcs) : (own arcs fin f).filterMap (strip c) = ((toR arcs c).map f).getD [] := by
 unfold own;rw [List.filterMap_append, strip_flat h];cases fin <;> simp [strip]
theorem run_ends {R : RG} (w : WF R) : ∀ (s : List Nat) {q : Int}, q ∈ ids R -> (∀ d, runR R q s = some d -> d ∈ ids R ∧ lang R d = ends s (lang R q)) ∧ (runR R q s = none -> ends s (lang R q) = [])
 | [], q, hq => ⟨fun d h => by cases h; exact ⟨hq, rfl⟩, fun h => by cases h⟩
 | c :: s, q, hq => by
  obtain ⟨a, f, hm⟩ := mem_ids hq;obtain ⟨h1, h2, h3, h4⟩ := lang_mem w hm;have e : (lang R q).filterMap (strip c) = ((toR a c).map (lang R)).getD [] := by rw [h1, strip_own h3]
  show (∀ d, (toR (arcsOf R q) c).bind (fun d => runR R d s) = some d -> _) ∧ ((toR (arcsOf R q) c).bind (fun d => runR R d s) = none -> _);rw [arcsOf_mem w hm];show _ ∧ (_ -> ends s ((lang R q).filterMap (strip c)) = [])
  show (∀ d, _ -> _ ∧ lang R d = ends s ((lang R q).filterMap (strip c))) ∧ _;rw [e];cases ht : toR a c with
  | none =>
   refine ⟨fun d h => by simp at h, fun _ => ?_⟩;have : ∀ s, ends s [] = [] := fun s => by induction s with
    | nil => rfl
    | cons c s ih => exact ih
   exact this s
  | some d =>
   have hd : d ∈ ids R := by
    unfold toR at ht;cases hf : a.find? fun x => decide (x.1 = c) with
    | none => rw [hf] at ht; cases ht
    | some x => rw [hf] at ht; cases ht; exact (h2 x (List.mem_of_find?_eq_some hf)).1
   exact run_ends w s hd
theorem lang_ne {R : RG} (w : WF R) : ∀ {i : Int}, i ∈ ids R -> lang R i ≠ [] := by
 induction R with
 | nil => intro i h; cases h
 | cons x r ih =>
  obtain ⟨⟨a, f⟩, j⟩ := x;obtain ⟨w1, w2, w3, w4, w5, w6⟩ := w;intro i hi
  show (if i = j then _ else _) ≠ _
  by_cases e : i = j
  ·rw [if_pos e];unfold own;rcases w6 with rfl | ha
   ·simp
   ·cases a with
    | nil => exact absurd rfl ha
    | cons x a =>
     intro h;rw [List.append_eq_nil_iff, List.flatMap_cons, List.append_eq_nil_iff] at h;have := ih w1 (w5 x (by simp)).1;exact this (by simpa using h.2.1)
  ·rw [if_neg e];rcases List.mem_cons.mp hi with h | h
   ·exact absurd h e
   ·exact ih w1 h
theorem fin_iff {R : RG} (w : WF R) {q : Int} (hq : q ∈ ids R) : finOf R q = true ↔ [] ∈ lang R q := by
 obtain ⟨a, f, hm⟩ := mem_ids hq;rw [(lang_mem w hm).e];have e : finOf R q = f := by
  have hu : ∀ y ∈ R, y.2 = q -> y = ((a, f), q) := fun y hy e => by
   obtain ⟨k, i⟩ := y;have h1 := find_mem w hy;have h2 := find_mem w hm;simp at e; subst e;rw [h1] at h2; exact Option.some.inj h2
  unfold finOf;cases f with
  | true => exact List.any_eq_true.mpr ⟨_, hm, by simp⟩
  | false =>
   rw [List.any_eq_false];intro y hy h;simp at h;rw [hu y hy h.1] at h;exact absurd h.2 (by simp)
 rw [e];unfold own;cases f <;> simp
theorem flat_inj {f : Int -> List (List Nat)} : ∀ {a b : List (Nat × Int)}, AscL a -> AscL b -> (∀ x ∈ a, f x.2 ≠ []) -> (∀ x ∈ b, f x.2 ≠ []) -> (∀ x ∈ a, ∀ y ∈ b, f x.2 = f y.2 -> x.2 = y.2) ->
  (a.flatMap fun x => (f x.2).map (x.1 :: ·)) = (b.flatMap fun x => (f x.2).map (x.1 :: ·)) -> a = b
 | [], [], _, _, _, _, _, _ => rfl
 | [], y :: b, _, _, _, hb, _, h => by
  exfalso
  rw [List.flatMap_cons, List.flatMap_nil] at h;have := List.append_eq_nil_iff.mp h.symm;exact hb y (by simp) (by simpa using this.1)
 | x :: a, [], _, _, ha, _, _, h => by
  exfalso
  rw [List.flatMap_cons, List.flatMap_nil] at h;have := List.append_eq_nil_iff.mp h;exact ha x (by simp) (by simpa using this.1)
 | x :: a, y :: b, sa, sb, ha, hb, hi, h => by
  have head : ∀ {x : Nat × Int} {a : List (Nat × Int)}, f x.2 ≠ [] -> (((x :: a).flatMap fun x => (f x.2).map (x.1 :: ·)).head?.bind (·.head?)) = some x.1 := fun {x a} h => by
   rw [List.flatMap_cons];cases hf : f x.2 with
   | nil => exact absurd hf h
   | cons z r => simp
  have e1 : x.1 = y.1 := by
   have h1 := head (a := a) (ha x (by simp));have h2 := head (a := b) (hb y (by simp));rw [h] at h1; rw [h1] at h2; exact Option.some.inj h2
  have hs := congrArg (List.filterMap (strip x.1)) h;rw [strip_flat sa, strip_flat sb] at hs;have e2 : x.2 = y.2 := by
   refine hi x (by simp) y (by simp) ?_
   simpa [toR, e1] using hs
  have e3 : x = y := Prod.ext e1 e2;subst e3;rw [List.flatMap_cons, List.flatMap_cons] at h;have := List.append_cancel_left h;rw [flat_inj (List.pairwise_cons.mp sa).2 (List.pairwise_cons.mp sb).2 (fun z hz => ha z (by simp [hz])) (fun z hz => hb z (by simp [hz])) (fun z hz y' hy => hi z (by simp [hz]) y' (by simp [hy])) this]
theorem own_inj {f : Int -> List (List Nat)} {a b : List (Nat × Int)} {p r : Bool} (sa : AscL a) (sb : AscL b) (ha : ∀ x ∈ a, f x.2 ≠ []) (hb : ∀ x ∈ b, f x.2 ≠ []) (hi : ∀ x ∈ a, ∀ y ∈ b, f x.2 = f y.2 -> x.2 = y.2)
  (h : own a p f = own b r f) : (a, p) = (b, r) := by
 have no : ∀ (a : List (Nat × Int)), [] ∉ (a.flatMap fun x => (f x.2).map (x.1 :: ·)) := fun a hm => by
  obtain ⟨x, _, hx⟩ := List.mem_flatMap.mp hm;obtain ⟨y, _, e⟩ := List.mem_map.mp hx;cases e
 unfold own at h;cases p <;> cases r <;> simp only [Bool.false_eq_true, if_false, if_true, List.nil_append] at h
 ·rw [flat_inj sa sb ha hb hi h]
 ·exact absurd (show ([] : List Nat) ∈ _ from by rw [h]; simp) (no a)
 ·exact absurd (show ([] : List Nat) ∈ _ from by rw [← h]; simp) (no b)
 ·rw [flat_inj sa sb ha hb hi (List.append_cancel_left h)]
theorem lang_inj {R : RG} (w : WF R) : ∀ {i j : Int}, i ∈ ids R -> j ∈ ids R -> lang R i = lang R j -> i = j := by
 induction R with
 | nil => intro i j h; cases h
 | cons x r ih =>
  obtain ⟨⟨a, f⟩, k⟩ := x;have w' := w;obtain ⟨w1, w2, w3, w4, w5, w6⟩ := w;have one : ∀ {j : Int}, j ∈ ids r -> lang (((a, f), k) :: r) k = lang (((a, f), k) :: r) j -> False := fun {j} hj h => by
   obtain ⟨b, g, hm⟩ := mem_ids hj;obtain ⟨h1, h2, h3, h4⟩ := lang_mem w1 hm;have e1 : lang (((a, f), k) :: r) k = own a f (lang r) := by show (if k = k then _ else _) = _; rw [if_pos rfl]
   rw [e1, lang_cons w2 hj, h1] at h;have := own_inj w4 h3 (fun x hx => lang_ne w1 (w5 x hx).1) (fun x hx => lang_ne w1 (h2 x hx).1) (fun x hx y hy he => ih w1 (w5 x hx).1 (h2 y hy).1 he) h;exact w3 (by rw [this]; exact List.mem_map.mpr ⟨_, hm, rfl⟩)
  intro i j hi hj h;rcases List.mem_cons.mp hi with h1 | h1 <;> rcases List.mem_cons.mp hj with h2 | h2
  ·exact h1.trans h2.symm
  ·simp only at h1; subst h1; exact (one h2 h).elim
  ·simp only at h2; subst h2; exact (one h1 h.symm).elim
  ·rw [lang_cons w2 h1, lang_cons w2 h2] at h;exact ih w1 h1 h2 h
end Mine
end
section
open PySem PySem.W PySem.Calls PyProof.Rows
namespace Mine
theorem WF.tail : ∀ {p r : RG}, WF (p ++ r) -> WF r
 | [], _, h => h
 | ((_, _), _) :: p, r, h => WF.tail (p := p) h.1
theorem WF.ids_nodup : ∀ {R : RG}, WF R -> (ids R).Nodup
 | [], _ => .nil
 | ((_, _), _) :: r, h => List.nodup_cons.mpr ⟨h.2.1, WF.ids_nodup h.1⟩
theorem runR_append (R : RG) : ∀ (s t : List Nat) (q : Int), runR R q (s ++ t) = (runR R q s).bind fun d => runR R d t
 | [], t, q => rfl
 | c :: s, t, q => by
  show (toR _ c).bind (fun d => runR R d (s ++ t)) = ((toR _ c).bind _).bind _;cases toR (arcsOf R q) c with
  | none => rfl
  | some d => exact runR_append R s t d
theorem toR_mem {a : List (Nat × Int)} (h : AscL a) : ∀ {l : Nat} {i : Int}, (l, i) ∈ a -> toR a l = some i := by
 induction a with
 | nil => intro l i h; cases h
 | cons x r ih =>
  intro l i hm;unfold toR;rw [List.find?_cons];rcases List.mem_cons.mp hm with rfl | hm
  ·simp
  ·have := (List.pairwise_cons.mp h).1 _ hm;have hne : ¬ x.1 = l := by simp at this; exact ar12 this
   simp only [hne, decide_false];exact ih (List.pairwise_cons.mp h).2 hm
theorem reach {R : RG} (w : WF R) {k : List (Nat × Int) × Bool} {r : RG} (hR : R = (k, 0) :: r) (ht : ∀ i ∈ ids R, i ≠ 0 -> ∃ y ∈ R, i ∈ y.1.1.map (·.2)) :
  ∀ (n : Nat) (pre : RG) (x : (List (Nat × Int) × Bool) × Int) (post : RG), R = pre ++ x :: post -> pre.length = n -> ∃ z, runR R 0 z = some x.2 := by
 intro n
 induction n using Nat.strongRecOn with
 | ind n ih =>
  intro pre x post he hn
  by_cases h0 : x.2 = 0
  ·exact ⟨[], by rw [h0]; rfl⟩
  ·have hx : x ∈ R := by rw [he]; simp
   obtain ⟨y, hy, hi⟩ := ht x.2 (List.mem_map.mpr ⟨x, hx, rfl⟩) h0;obtain ⟨pre', post', he'⟩ := List.append_of_mem hy;have wy : WF (y :: post') := WF.tail (p := pre') (by rw [← he']; exact w);obtain ⟨⟨a, f⟩, j⟩ := y;obtain ⟨w1, w2, w3, w4, w5, w6⟩ := wy;obtain ⟨⟨l, i⟩, hl, e⟩ := List.mem_map.mp hi;simp only at e; subst e;have hpost : x.2 ∈ ids post' := (w5 _ hl).1;have hlt : pre'.length < n := by
    have nd := w.ids_nodup;obtain ⟨m, hm⟩ := List.mem_iff_getElem?.mp hpost;have h1 : (ids R)[pre.length]? = some x.2 := by unfold ids; rw [he]; simp
    have h2 : (ids R)[pre'.length + 1 + m]? = some x.2 := by
     unfold ids;rw [he', List.map_append, List.getElem?_append_right (by simp; exact ar148)];simp only [List.length_map, List.map_cons];rw [show pre'.length + 1 + m - pre'.length = m + 1 from ar152, List.getElem?_cons_succ];exact hm
    have : pre.length = pre'.length + 1 + m := (List.getElem?_inj (List.getElem?_eq_some_iff.mp h1).1 nd).mp (h1.trans h2.symm);exact ar89 hn this
   obtain ⟨z, hz⟩ := ih pre'.length hlt pre' ((a, f), j) post' he' rfl;refine ⟨z ++ [l], ?_⟩;rw [runR_append, hz]
   show (toR (arcsOf R j) l).bind _ = _;rw [arcsOf_mem w hy, toR_mem (lang_mem w hy).asc hl]
   rfl
theorem FinR.reach {W : List (List Nat)} {R : RG} (h : FinR W R) : ∀ i ∈ ids R, ∃ z, runR R 0 z = some i := by
 intro i hi;rcases h with ⟨_, rfl⟩ | ⟨_, w, ⟨k, r, hR⟩, _, ht, _, _⟩
 ·cases hi
 ·obtain ⟨x, hx, rfl⟩ := List.mem_map.mp hi;obtain ⟨pre, post, he⟩ := List.append_of_mem hx;exact Mine.reach w hR ht _ pre x post he rfl
structure FinS (W : List (List Nat)) (R : RG) : Prop where
 run : ∀ s d, runR R 0 s = some d -> d ∈ ids R ∧ lang R d = ends s W
 stop : ∀ s, runR R 0 s = none -> ends s W = []
 live : ∀ i ∈ ids R, lang R i ≠ []
 inj : ∀ i ∈ ids R, ∀ j ∈ ids R, lang R i = lang R j -> i = j
 fin : ∀ i ∈ ids R, (finOf R i = true ↔ [] ∈ lang R i)
theorem FinR.states {W : List (List Nat)} {R : RG} (h : FinR W R) (hW : W ≠ []) : FinS W R := by
 rcases h with ⟨h, _⟩ | ⟨_, w, ⟨k, r, hR⟩, hl, ht, _, _⟩
 ·exact absurd h hW
 ·have h0 : (0 : Int) ∈ ids R := by rw [hR]; simp [ids]
  have hr := fun s => run_ends w s h0;rw [hl] at hr;exact ⟨fun s d hd => (hr s).1 d hd, fun s hs => (hr s).2 hs, fun i hi => lang_ne w hi, fun i hi j hj => lang_inj w hi hj, fun i hi => fin_iff w hi⟩
theorem ends_prefix : ∀ (s : List Nat) (W : List (List Nat)) (x : List Nat), x ∈ ends s W ↔ s ++ x ∈ W
 | [], W, x => by simp [ends]
 | c :: s, W, x => by
  show x ∈ ends s (W.filterMap (strip c)) ↔ _;rw [ends_prefix s, List.mem_filterMap]
  constructor
  ·rintro ⟨y, hy, e⟩
   cases y with
   | nil => cases e
   | cons a r =>
    simp only [strip] at e
    split at e
    ·rename_i ha; cases e; subst ha; exact hy
    ·cases e
  ·intro h;exact ⟨_, h, by simp [strip]⟩
theorem FinS.some_iff {W : List (List Nat)} {R : RG} (h : FinS W R) (s : List Nat) : (∃ d, runR R 0 s = some d) ↔ ∃ x, s ++ x ∈ W := by
 constructor
 ·rintro ⟨d, hd⟩
  obtain ⟨h1, h2⟩ := h.run s d hd;have h3 := h.live d h1;cases hl : lang R d with
  | nil => exact absurd hl h3
  | cons x r => exact ⟨x, (ends_prefix s W x).mp (by rw [← h2, hl]; simp)⟩
 ·rintro ⟨x, hx⟩
  cases hr : runR R 0 s with
  | some d => exact ⟨d, rfl⟩
  | none =>
   have := (ends_prefix s W x).mpr hx;rw [h.stop s hr] at this; cases this
theorem ends_eq (s : List Nat) : ∀ (W : List (List Nat)), ends s W = W.filterMap fun x => if x.take s.length = s then some (x.drop s.length) else none := by
 induction s with
 | nil => intro W; simp [ends]
 | cons c s ih =>
  intro W;show ends s (W.filterMap (strip c)) = _;rw [ih, List.filterMap_filterMap]
  congr 1
  funext x
  cases x with
  | nil => simp [strip]
  | cons a r =>
   simp only [strip]
   by_cases h : a = c
   ·subst h; simp
   ·simp [h]
end Mine
end
section
open PySem PySem.W PySem.Calls PyProof.Rows
namespace Mine
noncomputable abbrev SE := List Nat × Int × Option Nat
noncomputable def bnd : Option Nat -> Nat
 | none => 0
 | some c => c + 1
noncomputable def arcsGe (a : List (Nat × Int)) (b : Nat) : List (Nat × Int) := a.filter fun x => b <= x.1
noncomputable def cand (R : RG) (e : SE) : List (List Nat) := (arcsGe (arcsOf R e.2.1) (bnd e.2.2)).flatMap fun x => (lang R x.2).map fun y => e.1 ++ x.1 :: y
noncomputable def stackOf (R : RG) : Int -> List Nat -> List Nat -> List SE
 | q, p, [] => [(p, q, none)]
 | q, p, c :: s => (match toR (arcsOf R q) c with
  | some d => stackOf R d (p ++ [c]) s
  | none => []) ++ [(p, q, some c)]
noncomputable def geW (w t : List Nat) : Bool := !decide (w < t)
theorem geW_nil (w : List Nat) : geW w [] = true := by simp [geW]
theorem geW_cons (a c : Nat) (w s : List Nat) : geW (a :: w) (c :: s) = (decide (c < a) || (decide (a = c) && geW w s)) := by
 unfold geW;have h : (a :: w < c :: s) ↔ a < c ∨ a = c ∧ w < s := List.cons_lt_cons_iff
 by_cases h1 : c < a
 ·have : ¬ (a :: w < c :: s) := fun hh => by rcases h.mp hh with h2 | ⟨h2, _⟩ <;> lia
  simp [this, h1]
 ·by_cases h2 : a = c
  ·subst h2
   by_cases h3 : w < s
   ·have : a :: w < a :: s := h.mpr (.inr ⟨rfl, h3⟩);simp [this, h3]
   ·have : ¬ (a :: w < a :: s) := fun hh => by
     rcases h.mp hh with h2 | ⟨_, h2⟩
     ·lia
     ·exact h3 h2
    simp [this, h3]
  ·have : a :: w < c :: s := h.mpr (.inl (Nat.lt_of_le_of_ne (Nat.not_lt.mp h1) h2));simp [this, h1, h2]
theorem geW_nil_cons (c : Nat) (s : List Nat) : geW [] (c :: s) = false := by simp [geW]
theorem flat_filter {f : Int -> List (List Nat)} {c : Nat} {s : List Nat} : ∀ {arcs : List (Nat × Int)}, AscL arcs ->
  (arcs.flatMap fun x => (f x.2).map (x.1 :: ·)).filter (fun w => geW w (c :: s)) = (match toR arcs c with | some d => ((f d).filter fun w => geW w s).map (c :: ·) | none => []) ++ (arcsGe arcs (c + 1)).flatMap fun x => (f x.2).map (x.1 :: ·)
 | [], _ => rfl
 | x :: r, h => by
  have h2 : AscL r := (List.pairwise_cons.mp h).2;have h1 := (List.pairwise_cons.mp h).1;rw [List.flatMap_cons, List.filter_append, flat_filter h2, List.filter_map];have e : ((fun w => geW w (c :: s)) ∘ fun y => x.1 :: y) = fun y => (decide (c < x.1) || (decide (x.1 = c) && geW y s)) := by funext y; exact geW_cons _ _ _ _
  rw [e];unfold toR arcsGe;rw [List.find?_cons, List.filter_cons];rcases Nat.lt_trichotomy x.1 c with hlt | heq | hgt
  ·have a1 : decide (c < x.1) = false := by simp; exact ar27 hlt
   have a2 : decide (x.1 = c) = false := by simp; exact ar12 hlt
   have a3 : decide (c + 1 <= x.1) = false := by simp; lia
   simp only [a1, a2, a3, Bool.false_and, Bool.or_false, Bool.false_eq_true, if_false];simp
  ·have a1 : decide (c < x.1) = false := by simp; exact Nat.le_of_eq heq
   have a2 : decide (x.1 = c) = true := by simp [heq]
   have a3 : decide (c + 1 <= x.1) = false := by simp; lia
   have hn : r.find? (fun y => decide (y.1 = c)) = none := by
    rw [List.find?_eq_none];intro y hy;have := h1 y hy;simp; exact ar43 heq this
   simp only [a1, a2, a3, hn, Bool.true_and, Bool.false_or, Bool.false_eq_true, if_false, Option.map_some, Option.map_none, List.nil_append];rw [heq]
  ·have a1 : decide (c < x.1) = true := by simp; exact hgt
   have a2 : decide (x.1 = c) = false := by simp; exact Nat.ne_of_lt' hgt
   have a3 : decide (c + 1 <= x.1) = true := by simp; exact hgt
   have hn : r.find? (fun y => decide (y.1 = c)) = none := by
    rw [List.find?_eq_none];intro y hy;have := h1 y hy;simp; exact Nat.ne_of_gt (Nat.lt_trans hgt this)
   simp only [a1, a2, a3, hn, Bool.true_or, if_true, Option.map_none, List.nil_append, List.flatMap_cons]
   congr 1
   ·congr 1
    exact List.filter_eq_self.mpr fun _ _ => rfl
theorem arcsGe_zero (a : List (Nat × Int)) : arcsGe a 0 = a := by unfold arcsGe; exact List.filter_eq_self.mpr fun x _ => by simp
theorem from_text {R : RG} (w : WF R) : ∀ (t : List Nat) {q : Int} (p : List Nat), q ∈ ids R ->
  (((lang R q).filter fun x => geW x t).map fun y => p ++ y) = (if (runR R q t).any (finOf R) then [p ++ t] else []) ++ (stackOf R q p t).flatMap (cand R)
 | [], q, p, hq => by
  obtain ⟨a, f, hm⟩ := mem_ids hq;have hf := fin_iff w hq;have e1 := (lang_mem w hm).e;have e2 : finOf R q = f := by
   rw [e1] at hf;unfold own at hf;cases hfo : finOf R q <;> cases f <;> simp [hfo] at hf ⊢
  show _ = (if finOf R q = true then [p ++ []] else []) ++ (cand R (p, q, none) ++ []);rw [List.append_nil, e2];have hfil : (lang R q).filter (fun x => geW x []) = lang R q := List.filter_eq_self.mpr fun x _ => geW_nil x;rw [hfil, e1];unfold own cand;rw [List.map_append]
  congr 1
  ·cases f <;> simp
  ·show _ = (arcsGe (arcsOf R q) 0).flatMap _ ++ [];rw [List.append_nil, arcsGe_zero, arcsOf_mem w hm, List.map_flatMap]
   congr 1
   funext x
   rw [List.map_map]; rfl
 | c :: s, q, p, hq => by
  obtain ⟨a, f, hm⟩ := mem_ids hq;obtain ⟨e1, h2, h3, h4⟩ := lang_mem w hm;have hfl : (lang R q).filter (fun x => geW x (c :: s)) = (a.flatMap fun x => (lang R x.2).map (x.1 :: ·)).filter (fun x => geW x (c :: s)) := by
   rw [e1];unfold own;rw [List.filter_append];cases f <;> simp [geW_nil_cons]
  rw [hfl, flat_filter h3, List.map_append];show _ = (if ((toR (arcsOf R q) c).bind fun d => runR R d s).any (finOf R) = true then _ else _) ++ (((match toR (arcsOf R q) c with | some d => stackOf R d (p ++ [c]) s | none => []) ++ [(p, q, some c)]).flatMap (cand R));rw [List.flatMap_append, arcsOf_mem w hm, ← List.append_assoc]
  congr 1
  ·cases ht : toR a c with
   | none => simp
   | some d =>
    have hd : d ∈ ids R := by
     unfold toR at ht;cases hf : a.find? fun x => decide (x.1 = c) with
     | none => rw [hf] at ht; cases ht
     | some x => rw [hf] at ht; cases ht; exact (h2 x (List.mem_of_find?_eq_some hf)).1
    have ih := from_text w s (p ++ [c]) hd;simp only [Option.bind_some];rw [List.map_map];have e5 : ((fun y => p ++ y) ∘ fun y => c :: y) = fun y => (p ++ [c]) ++ y := by funext y; simp
    rw [e5, ih];simp
  ·rw [List.flatMap_cons, List.flatMap_nil, List.append_nil];unfold cand;simp only [bnd];rw [arcsOf_mem w hm, List.map_flatMap]
   congr 1
   funext x
   rw [List.map_map]; rfl
theorem cand_none {R : RG} {e : SE} (h : (arcsGe (arcsOf R e.2.1) (bnd e.2.2)).head? = none) : cand R e = [] := by
 unfold cand;rw [List.head?_eq_none_iff] at h;rw [h]; rfl
theorem cand_some {R : RG} (w : WF R) {p : List Nat} {q : Int} {o : Option Nat} {l : Nat} {d : Int} (hq : q ∈ ids R) (h : (arcsGe (arcsOf R q) (bnd o)).head? = some (l, d)) (rest : List SE) :
  d ∈ ids R ∧ (((p, q, o) :: rest).flatMap (cand R)).head? = (if finOf R d then some (p ++ [l]) else (((p ++ [l], d, none) :: rest).flatMap (cand R)).head?) := by
 obtain ⟨a, f, hm⟩ := mem_ids hq;obtain ⟨e1, h2, h3, h4⟩ := lang_mem w hm;have hl : (l, d) ∈ a := by
  have := List.mem_of_head? h;rw [arcsOf_mem w hm] at this;exact (List.mem_filter.mp this).1
 have hd := (h2 _ hl).1;refine ⟨hd, ?_⟩;have hne := lang_ne w hd;have eh : (((p, q, o) :: rest).flatMap (cand R)).head? = ((lang R d).map fun y => p ++ l :: y).head? := by
  rw [List.flatMap_cons];unfold cand;cases hA : arcsGe (arcsOf R q) (bnd o) with
  | nil => rw [hA] at h; cases h
  | cons x r =>
   rw [hA] at h;simp only [List.head?_cons, Option.some.injEq] at h;subst h;rw [List.flatMap_cons];cases hx : lang R d with
   | nil => exact absurd hx hne
   | cons y ys => simp
 rw [eh];obtain ⟨a', f', hm'⟩ := mem_ids hd;have e2 := (lang_mem w hm').e;have hf := fin_iff w hd
 by_cases hfd : finOf R d = true
 ·rw [if_pos hfd];have hmem := hf.mp hfd;rw [e2] at hmem ⊢;unfold own at hmem ⊢;cases f' with
  | true => simp
  | false => simp at hmem
 ·rw [if_neg hfd];have hnm : [] ∉ lang R d := fun hh => hfd (hf.mpr hh);have ef : f' = false := by
   cases f' with
   | false => rfl
   | true => exact absurd (by rw [e2]; simp [own]) hnm
  subst ef;rw [List.flatMap_cons];have ec : cand R (p ++ [l], d, none) = (lang R d).map fun y => p ++ l :: y := by
   unfold cand
   show (arcsGe (arcsOf R d) 0).flatMap _ = _;rw [arcsGe_zero, arcsOf_mem w hm', e2];unfold own;simp only [Bool.false_eq_true, if_false, List.nil_append];rw [List.map_flatMap]
   congr 1
   funext x
   rw [List.map_map]
   congr 1
   funext y
   simp
  rw [ec];cases hx : lang R d with
  | nil => exact absurd hx hne
  | cons y ys => simp
end Mine
end
section
open PySem PySem.W PySem.Calls PyProof.Rows
namespace Mine
section
variable {w : World} {mg mb : Str -> Option Value} {A : Around} {E : Value -> Shared -> Prop}
inductive LaJ (ws : Addr) (vals : Array Value) (W : List (List Nat)) (i : Nat) (b : Heap) (m : Str -> Option Value) : Prop
 | mk (hl : b.IsList ws vals) (hasc : AscW [] (W.take i)) (t : Tok) (hm : m "before" = some (.str (mkS ((W.take i).getLastD [])) t)) : LaJ ws vals W i b m
theorem law_ascend_spec {s0 : Shared} {ws : Addr} {vals : Array Value} {W : List (List Nat)} {Q : Value -> Shared -> Prop} {k : Nat} (g : G w mg mb s0.heap) (hA : Rm A (k + 1)) (hl : s0.heap.IsList ws vals) (hv : WordsAre vals W)
  (hyes : AscW [] W -> ∀ s', Stp W0 s0 s' -> Q (.bool true) s') (hno : ¬ AscW [] W -> ∀ s', Stp W0 s0 s' -> Q (.bool false) s') : wpAny (model PP w) A (call (.ref 450) [.ref ws]) Q E s0 := by
 refine wpAny_call (m_call W0 [("words", .ref ws)] g hA.room (by rfl) (by kernel_rfl) (.of_eq (by rfl)) (locs (by rfl)) (fun s₁ F => ?_) (by decide));have hB : ∀ env, Rm (A.deeper env) k := fun env => hA.deeper env;refine wpAny_execs_cons (wpAny_Assign_Name (m_cstr F fun s tl F _ => m_store F fun s F => ?_));refine wpAny_execs_cons (wpAny_For (m_local F (by rfl) (for_list (items := vals) (hB default).hh (LaJ ws vals W) (fun i b m h => by obtain ⟨hl, _⟩ := h; exact hl) F ⟨hl, trivial, tl, rfl⟩ ?_ ?_)))
 ·intro i val s b m H' hH hval hJ F;refine gQ fun Qb Eb hQb hEb => ?_;obtain ⟨hl, hasc, tb, hm⟩ := hJ;have hi : i < W.length := by rw [← hv.1]; exact (Array.getElem?_eq_some_iff.mp hval).1
  obtain ⟨wd, hwd⟩ : ∃ wd, W[i]? = some wd := ⟨_, List.getElem?_eq_getElem hi⟩;obtain ⟨tv, hval'⟩ := hv.2 i wd hwd;rw [hval] at hval'; cases hval';have htk : W.take (i + 1) = W.take i ++ [wd] := by rw [List.take_add_one, hwd]; rfl
  refine wpAny_execs_cons (wpAny_If (wpAny_isTrue_Compare1 (m_local F (by rfl) (m_local F (by exact hm) (PySem.P.le_str (wpAny_truthy_bool ?_))))))
  by_cases hlt : (W.take i).getLastD [] < wd
  ·refine ifF (show (!decide ((mkS ((W.take i).getLastD [])).cps.toList < (mkS wd).cps.toList)) = false by rw [decide_eq_true (show (mkS ((W.take i).getLastD [])).cps.toList < (mkS wd).cps.toList from hlt)]; rfl) ?_;refine wpAny_execs_nil (wpAny_execs_cons (wpAny_Assign_Name (m_local F (by rfl) (m_store F fun s F => wpAny_execs_nil ?_))));refine hQb _ _ ⟨b, _, F, hl, by rw [htk]; exact AscW_snoc hasc hlt, tv, ?_⟩;rw [htk]; simp [upd]
  ·refine ifT (show (!decide ((mkS ((W.take i).getLastD [])).cps.toList < (mkS wd).cps.toList)) = true by rw [decide_eq_false (show ¬ (mkS ((W.take i).getLastD [])).cps.toList < (mkS wd).cps.toList from hlt)]; rfl) ?_;refine wpAny_execs_cons (wpAny_Return_some (m_cbool (hQb _ _ (hno (fun h => ?_) _ F.done))));have h1 := AscW_take (i + 1) h;rw [htk] at h1;exact hlt (AscW_last h1)
 ·intro s b m hJ F;obtain ⟨hl, hasc, tb, hm⟩ := hJ;rw [List.take_of_length_le (by rw [hv.1]; exact Nat.le_refl _)] at hasc;exact wpAny_execs_nil (wpAny_execs_cons (wpAny_Return_some (m_cbool (hyes hasc _ F.done))))
end
end Mine
end
section
open PySem PySem.W PySem.Calls PyProof.Rows
namespace Mine
section
variable {w : World} {mg mb : Str -> Option Value} {A : Around} {E : Value -> Shared -> Prop}
theorem law_refused_spec {s0 : Shared} {q : Heap} {ws : Addr} {vals : Array Value} {W : List (List Nat)} {outer : List Env} {Q : Value -> Shared -> Prop} {k : Nat}
  (g : G w mg mb s0.heap) (hA : Rm A (k + 7)) (hF : Frs A outer s0.heap) (hq : Kp q s0.heap) (hqf : NonF (fra outer) q)
  (hl : q.IsList ws vals) (hv : WordsAre vals W) (hW : ∀ wd ∈ W, ∀ c ∈ wd, 97 <= c ∧ c <= 99) (hsz : (W.map List.length).sum < 900)
  (hyes : AscW [] W -> ∀ s1 s', Shift (fra outer) s0 s1 -> Stp W0 s1 s' -> Q (.bool false) s') (hno : ¬ AscW [] W -> ∀ s1 s', Shift (fra outer) s0 s1 -> Stp W0 s1 s' -> Q (.bool true) s') :
  wpAny (model PP w) A (call (.ref 443) [.ref ws]) Q E s0 := by
 refine wpAny_call (m_call W0 [("words", .ref ws)] g hA.room (by rfl) (by kernel_rfl) (.of_eq (by rfl)) (locs (by rfl)) (fun s₁ F => ?_) (by decide));have hB : ∀ env, Rm (A.deeper env) (k + 6) := fun env => hA.deeper env;have qL : q.get? s0.heap.objs.size = none := by
  cases e : q.get? s0.heap.objs.size with
  | none => rfl
  | some o => exact absurd (Heap.lt_size (hq _ o e)) (Nat.lt_irrefl _)
 have F : Fx w mg mb s0.heap.objs.size s0 W0 [] q s₁ _ := ⟨F.g, F.hL, F.ns, F.tot, fun a o e => F.keep a o (hq a o e), qL, fun p hp => nomatch hp⟩;have frW : ∀ a ∈ fra outer, ¬ W0 a ∧ a ≠ s0.heap.objs.size := fun a ha => ⟨fun h => h, fun hm => by obtain ⟨o, e, _⟩ := hF.mem ha; exact absurd (Heap.lt_size e) (by rw [hm]; exact Nat.lt_irrefl _)⟩;have lvF : ∀ a ∈ fra outer, (∃ o, s0.heap.get? a = some o) ∧ 456 <= a ∧ a ≠ s0.heap.objs.size ∧ ¬ W0 a := fun a ha => by
  obtain ⟨o, e, _, lo⟩ := hF.mem ha;exact ⟨⟨o, e⟩, lo, (frW a ha).2, (frW a ha).1⟩
 refine wpAny_execs_cons (wpAny_Try_except ?_);refine wpAny_execs_cons (wpAny_Expr_any (Call_ (m_glob F (gl_strings_dfa w) (m_cw (by rfl) (args_cons (m_local F (by rfl) (args_nil ⟨F.g.X, ?_⟩)))))) (by rfl) (by rfl));refine strings_dfa_spec (q := q) F.g (hB _) (F.frs hF frW (fun hk => nomatch hk) rfl) F.keep ?_ hl hv hW hsz (fun hasc s1 s' q' c R sh1 St _ _ _ _ _ _ _ _ _ => ?_) fun hnot e s' hfl => ?_
 ·intro a ha;rcases List.mem_cons.mp (show a ∈ s0.heap.objs.size :: fra outer from ha) with rfl | ha
  ·exact qL
  ·exact hqf a ha
 ·refine (F.shift (s' := s1) hqf lvF (fun a o ha e => (sh1.1.2.1 a ha).trans e) (fun a _ o e => sh1.1.2.2 a o e) sh1.2.1 sh1.2.2) _ fun sE' shE F1 => ?_;have F2 := F1.grow St;refine wpAny_execs_nil (wpAny_execs_nil (wpAny_execs_cons (wpAny_Return_some (m_cbool (hyes hasc sE' _ shE (F2.done' (shE.none (Heap.get?_size_none _) fun hm => (frW _ hm).2 rfl)))))))
 ·obtain ⟨s1, base, a0, sh1, hbe, hbn, hfl, hfe, hg, ho⟩ := hfl;have hF1 := F.frsO hF frW;have nfL : ∀ a ∈ s0.heap.objs.size :: fra outer, ∀ o, s₁.heap.get? a = some o -> ∀ vs, o.data ≠ .fields vs := fun a ha o e => by
   rcases List.mem_cons.mp ha with rfl | ha
   ·obtain ⟨oL, es, ep, eL, hd, _⟩ := F.ns;rw [e] at eL; cases eL; exact nfd ⟨es, ep, hd⟩
   ·obtain ⟨o', e', hd, _⟩ := hF1.mem ha;rw [e] at e'; cases e'; exact nfd hd
  have stay : ∀ {h2 : Heap}, base.StaysIn h2 -> KpO (s0.heap.objs.size :: fra outer) s₁.heap h2 := fun hs a o ha e => hs a o ((hbe a ha).trans ((sh1.1.2.1 a ha).trans e));have upto : ∀ {h2 : Heap}, s'.heap.UpToSlots h2 -> ∀ a ∈ s0.heap.objs.size :: fra outer, ∀ o, s₁.heap.get? a = some o -> ∃ sl, h2.get? a = some { o with slots := sl } := fun hu a ha o e => by
   obtain ⟨sl, e1⟩ := sh1.1.2.2 a o e;have e2 := (hfe a ha).trans e1;obtain ⟨sl2, e3⟩ := hu a _ e2 (nfL a ha o e);exact ⟨sl2, e3⟩
  refine wpAny_looks_onW (Around.frames_deeper hF.stack) rfl hfl fun h1 hh1 hup1 => ?_;refine wpAny_landsW hh1 fun h2 hfl2 hup2 => ?_;obtain ⟨f1, f2, f3, f4⟩ := hfl2;have U2 := hup1.trans hup2;refine (F.shift (s' := { s' with heap := h2 }) hqf lvF (stay f1) (upto U2) hg ho) _ fun sE2 shE2 F2 => ?_;obtain ⟨ob, hob, hobc⟩ := f4.at.there;refine wpAny_handleBy_builtin (X := "Exception") (T := "Exception") (b := true) (by rw [isSubtype_type]; kernel_rfl) (by rw [isSubtype_type]; kernel_rfl) (by rw [isSubtype_type]; kernel_rfl) (m_bi F2 (ng_Exception w) boot_Exception ⟨rfl, ⟨ob, hob, hobc⟩, ?_⟩);simp only [if_true];refine wpAny_setFlight_noneW (base := base) f1 f3 f4.at fun h3 z1 z2 z3 z4 => ?_;have U3 : s'.heap.UpToSlots h3 := U2.trans fun b o hb hn => ⟨o.slots, z4 b o hb hn⟩;refine (F.shift (s' := { s' with heap := h3 }) hqf lvF (stay z1) (upto U3) hg ho) _ fun sE3 shE3 F3 => ?_;refine wpAny_execs_cons (wpAny_Return_some (m_cbool (hno hnot sE3 _ shE3 (F3.done' (shE3.none (Heap.get?_size_none _) fun hm => (frW _ hm).2 rfl)))))
end
end Mine
end
section
open PySem PySem.W PySem.Calls PyProof.Rows
namespace Mine
section
variable {w : World} {mg mb : Str -> Option Value} {L : Addr} {sE s s' : Shared} {W : Addr -> Prop} {H : List (Addr × Obj)} {b : Heap} {m : Str -> Option Value}
variable {A : Around} {E : Value -> Shared -> Prop} {env : Env}
theorem Iter.range {I : Addr} {n : Nat} : Iter w I (fun i o => o = { cls := .type "range_iterator", dict := none, data := .fields #[rawInt (i : Nat), rawInt ((n : Int) - (i : Nat)), rawInt 1], slots := #[] }) n (fun i v => ∃ t, v = .int (i : Nat) t) (fun _ => True) where
 keep := fun _ _ _ _ => trivial
 item := fun A i s Q E o hh hi ho hit _ hQ => by
  subst hit;refine wpAny_pyNext_range_item ho (ar190 hi) fun h' hit' hs' => ?_;refine hQ _ h' _ _ ⟨_, rfl⟩ hit' ?_ fun a o ha e => (hs'.2 a ha).trans e;have e1 : ((i : Int) + 1) = ((i + 1 : Nat) : Int) := ar66;have e2 : ((n : Int) - (i : Nat) - 1) = (n : Int) - ((i + 1 : Nat) : Int) := (Int.sub_sub _ _ _);rw [e1, e2]
 done := fun A s Q E o hh ho hit _ hQ => by
  subst hit;exact wpAny_pyNext_range_end hh ho (ar244) fun h' he' => hQ h' _ fun a o ha e => he' a o ha e
theorem for_range {R : Result -> Shared -> Prop} {v : Str} {px : Pos} {body orelse : List Stmt} {r : Addr} {n : Nat} {t u t' : Tok} (hh : A.handled = none) (hr : IsRange s.heap r 0 n 1 t u t') (hn : n < 1000)
  (J : Nat -> Heap -> (Str -> Option Value) -> Prop) (F : Fx w mg mb L sE W H b s m) (j0 : J 0 b m)
  (step : ∀ i tk s b m H', (∀ p ∈ H, p ∈ H') -> i < n -> J i b m -> Fx w mg mb L sE W H' b s (upd m v (.int (i : Nat) tk)) ->
   wpAny (model PP w) A (execs body env) (fun f s' => match f with
    | .next | .cont => ∃ b' m', Fx w mg mb L sE W H' b' s' m' ∧ J (i + 1) b' m'
    | .brk => R (.ok .next) s'
    | .ret u => R (.ok (.ret u)) s') (notedBy (model PP w) A env fun e s' => R (.error e) s') s)
  (fin : ∀ s b m, J n b m -> Fx w mg mb L sE W H b s m -> wpAny (model PP w) A (execs orelse env) (fun f s' => R (.ok f) s') (notedBy (model PP w) A env fun e s' => R (.error e) s') s)
  (hL : env.locals = L := by rfl) (hk : env.scope.kind = .function := by rfl) (hl : env.kindOf v = some .local := by rfl) :
  wpAny (model PP w) A (pyIter (.ref r)) (fun it s₂ => codeAny (model PP w) A (.forLoop (.Name v px) it body orelse env) R s₂) E s := by
 have hs : Builtin.Range.rangeSize 0 n 1 = n := by unfold Builtin.Range.rangeSize; simp; exact ar235
 refine wpAny_pyIter_range hr (by unfold Builtin.Range.small; rw [hs]; simp [Builtin.Range.rangeFitsLong]; exact ar281 hn) ?_;rw [hs];refine for_gen (Iter.range (n := n)) hh J (fun _ _ _ _ => trivial) (F.push rfl) (fun p hp e => absurd (Heap.lt_size (F.hid p hp).1) (by rw [e]; exact Nat.lt_irrefl _)) (by simp) j0 (fun i val s b m o hi hp hj F' => ?_) fin hL hk hl;obtain ⟨tk, rfl⟩ := hp;exact step i tk s b m _ (fun p hp => List.mem_cons_of_mem _ hp) hi hj F'
end
end Mine
end
section
open PySem PySem.W PySem.Calls PyProof.Rows
namespace Mine
noncomputable def lwLoop : Nat -> List Nat -> Nat -> List Nat
 | 0, wd, _ => wd
 | t + 1, wd, r => lwLoop t (wd ++ [97 + r % 3]) (r / 3)
noncomputable def lawWord (n : Int) : List Nat := lwLoop (n.natAbs % 4) [97 + n.natAbs / 4 % 3] (n.natAbs / 12)
theorem lwLoop_len : ∀ (t : Nat) (wd : List Nat) (r : Nat), (lwLoop t wd r).length = wd.length + t
 | 0, _, _ => rfl
 | t + 1, wd, r => by show (lwLoop t _ _).length = _; rw [lwLoop_len]; simp; exact ar48
theorem lwLoop_abc : ∀ (t : Nat) (wd : List Nat) (r : Nat), (∀ c ∈ wd, 97 <= c ∧ c <= 99) -> ∀ c ∈ lwLoop t wd r, 97 <= c ∧ c <= 99
 | 0, _, _, h => h
 | t + 1, wd, r, h => lwLoop_abc t _ _ fun c hc => by
  rcases List.mem_append.mp hc with hc | hc
  ·exact h c hc
  ·simp at hc; exact ar183 hc
theorem lawWord_len (n : Int) : 1 <= (lawWord n).length ∧ (lawWord n).length <= 4 := by unfold lawWord; rw [lwLoop_len]; simp; exact Nat.add_le_add_left (Nat.le_of_lt_succ (Nat.mod_lt _ (by decide))) 1
theorem lawWord_abc (n : Int) : ∀ c ∈ lawWord n, 97 <= c ∧ c <= 99 := lwLoop_abc _ _ _ fun c hc => by simp at hc; exact ar229 hc
section
variable {w : World} {mg mb : Str -> Option Value} {A : Around} {E : Value -> Shared -> Prop}
section
variable {L : Addr} {sE s : Shared} {W : Addr -> Prop} {H : List (Addr × Obj)} {b : Heap} {m : Str -> Option Value}
theorem m_fdivN {a cn : Nat} {c : Int} {t u : Tok} {Q : Value -> Shared -> Prop} (F : Fx w mg mb L sE W H b s m) (hc : c = (cn : Nat)) (h0 : cn ≠ 0) (hs : cn < 1000) (h : ∀ s' t, Fx w mg mb L sE W H b s' m -> Q (.int ((a / cn : Nat) : Int) t) s') :
  wpAny (model PP w) A (binaryOp .FloorDiv (.int (a : Nat) t) (.int c u)) Q E s := by
 subst hc;refine floordiv_int (ar72 h0) ?_ (Or.inl (PyProof.noPylong_small (ar280 hs)));have e : ((a : Int).fdiv (cn : Int)) = ((a / cn : Nat) : Int) := by rw [Int.fdiv_eq_ediv_of_nonneg _ (ar18)]; exact (Int.natCast_ediv a cn).symm
 rw [e];exact h _ _ (F.tok _)
theorem m_modN {a cn : Nat} {c : Int} {t u : Tok} {Q : Value -> Shared -> Prop} (F : Fx w mg mb L sE W H b s m) (hc : c = (cn : Nat)) (h0 : cn ≠ 0) (h : ∀ s' t, Fx w mg mb L sE W H b s' m -> Q (.int ((a % cn : Nat) : Int) t) s') :
  wpAny (model PP w) A (binaryOp .Mod (.int (a : Nat) t) (.int c u)) Q E s := by
 subst hc;refine mod_int (ar72 h0) ?_;have e : ((a : Int).fmod (cn : Int)) = ((a % cn : Nat) : Int) := by rw [Int.fmod_eq_emod_of_nonneg _ (ar18)]; exact (Int.natCast_emod a cn).symm
 rw [e];exact h _ _ (F.tok _)
theorem m_abc {j : Nat} {t u : Tok} {Q : Value -> Shared -> Prop} (F : Fx w mg mb L sE W H b s m) (hj : j < 3) (h : ∀ s' t, Fx w mg mb L sE W H b s' m -> Q (.str (mkS [97 + j]) t) s') :
  wpAny (model PP w) A (getItem (.str "abc" t) (.int (j : Nat) u)) Q E s := by
 refine getItem_str (c := 97 + j) ?_ ?_ (h _ _ (F.tok _))
 ·simp; exact (Int.ofNat_lt (m := 9223372036854775808)).mpr (Nat.lt_trans hj (by decide))
 ·have : j = 0 ∨ j = 1 ∨ j = 2 := (ar275 hj);rcases this with rfl | rfl | rfl <;> rfl
end
inductive LwJ (N : Nat) (i : Nat) (b : Heap) (m : Str -> Option Value) : Prop
 | mk (tw tr : Tok) (rr : Nat) (wd : List Nat) (h1 : m "word" = some (.str (mkS wd) tw)) (h2 : m "rest" = some (.int ((rr : Nat) : Int) tr)) (h3 : lwLoop (N % 4 - i) wd rr = lwLoop (N % 4) [97 + N / 4 % 3] (N / 12)) (h4 : wd.length = 1 + i) : LwJ N i b m
theorem law_word_spec {s0 : Shared} {n : Int} {tn : Tok} {Q : Value -> Shared -> Prop} {k : Nat} (g : G w mg mb s0.heap) (hA : Rm A (k + 1))
  (h : ∀ s' t, Stp W0 s0 s' -> Q (.str (mkS (lawWord n)) t) s') : wpAny (model PP w) A (call (.ref 429) [.int n tn]) Q E s0 := by
 refine wpAny_call (m_call W0 [("number", .int n tn)] g hA.room (by rfl) (by kernel_rfl) (.of_eq (by rfl)) (locs (by rfl)) (fun s₁ F => ?_) (by decide));refine gQ1 fun Q0 hQ0 => ?_;have hB : ∀ env, Rm (A.deeper env) k := fun env => hA.deeper env;refine wpAny_execs_cons (wpAny_Assign_Name (Call_ (m_bi F (ng_abs w) boot_abs (m_cwb (args_cons (m_local F (by rfl) (args_nil (call_abs_int fun u tk => ?_))))))));have eabs : (if n < 0 then -n else n) = ((n.natAbs : Nat) : Int) := by split <;> lia
 rw [eabs];refine m_store (F.tok tk) fun s F => ?_;unfold lawWord at h;generalize n.natAbs = N at h F ⊢;refine wpAny_execs_cons (wpAny_Assign_Name (gQ1 fun Qv hQv => Subscript_ (m_cstr F fun s t F _ => wpAny_BinOp (wpAny_BinOp (m_local F (by rfl) (m_cint F fun s t F _ => m_fdivN (cn := 4) F rfl (by decide) (by decide) fun s t F => m_cint F fun s t F _ => m_modN (cn := 3) F rfl (by decide) fun s t F => ?_))))));refine subscriptTail_builtin (T := "str") rfl PyProof.Rows.slot_str_getitem.lookup (m_abc F (Nat.mod_lt _ (by decide)) fun s t F => hQv _ _ (m_store F fun s F => ?_));refine wpAny_execs_cons (wpAny_Assign_Name (wpAny_BinOp (m_local F (by rfl) (m_cint F fun s t F _ => m_fdivN (cn := 12) F rfl (by decide) (by decide) fun s t F => m_store F fun s F => ?_))));refine wpAny_execs_cons (wpAny_For (Call_ (m_bi F (ng_range w) boot_range (m_ct (args_cons (wpAny_BinOp (m_local F (by rfl) (m_cint F fun s t F _ => m_modN (cn := 4) F rfl (by decide) fun s t F => args_nil (call_range_1 ?_)))))))));have F2 := F.grow (s' := { s with heap := s.heap.push { cls := .type "range", data := .fields #[.int 0 s.toks, .int ((N % 4 : Nat) : Int) t, .int 1 (s.toks + 1)] }, toks := s.toks + 1 + 1 }) (.of fun _ _ e => Heap.get?_push_of_some _ e);refine for_range (n := N % 4) (t := s.toks) (u := t) (t' := s.toks + 1) (hB default).hh (Heap.get?_push_size _ rfl) (Nat.lt_of_lt_of_le (Nat.mod_lt _ (by decide)) (by decide)) (LwJ N) F2 ⟨_, _, _, _, rfl, rfl, rfl, rfl⟩ ?_ ?_
 ·intro i tk s b m H' hH hi hJ F;refine gQ1 fun Qb hQb => ?_;obtain ⟨tw, tr, rr, wd, h1, h2, h3, h4⟩ := hJ;refine wpAny_execs_cons (wpAny_Assign_Name (gQ1 fun Qv hQv => wpAny_BinOp (m_local F (by exact h1) (Subscript_ (m_cstr F fun s t F _ => wpAny_BinOp (m_local F (by exact h2) (m_cint F fun s t F _ => m_modN (cn := 3) F rfl (by decide) fun s t F => ?_)))))));refine subscriptTail_builtin (T := "str") rfl PyProof.Rows.slot_str_getitem.lookup (m_abc F (Nat.mod_lt _ (by decide)) fun s t F => add_str (fun t' tk => ?_) (by rw [mkS_len, mkS_len, sizeLine_eq]; simp; exact ar119 hi h4));have e : mkS wd ++ mkS [97 + rr % 3] = mkS (wd ++ [97 + rr % 3]) := by
   show (⟨wd.toArray ++ [97 + rr % 3].toArray⟩ : Str) = ⟨(wd ++ [97 + rr % 3]).toArray⟩;simp
  rw [e];refine hQv _ _ (m_store (F.tok tk) fun s F => ?_);refine wpAny_execs_cons (wpAny_Assign_Name (wpAny_BinOp (m_local F (by exact h2) (m_cint F fun s t F _ => m_fdivN (cn := 3) F rfl (by decide) (by decide) fun s t F => m_store F fun s F => wpAny_execs_nil ?_))));refine hQb _ _ ⟨b, _, F, _, _, rr / 3, wd ++ [97 + rr % 3], rfl, rfl, ?_, by simp [h4]; exact ar242⟩;rw [← h3];obtain ⟨z, hz⟩ : ∃ z, N % 4 - i = z + 1 := ⟨N % 4 - i - 1, ((Nat.succ_pred_eq_of_pos (Nat.sub_pos_of_lt hi)).symm)⟩;rw [hz, show N % 4 - (i + 1) = z from (Nat.sub_succ _ _).trans (congrArg Nat.pred hz)]; rfl
 ·intro s b m hJ F;obtain ⟨tw, tr, rr, wd, h1, h2, h3, h4⟩ := hJ;rw [Nat.sub_self] at h3;have h3 : wd = _ := h3;refine wpAny_execs_nil (wpAny_execs_cons (wpAny_Return_some (m_local F (by exact h1) ?_)));rw [h3];exact hQ0 _ _ (h _ _ F.done)
end
end Mine
end
section
open PySem PySem.W PySem.Calls PyProof.Rows
namespace Mine
section
variable {w : World} {A : Around} {E : Value -> Shared -> Prop} {s : Shared}
theorem entry_unchain : entryFor table "proto.unchain" = some Builtin.«proto.unchain» := entryFor_of_tree (by kernel_rfl)
theorem raiseNew_held {α : Type} {e x : Addr} {ox oe : Obj} {xs es : Array Value} {Q : α -> Shared -> Prop} (hh : A.handled = some (.ref x)) (hne : x ≠ e) (hx : s.heap.get? x = some ox) (dx : ox.data = .fields xs) (x2 : xs[2]? = some .none)
  (he : s.heap.get? e = some oe) (de : oe.data = .fields es) (e2 : 2 < es.size) (h : E (.ref e) { s with heap := s.heap.update e (Obj.mapFields (·.setIfInBounds 2 (.ref x))) }) : wpAny (model PP w) A (raiseNew (.ref e) : Sem α) Q E s := by
 unfold raiseNew;refine wpAny_bind (wpAny_handled ?_);rw [hh];dsimp only;rw [if_pos (by simpa using hne)];refine wpAny_bind (wpAny_holding (wpAny_runValue (codeAny_builtin entry_unchain ?_)));refine wpAny_bind (wpAny_field hx dx x2 ?_);rw [if_pos (by rfl)];refine wpAny_pure ?_;dsimp only;have hu : wpAny (model PP w) A (updateField e 2 (.ref x)) (fun _ s' => E (.ref e) s') E s := by
  show wpAny _ A (setField (.ref e) 2 (.ref x)) _ E s;exact wpAny_setField he de e2 h
 exact wpAny_bind (wpAny_mono hu (fun _ s' h' => wpAny_throw h') fun _ _ z => z)
end
end Mine
end
section
open PySem PySem.W PySem.Calls PyProof.Rows
namespace Mine
theorem find_key {β : Type} {q : Int} {v : β} : ∀ {l : List (Int × β)}, (l.map (·.1)).Nodup -> (q, v) ∈ l -> l.find? (fun x => decide (x.1 = q)) = some (q, v)
 | [], _, h => by cases h
 | x :: r, hn, h => by
  rw [List.find?_cons];rcases List.mem_cons.mp h with h | h
  ·subst h; simp
  ·have : ¬ x.1 = q := fun e => (List.nodup_cons.mp hn).1 (by have h3 := List.mem_map_of_mem (f := Prod.fst) h; rw [show Prod.fst (q, v) = x.1 from e.symm] at h3; exact h3);simp only [this, decide_false];exact find_key (List.nodup_cons.mp hn).2 h
theorem rows_mem {R : RG} {q : Int} {a : List (Nat × Int)} : (q, a) ∈ rowsOf R ↔ a ≠ [] ∧ ∃ f, ((a, f), q) ∈ R := by
 unfold rowsOf;rw [List.mem_filterMap]
 constructor
 ·rintro ⟨⟨⟨b, f⟩, i⟩, hm, e⟩
  simp only at e
  split at e
  ·cases e
  ·rename_i hb; cases e; exact ⟨hb, f, List.mem_reverse.mp hm⟩
 ·rintro ⟨ha, f, hm⟩
  exact ⟨_, List.mem_reverse.mpr hm, by simp [ha]⟩
theorem rows_nodup {R : RG} (w : WF R) : ((rowsOf R).map (·.1)).Nodup := by
 have h1 : ((R.reverse).map (·.2)).Nodup := by rw [List.map_reverse]; exact (List.reverse_perm _).nodup_iff.mpr w.ids_nodup
 have h2 : ((rowsOf R).map (·.1)).Sublist ((R.reverse).map (·.2)) := by
  unfold rowsOf;generalize R.reverse = l
  induction l with
  | nil => exact .slnil
  | cons x r ih =>
   rw [List.filterMap_cons]
   split
   ·exact .cons _ ih
   ·rename_i y hy
    split at hy
    ·cases hy
    ·cases hy; exact .cons_cons _ ih
 exact h2.nodup h1
theorem rows_find {R : RG} (w : WF R) (q : Int) : (rowsOf R).find? (fun x => decide (x.1 = q)) = if arcsOf R q = [] then none else some (q, arcsOf R q) := by
 by_cases h : arcsOf R q = []
 ·rw [if_pos h, List.find?_eq_none];intro x hx;simp only [decide_eq_true_eq];intro e;obtain ⟨a, b⟩ := x;simp only at e; subst e;obtain ⟨hb, f, hm⟩ := rows_mem.mp hx;rw [arcsOf_mem w hm] at h;exact hb h
 ·rw [if_neg h];refine find_key (rows_nodup w) (rows_mem.mpr ⟨h, ?_⟩);unfold arcsOf at h ⊢;cases hf : R.find? fun x => decide (x.2 = q) with
  | none => rw [hf] at h; exact absurd rfl h
  | some x =>
   obtain ⟨⟨a, f⟩, i⟩ := x;have h1 := List.mem_of_find?_eq_some hf;have h2 := List.find?_some hf;simp at h2; subst h2;exact ⟨f, h1⟩
theorem enc_find (a : List (Nat × Int)) (ch : Nat) : ((enc a).find? fun x => decide (x.1 = lab ch)).map (·.2) = toR a ch := by
 unfold toR enc;rw [List.find?_map, Option.map_map];have e : ((fun x : Str × Int => decide (x.1 = lab ch)) ∘ fun x : Nat × Int => (lab x.1, x.2)) = fun x => decide (x.1 = ch) := by
  funext x
  simp only [Function.comp_apply]
  by_cases h : x.1 = ch
  ·simp [h]
  ·rw [decide_eq_false h, decide_eq_false fun q => h (lab_inj q)]
 rw [e]; rfl
theorem intAt_keyOf (v : List (Str × Int × Tok)) (l : Str) : intAt v l = ((keyOf v).find? fun x => decide (x.1 = l)).map (·.2) := by
 unfold PySem.intAt keyOf;rw [List.find?_map, Option.map_map]
 rfl
theorem DC.next_eq {c : DC} {R : RG} (hr : c.rows = encR (rowsOf R)) (w : WF R) (q : Int) (ch : Nat) : c.next q (lab ch) = toR (arcsOf R q) ch := by
 have h1 : (c.look q).map (fun x => keyOf x.2) = ((rowsOf R).find? fun x => decide (x.1 = q)).map fun x => enc x.2 := by
  have e1 : (c.rows.find? fun x => decide (x.1 = q)).map (·.2) = (c.look q).map fun x => keyOf x.2 := by
   unfold DC.rows DC.look;rw [List.find?_map, Option.map_map, Option.map_map]
   rfl
  rw [← e1, hr];unfold encR;rw [List.find?_map, Option.map_map]
  rfl
 rw [rows_find w] at h1;unfold DC.next
 by_cases h : arcsOf R q = []
 ·rw [if_pos h] at h1;cases hl : c.look q with
  | some x => rw [hl] at h1; cases h1
  | none => rw [h]; rfl
 ·rw [if_neg h] at h1;cases hl : c.look q with
  | none => rw [hl] at h1; cases h1
  | some x =>
   rw [hl] at h1;simp only [Option.map_some, Option.some.injEq] at h1;show intAt x.2 (lab ch) = _;rw [intAt_keyOf, h1, enc_find]
theorem DC.run_eq {c : DC} {R : RG} (hr : c.rows = encR (rowsOf R)) (w : WF R) : ∀ (s : List Nat) (q : Int), c.run q s = runR R q s
 | [], q => rfl
 | ch :: s, q => by
  show (c.next q ⟨#[ch]⟩).bind _ = (toR (arcsOf R q) ch).bind _;rw [show c.next q ⟨#[ch]⟩ = toR (arcsOf R q) ch from DC.next_eq hr w q ch]
  congr 1
  funext d
  exact DC.run_eq hr w s d
theorem toR_in {a : List (Nat × Int)} {c : Nat} {d : Int} (h : toR a c = some d) : (c, d) ∈ a := by
 unfold toR at h;cases hf : a.find? fun x => decide (x.1 = c) with
 | none => rw [hf] at h; cases h
 | some x =>
  rw [hf] at h;have h1 := List.mem_of_find?_eq_some hf;have h2 := List.find?_some hf;obtain ⟨y, z⟩ := x;simp at h2 h;subst h2; subst h; exact h1
theorem no_zero {R r : RG} {k : List (Nat × Int) × Bool} (w : WF R) (hR : R = (k, 0) :: r) (q : Int) (c : Nat) : toR (arcsOf R q) c ≠ some 0 := by
 intro h;have hm := toR_in h;unfold arcsOf at hm;cases hf : R.find? fun x => decide (x.2 = q) with
 | none => rw [hf] at hm; cases hm
 | some x =>
  rw [hf] at hm;obtain ⟨pre, post, he⟩ := List.append_of_mem (List.mem_of_find?_eq_some hf);obtain ⟨⟨a, f⟩, i⟩ := x;have wx : WF (((a, f), i) :: post) := WF.tail (p := pre) (by rw [← he]; exact w);have h0 : (0 : Int) ∈ ids post := (wx.2.2.2.2.1 _ hm).1;have nd := w.ids_nodup;rw [hR] at nd he;cases pre with
  | nil =>
   simp only [List.nil_append, List.cons.injEq] at he;rw [← he.2] at h0;exact (List.nodup_cons.mp nd).1 h0
  | cons y pre =>
   simp only [List.cons_append, List.cons.injEq] at he;refine (List.nodup_cons.mp nd).1 ?_
   show (0 : Int) ∈ ids r;rw [he.2];unfold ids at h0 ⊢;rw [List.map_append, List.map_cons];exact List.mem_append_right _ (List.mem_cons_of_mem _ h0)
end Mine
end
section
open PySem PySem.W PySem.Calls PyProof.Rows
namespace Mine
section
variable {w : World} {A : Around} {K : Type} [DecidableEq K] {knd : KeyKind PP w K}
end
end Mine
end
section
open PySem PySem.W PySem.Calls PyProof.Rows
namespace Mine
section
variable {w : World} {A : Around} {E : Value -> Shared -> Prop} {s : Shared} {K : Type} [DecidableEq K] {knd : KeyKind PP w K}
end
end Mine
end
section
open PySem PySem.W PySem.Calls PyProof.Rows
namespace Mine
section
variable {w : World} {A : Around} {E : Value -> Shared -> Prop} {s : Shared}
theorem sorted_coll_ints {x : Value} {Q : Value -> Shared -> Prop}
  (h : wpAny (model PP w) A.in1 (collect x) (fun vs s1 => vs.length < 64 ∧ ∃ ns, IntsAre vs ns ∧ ∀ (out : Array Value) (ns' : List Int), IntsAre out.toList ns' -> ns'.Perm ns -> ns'.Pairwise (· <= ·) ->
   ∀ h2, (Kp s1.heap h2) -> h2.IsList s1.heap.objs.size out -> Q (.ref s1.heap.objs.size) { s1 with heap := h2 }) E s) : wpAny (model PP w) A (call (.builtin "sorted") [x]) Q E s := by
 refine call_function_entry kind_sorted plain_sorted entry_sorted (args_sorted1 _) ?_;unfold Builtin.«sorted»;refine wpAny_bind (m := checkCount "sorted" 1 1 _) (wpAny_pure ?_);refine wpAny_bind (wpAny_mono h (fun vs s1 hz9 => ?_) ee);obtain ⟨h64, ns, hI, hQ⟩ := hz9;refine wpAny_bind (wpAny_newList ?_ (by rw [sizeLine_eq]; lia));have hB : (s1.heap.push (seqObj "list" vs.toArray 0)).get? s1.heap.objs.size = some (seqObj "list" vs.toArray 0) := Heap.get?_push_size _ rfl;refine wpAny_bind (wpAny_holding (wpAny_call_entry slot_list_sort ⟨_, hB, rfl⟩ entry_list_sort ?body (args_list_sort _)))
 case body =>
  refine list_sort_tree (s := { s1 with heap := s1.heap.push (seqObj "list" vs.toArray 0) }) hB hI h64 fun out ns' h1 h2 h3 => ⟨_, rfl, wpAny_pure ⟨_, rfl, ?_⟩⟩;obtain ⟨e2, he2⟩ := sortedHeap_at (out := out) hB;refine hQ out ns' h1 h2 h3 _ (fun b o e => sortedHeap_old (Nat.ne_of_lt (Heap.lt_size e)) (Heap.get?_push_of_some _ e)) ⟨_, he2, rfl, _, rfl⟩
theorem sorted_coll_strs {x : Value} {Q : Value -> Shared -> Prop}
  (h : wpAny (model PP w) A.in1 (collect x) (fun vs s1 => vs.length < 64 ∧ ∃ ss, StrsAre vs ss ∧ ∀ (out : Array Value) (ss' : List Str), StrsAre out.toList ss' -> ss'.Perm ss -> sortedS ss' = true ->
   ∀ h2, (Kp s1.heap h2) -> h2.IsList s1.heap.objs.size out -> Q (.ref s1.heap.objs.size) { s1 with heap := h2 }) E s) : wpAny (model PP w) A (call (.builtin "sorted") [x]) Q E s := by
 refine call_function_entry kind_sorted plain_sorted entry_sorted (args_sorted1 _) ?_;unfold Builtin.«sorted»;refine wpAny_bind (m := checkCount "sorted" 1 1 _) (wpAny_pure ?_);refine wpAny_bind (wpAny_mono h (fun vs s1 hz9 => ?_) ee);obtain ⟨h64, ss, hS, hQ⟩ := hz9;refine wpAny_bind (wpAny_newList ?_ (by rw [sizeLine_eq]; lia));have hB : (s1.heap.push (seqObj "list" vs.toArray 0)).get? s1.heap.objs.size = some (seqObj "list" vs.toArray 0) := Heap.get?_push_size _ rfl;refine wpAny_bind (wpAny_holding (wpAny_call_entry slot_list_sort ⟨_, hB, rfl⟩ entry_list_sort ?body (args_list_sort _)))
 case body =>
  refine list_sort_treeK (s := { s1 with heap := s1.heap.push (seqObj "list" vs.toArray 0) }) strKind_oneLt hB hS.keysOf (fun v₁ v₂ rest e => keyKind_strs (by rw [← e]; exact hS)) h64 fun st' hp hs => ?_;obtain ⟨ss', h1, h2, h3⟩ := sorted_out_str hS hp hs;obtain ⟨e2, he2⟩ := sortedHeap_at (out := (arrOf st').map (·.2)) hB;exact ⟨_, rfl, wpAny_pure ⟨_, rfl, hQ _ ss' h1 h2 h3 _ (fun b o e => sortedHeap_old (Nat.ne_of_lt (Heap.lt_size e)) (Heap.get?_push_of_some _ e)) ⟨_, he2, rfl, _, rfl⟩⟩⟩
end
end Mine
end
section
open PySem PySem.W PySem.Calls PyProof.Rows PySem.Spec
namespace Mine
theorem sorted_eq_int {a b : List Int} (ha : a.Pairwise (· <= ·)) (hb : b.Pairwise (· <= ·)) (h : a.Perm b) : a = b :=
 h.eq_of_pairwise (fun x y _ _ h1 h2 => Int.le_antisymm h1 h2) ha hb
theorem perm_of_mem {α : Type} [DecidableEq α] : ∀ {a b : List α}, a.Nodup -> b.Nodup -> (∀ x, x ∈ a ↔ x ∈ b) -> a.Perm b
 | [], b, _, _, h => by
  cases b with
  | nil => exact .nil
  | cons y r => exact absurd ((h y).mpr (by simp)) (by simp)
 | x :: a, b, ha, hb, h => by
  have hx : x ∈ b := (h x).mp (by simp);have hp := List.perm_cons_erase hx;refine .trans (.cons x (perm_of_mem (List.nodup_cons.mp ha).2 (hb.sublist (List.erase_sublist)) fun y => ?_)) hp.symm
  constructor
  ·intro hy;have hne : y ≠ x := fun e => (List.nodup_cons.mp ha).1 (e ▸ hy);exact (List.mem_erase_of_ne hne).mpr ((h y).mp (List.mem_cons_of_mem _ hy))
  ·intro hy;have hm := List.mem_of_mem_erase hy;have hne : y ≠ x := fun e => by
    subst e;exact (List.Nodup.not_mem_erase hb) hy
   rcases List.mem_cons.mp ((h y).mpr hm) with e | e
   ·exact absurd e hne
   ·exact e
theorem sortedS_pw : ∀ {l : List Str}, sortedS l = true -> l.Pairwise fun a b => ¬ (b.cps.toList < a.cps.toList)
 | [], _ => .nil
 | x :: r, h => by
  have key : ∀ (r : List Str) (p : Str), risingS p r = true -> (∀ y ∈ r, ¬ (y.cps.toList < p.cps.toList)) ∧ sortedS r = true := by
   intro r
   induction r with
   | nil => intro p _; exact ⟨fun y hy => (nomatch hy), rfl⟩
   | cons y r ih =>
    intro p h;have h' : (!ltCps y.cps.toList p.cps.toList && risingS y r) = true := h;rw [Bool.and_eq_true, ltCps_eq] at h';have h1 : ¬ (y.cps.toList < p.cps.toList) := by simpa using h'.1
    obtain ⟨h2, _⟩ := ih y h'.2;refine ⟨fun z hz => ?_, h'.2⟩;rcases List.mem_cons.mp hz with rfl | hz
    ·exact h1
    ·exact fun hlt => h1 (List.lt_of_le_of_lt (List.not_lt.mp (h2 z hz)) hlt)
  obtain ⟨h1, h2⟩ := key r x h;exact List.pairwise_cons.mpr ⟨h1, sortedS_pw h2⟩
end Mine
end
section
open PySem PySem.W PySem.Calls PyProof.Rows
namespace Mine
structure TOk (led : Bool) (t : SetTable) : Prop where
 asc : t.place.toList.Pairwise (· < ·)
 nod : t.dummies = #[]
 led : t.led = led
theorem below_go (xs : Array Nat) (j : Nat) (ha : xs.toList.Pairwise (· < ·)) : ∀ (fuel lo hi : Nat), hi <= xs.size -> lo <= hi -> hi - lo <= fuel -> (∀ i y, i < lo -> xs[i]? = some y -> y < j) -> (∀ i y, hi <= i -> xs[i]? = some y -> j <= y) ->
  SetTable.below.go xs j fuel lo hi <= xs.size ∧ (∀ i y, i < SetTable.below.go xs j fuel lo hi -> xs[i]? = some y -> y < j) ∧ ∀ i y, SetTable.below.go xs j fuel lo hi <= i -> xs[i]? = some y -> j <= y
 | 0, lo, hi, h1, h2, h3, h4, h5 => by
  have : lo = hi := (Nat.le_antisymm h2 (Nat.le_of_sub_eq_zero (Nat.le_zero.mp h3)));subst this;exact ⟨h1, h4, h5⟩
 | fuel + 1, lo, hi, h1, h2, h3, h4, h5 => by
  have mono : ∀ (i k y z : Nat), i <= k -> xs[i]? = some y -> xs[k]? = some z -> y <= z := by
   intro i k y z hik hy hz;rcases Nat.lt_or_ge i k with hlt | hge
   ·rw [← Array.getElem?_toList] at hy hz;obtain ⟨hi', rfl⟩ := List.getElem?_eq_some_iff.mp hy;obtain ⟨hk', rfl⟩ := List.getElem?_eq_some_iff.mp hz;exact Nat.le_of_lt (List.pairwise_iff_getElem.mp ha i k hi' hk' hlt)
   ·obtain rfl : i = k := (Nat.le_antisymm hik hge);rw [hy] at hz; cases hz; exact Nat.le_refl _
  unfold SetTable.below.go
  by_cases hlt : lo < hi
  ·rw [if_pos hlt];have hm : (lo + hi) / 2 < xs.size := (ar38 h1 hlt);have hx : xs[(lo + hi) / 2]? = some xs[(lo + hi) / 2] := Array.getElem?_eq_getElem hm;have hd : xs.getD ((lo + hi) / 2) j = xs[(lo + hi) / 2] := by simp [Array.getD, hm]
   dsimp only;rw [hd]
   split
   ·rename_i hc
    refine below_go xs j ha fuel _ hi h1 (ar56 hlt) (ar124 h3) (fun i y hi' hy => ?_) h5;exact Nat.lt_of_le_of_lt (mono i _ y _ (Nat.le_of_succ_le_succ hi') hy hx) hc
   ·rename_i hc
    refine below_go xs j ha fuel lo _ (ar46 hm) (ar55 hlt) (ar125 h3) h4 (fun i y hi' hy => ?_);exact Nat.le_trans (Nat.not_lt.mp hc) (mono _ i _ y hi' hx hy)
  ·rw [if_neg hlt];have : lo = hi := (ar2 h2 hlt);subst this;exact ⟨h1, h4, h5⟩
theorem below_spec {xs : Array Nat} (ha : xs.toList.Pairwise (· < ·)) (j : Nat) :
  SetTable.below xs j <= xs.size ∧ (∀ i y, i < SetTable.below xs j -> xs[i]? = some y -> y < j) ∧ ∀ i y, SetTable.below xs j <= i -> xs[i]? = some y -> j <= y :=
 below_go xs j ha xs.size 0 xs.size (Nat.le_refl _) (Nat.zero_le _) (Nat.sub_le _ _) (fun i y h => absurd h (Nat.not_lt_zero _)) fun i y h hy => by
  rw [Array.getElem?_eq_none h] at hy; cases hy
theorem below_zero {xs : Array Nat} (ha : xs.toList.Pairwise (· < ·)) : SetTable.below xs 0 = 0 := by
 obtain ⟨h1, h2, _⟩ := below_spec ha 0;cases h : SetTable.below xs 0 with
 | zero => rfl
 | succ n =>
  rw [h] at h1 h2;exact absurd (h2 0 _ (Nat.succ_pos _) (Array.getElem?_eq_getElem (Nat.zero_lt_of_lt h1))) (Nat.not_lt_zero _)
theorem below_next {xs : Array Nat} (ha : xs.toList.Pairwise (· < ·)) {i y : Nat} (hy : xs[i]? = some y) : SetTable.below xs (y + 1) = i + 1 := by
 obtain ⟨h1, h2, h3⟩ := below_spec ha (y + 1);have hi : i < xs.size := by
  rcases Nat.lt_or_ge i xs.size with h | h
  ·exact h
  ·rw [Array.getElem?_eq_none h] at hy; cases hy
 rcases Nat.lt_trichotomy (SetTable.below xs (y + 1)) (i + 1) with h | h | h
 ·have := h3 i y (ar57 h) hy; exact absurd this (Nat.not_succ_le_self _)
 ·exact h
 ·have hlt : i + 1 < xs.size := (ar99 h1 h);have hz : xs[i + 1]? = some xs[i + 1] := Array.getElem?_eq_getElem hlt;have h4 := h2 (i + 1) _ h hz;obtain ⟨hi', e⟩ := Array.getElem?_eq_some_iff.mp hy;have := List.pairwise_iff_getElem.mp ha i (i + 1) (by simpa using hi) (by simpa using hlt) (ar65);simp only [Array.getElem_toList] at this
  lia
theorem insert_asc {xs : Array Nat} (ha : xs.toList.Pairwise (· < ·)) {j : Nat} (hne : xs[SetTable.below xs j]? ≠ some j) : (SetTable.insertAt xs (SetTable.below xs j) j).toList.Pairwise (· < ·) := by
 obtain ⟨h1, h2, h3⟩ := below_spec ha j;have e : (SetTable.insertAt xs (SetTable.below xs j) j).toList = xs.toList.take (SetTable.below xs j) ++ j :: xs.toList.drop (SetTable.below xs j) := by
  unfold SetTable.insertAt;simp [List.take_of_length_le]
 rw [e];refine List.pairwise_append.mpr ⟨ha.sublist (List.take_sublist _ _), List.pairwise_cons.mpr ⟨fun z hz => ?_, ha.sublist (List.drop_sublist _ _)⟩, fun a hA b hB => ?_⟩
 ·obtain ⟨k, hk⟩ := List.mem_iff_getElem?.mp hz;rw [List.getElem?_drop, Array.getElem?_toList] at hk;have h4 := h3 _ z (ar23) hk;refine Nat.lt_of_le_of_ne h4 fun e => ?_;subst e;cases k with
  | zero => exact hne hk
  | succ k =>
   have hsz : SetTable.below xs j < xs.size := by
    rcases Nat.lt_or_ge (SetTable.below xs j) xs.size with h | h
    ·exact h
    ·rw [Array.getElem?_eq_none (Nat.le_add_right_of_le h)] at hk; cases hk
   have h5 := h3 _ _ (Nat.le_refl _) (Array.getElem?_eq_getElem hsz);obtain ⟨hk', ek⟩ := Array.getElem?_eq_some_iff.mp hk;have := List.pairwise_iff_getElem.mp ha (SetTable.below xs j) (SetTable.below xs j + (k + 1)) (by simpa using hsz) (by simpa using hk') (ar47);simp only [Array.getElem_toList] at this
   lia
 ·obtain ⟨k, hk⟩ := List.mem_iff_getElem?.mp hA;obtain ⟨hk1, hk2⟩ := List.getElem?_eq_some_iff.mp hk;rw [List.length_take] at hk1;have hk3 : xs[k]? = some a := by rw [← Array.getElem?_toList, ← hk, List.getElem?_take_of_lt (by lia)]
  have haj := h2 k a (by lia) hk3;rcases List.mem_cons.mp hB with rfl | hB
  ·exact haj
  ·obtain ⟨l, hl⟩ := List.mem_iff_getElem?.mp hB;rw [List.getElem?_drop, Array.getElem?_toList] at hl;exact Nat.lt_of_lt_of_le haj (h3 _ b (ar23) hl)
theorem has_nil (j : Nat) : SetTable.has #[] j = false := by
 unfold SetTable.has;simp
theorem probe_go {t : SetTable} (hn : t.dummies = #[]) (f : Nat -> Int) (h : Int) : ∀ (fuel : Nat) (p : SetTable.Probe), p.dummy = none -> ∀ j d, SetTable.probe.go t f h fuel p = some (.empty j d) -> d = none ∧ t.place[SetTable.below t.place j]? ≠ some j
 | 0, p, hp, j, d, e => by simp [SetTable.probe.go] at e
 | fuel + 1, p, hp, j, d, e => by
  unfold SetTable.probe.go at e;have hadv : ∀ p : SetTable.Probe, (t.advance p).dummy = p.dummy := fun p => by unfold SetTable.advance; split <;> rfl
  cases hs : t.slot p.j with
  | empty =>
   rw [hs] at e;simp only [Option.some.injEq, SetTable.Met.empty.injEq] at e;obtain ⟨rfl, rfl⟩ := e;refine ⟨hp, fun hh => ?_⟩;unfold SetTable.slot at hs;dsimp only at hs;rw [if_pos (by simp [hh])] at hs;cases hs
  | dummy =>
   unfold SetTable.slot at hs;dsimp only at hs;rw [hn, has_nil] at hs
   split at hs
   ·cases hs
   ·simp at hs
  | live i =>
   rw [hs] at e;dsimp only at e
   split at e
   ·cases e
   ·exact probe_go hn f h fuel _ ((hadv p).trans hp) j d e
theorem TOk.put {led : Bool} {t : SetTable} (x : TOk led t) {j : Nat} (hne : t.place[SetTable.below t.place j]? ≠ some j) : TOk led (t.put j).1 := by
 unfold SetTable.put;refine ⟨insert_asc x.asc hne, ?_, x.led⟩;dsimp only;rw [x.nod, has_nil]; rfl
theorem TOk.standIn {led : Bool} {t : SetTable} (x : TOk led t) (n : Nat) : TOk led (t.standIn n) :=
 ⟨by show (Array.range n).toList.Pairwise _; rw [Array.toList_range]; exact List.pairwise_lt_range, rfl, x.led⟩
theorem TOk.layNew {led : Bool} {t : SetTable} (x : TOk led t) (es : Array (Int × Value)) (h : Int) (v : Value) : TOk led (layNew t es h v).2.1 := by
 unfold PySem.layNew;cases hf : t.freeSlot h with
 | none => exact x.standIn _
 | some p =>
  obtain ⟨slot, wd⟩ := p;unfold SetTable.freeSlot at hf;have key : t.place[SetTable.below t.place slot]? ≠ some slot := by
   cases hp : t.probe (fun _ => h + 1) h (t.probeStart h) with
   | none => rw [hp] at hf; cases hf
   | some m =>
    rw [hp] at hf;cases m with
    | candidate a b c => cases hf
    | empty j d =>
     obtain ⟨rfl, h2⟩ := probe_go x.nod _ h _ _ (by rfl) j d hp;simp only [Option.getD_none, Option.some.injEq, Prod.mk.injEq] at hf;rw [← hf.1]; exact h2
  have hput := x.put key;dsimp only;show TOk led (SetTable.orStandIn (t.put slot).1 _);unfold SetTable.orStandIn
  split
  ·exact hput
  ·exact hput.standIn _
theorem laid_ok {mask finger moves : Nat} {led plain : Bool} {hs : Array Int} {t : SetTable} {o : Array Nat} (h : SetTable.laid mask finger moves led plain hs = some (t, o)) : TOk led t := by
 unfold SetTable.laid at h;cases hc : SetTable.layClean mask hs with
 | none => rw [hc] at h; cases h
 | some owner =>
  rw [hc] at h;simp only [Option.bind_eq_bind, Option.bind_some, Option.pure_def, Option.some.injEq, Prod.mk.injEq] at h;obtain ⟨rfl, _⟩ := h;refine ⟨?_, rfl, rfl⟩
  show ((((List.range (mask + 1)).filterMap fun j => (owner.getD j none).map (j, ·)).map (·.1)).toArray).toList.Pairwise _;rw [List.toList_toArray, List.pairwise_map, List.pairwise_filterMap];refine List.Pairwise.imp ?_ List.pairwise_lt_range;intro a b hab c hc d hd;obtain ⟨u, _, rfl⟩ := Option.map_eq_some_iff.mp hc;obtain ⟨v, _, rfl⟩ := Option.map_eq_some_iff.mp hd;exact hab
theorem TOk.relayAll {led : Bool} {t : SetTable} (x : TOk led t) (es : Array (Int × Value)) (n : Nat) : TOk led (relayAll t es n).2.1 := by
 unfold PySem.relayAll;cases hr : t.relaid (es.map (·.1)) n with
 | none => exact x.standIn _
 | some p =>
  obtain ⟨t', o⟩ := p;have : TOk led t' := by
   have := laid_ok hr;rw [x.led] at this;exact this
  dsimp only
  split
  ·exact this
  ·exact x.standIn _
theorem TOk.plain {led : Bool} {t : SetTable} (x : TOk led t) : TOk led { t with plain := false } := ⟨x.asc, x.nod, x.led⟩
theorem TOk.fresh (led : Bool) : TOk led (SetTable.fresh 0 0 led) := ⟨.nil, rfl, rfl⟩
theorem erase_perm {α : Type} {l : List α} {i : Nat} (h : i < l.length) : (l[i] :: l.eraseIdx i).Perm l := by
 rw [List.eraseIdx_eq_take_drop_succ];refine List.perm_middle.symm.trans ?_;rw [List.getElem_cons_drop h, List.take_append_drop]
theorem pick_go {α : Type} (next : Nat -> Nat) : ∀ (fuel k : Nat) (left : List α) (out : Array α), left.length <= fuel -> (pickOrder.go next fuel k left out).toList.Perm (out.toList ++ left)
 | 0, k, left, out, h => by
  have : left = [] := List.length_eq_zero_iff.mp (ar37 h);subst this;simp [pickOrder.go]
 | fuel + 1, k, left, out, h => by
  unfold pickOrder.go;cases hl : left with
  | nil => simp
  | cons a r =>
   rw [← hl];have hpos : 0 < left.length := by rw [hl]; simp
   have hlt : next k % left.length < left.length := Nat.mod_lt _ hpos;rw [List.getElem?_eq_getElem hlt];dsimp only;refine (pick_go next fuel (k + 1) _ _ (by rw [List.length_eraseIdx_of_lt hlt]; exact ar53 h)).trans ?_;rw [Array.toList_push, List.append_assoc];exact List.Perm.append_left _ (erase_perm hlt)
theorem pick_perm {α : Type} (next : Nat -> Nat) (xs : Array α) : (pickOrder next xs).toList.Perm xs.toList := by
 have := pick_go next xs.size 0 xs.toList #[] (by simp);rw [show (#[] : Array α).toList ++ xs.toList = xs.toList from rfl] at this;exact this
end Mine
end
section
open PySem PySem.W PySem.Calls PyProof.Rows
namespace Mine
noncomputable abbrev lstO (acc : Array Value) (c : Nat) : Obj := { cls := .type "list", dict := none, data := .seq acc c, slots := #[] }
section
variable {w : World} {A : Around} {E : Value -> Shared -> Prop} {s : Shared} {T : String} {r S I : Addr} {n : Nat} {P : Nat -> Value -> Prop} {St : Nat -> Shared -> Prop} {Fin : Shared -> Prop}
structure Src (w : World) (A : Around) (S r I : Addr) (T : String) (n : Nat) (P : Nat -> Value -> Prop) (St : Nat -> Shared -> Prop) (Fin : Shared -> Prop) (s : Shared) : Prop where
 notList : (Value.type T == Value.type "list") = false
 notTuple : (Value.type T == Value.type "tuple") = false
 line : n <= sizeLine
 stable : ∀ i s₁ h', St i s₁ -> Heap.SameBut S s₁.heap h' -> (∃ o, h'.get? S = some o) -> St i { s₁ with heap := h' }
 iter : ∀ (s₁ : Shared) (Q E) (o : Obj), s₁.gens = s.gens -> s₁.os = s.os -> s₁.drawn = s.drawn -> Kp s.heap s₁.heap -> s₁.heap.objs.size <= s.heap.objs.size + 1 -> s.heap.objs.size <= s₁.heap.objs.size -> S < s₁.heap.objs.size -> (s₁.heap.get? S = some o) -> (∀ s₂, St 0 s₂ -> s₂.heap.get? S = some o -> s₂.TypeIs (.ref r) T -> Q (.ref I) s₂) -> wpAny (model PP w) A (pyIter (.ref r)) Q E s₁
 hint : ∀ (s₂ : Shared) (Q : Bool -> Shared -> Prop) (E : Value -> Shared -> Prop), St 0 s₂ -> s₂.TypeIs (.ref r) T -> (∀ b, Q b s₂) -> wpAny (model PP w) A (Builtin.List.listLengthHint (.ref r)) Q E s₂
 item : ∀ i (s₁ : Shared) (Q : Option Value -> Shared -> Prop) (E) (o : Obj), i < n -> St i s₁ -> s₁.heap.get? S = some o -> (∀ v s₂, P i v -> St (i + 1) s₂ -> s₂.heap.get? S = some o -> Q (some v) s₂) -> wpAny (model PP w) A (pyNext (.ref I)) Q E s₁
 done : ∀ (s₁ : Shared) (Q : Option Value -> Shared -> Prop) (E) (o : Obj), St n s₁ -> s₁.heap.get? S = some o -> (∀ s₂, Fin s₂ -> s₂.heap.get? S = some o -> Q none s₂) -> wpAny (model PP w) A (pyNext (.ref I)) Q E s₁
theorem ext_loop {R : Result -> Shared -> Prop} (X : Src w A.in1 S r I T n P St Fin s) (res : Value) :
  ∀ (k i : Nat) (s₁ : Shared) (acc : Array Value) (c : Nat), n - i = k -> i <= n -> St i s₁ -> s₁.heap.get? S = some (lstO acc c) -> ItemsOf P acc i ->
  (∀ s' acc' c', Fin s' -> s'.heap.get? S = some (lstO acc' c') -> ItemsOf P acc' n -> R (.ok (.ret res)) s') ->
  codeAny (model PP w) A (.builtin "list.extend.loop" ⟨[.ref S, .ref I, res], []⟩) R s₁ := by
 intro k
 induction k with
 | zero =>
  intro i s₁ acc c hk hi hst hS hacc hR;obtain rfl : i = n := (ar7 hk hi);refine codeAny_builtin PySem.F.entry_extend_loop ?_;rw [Around.under_plainId PySem.F.plain_extend_loop _];show wpAny _ A.in1 (pyNext (.ref I) >>= _) _ _ s₁;exact wpAny_bind (X.done _ _ _ _ hst hS fun s' hf hS' => wpAny_pure (hR s' acc c hf hS' hacc))
 | succ k ih =>
  intro i s₁ acc c hk hi hst hS hacc hR;have hl := X.line;refine codeAny_builtin PySem.F.entry_extend_loop ?_;rw [Around.under_plainId PySem.F.plain_extend_loop _];show wpAny _ A.in1 (pyNext (.ref I) >>= _) _ _ s₁;refine wpAny_bind (X.item i _ _ _ _ (ar5 hk) hst hS fun v s' hP hst' hS' => ?_);show wpAny _ A.in1 (updateSeq S (·.push v) >>= _) _ _ _;refine wpAny_bind (wpAny_updateSeq hS' rfl (wpAny_pure ⟨plainId_quiet PySem.F.plain_extend_loop _, ih (i + 1) _ (acc.push v) _ (ar3 hk) (Nat.lt_of_sub_eq_succ hk) (X.stable _ s' _ hst' (Heap.SameBut.update _ _ _) ⟨_, Heap.get?_update_self _ hS' rfl⟩) (Heap.get?_update_self _ hS' rfl) (hacc.push hP) hR⟩)
   (by rw [hacc.1]; exact Nat.le_trans hi hl) (by show (acc.push v).size <= sizeLine + 1; rw [Array.size_push, hacc.1]; exact Nat.succ_le_succ (Nat.le_trans hi hl)))
theorem extend_w {R : Result -> Shared -> Prop} {c₀ : Nat} (X : Src w A.in1 S r I T n P St Fin s) (hT : s.TypeIs (.ref r) T) (hSr : S ≠ r) (res : Value) (s₁ : Shared) (hg : s₁.gens = s.gens) (ho : s₁.os = s.os) (hd : s₁.drawn = s.drawn) (hk : Kp s.heap s₁.heap)
  (hz : s₁.heap.objs.size <= s.heap.objs.size + 1) (hz' : s.heap.objs.size <= s₁.heap.objs.size) (hS : s₁.heap.get? S = some (lstO #[] c₀))
  (hR : ∀ s' acc' c', Fin s' -> s'.heap.get? S = some (lstO acc' c') -> ItemsOf P acc' n -> R (.ok (.ret res)) s') :
  wpAny (model PP w) A.in1 (Builtin.List.listExtendWith (.ref S) (.ref r) res)
   (fun fin s' => match fin with | .done f => R (.ok f) s' | .again c' => c'.quiet = true ∧ codeAny (model PP w) A c' R s') (fun e s' => R (.error e) s') s₁ := by
 unfold Builtin.List.listExtendWith;have hT1 : s₁.TypeIs (.ref r) T := by obtain ⟨o, e, q⟩ := hT; exact ⟨o, hk _ _ e, q⟩
 refine wpAny_bind (wpAny_typeOf hT1 ?_);have h1 : Builtin.List.listSameRef (.ref S) (.ref r) = false := by simp [Builtin.List.listSameRef, hSr]
 rw [h1, X.notList, X.notTuple];simp only [Bool.or_false, Bool.false_eq_true, if_false];refine wpAny_bind (X.iter _ _ _ _ hg ho hd hk hz hz' (Heap.lt_size hS) hS fun s₂ st hS2 hT2 => ?_);refine wpAny_bind (wpAny_holding (X.hint _ _ _ st hT2 fun b => ?_));refine wpAny_ite_split (fun _ => ?_) (fun _ => wpAny_pure ⟨plainId_quiet PySem.F.plain_extend_loop _, ext_loop X res n 0 _ #[] _ rfl (Nat.zero_le _) st hS2 (ItemsOf.nil P) hR⟩);refine wpAny_bind (wpAny_rule ?_);refine wpAny_bind ?_;show wpAny _ _ (updateSeq S (·.push .none) >>= fun _ => updateSeq S (·.pop)) _ _ _;refine wpAny_bind (wpAny_updateSeq hS2 rfl ?_);have hS3 := Heap.get?_update_self (Obj.mapSeq (·.push Value.none)) hS2 rfl;refine wpAny_updateSeq (hz := by seq_fits) hS3 rfl ?_;have hS4 := Heap.get?_update_self (Obj.mapSeq (·.pop)) hS3 rfl;exact wpAny_pure ⟨plainId_quiet PySem.F.plain_extend_loop _, ext_loop X res n 0 _ #[] _ rfl (Nat.zero_le _) (X.stable _ _ _ (X.stable _ _ _ st (Heap.SameBut.update _ _ _) ⟨_, hS3⟩) (Heap.SameBut.update _ _ _) ⟨_, hS4⟩) hS4 (ItemsOf.nil P) hR⟩
theorem collect_w {Q : List Value -> Shared -> Prop} (X : Src w A.in1 s.heap.objs.size r I T n P St Fin s) (hT : s.TypeIs (.ref r) T)
  (hQ : ∀ s' acc c, Fin s' -> s'.heap.get? s.heap.objs.size = some (lstO acc c) -> ItemsOf P acc n -> Q acc.toList s') : wpAny (model PP w) A (collect (.ref r)) Q E s := by
 have hr : r < s.heap.objs.size := by obtain ⟨_, ho, _⟩ := hT; exact Heap.lt_size ho
 unfold collect;refine wpAny_bind (wpAny_runValue (codeAny_builtin entry_proto_collect' ?_));rw [Around.under_plainId PySem.F.plain_proto_collect _];show wpAny _ A.in1 (newList [] >>= fun l => again (.builtin "list.__iadd__" ⟨[l, .ref r], []⟩)) _ _ s;refine wpAny_bind (wpAny_newObj_type ?_);refine wpAny_pure ⟨plainId_quiet PySem.F.plain_list_iadd _, codeAny_builtin entry_list_iadd' ?_⟩;rw [Around.under_plainId PySem.F.plain_list_iadd _];have hS₁ : (s.heap.push { cls := .type "list", data := .seq ([] : List Value).toArray }).get? s.heap.objs.size = some { cls := .type "list", data := .seq #[] } := Heap.get?_push_size _ rfl;show wpAny _ A.in1 (Builtin.List.listExtendWith (.ref s.heap.objs.size) (.ref r) (.ref s.heap.objs.size)) _ _ _;have key := extend_w (A := A) (s := s) (R := fun (q : Result) (s' : Shared) => ∃ acc c, q = .ok (.ret (.ref s.heap.objs.size)) ∧ Fin s' ∧ s'.heap.get? s.heap.objs.size = some (lstO acc c) ∧ ItemsOf P acc n)
  X hT (Nat.ne_of_gt hr) (.ref s.heap.objs.size) { s with heap := s.heap.push { cls := .type "list", data := .seq ([] : List Value).toArray } } rfl rfl rfl (fun a b e => Heap.get?_push_of_some _ e) (by show (s.heap.push _).objs.size <= _; rw [Heap.size_push]; exact Nat.le_refl _)
  (by show _ <= (s.heap.push _).objs.size; rw [Heap.size_push]; exact Nat.le_succ _) hS₁ (fun s' acc c hf hS hi => ⟨acc, c, rfl, hf, hS, hi⟩)
 refine wpAny_mono key (fun fin s' x => ?_) fun e s' x => ?_
 ·cases fin with
  | done f =>
   obtain ⟨acc, c, e, hf, hS, hi⟩ := x;cases e;show wpAny _ A (load s.heap.objs.size >>= _) _ _ _;exact wpAny_bind (wpAny_load hS (wpAny_pure (hQ s' acc c hf hS hi)))
  | again c₁ =>
   refine ⟨x.1, codeAny_mono x.2 fun q s₂ y => ?_⟩;obtain ⟨acc, c, rfl, hf, hS, hi⟩ := y;show wpAny _ A (load s.heap.objs.size >>= _) _ _ _;exact wpAny_bind (wpAny_load hS (wpAny_pure (hQ s₂ acc c hf hS hi)))
 ·obtain ⟨_, _, e', _⟩ := x;cases e'
theorem list_w {Q : Value -> Shared -> Prop} (X : Src w A.in1.in1 s.heap.objs.size r I T n P St Fin s) (hT : s.TypeIs (.ref r) T)
  (hQ : ∀ s' acc c, Fin s' -> s'.heap.get? s.heap.objs.size = some (lstO acc c) -> ItemsOf P acc n -> Q (.ref s.heap.objs.size) s') : wpAny (model PP w) A (call (.type "list") [.ref r]) Q E s := by
 have hr : r < s.heap.objs.size := by obtain ⟨_, ho, _⟩ := hT; exact Heap.lt_size ho
 refine callType_codes (Q₁ := fun obj s₁ => obj = .ref s.heap.objs.size ∧ s₁ = { s with heap := s.heap.push { cls := .type "list", data := .seq #[] } }) PySem.F.called_list (PySem.F.typeCall_list_1 _) PySem.F.entry_list_init
  (code_list_new _ ⟨rfl, rfl⟩) fun obj s₁ h₁ => ?_
 obtain ⟨rfl, rfl⟩ := h₁;have hS : (s.heap.push { cls := .type "list", data := .seq #[] }).get? s.heap.objs.size = some { cls := .type "list", data := .seq #[] } := Heap.get?_push_size _ rfl;refine ⟨⟨_, hS, rfl⟩, PySem.F.args_list_init_2 _ _, ?_⟩;show wpAny _ _ (do let old ← Builtin.List.listItems (.ref s.heap.objs.size); Builtin.List.listUpdate (.ref s.heap.objs.size) (fun _ => #[]); letGo old.toList.reverse; Builtin.List.listExtendWith (.ref s.heap.objs.size) (.ref r) .none) _ _ _;refine wpAny_bind ?_;unfold Builtin.List.listItems;refine wpAny_bind (wpAny_seqItems hS rfl (wpAny_pure ?_));show wpAny _ _ (updateSeq s.heap.objs.size (fun _ => #[]) >>= fun _ => letGo (#[] : Array Value).toList.reverse >>= fun _ => Builtin.List.listExtendWith (.ref s.heap.objs.size) (.ref r) .none) _ _ _;refine wpAny_bind (wpAny_updateSeq hS rfl ?_);have hS₂ := Heap.get?_update_self (Obj.mapSeq (fun _ => (#[] : Array Value))) hS rfl;refine wpAny_bind (wpAny_letGo ?_);refine extend_w (A := A.in1) (s := s) X hT (Nat.ne_of_gt hr) .none _ rfl rfl rfl (fun a b e => (Heap.get?_update_other _ _ (Nat.ne_of_gt (Heap.lt_size e))).trans (Heap.get?_push_of_some _ e)) ?_ ?_ hS₂ (fun s' acc c hf hS hi => ⟨rfl, hQ s' acc c hf hS hi⟩)
 ·show (Heap.update _ _ _).objs.size <= _;rw [Heap.size_update, Heap.size_push]; exact Nat.le_refl _
 ·show _ <= (Heap.update _ _ _).objs.size;rw [Heap.size_update, Heap.size_push]; exact Nat.le_succ _
end
end Mine
end
section
open PySem PySem.W PySem.Calls PyProof.Rows
namespace Mine
noncomputable abbrev ledOf (w : World) : Bool := !w.params.followText "set-order"
section
variable {w : World} {K : Type} [DecidableEq K] (knd : KeyKind PP w K)
inductive SetX (h : Heap) (a : Addr) (ks : List K) : Prop
 | mk (o : Obj) (es : Array (Int × Value)) (ep : Nat) (t : SetTable) (e : h.get? a = some o) (hex : o.ExactSet) (hd : o.data = .set es ep t) (hel : ElemsOf knd es.toList)
  (kk : ∃ kk : List K, kk.Perm ks ∧ kk.length = es.size ∧ ∀ (i : Nat) (k : K) (e : Int × Value), kk[i]? = some k -> es[i]? = some e -> knd.is k e.2 = true) (hn : ks.Nodup)
  (hb : es.size < scanBound) (hf : t.fits es.size = true) (ht : TOk (ledOf w) t) : SetX h a ks
variable {knd}
theorem SetX.keep {h h' : Heap} {a : Addr} {ks : List K} (x : SetX knd h a ks) (k : ∀ o, h.get? a = some o -> h'.get? a = some o) : SetX knd h' a ks :=
 by obtain ⟨o, es, ep, t, e, r1, r2, r3, r4, r5, r6, r7, r8⟩ := x; exact ⟨o, es, ep, t, k o e, r1, r2, r3, r4, r5, r6, r7, r8⟩
theorem SetX.setOf {h : Heap} {a : Addr} {ks : List K} (x : SetX knd h a ks) : h.SetOf knd a (fun k => decide (k ∈ ks)) ks.length := by
 obtain ⟨o, es, ep, t, e, hex, hd, hel, ⟨kk, hp, hl, hk⟩, hn, hb, hf, ht⟩ := x;refine ⟨o, es, ep, t, e, hex, hd, hel, fun k => ?_, hb, hf, by rw [← hl, hp.length_eq]⟩;rw [decide_eq_true_eq, ← hp.mem_iff]
 constructor
 ·intro hm;obtain ⟨i, hi⟩ := List.mem_iff_getElem?.mp hm;have hlt : i < es.size := by rw [← hl]; exact (List.getElem?_eq_some_iff.mp hi).1
  exact ⟨es[i], by simp, hk i k _ hi (Array.getElem?_eq_getElem hlt)⟩
 ·rintro ⟨e', he, hke⟩
  obtain ⟨i, hi⟩ := List.mem_iff_getElem?.mp he;rw [Array.getElem?_toList] at hi;have hlt : i < kk.length := by rw [hl]; exact (Array.getElem?_eq_some_iff.mp hi).1
  have := hk i _ _ (List.getElem?_eq_getElem hlt) hi;rw [knd.inj _ _ _ hke this];exact List.getElem_mem hlt
theorem SetX.size {h : Heap} {a : Addr} {ks : List K} (x : SetX knd h a ks) : ks.length < scanBound := by
 obtain ⟨o, es, ep, t, e, hex, hd, hel, ⟨kk, hp, hl, hk⟩, hn, hb, hf, ht⟩ := x;rw [← hp.length_eq, hl]; exact hb
theorem SetX.nodup {h : Heap} {a : Addr} {ks : List K} (x : SetX knd h a ks) : ks.Nodup := by obtain ⟨_, _, _, _, _, _, _, _, _, hn⟩ := x; exact hn
theorem SetX.ex {h : Heap} {a : Addr} {ks : List K} (x : SetX knd h a ks) : ∃ o, h.get? a = some o := by obtain ⟨o, _, _, _, e⟩ := x; exact ⟨o, e⟩
theorem SetX.perm {h : Heap} {a : Addr} {ks ks' : List K} (x : SetX knd h a ks) (hp' : ks.Perm ks') : SetX knd h a ks' := by
 obtain ⟨o, es, ep, t, e, hex, hd, hel, ⟨kk, hp, hl, hk⟩, hn, r1, r2, r3⟩ := x;exact ⟨o, es, ep, t, e, hex, hd, hel, ⟨kk, hp.trans hp', hl, hk⟩, hp'.nodup_iff.mp hn, r1, r2, r3⟩
theorem SetX.fresh {h : Heap} {a : Addr} (e : h.get? a = some { cls := .type "set", dict := none, data := .set #[] 0 (.fresh 0 0 (ledOf w)) }) : SetX knd h a [] :=
 ⟨_, #[], 0, _, e, ⟨rfl, rfl, rfl⟩, rfl, (fun e he => by simp at he), ⟨[], .nil, rfl, fun i k e h => by simp at h⟩, .nil, by decide, by rfl, TOk.fresh _⟩
noncomputable def addK (ks : List K) (k : K) : List K := if k ∈ ks then ks else ks ++ [k]
variable {A : Around} {E : Value -> Shared -> Prop} {s : Shared}
theorem keys_perm {es es' : List (Int × Value)} (hp : es'.Perm es) : ∀ {kk : List K}, kk.length = es.length -> (∀ (i : Nat) (k : K) (e : Int × Value), kk[i]? = some k -> es[i]? = some e -> knd.is k e.2 = true) ->
  ∃ kk' : List K, kk'.Perm kk ∧ kk'.length = es'.length ∧ ∀ (i : Nat) (k : K) (e : Int × Value), kk'[i]? = some k -> es'[i]? = some e -> knd.is k e.2 = true := by
 induction hp with
 | nil => intro kk h1 h2; exact ⟨kk, .rfl, h1, h2⟩
 | cons x p ih =>
  intro kk h1 h2;cases kk with
  | nil => simp at h1
  | cons k kk =>
   obtain ⟨kk', q1, q2, q3⟩ := ih (by simpa using h1) fun i k e hk he => h2 (i + 1) k e (by simpa using hk) (by simpa using he);refine ⟨k :: kk', q1.cons k, by simpa using q2, fun i k' e hk he => ?_⟩;cases i with
   | zero => exact h2 0 k' e (by simpa using hk) (by simpa using he)
   | succ i => exact q3 i k' e (by simpa using hk) (by simpa using he)
 | swap x y l =>
  intro kk h1 h2
  match kk, h1, h2 with
  | a :: b :: r, h1, h2 =>
   refine ⟨b :: a :: r, List.Perm.swap .., by simpa using h1, fun i k' e hk he => ?_⟩
   match i, hk, he with
   | 0, hk, he => exact h2 1 k' e (by simpa using hk) (by simpa using he)
   | 1, hk, he => exact h2 0 k' e (by simpa using hk) (by simpa using he)
   | i + 2, hk, he => exact h2 (i + 2) k' e (by simpa using hk) (by simpa using he)
 | trans p1 p2 ih1 ih2 =>
  intro kk h1 h2;obtain ⟨kk', q1, q2, q3⟩ := ih2 h1 h2;obtain ⟨kk'', r1, r2, r3⟩ := ih1 q2 q3;exact ⟨kk'', r1.trans q1, r2, r3⟩
theorem SetX_store {h : Heap} {a : Addr} {o : Obj} {es : Array (Int × Value)} {ep : Nat} {t : SetTable} (ho : h.get? a = some o) (hex : o.ExactSet) (hd : o.data = .set es ep t)
  {es' : Array (Int × Value)} {t' : SetTable} {ks : List K} (hel : ElemsOf knd es'.toList) (hmem : ∃ kk : List K, kk.Perm ks ∧ kk.length = es'.size ∧ ∀ (i : Nat) (k : K) (e : Int × Value), kk[i]? = some k -> es'[i]? = some e -> knd.is k e.2 = true)
  (hn : ks.Nodup) (hb : es'.size < scanBound) (hf : t'.fits es'.size = true) (ht : TOk (ledOf w) t') :
  (h.update a (Obj.putSet es' t')).get? a = some { o with data := .set es' (ep + 1) t' } ∧ SetX knd (h.update a (Obj.putSet es' t')) a ks := by
 have hg : (h.update a (Obj.putSet es' t')).get? a = some { o with data := .set es' (ep + 1) t' } := by
  have := Heap.get?_update_self (Obj.putSet es' t') ho (by rw [putSet_of es' t' hd]; rfl);rw [putSet_of es' t' hd] at this; exact this
 exact ⟨hg, _, es', ep + 1, t', hg, hex, rfl, hel, hmem, hn, hb, hf, ht⟩
theorem tail_x {g : Bool -> Sem Unit} (hg : ∀ (b : Bool) (s₁ : Shared) (Q' : Unit -> Shared -> Prop), Q' () s₁ -> wpAny (model PP w) A (g b) Q' E s₁)
  {a : Addr} {o : Obj} {es : Array (Int × Value)} {ep : Nat} {t : SetTable} (ho : s.heap.get? a = some o) (hex : o.ExactSet) (hd : o.data = .set es ep t)
  {es1 : Array (Int × Value)} {t2 : SetTable} {ks : List K} (hel1 : ElemsOf knd es1.toList) (hmem1 : ∃ kk : List K, kk.Perm ks ∧ kk.length = es1.size ∧ ∀ (i : Nat) (k : K) (e : Int × Value), kk[i]? = some k -> es1[i]? = some e -> knd.is k e.2 = true)
  (hn : ks.Nodup) (hb1 : es1.size < scanBound) (hf2 : t2.fits es1.size = true) (ht2 : TOk (ledOf w) t2) {wasDummy : Bool} {R : Option Bool -> Shared -> Prop}
  (h : ∀ h', Heap.SameBut a s.heap h' -> SetX knd h' a ks -> R (some true) { s with heap := h' }) :
  wpAny (model PP w) A (do
    storeSet a es1 t2
    if (!wasDummy && t2.tooFull) = true then do
      g (relayAll t2 es1 (SetTable.grown es1.size)).2.2
      storeSet a (relayAll t2 es1 (SetTable.grown es1.size)).1 (relayAll t2 es1 (SetTable.grown es1.size)).2.1
      pure (some true)
     else pure (some true)) R E s := by
 refine wpAny_bind (wpAny_storeSet_of ho hd ?_ (fits_of_scanBound hb1));obtain ⟨ho1, hS1⟩ := SetX_store (knd := knd) ho hex hd hel1 hmem1 hn hb1 hf2 ht2;have hsb1 := Heap.SameBut.update s.heap a (Obj.putSet es1 t2)
 split
 ·have hp := relayAll_perm t2 es1 (SetTable.grown es1.size);have hfr := relayAll_fits t2 es1 (SetTable.grown es1.size);have htr := ht2.relayAll es1 (SetTable.grown es1.size);generalize hRl : relayAll t2 es1 (SetTable.grown es1.size) = Rl at hp hfr htr ⊢;obtain ⟨es2, t3, gave2⟩ := Rl;dsimp only at hp hfr htr ⊢;have hsz : es2.size = es1.size := by rw [← Array.length_toList, hp.length_eq, Array.length_toList]
  obtain ⟨kk, q1, q2, q3⟩ := hmem1;obtain ⟨kk', r1, r2, r3⟩ := keys_perm (knd := knd) hp (kk := kk) (by simpa using q2) fun i k e hk he => q3 i k e hk (by simpa using he);refine wpAny_bind (hg _ _ _ ?_);refine wpAny_bind (wpAny_storeSet_of ho1 rfl ?_ (fits_of_scanBound (by rw [hsz]; exact hb1)));obtain ⟨_, hS2⟩ := SetX_store (knd := knd) ho1 hex rfl (hel1.perm hp) ⟨kk', r1.trans q1, by simpa using r2, fun i k e hk he => r3 i k e hk (by simpa using he)⟩ hn (by rw [hsz]; exact hb1) hfr htr;exact wpAny_pure (h _ (hsb1.trans (Heap.SameBut.update _ a _)) hS2)
 ·exact wpAny_pure (h _ hsb1 hS1)
theorem addHashed_x {a : Addr} {ks : List K} {k : K} {x : Value} {Q : Bool -> Shared -> Prop} (hkey : knd.is k x = true) (hsc : x.scannable = true) (hS : SetX knd s.heap a ks) (hroom : ks.length + 1 < scanBound)
  (h : ∀ h', Heap.SameBut a s.heap h' -> SetX knd h' a (addK ks k) -> Q (!decide (k ∈ ks)) { s with heap := h' }) :
  wpAny (model PP w) A (setAddHashed a x (knd.hash k)) Q E s := by
 have hSo := hS.setOf;obtain ⟨o, es, ep, t, ho, hex, hd, hel, hkk, hnd, hb, hf, ht⟩ := id hS;obtain ⟨o', es', ep', t', ho', hex', hd', hel', hmem, hb', hf', hn⟩ := hSo;rw [ho] at ho'; cases ho';rw [hd] at hd'; cases hd';have hb1 : es.size + 1 < scanBound := by rw [hn]; exact hroom
 unfold setAddHashed setAddHashedIn;refine wpAny_holding (wpAny_bind (wpAny_setState_of ho hd hf ?_));dsimp only;rw [byScan_of hsc hb hel];simp only [↓reduceIte];unfold setAddByScan;refine wpAny_bind ?_;refine wpAny_bind (wpAny_rule ?_);refine wpAny_bind (wpAny_setScan_of hkey ho hd hf hel ?_);cases hr : List.findIdx? (fun e => knd.is k e.2) es.toList with
 | some j =>
  dsimp only;obtain ⟨hj, hpj, _⟩ := List.findIdx?_eq_some_iff_getElem.mp hr;have hSk : k ∈ ks := by simpa using (hmem k).mpr ⟨es.toList[j], List.getElem_mem hj, hpj⟩
  refine wpAny_pure (wpAny_pure ?_);have e : s = { s with heap := s.heap } := by cases s; rfl
  have := h s.heap (Heap.SameBut.refl a s.heap) (by unfold addK; rw [if_pos hSk]; exact hS);rw [e]; simpa [hSk] using this
 | none =>
  dsimp only;have hSk : k ∉ ks := fun hk => by
   obtain ⟨e, he, hp⟩ := (hmem k).mp (by simpa using hk);have := List.findIdx?_eq_none_iff.mp hr e he;rw [hp] at this; cases this
  have hgw : ∀ (b : Bool) {s₁ : Shared} {Q' : Unit -> Shared -> Prop}, Q' () s₁ -> wpAny (model PP w) A (match b with | true => rule "set.scan.the-table-gave-way" | false => pure ()) Q' E s₁ :=
   fun b s₁ Q' hq => by cases b <;> first | exact wpAny_pure hq | exact wpAny_rule hq
  have hperm := layNew_perm t es (knd.hash k) x;have hfits := layNew_fits t es (knd.hash k) x;have hok := ht.layNew es (knd.hash k) x;generalize hL : layNew t es (knd.hash k) x = L at hperm hfits hok ⊢;obtain ⟨es1, t1, wasDummy, gave⟩ := L;dsimp only at hperm hfits hok ⊢;rw [Array.toList_push] at hperm;have hel1 : ElemsOf knd es1.toList := (hel.push hkey hsc).perm hperm;have hb1' : es1.size < scanBound := by rw [← Array.length_toList, hperm.length_eq, List.length_append, Array.length_toList]; simpa using hb1
  have hmem1 : ∃ kk : List K, kk.Perm (addK ks k) ∧ kk.length = es1.size ∧ ∀ (i : Nat) (k : K) (e : Int × Value), kk[i]? = some k -> es1[i]? = some e -> knd.is k e.2 = true := by
   obtain ⟨kk, q1, q2, q3⟩ := hkk;obtain ⟨kk', r1, r2, r3⟩ := keys_perm (knd := knd) hperm (kk := kk ++ [k]) (by simp [q2]) (fun i k' e hk he => by
    rcases Nat.lt_or_ge i kk.length with hlt | hge
    ·rw [List.getElem?_append_left hlt] at hk;rw [List.getElem?_append_left (by simp [← q2]; exact hlt)] at he;exact q3 i k' e hk (by simpa using he)
    ·rw [List.getElem?_append_right hge] at hk;rw [List.getElem?_append_right (by simp [← q2]; exact hge)] at he;have hi : i - kk.length = 0 := by
      rcases Nat.eq_zero_or_pos (i - kk.length) with h | h
      ·exact h
      ·rw [List.getElem?_eq_none (by simp; exact h)] at hk; cases hk
     rw [hi] at hk;have hi' : i - es.toList.length = 0 := by simp [← q2]; exact hi
     rw [hi'] at he;cases hk; cases he; exact hkey)
   refine ⟨kk', ?_, by simpa using r2, fun i k e hk he => r3 i k e hk (by simpa using he)⟩;unfold addK;rw [if_neg hSk];exact r1.trans (q1.append_right [k])
  have hnd1 : (addK ks k).Nodup := by
   unfold addK;rw [if_neg hSk];exact List.nodup_append.mpr ⟨hnd, by simp, fun a ha b hb => by rw [List.mem_singleton.mp hb]; rintro rfl; exact hSk ha⟩
  refine wpAny_bind (hgw _ ?_);have hend : ∀ h', Heap.SameBut a s.heap h' -> SetX knd h' a (addK ks k) -> Q true { s with heap := h' } := by
   intro h' hsb hS';have := h h' hsb hS'
   simpa [hSk] using this
  split
  ·refine wpAny_bind ?_;rw [hashByValue_scannable 8 hsc];refine wpAny_pure ?_;refine tail_x ?_ ho hex hd hel1 hmem1 hnd1 hb1' ?_ ?_ ?_
   ·intro b s₁ Q' hq; cases b <;> first | exact wpAny_pure hq | exact wpAny_rule hq
   ·split
    ·exact hfits
    ·exact SetTable.fits_plain_off hfits
   ·split
    ·exact hok
    ·exact hok.plain
   ·intro h' hsb hS'; dsimp only; exact wpAny_pure (hend h' hsb hS')
  ·refine wpAny_bind (wpAny_pure ?_);simp only [↓reduceIte];refine tail_x ?_ ho hex hd hel1 hmem1 hnd1 hb1' hfits hok ?_
   ·intro b s₁ Q' hq; cases b <;> first | exact wpAny_pure hq | exact wpAny_rule hq
   ·intro h' hsb hS'; dsimp only; exact wpAny_pure (hend h' hsb hS')
end
end Mine
end
section
open PySem PySem.W PySem.Calls PyProof.Rows
namespace Mine
namespace SI
theorem slot_next : Slot "set_iterator" "__next__" "set_iterator.__next__" :=
 .of (owner := "set_iterator") (n := "__next__") (by rw [typeLookup_type, builtinLookup_eq_fast]; kernel_rfl) (by decide +kernel) (by decide +kernel) (by decide +kernel)
  (by first | exact .inl (by decide +kernel) | exact .inr (by decide +kernel)) (by rw [isSubtype_type]; kernel_rfl)
theorem entry_next : entryFor table "set_iterator.__next__" = some Builtin.«set_iterator.__next__» := entryFor_of_tree (by kernel_rfl)
theorem args_next (a : Value) : argsOk "set_iterator.__next__" ⟨[a], []⟩ := by unfold argsOk; kernel_rfl
theorem entry_iter : entryFor table "set.__iter__" = some Builtin.«frozenset.__iter__» :=
 entryFor_alias (id' := "frozenset.__iter__") (by kernel_rfl) (by first | rfl | simp +decide [String.cutAt]) (by decide +kernel) (by kernel_rfl)
theorem lookup_len : typeLookup (.type "set") "__len__" = pure (some (.builtin "set.__len__")) := by rw [typeLookup_type, builtinLookup_eq_fast]; kernel_rfl
end SI
noncomputable def drw {α : Type} (f : Nat -> Nat) : Nat -> Nat -> List α -> List α
 | 0, _, _ => []
 | _ + 1, _, [] => []
 | n + 1, k, x :: r => match (x :: r)[f k % (x :: r).length]? with
  | some y => y :: drw f n (k + 1) ((x :: r).eraseIdx (f k % (x :: r).length))
  | none => []
theorem drw_perm {α : Type} (f : Nat -> Nat) : ∀ (n k : Nat) (xs : List α), xs.length <= n -> (drw f n k xs).Perm xs
 | 0, k, xs, h => by
  have : xs = [] := List.length_eq_zero_iff.mp (ar37 h);subst this; exact .nil
 | n + 1, k, [], h => .nil
 | n + 1, k, x :: r, h => by
  have hlt : f k % (x :: r).length < (x :: r).length := Nat.mod_lt _ (by simp);unfold drw;rw [List.getElem?_eq_getElem hlt];dsimp only;exact ((drw_perm f n (k + 1) _ (by rw [List.length_eraseIdx_of_lt hlt]; exact ar53 h)).cons _).trans (erase_perm hlt)
section
variable {w : World} {A : Around} {E : Value -> Shared -> Prop} {s : Shared}
theorem drawOrder_x {α : Type} : ∀ (n : Nat) (xs : List α) (s : Shared) {Q : List α -> Shared -> Prop}, (∀ d, Q (drw (w.draws .order) n (s.drawn.get .order) xs) { s with drawn := d }) -> wpAny (model PP w) A (drawOrder n xs) Q E s
 | 0, xs, s, Q, h => by unfold drawOrder; exact wpAny_pure (h s.drawn)
 | n + 1, [], s, Q, h => by unfold drawOrder; exact wpAny_pure (h s.drawn)
 | n + 1, x :: r, s, Q, h => by
  unfold drawOrder;refine wpAny_bind (m := choose .order _) ?_;intro Γ p hΓ;show _ ≠ 0 ∧ _;refine ⟨by simp, ?_⟩;rw [Sem.wp_pure];have hlt : w.draws .order (s.drawn.get .order) % (x :: r).length < (x :: r).length := Nat.mod_lt _ (by simp);show wpAny (model PP w) A (match (x :: r)[w.draws .order (s.drawn.get .order) % (x :: r).length]? with
   | some y => do return y :: (← drawOrder n ((x :: r).eraseIdx (w.draws .order (s.drawn.get .order) % (x :: r).length)))
   | none => unsupported "internal:drawOrder") Q E { s with drawn := s.drawn.bump .order }
  rw [List.getElem?_eq_getElem hlt];dsimp only;refine wpAny_bind (drawOrder_x n _ _ fun d => wpAny_pure ?_);have := h d;unfold drw at this;rw [List.getElem?_eq_getElem hlt] at this;exact this
variable {K : Type} [DecidableEq K] {knd : KeyKind PP w K}
theorem stop_raise {α : Type} {Q : α -> Shared -> Prop} (hh : A.handled = none)
  (h : ∀ h' e, (Kp s.heap h') -> Shared.TypeIs { s with heap := h' } e "StopIteration" -> E e { s with heap := h' }) :
  wpAny (model PP w) A (newExc (.type "StopIteration") [] >>= fun e => (raiseNew e : Sem α)) Q E s := by
 refine wpAny_bind ?_;simp only [newExc, newTuple];refine wpAny_bind (wpAny_newObj_type ?_ (by size_fits));refine wpAny_bind (m := firstArgMember _ _) (wpAny_of_eq (a := Value.none) (by first | rfl | (simp only [firstArgMember]; rfl)) ?_);refine wpAny_newObj_type ?_ (by size_fits);simp only [raiseNew];refine wpAny_bind (wpAny_handled ?_);rw [hh];refine wpAny_bind (wpAny_pure (wpAny_throw ?_));exact h _ _ (fun b o e => Heap.get?_push_of_some _ (Heap.get?_push_of_some _ e)) ⟨_, Heap.get?_push_size _ rfl, rfl⟩
noncomputable abbrev sitO (first : Value) (i : Nat) (a : Addr) (n ep : Nat) : Obj := { cls := .type "set_iterator", dict := none, data := .fields #[first, .int i 0, .ref a, .int n 0, .int ep 0], slots := #[] }
section
variable {I a : Addr} {o : Obj} {es : Array (Int × Value)} {ep i : Nat} {t : SetTable} {first : Value} {Q : Option Value -> Shared -> Prop}
theorem snext_int {slot next : Nat} {e : Int × Value} (ho : s.heap.get? a = some o) (hd : o.data = .set es ep t) (hf : t.fits es.size = true) (hI : s.heap.get? I = some (sitO (.int slot 0) i a es.size ep))
  (hn : ∀ (A : Around) (Q : Option (Value × Nat) -> Shared -> Prop) E, Q (some (e.2, next)) s -> wpAny (model PP w) A (setNext a slot i ep) Q E s)
  (hQ : ∀ h', h'.get? I = some (sitO (.int next 0) (i + 1) a es.size ep) -> Heap.SameBut I s.heap h' -> Q (some e.2) { s with heap := h' }) : wpAny (model PP w) A (pyNext (.ref I)) Q E s := by
 have hT : s.TypeIs (.ref I) "set_iterator" := ⟨_, hI, rfl⟩;unfold pyNext;refine wpAny_bind (wpAny_attempt (wpAny_callSpecial?_slot (name := Str.ofString "__next__") hT SI.slot_next (wpAny_call_entry SI.slot_next hT SI.entry_next ?_ (SI.args_next _))));unfold Builtin.«set_iterator.__next__»;refine wpAny_bind (m := slotArgs "__next__" 0 _) (wpAny_pure ?_);refine wpAny_bind (wpAny_fieldsOf hI rfl ?_)
 try dsimp only
 refine wpAny_bind (wpAny_setEntries_of ho hd hf ?_);rw [if_neg (by simp)]
 try dsimp only
 rw [Int.toNat_natCast, Int.toNat_natCast, Int.toNat_natCast];refine wpAny_bind (hn _ _ _ ?_)
 try dsimp only
 refine wpAny_bind (wpAny_setField_rec hI (by simp) fun h1 e1 s1 => ?_);refine wpAny_bind (wpAny_setField_rec e1 (by simp) fun h2 e2 s2 => ?_);refine wpAny_pure ⟨_, rfl, wpAny_pure (hQ h2 ?_ (Heap.SameBut.trans s1 s2))⟩;have : ((i + 1 : Nat) : Int) = (i : Int) + 1 := ar32;rw [e2];simp [sitO, rawInt, this]
theorem snext_int_end {slot : Nat} (hh : A.handled = none) (ho : s.heap.get? a = some o) (hd : o.data = .set es ep t) (hf : t.fits es.size = true) (hI : s.heap.get? I = some (sitO (.int slot 0) i a es.size ep))
  (hn : ∀ (A : Around) (Q : Option (Value × Nat) -> Shared -> Prop) E, Q none s -> wpAny (model PP w) A (setNext a slot i ep) Q E s)
  (hQ : ∀ h', (KpD I s.heap h') -> Q none { s with heap := h' }) : wpAny (model PP w) A (pyNext (.ref I)) Q E s := by
 have hT : s.TypeIs (.ref I) "set_iterator" := ⟨_, hI, rfl⟩;unfold pyNext;refine wpAny_bind (wpAny_attempt (wpAny_callSpecial?_slot (name := Str.ofString "__next__") hT SI.slot_next (wpAny_call_entry SI.slot_next hT SI.entry_next ?_ (SI.args_next _))));unfold Builtin.«set_iterator.__next__»;refine wpAny_bind (m := slotArgs "__next__" 0 _) (wpAny_pure ?_);refine wpAny_bind (wpAny_fieldsOf hI rfl ?_)
 try dsimp only
 refine wpAny_bind (wpAny_setEntries_of ho hd hf ?_);rw [if_neg (by simp)]
 try dsimp only
 rw [Int.toNat_natCast, Int.toNat_natCast, Int.toNat_natCast];refine wpAny_bind (hn _ _ _ ?_)
 try dsimp only
 refine wpAny_bind (wpAny_setField_rec hI (by simp) fun h1 e1 s1 => ?_);refine stop_raise (by exact hh) fun h2 e k2 hT2 => ?_;refine wpAny_bind (wpAny_isInstance (T := "StopIteration") (b := true) hT2 isSubtype_stop ?_);exact wpAny_pure (hQ h2 fun b o hb e => k2 b o ((s1.2 b hb).trans e))
theorem snext_tup {tp : Addr} {pl : List Nat} {p : Nat} {e : Int × Value} (ho : s.heap.get? a = some o) (hd : o.data = .set es ep t) (hf : t.fits es.size = true) (hI : s.heap.get? I = some (sitO (.ref tp) i a es.size ep))
  (htp : s.heap.get? tp = some (tupO (pl.map fun (i : Nat) => rawInt i))) (hp : pl[i]? = some p) (he : es[p]? = some e)
  (hQ : ∀ h', h'.get? I = some (sitO (.ref tp) (i + 1) a es.size ep) -> Heap.SameBut I s.heap h' -> Q (some e.2) { s with heap := h' }) : wpAny (model PP w) A (pyNext (.ref I)) Q E s := by
 have hT : s.TypeIs (.ref I) "set_iterator" := ⟨_, hI, rfl⟩;unfold pyNext;refine wpAny_bind (wpAny_attempt (wpAny_callSpecial?_slot (name := Str.ofString "__next__") hT SI.slot_next (wpAny_call_entry SI.slot_next hT SI.entry_next ?_ (SI.args_next _))));unfold Builtin.«set_iterator.__next__»;refine wpAny_bind (m := slotArgs "__next__" 0 _) (wpAny_pure ?_);refine wpAny_bind (wpAny_fieldsOf hI rfl ?_)
 try dsimp only
 refine wpAny_bind (wpAny_setEntries_of ho hd hf ?_);rw [if_neg (by simp)]
 try dsimp only
 refine wpAny_bind (wpAny_seqItems htp rfl ?_)
 try dsimp only
 have hx : ((pl.map fun (i : Nat) => rawInt i).toArray)[i]? = some (rawInt p) := by simp [hp]
 rw [Int.toNat_natCast, hx];dsimp only [rawInt];refine wpAny_bind ?_;rw [Int.toNat_natCast, Int.toNat_natCast];unfold setNextDrawn;refine wpAny_bind (wpAny_setState_of ho hd hf ?_)
 try dsimp only
 rw [if_neg (by simp), he];refine wpAny_pure ?_;refine wpAny_bind (wpAny_setField_rec hI (by simp) fun h2 e2 s2 => ?_);refine wpAny_pure ⟨_, rfl, wpAny_pure (hQ h2 ?_ s2)⟩;have : ((i + 1 : Nat) : Int) = (i : Int) + 1 := ar32;rw [e2];simp [sitO, this]
theorem snext_tup_end {tp : Addr} {pl : List Nat} (hh : A.handled = none) (ho : s.heap.get? a = some o) (hd : o.data = .set es ep t) (hf : t.fits es.size = true) (hI : s.heap.get? I = some (sitO (.ref tp) i a es.size ep))
  (htp : s.heap.get? tp = some (tupO (pl.map fun (i : Nat) => rawInt i))) (hp : pl[i]? = none)
  (hQ : ∀ h', (KpD I s.heap h') -> Q none { s with heap := h' }) : wpAny (model PP w) A (pyNext (.ref I)) Q E s := by
 have hT : s.TypeIs (.ref I) "set_iterator" := ⟨_, hI, rfl⟩;unfold pyNext;refine wpAny_bind (wpAny_attempt (wpAny_callSpecial?_slot (name := Str.ofString "__next__") hT SI.slot_next (wpAny_call_entry SI.slot_next hT SI.entry_next ?_ (SI.args_next _))));unfold Builtin.«set_iterator.__next__»;refine wpAny_bind (m := slotArgs "__next__" 0 _) (wpAny_pure ?_);refine wpAny_bind (wpAny_fieldsOf hI rfl ?_)
 try dsimp only
 refine wpAny_bind (wpAny_setEntries_of ho hd hf ?_);rw [if_neg (by simp)]
 try dsimp only
 refine wpAny_bind (wpAny_seqItems htp rfl ?_)
 try dsimp only
 have hx : ((pl.map fun (i : Nat) => rawInt i).toArray)[i]? = none := by simpa using hp
 rw [Int.toNat_natCast, hx]
 try dsimp only
 refine wpAny_bind (wpAny_setField_rec hI (by simp) fun h1 e1 s1 => ?_);refine wpAny_bind (wpAny_setField_rec e1 (by simp) fun h2 e2 s2 => ?_);refine stop_raise (by exact hh) fun h3 e k3 hT3 => ?_;refine wpAny_bind (wpAny_isInstance (T := "StopIteration") (b := true) hT3 isSubtype_stop ?_);exact wpAny_pure (hQ h3 fun b o hb e => k3 b o ((s2.2 b hb).trans ((s1.2 b hb).trans e)))
end
end
end Mine
end
section
open PySem PySem.W PySem.Calls PyProof.Rows
namespace Mine
section
variable {w : World} {A : Around} {E : Value -> Shared -> Prop} {s : Shared}
variable {a : Addr} {o : Obj} {es : Array (Int × Value)} {ep i : Nat} {t : SetTable}
theorem setNext_text {slot : Nat} {Q : Option (Value × Nat) -> Shared -> Prop} (hb : w.params.followText "set-order" = true) (ho : s.heap.get? a = some o) (hd : o.data = .set es ep t) (hf : t.fits es.size = true)
  (h : Q (((pickOrder (w.params.setOrder a ep) es)[i]?).map fun e => (e.2, slot)) s) : wpAny (model PP w) A (setNext a slot i ep) Q E s := by
 unfold setNext;refine wpAny_bind (wpAny_setState_of ho hd hf ?_);dsimp only;unfold setsByText;refine wpAny_bind (wpAny_bind (wpAny_askSetting (wpAny_pure ?_)));show wpAny _ _ (if w.params.followText "set-order" = true then _ else _) _ _ _;rw [if_pos hb, if_neg (by simp)];refine wpAny_bind (m := setWalk a) ?_;unfold setWalk;refine wpAny_bind (wpAny_setState_of ho hd hf ?_);dsimp only;unfold setsByText;refine wpAny_bind (wpAny_bind (wpAny_askSetting (wpAny_pure ?_)));show wpAny _ _ (if w.params.followText "set-order" = true then _ else _) _ _ _;rw [if_pos hb];exact wpAny_bind (wpAny_askSetting (wpAny_pure (wpAny_pure h)))
theorem setNext_slot {slot : Nat} {Q : Option (Value × Nat) -> Shared -> Prop} (hb : w.params.followText "set-order" = false) (ho : s.heap.get? a = some o) (hd : o.data = .set es ep t) (hf : t.fits es.size = true) (hl : t.led = true)
  (hp : (!t.plain && decide (es.size > 1)) = false) (h : Q (match es[SetTable.below t.place slot]?, t.place[SetTable.below t.place slot]? with | some (_, x), some j => some (x, j + 1) | _, _ => none) s) : wpAny (model PP w) A (setNext a slot i ep) Q E s := by
 unfold setNext;refine wpAny_bind (wpAny_setState_of ho hd hf ?_);dsimp only;unfold setsByText;refine wpAny_bind (wpAny_bind (wpAny_askSetting (wpAny_pure ?_)));show wpAny _ _ (if w.params.followText "set-order" = true then _ else _) _ _ _;rw [if_neg (by rw [hb]; exact Bool.false_ne_true)];show wpAny _ _ (if (!t.plain && decide (es.size > 1)) = true then _ else _) _ _ _;rw [if_neg (by rw [hp]; exact Bool.false_ne_true)];refine wpAny_bind (Q := Q) (A := A) ?_;show wpAny _ _ (if (!t.led && !es.isEmpty) = true then _ else _) _ _ _;rw [if_neg (by rw [hl]; simp)];exact wpAny_pure (wpAny_pure h)
theorem setDrawn_x {Q : Bool -> Shared -> Prop} (ho : s.heap.get? a = some o) (hd : o.data = .set es ep t) (hf : t.fits es.size = true) (h : Q (!w.params.followText "set-order" && (!t.plain && decide (es.size > 1))) s) :
  wpAny (model PP w) A (setDrawn a) Q E s := by
 unfold setDrawn;refine wpAny_bind (wpAny_setState_of ho hd hf ?_);dsimp only;unfold setsByText;refine wpAny_bind (wpAny_bind (wpAny_askSetting (wpAny_pure (wpAny_pure h))))
theorem iter_int {Q : Value -> Shared -> Prop} (ho : s.heap.get? a = some o) (hex : o.ExactSet) (hd : o.data = .set es ep t) (hf : t.fits es.size = true) (hz : (!w.params.followText "set-order" && (!t.plain && decide (es.size > 1))) = false)
  (h : Q (.ref s.heap.objs.size) { s with heap := s.heap.push (sitO (.int 0 0) 0 a es.size ep) }) : wpAny (model PP w) A (pyIter (.ref a)) Q E s := by
 have hT : s.TypeIs (.ref a) "set" := ⟨_, ho, hex.1⟩;refine wpAny_pyIter_slot hT PySem.F.slot_set_iter (wpAny_call_entry PySem.F.slot_set_iter hT SI.entry_iter ?_ (PySem.F.args_set_iter_1 _));unfold Builtin.«frozenset.__iter__»;refine wpAny_bind (m := Builtin.Frozenset.slot0 "__iter__" _) (wpAny_pure (a := a) ?_);unfold Builtin.Frozenset.sizeOf;refine wpAny_bind (wpAny_bind (wpAny_setEntries_of ho hd hf (wpAny_pure ?_)));refine wpAny_bind (setDrawn_x ho hd hf ?_);rw [hz];rw [if_neg Bool.false_ne_true];refine wpAny_bind (wpAny_pure ?_);refine wpAny_bind (wpAny_setEpoch_of ho hd hf ?_);refine wpAny_bind (wpAny_newObj_type (wpAny_pure ⟨_, rfl, "set_iterator", _, ⟨_, Heap.get?_push_size _ rfl, rfl⟩, SI.slot_next.lookup, h⟩))
theorem iter_tup {Q : Value -> Shared -> Prop} (ho : s.heap.get? a = some o) (hex : o.ExactSet) (hd : o.data = .set es ep t) (hf : t.fits es.size = true) (hb : es.size < scanBound) (hz : (!w.params.followText "set-order" && (!t.plain && decide (es.size > 1))) = true)
  (h : ∀ d, Q (.ref (s.heap.objs.size + 1)) { s with heap := (s.heap.push (tupO ((drw (w.draws .order) es.size (s.drawn.get .order) (List.range es.size)).map fun (i : Nat) => rawInt i))).push (sitO (.ref s.heap.objs.size) 0 a es.size ep), drawn := d }) :
  wpAny (model PP w) A (pyIter (.ref a)) Q E s := by
 have hT : s.TypeIs (.ref a) "set" := ⟨_, ho, hex.1⟩;refine wpAny_pyIter_slot hT PySem.F.slot_set_iter (wpAny_call_entry PySem.F.slot_set_iter hT SI.entry_iter ?_ (PySem.F.args_set_iter_1 _));unfold Builtin.«frozenset.__iter__»;refine wpAny_bind (m := Builtin.Frozenset.slot0 "__iter__" _) (wpAny_pure (a := a) ?_);unfold Builtin.Frozenset.sizeOf;refine wpAny_bind (wpAny_bind (wpAny_setEntries_of ho hd hf (wpAny_pure ?_)));refine wpAny_bind (setDrawn_x ho hd hf ?_);rw [hz];rw [if_pos rfl];refine wpAny_bind (drawOrder_x _ _ _ fun d => ?_);have hlen : ((drw (w.draws .order) es.size (s.drawn.get .order) (List.range es.size)).map fun (i : Nat) => rawInt i).length = es.size := by
  rw [List.length_map, (drw_perm _ _ _ _ (by simp)).length_eq, List.length_range]
 refine wpAny_bind (wpAny_newTuple (s := { s with drawn := d }) ?_ (by rw [hlen]; exact fits_of_scanBound hb));have ho' : (s.heap.push (tupO ((drw (w.draws .order) es.size (s.drawn.get .order) (List.range es.size)).map fun (i : Nat) => rawInt i))).get? a = some o := Heap.get?_push_of_some _ ho;refine wpAny_bind (wpAny_setEpoch_of (s := { s with heap := s.heap.push (tupO ((drw (w.draws .order) es.size (s.drawn.get .order) (List.range es.size)).map fun (i : Nat) => rawInt i)), drawn := d }) ho' hd hf ?_);refine wpAny_bind (wpAny_newObj_type (wpAny_pure ⟨_, rfl, "set_iterator", _, ⟨_, Heap.get?_push_size _ rfl, rfl⟩, SI.slot_next.lookup, ?_⟩));have := h d;rw [← Heap.size_push s.heap (tupO ((drw (w.draws .order) es.size (s.drawn.get .order) (List.range es.size)).map fun (i : Nat) => rawInt i))] at this;exact this
theorem stp_same {s s₁ : Shared} {h' : Heap} (x : Stp W0 s s₁) (y : Heap.SameBut s.heap.objs.size s₁.heap h') : Stp W0 s { s₁ with heap := h' } := by
 have k : Kp s.heap h' := fun b o e => (y.2 b (Nat.ne_of_lt (Heap.lt_size e))).trans (x.all b o e);exact ⟨fun b o e => ⟨o, k b o e⟩, fun b o _ e => k b o e, x.gens, x.os⟩
theorem stp_all {s s₁ : Shared} {h' : Heap} {tk : Nat} {d : Drawn} (x : Stp W0 s s₁) (k : ∀ b o, s.heap.get? b = some o -> s₁.heap.get? b = some o -> h'.get? b = some o) : Stp W0 s { s₁ with heap := h', toks := tk, drawn := d } :=
 ⟨fun b o e => ⟨o, k b o e (x.all b o e)⟩, fun b o _ e => k b o e (x.all b o e), x.gens, x.os⟩
theorem hint_set {a : Addr} {Q : Bool -> Shared -> Prop} (hT : s.TypeIs (.ref a) "set") (h : ∀ b, Q b s) : wpAny (model PP w) A (Builtin.List.listLengthHint (.ref a)) Q E s := by
 unfold Builtin.List.listLengthHint;refine wpAny_bind (wpAny_specialOf hT SI.lookup_len ?_);generalize hid : ("set.__len__" : String) = id0
 wp_delta
 rw [show splitId id0 = some ("set", "__len__") from by subst hid; decide +kernel];subst hid;refine wpAny_bind (wpAny_isInstance (T := "set") (b := true) hT (by rw [isSubtype_type]; kernel_rfl) ?_);refine wpAny_ite_split (fun hab => absurd hab (by decide)) (fun _ => ?_);refine wpAny_ite_split (fun _ => ?_) (fun hab => absurd (by decide +kernel) hab);refine wpAny_bind (wpAny_typeOf hT ?_);exact wpAny_pure (h _)
noncomputable def slotAt (t : SetTable) : Nat -> Nat
 | 0 => 0
 | j + 1 => t.place.getD j 0 + 1
variable {K : Type} [DecidableEq K] {knd : KeyKind PP w K}
theorem src_set {ks : List K} (hS : SetX knd s.heap a ks) (hh : A.handled = none) : ∃ (kk : List K) (I : Addr) (St : Nat -> Shared -> Prop), kk.Perm ks ∧
  Src w A s.heap.objs.size a I "set" kk.length (fun i v => ∃ k, kk[i]? = some k ∧ knd.is k v = true) St (fun s' => Stp W0 s s') s := by
 obtain ⟨o, es, ep, t, ho, hex, hd, hel, ⟨kk0, hp0, hl0, hk0⟩, hnd, hb, hf, ht⟩ := hS;have hline : es.size <= sizeLine := fits_of_scanBound hb;have seqK : ∀ (seq : List (Int × Value)), seq.Perm es.toList -> ∃ kk : List K, kk.Perm ks ∧ kk.length = seq.length ∧ ∀ (i : Nat) (k : K) (e : Int × Value), kk[i]? = some k -> seq[i]? = some e -> knd.is k e.2 = true := fun seq hp => by
  obtain ⟨kk, q1, q2, q3⟩ := keys_perm (knd := knd) hp (kk := kk0) (by simpa using hl0) fun i k e hk he => hk0 i k e hk (by simpa using he);exact ⟨kk, q1.trans hp0, q2, q3⟩
 have haS : a < s.heap.objs.size := Heap.lt_size ho;have mk : ∀ (seq : List (Int × Value)) (I : Addr) (It : Nat -> Obj -> Heap -> Prop), seq.Perm es.toList -> I ≠ s.heap.objs.size -> a ≠ I ->
   (∀ i o1 h h', It i o1 h -> KpD s.heap.objs.size h h' -> It i o1 h') ->
   (∀ (s₁ : Shared) (Q : Value -> Shared -> Prop) E, s₁.gens = s.gens -> s₁.os = s.os -> s₁.drawn = s.drawn -> Kp s.heap s₁.heap -> s₁.heap.objs.size = s.heap.objs.size + 1 ->
    (∀ h' d o1, (Kp s₁.heap h') -> h'.get? I = some o1 -> It 0 o1 h' -> Q (.ref I) { s₁ with heap := h', drawn := d }) -> wpAny (model PP w) A (pyIter (.ref a)) Q E s₁) ->
   (∀ i (s₁ : Shared) (Q : Option Value -> Shared -> Prop) E o1 e, seq[i]? = some e -> s₁.heap.get? a = some o -> s₁.heap.get? I = some o1 -> It i o1 s₁.heap ->
    (∀ h' o2, h'.get? I = some o2 -> It (i + 1) o2 h' -> Heap.SameBut I s₁.heap h' -> Q (some e.2) { s₁ with heap := h' }) -> wpAny (model PP w) A (pyNext (.ref I)) Q E s₁) ->
   (∀ (s₁ : Shared) (Q : Option Value -> Shared -> Prop) E o1, s₁.heap.get? a = some o -> s₁.heap.get? I = some o1 -> It es.size o1 s₁.heap ->
    (∀ h', (KpD I s₁.heap h') -> Q none { s₁ with heap := h' }) -> wpAny (model PP w) A (pyNext (.ref I)) Q E s₁) ->
   s.heap.get? I = none ->
   ∃ (kk : List K) (I : Addr) (St : Nat -> Shared -> Prop), kk.Perm ks ∧ Src w A s.heap.objs.size a I "set" kk.length (fun i v => ∃ k, kk[i]? = some k ∧ knd.is k v = true) St (fun s' => Stp W0 s s') s := by
  intro seq I It hp hIS haI hIt hiter hitem hend hIn;obtain ⟨kk, q1, q2, q3⟩ := seqK seq hp;have hkl : kk.length = es.size := by rw [q2, hp.length_eq]; simp
  refine ⟨kk, I, fun i s₁ => Stp W0 s s₁ ∧ ∃ o1, s₁.heap.get? I = some o1 ∧ It i o1 s₁.heap, q1, ?_⟩
  constructor
  ·decide
  ·decide
  ·rw [hkl]; exact hline
  ·rintro i s₁ h' ⟨x, o1, e1, it⟩ hs _
   exact ⟨stp_same x hs, o1, (hs.2 I hIS).trans e1, hIt _ _ _ _ it fun b o hb e => (hs.2 b hb).trans e⟩
  ·intro s₁ Q E oS hg hos hdr hk hz hz' hSl hS1 hQ;refine hiter s₁ Q E hg hos hdr hk (Nat.le_antisymm hz hSl) fun h' d o1 hk' e1 it => ?_;have x : Stp W0 s { s₁ with heap := h', drawn := d } := ⟨fun b o e => ⟨o, hk' _ _ (hk _ _ e)⟩, fun b o _ e => hk' _ _ (hk _ _ e), hg, hos⟩;exact hQ _ ⟨x, o1, e1, it⟩ (hk' _ _ hS1) ⟨o, x.all _ _ ho, hex.1⟩
  ·intro s₂ Q E st hT hQ;exact hint_set hT hQ
  ·rintro i s₁ Q E oS hi ⟨x, o1, e1, it⟩ hS1 hQ
   have hlt : i < seq.length := by rw [← q2]; exact hi
   refine hitem i s₁ Q E o1 seq[i] (List.getElem?_eq_getElem hlt) (x.all _ _ ho) e1 it fun h' o2 e2 it2 hs => ?_;refine hQ _ _ ⟨kk[i], List.getElem?_eq_getElem hi, q3 i _ _ (List.getElem?_eq_getElem hi) (List.getElem?_eq_getElem hlt)⟩ ⟨?_, o2, e2, it2⟩ ((hs.2 _ (Ne.symm hIS)).trans hS1);exact stp_all (tk := s₁.toks) (d := s₁.drawn) x fun b o e e' => (hs.2 b (fun q => by rw [q, hIn] at e; cases e)).trans e'
  ·rintro s₁ Q E oS ⟨x, o1, e1, it⟩ hS1 hQ
   rw [hkl] at it;refine hend s₁ Q E o1 (x.all _ _ ho) e1 it fun h' hk' => hQ _ ?_ (hk' _ _ (Ne.symm hIS) hS1);exact stp_all (tk := s₁.toks) (d := s₁.drawn) x fun b o e e' => hk' b o (fun q => by rw [q, hIn] at e; cases e) e'
 have hn1 : s.heap.get? (s.heap.objs.size + 1) = none := by
  cases q : s.heap.get? (s.heap.objs.size + 1) with
  | none => rfl
  | some _ => exact absurd (Heap.lt_size q) (Nat.not_lt.mpr (Nat.le_succ _))
 have hn2 : s.heap.get? (s.heap.objs.size + 2) = none := by
  cases q : s.heap.get? (s.heap.objs.size + 2) with
  | none => rfl
  | some _ => exact absurd (Heap.lt_size q) (Nat.not_lt.mpr (Nat.le_add_right _ 2))
 cases hbt : w.params.followText "set-order" with
 | true =>
  have hz : (!w.params.followText "set-order" && (!t.plain && decide (es.size > 1))) = false := by rw [hbt]; rfl
  refine mk (pickOrder (w.params.setOrder a ep) es).toList (s.heap.objs.size + 1) (fun i o1 _ => o1 = sitO (.int 0 0) i a es.size ep) (pick_perm _ _) (Nat.succ_ne_self _) (Nat.ne_of_lt (Nat.lt_succ_of_lt haS)) (fun i o1 h h' x _ => x) ?_ ?_ ?_ hn1
  ·intro s₁ Q E hg hos hdr hk hsz hQ;refine iter_int (hk _ _ ho) hex hd hf hz ?_;rw [hsz];exact hQ _ s₁.drawn _ (fun b o e => Heap.get?_push_of_some _ e) (by rw [← hsz]; exact Heap.get?_push_size _ rfl) rfl
  ·intro i s₁ Q E o1 e he ha hI it hQ;subst it;refine snext_int (slot := 0) (next := 0) (e := e) ha hd hf hI (fun A Q E h => setNext_text hbt ha hd hf ?_) fun h' e' hs => hQ h' _ e' rfl hs;rw [Array.getElem?_toList] at he;rw [he]; exact h
  ·intro s₁ Q E o1 ha hI it hQ;subst it;refine snext_int_end (slot := 0) hh ha hd hf hI (fun A Q E h => setNext_text hbt ha hd hf ?_) hQ;have : (pickOrder (w.params.setOrder a ep) es)[es.size]? = none := by
    rw [← Array.getElem?_toList];exact List.getElem?_eq_none (by rw [(pick_perm _ _).length_eq]; simp)
   rw [this]; exact h
 | false =>
  have hled : t.led = true := by rw [ht.led]; show (!w.params.followText "set-order") = true; rw [hbt]; rfl
  cases hpl : (!t.plain && decide (es.size > 1)) with
  | false =>
   have hz : (!w.params.followText "set-order" && (!t.plain && decide (es.size > 1))) = false := by rw [hpl]; simp
   have hpz : t.place.size = es.size := by
    simp only [SetTable.fits, Bool.and_eq_true, beq_iff_eq] at hf; exact hf.1
   refine mk es.toList (s.heap.objs.size + 1) (fun i o1 _ => o1 = sitO (.int (slotAt t i) 0) i a es.size ep) .rfl (Nat.succ_ne_self _) (Nat.ne_of_lt (Nat.lt_succ_of_lt haS)) (fun i o1 h h' x _ => x) ?_ ?_ ?_ hn1
   ·intro s₁ Q E hg hos hdr hk hsz hQ;refine iter_int (hk _ _ ho) hex hd hf hz ?_;rw [hsz];exact hQ _ s₁.drawn _ (fun b o e => Heap.get?_push_of_some _ e) (by rw [← hsz]; exact Heap.get?_push_size _ rfl) rfl
   ·intro i s₁ Q E o1 e he ha hI it hQ;subst it;rw [Array.getElem?_toList] at he;have hlt : i < t.place.size := by rw [hpz]; exact (Array.getElem?_eq_some_iff.mp he).1
    have hbl : SetTable.below t.place (slotAt t i) = i := by
     cases i with
     | zero => exact below_zero ht.asc
     | succ j =>
      refine below_next ht.asc ?_;have hj : j < t.place.size := (Nat.lt_of_succ_lt hlt);simp [Array.getD, hj]
    refine snext_int (slot := (slotAt t i)) (next := t.place.getD i 0 + 1) (e := e) ha hd hf hI (fun A Q E h => setNext_slot hbt ha hd hf hled hpl ?_) fun h' e' hs => hQ h' _ e' rfl hs;rw [hbl, he, Array.getElem?_eq_getElem hlt]
    simpa [Array.getD, hlt] using h
   ·intro s₁ Q E o1 ha hI it hQ;subst it;have hbl : SetTable.below t.place (slotAt t es.size) = es.size := by
     cases hsz : es.size with
     | zero => exact below_zero ht.asc
     | succ j =>
      refine below_next ht.asc ?_;have hj : j < t.place.size := (ar111 hpz hsz);simp [Array.getD, hj]
    refine snext_int_end (slot := (slotAt t es.size)) hh ha hd hf hI (fun A Q E h => setNext_slot hbt ha hd hf hled hpl ?_) hQ;rw [hbl, Array.getElem?_eq_none (Nat.le_refl _)];exact h
  | true =>
   have hz : (!w.params.followText "set-order" && (!t.plain && decide (es.size > 1))) = true := by rw [hbt, hpl]; rfl
   have hperm := drw_perm (w.draws .order) es.size (s.drawn.get .order) (List.range es.size) (by simp);have hall : ∀ (i p : Nat), (drw (w.draws .order) es.size (s.drawn.get .order) (List.range es.size))[i]? = some p -> p < es.size := fun i p h => List.mem_range.mp (hperm.mem_iff.mp (List.mem_of_getElem? h));have hfm : ∀ (l : List Nat), (∀ p ∈ l, p < es.size) -> ∀ (i : Nat), (l.filterMap fun p => es[p]?)[i]? = (l[i]?).bind fun p => es[p]? := by
    intro l
    induction l with
    | nil => intro _ i; simp
    | cons p r ih =>
     intro hl i;have hp : p < es.size := hl p (by simp);rw [List.filterMap_cons, Array.getElem?_eq_getElem hp];dsimp only;cases i with
     | zero => simp [Array.getElem?_eq_getElem hp]
     | succ i => simpa using ih (fun q hq => hl q (List.mem_cons_of_mem _ hq)) i
   refine mk ((drw (w.draws .order) es.size (s.drawn.get .order) (List.range es.size)).filterMap fun p => es[p]?) (s.heap.objs.size + 2)
    (fun i o1 h => o1 = sitO (.ref (s.heap.objs.size + 1)) i a es.size ep ∧ h.get? (s.heap.objs.size + 1) = some (tupO ((drw (w.draws .order) es.size (s.drawn.get .order) (List.range es.size)).map fun (i : Nat) => rawInt i))) ?_ (Nat.ne_of_gt (Nat.lt_succ_of_lt (Nat.lt_succ_self _))) (Nat.ne_of_lt (Nat.lt_succ_of_lt (Nat.lt_succ_of_lt haS)))
    (fun i o1 h h' x k => ⟨x.1, k _ _ (Nat.succ_ne_self _) x.2⟩) ?_ ?_ ?_ hn2
   ·have := hperm.filterMap fun p => es[p]?
    rwa [filterMap_getElem?_range] at this
   ·intro s₁ Q E hg hos hdr hk hsz hQ;refine iter_tup (hk _ _ ho) hex hd hf hb hz fun d => ?_;rw [hdr, hsz];refine hQ _ d _ (fun b o e => Heap.get?_push_of_some _ (Heap.get?_push_of_some _ e)) ?_ ⟨rfl, ?_⟩
    ·have := Heap.get?_push_size (s₁.heap.push (tupO ((drw (w.draws .order) es.size (s.drawn.get .order) (List.range es.size)).map fun (i : Nat) => rawInt i))) (o := sitO (.ref (s.heap.objs.size + 1)) 0 a es.size ep) rfl;rw [Heap.size_push, hsz] at this;exact this
    ·refine Heap.get?_push_of_some _ ?_;have := Heap.get?_push_size s₁.heap (o := tupO ((drw (w.draws .order) es.size (s.drawn.get .order) (List.range es.size)).map fun (i : Nat) => rawInt i)) rfl;rw [hsz] at this;exact this
   ·rintro i s₁ Q E o1 e he ha hI ⟨rfl, ht'⟩ hQ
    rw [hfm _ (fun p hp => (by obtain ⟨j, hj⟩ := List.mem_iff_getElem?.mp hp; exact hall j p hj))] at he;obtain ⟨p, hp, hep⟩ := Option.bind_eq_some_iff.mp he;exact snext_tup ha hd hf hI ht' hp hep fun h' e' hs => hQ h' _ e' ⟨rfl, (hs.2 _ (Nat.ne_of_lt (Nat.lt_succ_self _))).trans ht'⟩ hs
   ·rintro s₁ Q E o1 ha hI ⟨rfl, ht'⟩ hQ
    exact snext_tup_end hh ha hd hf hI ht' (List.getElem?_eq_none (by rw [hperm.length_eq]; simp)) hQ
end
end Mine
end
section
open PySem PySem.W PySem.Calls PyProof.Rows
namespace Mine
noncomputable abbrev setO0 (w : World) : Obj := { cls := .type "set", dict := none, data := .set #[] 0 (.fresh 0 0 (ledOf w)) }
section
variable {w : World} {A : Around} {E : Value -> Shared -> Prop} {s : Shared}
theorem set_new_x (a : Value) {Q₁ : Value -> Shared -> Prop} (h : Q₁ (.ref s.heap.objs.size) { s with heap := s.heap.push (setO0 w) }) :
  codeAny (model PP w) A (.call (.builtin "set.__new__") ⟨[.type "set", a], []⟩) (wants Q₁ E) s := by
 refine codeAny_of_tree ?_;show wpAny _ A.in1 (do checkBuiltinCall "set.__new__" ⟨[.type "set", a], []⟩; again (.builtin "set.__new__" ⟨[.type "set", a], []⟩)) _ _ s;refine wpAny_bind (wpAny_of_eq (F.newCall_set_1 a) (wpAny_pure ⟨plainId_quiet F.plain_set_new _, codeAny_builtin F.entry_set_new ?_⟩));rw [Around.under_plainId F.plain_set_new _];unfold Builtin.«set.__new__» Builtin.Frozenset.newClass;have hsub := sub_set_self;obtain ⟨hp, g, d, tk, os⟩ := s;dsimp only
 wp_walk
 refine wpAny_askSetting (wpAny_pure ?_);dsimp only;simp only [newObj];refine wpAny_bind (wpAny_alloc (wpAny_pure ?_));exact wpAny_pure h
theorem call_set_w {r : Addr} {Q : Value -> Shared -> Prop} {P : Shared -> Prop}
  (hup : ∀ (A' : Around) (E' : Value -> Shared -> Prop) (Q' : Unit -> Shared -> Prop), A'.handled = A.handled -> (∀ s', P s' -> Q' () s') -> wpAny (model PP w) A' (Builtin.Frozenset.updateFrom "set.__init__" s.heap.objs.size (.ref r)) Q' E' { s with heap := s.heap.push (setO0 w) })
  (h : ∀ s', P s' -> Q (.ref s.heap.objs.size) s') : wpAny (model PP w) A (call (.type "set") [.ref r]) Q E s := by
 obtain ⟨c, tl, hmro⟩ := F.called_set.mro;have hmade := F.called_set.made;have hsub := F.called_set.sub;refine wpAny_call (codeAny_of_tree ?_);show wpAny _ _ (callAny (.type "set") _) _ _ _;refine wpAny_pure ⟨Code.quiet_builtin _ (by decide +kernel), codeAny_builtin F.entry_type_call ?_⟩;rw [Around.under_plain (weight_type_call_type "set" [.ref r] []) rfl];have h1 := F.called_set.notType;have h2 := F.called_set.canCreate;have hct := F.typeCall_set_1 (.ref r)
 repeat (any_goals (first | assumption | wp_step))
 refine codeAny_mono (set_new_x (w := w) (.ref r) (E := E) (Q₁ := fun obj s₁ => obj = .ref s.heap.objs.size ∧ s₁ = { s with heap := s.heap.push (setO0 w) }) ⟨rfl, rfl⟩) fun r' s₁ hr => ?_;cases r' with
 | error e => exact hr
 | ok fl =>
  cases fl with
  | ret obj =>
   obtain ⟨rfl, rfl⟩ := hr;have hS : (s.heap.push (setO0 w)).get? s.heap.objs.size = some (setO0 w) := Heap.get?_push_size _ rfl;have hT : Shared.TypeIs { s with heap := s.heap.push (setO0 w) } (.ref s.heap.objs.size) "set" := ⟨_, hS, rfl⟩;have hli := F.called_set.init.lookup;have hbi := F.called_set.init.bind (.ref s.heap.objs.size)
   repeat (any_goals (first | assumption | wp_step))
   refine codeAny_mono (codeAny_call_builtin (R := wants (fun r s₂ => r = .none ∧ P s₂) E) F.called_set.init.plain F.entry_set_init (check_set_init_1 hT ?_)) fun r₂ s₂ hr₂ => ?_
   ·unfold Builtin.«set.__init__» noKeywords;generalize hU : Builtin.Frozenset.updateFrom = U at hup ⊢
    wp_walk
    exact hup _ _ _ rfl fun s' hP => wpAny_pure ⟨rfl, hP⟩
   ·cases r₂ with
    | error e => exact hr₂
    | ok fl₂ =>
     cases fl₂ with
     | ret r =>
      obtain ⟨rfl, hP⟩ := hr₂
      repeat (any_goals (first | assumption | wp_step))
      exact h _ hP
     | _ => exact hr₂.elim
  | _ => exact hr.elim
variable {K : Type} [DecidableEq K] {knd : KeyKind PP w K}
noncomputable def addN (ks0 : List K) (key : Nat -> K) : Nat -> List K
 | 0 => ks0
 | i + 1 => addK (addN ks0 key i) (key i)
theorem mem_addK {ks : List K} {k x : K} : x ∈ addK ks k ↔ x ∈ ks ∨ x = k := by
 unfold addK
 split
 ·rename_i h
  exact ⟨.inl, fun h' => h'.elim id fun e => e ▸ h⟩
 ·simp
theorem mem_addN (ks0 : List K) (key : Nat -> K) : ∀ (n : Nat) (x : K), x ∈ addN ks0 key n ↔ x ∈ ks0 ∨ ∃ j, j < n ∧ key j = x
 | 0, x => by simp [addN]
 | n + 1, x => by
  show x ∈ addK _ _ ↔ _;rw [mem_addK, mem_addN ks0 key n x]
  constructor
  ·rintro ((h | ⟨j, h1, h2⟩) | h)
   ·exact .inl h
   ·exact .inr ⟨j, (ar186 h1), h2⟩
   ·exact .inr ⟨n, ar65, h.symm⟩
  ·rintro (h | ⟨j, h1, h2⟩)
   ·exact .inl (.inl h)
   ·rcases Nat.lt_or_ge j n with h | h
    ·exact .inl (.inr ⟨j, h, h2⟩)
    ·obtain rfl : j = n := (Nat.eq_of_le_of_lt_succ h h1);exact .inr h2.symm
theorem addN_len (ks0 : List K) (key : Nat -> K) : ∀ n, (addN ks0 key n).length <= ks0.length + n
 | 0 => Nat.le_refl _
 | n + 1 => by
  have := addN_len ks0 key n
  show (addK _ _).length <= _;unfold addK
  split
  ·exact ar41 this
  ·rw [List.length_append]; simp; exact Nat.succ_le_succ this
theorem loop_x {R : Result -> Shared -> Prop} {I S : Addr} {It : Nat -> Obj -> Prop} {n : Nat} {P : Nat -> Value -> Prop} {Src : Heap -> Prop} (T : Iter w I It n P Src) (hh : A.handled = none) (hSI : S ≠ I)
  (hSrc : ∀ h h', Src h -> (∀ a o, a ≠ S -> a ≠ I -> h.get? a = some o -> h'.get? a = some o) -> Src h') (key : Nat -> K) (hval : ∀ i v, P i v -> knd.is (key i) v = true ∧ v.scannable = true) (ks0 : List K) (hb : ks0.length + n + 1 < scanBound) :
  ∀ (k i : Nat) (s : Shared) (o : Obj), n - i = k -> i <= n -> s.heap.get? I = some o -> It i o -> Src s.heap -> SetX knd s.heap S (addN ks0 key i) ->
   (∀ h' tk, (∀ a o, a ≠ S -> a ≠ I -> s.heap.get? a = some o -> h'.get? a = some o) -> SetX knd h' S (addN ks0 key n) -> R (.ok (.ret .none)) { s with heap := h', toks := tk }) ->
   codeAny (model PP w) A (.builtin "set.update.loop" ⟨[.ref S, .ref I], []⟩) R s := by
 intro k
 induction k with
 | zero =>
  intro i s o hk hi ho hit hs hS hR;obtain rfl : i = n := (ar7 hk hi);refine codeAny_builtin F.entry_set_update_loop ?_;rw [Around.under_plainId F.plain_set_update_loop _];show wpAny _ A.in1 (pyNext (.ref I) >>= _) _ _ s;refine wpAny_bind (T.done A.in1 s _ _ o hh ho hit hs fun h' tk hk' => ?_);show wpAny _ A.in1 (ret Value.none) _ _ _;exact wpAny_pure (hR h' tk (fun a o _ ha e => hk' a o ha e) (hS.keep fun o e => hk' _ _ hSI e))
 | succ k ih =>
  intro i s o hk hi ho hit hs hS hR;have hlt : i < n := (ar5 hk);refine codeAny_builtin F.entry_set_update_loop ?_;rw [Around.under_plainId F.plain_set_update_loop _];show wpAny _ A.in1 (pyNext (.ref I) >>= _) _ _ s;refine wpAny_bind (T.item A.in1 i s _ _ o hh hlt ho hit hs fun v h' tk o' hp ho' hit' hk' => ?_);obtain ⟨hkey, hsc⟩ := hval i v hp;have hS' : SetX knd h' S (addN ks0 key i) := hS.keep fun o e => hk' _ _ hSI e;have hs' : Src h' := hSrc _ _ hs fun a o _ ha e => hk' a o ha e;show wpAny _ A.in1 (holding [v] (setAdd S v) >>= _) _ _ _;refine wpAny_bind (wpAny_holding ?_);unfold setAdd;refine wpAny_holding ?_;refine wpAny_bind (knd.pyHash (k := key i) hkey ?_);have hlen := addN_len ks0 key i;refine addHashed_x (knd := knd) (s := { s with heap := h', toks := tk + 1 }) hkey hsc hS' (ar80 hb hlt hlen) fun h2 hsb hS2 => ?_;have hI2 : h2.get? I = some o' := (hsb.2 I (Ne.symm hSI)).trans ho';exact wpAny_pure ⟨plainId_quiet F.plain_set_update_loop _, ih (i + 1) _ o' (ar3 hk) (hlt) hI2 hit' (hSrc _ _ hs' fun a o ha _ e => (hsb.2 a ha).trans e) hS2 fun h3 tk3 k3 hS3 => hR h3 tk3 (fun a o h1 h2' e => k3 a o h1 h2' ((hsb.2 a h1).trans (hk' a o h2' e))) hS3⟩
theorem anySet_no {v : Value} {T : String} {Q : Bool -> Shared -> Prop} (hT : s.TypeIs v T) (h1 : isSubtype (.type T) (.type "set") = pure false) (h2 : isSubtype (.type T) (.type "frozenset") = pure false) (h : Q false s) : wpAny (model PP w) A (Builtin.Frozenset.isAnySet v) Q E s := by
 unfold Builtin.Frozenset.isAnySet;refine wpAny_bind (m := isInstance v (.type "set")) (wpAny_isInstance hT h1 ?_);exact wpAny_isInstance hT h2 h
theorem up_list {id : String} {S l : Addr} {items : Array Value} {ks0 : List K} {key : Nat -> K} {Q : Unit -> Shared -> Prop} (hh : A.handled = none) (hl : s.heap.IsList l items) (hS : SetX knd s.heap S ks0) (hne : l ≠ S)
  (hval : ∀ (i : Nat) (v : Value), items[i]? = some v -> knd.is (key i) v = true ∧ v.scannable = true) (hb : ks0.length + items.size + 1 < scanBound)
  (h : ∀ h' tk, (KpD S s.heap h') -> SetX knd h' S (addN ks0 key items.size) -> Q () { s with heap := h', toks := tk }) : wpAny (model PP w) A (Builtin.Frozenset.updateFrom id S (.ref l)) Q E s := by
 have hT : s.TypeIs (.ref l) "list" := hl.typeIs;unfold Builtin.Frozenset.updateFrom;refine wpAny_bind (anySet_no hT F.sub_list_set F.sub_list_frozenset ?_);rw [if_neg Bool.false_ne_true];refine wpAny_bind (wpAny_typeOf hT ?_);rw [if_neg (by decide)];refine wpAny_bind (wpAny_pyIter_list hl ?_);obtain ⟨oS, eS⟩ : ∃ o, s.heap.get? S = some o := hS.ex;have hSl : S < s.heap.objs.size := Heap.lt_size eS;have hll : l < s.heap.objs.size := by obtain ⟨_, e, _⟩ := hl; exact Heap.lt_size e
 refine wpAny_bind (wpAny_runValue ?_);refine loop_x (knd := knd) (Iter.list (ax := l) (items := items)) hh (Nat.ne_of_lt hSl) (fun h1 h2 hs hk => movL hs fun o e => hk _ _ hne (Nat.ne_of_lt hll) e) key hval ks0 hb (items.size - 0) 0 _ _ (ar30) (Nat.zero_le _) (Heap.get?_push_size _ rfl) ⟨rfl, rfl⟩
  (keepsL hl fun b o e => Heap.get?_push_of_some _ e) (hS.keep fun o e => Heap.get?_push_of_some _ e) fun h' tk hk hS' => ?_
 exact wpAny_pure (h h' tk (fun a o ha e => hk a o ha (Nat.ne_of_lt (Heap.lt_size e)) (Heap.get?_push_of_some _ e)) hS')
theorem relaid0 (t : SetTable) (n : Nat) : t.relaid #[] n = some ({ mask := SetTable.sizeAbove n - 1, place := #[], dummies := #[], finger := t.finger, led := t.led, moves := t.movedTo (SetTable.sizeAbove n - 1), plain := t.plain }, #[]) := by
 unfold SetTable.relaid SetTable.laid SetTable.layClean;simp;intro a h;simp [h]
theorem above_small : ∀ n, n < 200 -> SetTable.sizeAbove n <= 16777216 := by decide +kernel
theorem up_dict {ident : String} {S d : Addr} {kvs : List (K × Value)} {Q : Unit -> Shared -> Prop} (hh : A.handled = none) (hm : s.heap.DictOf knd d kvs) (hd : (d == sysModules) = false) (hS : s.heap.get? S = some (setO0 w)) (hne : d ≠ S)
  (hsc : ∀ (k : K) (v : Value), knd.is k v = true -> v.scannable = true) (hb : kvs.length < 64)
  (h : ∀ h' tk, (KpD S s.heap h') -> SetX knd h' S (kvs.map (·.1)) -> Q () { s with heap := h', toks := tk }) : wpAny (model PP w) A (Builtin.Frozenset.updateFrom ident S (.ref d)) Q E s := by
 have hT : s.TypeIs (.ref d) "dict" := hm.typeIs;obtain ⟨o, es, ep, eo, hex, hdat, hk, hp, hnd⟩ := hm;have hsz : es.size = kvs.length := by rw [← hp.length]; simp
 unfold Builtin.Frozenset.updateFrom;refine wpAny_bind (anySet_no hT (by rw [isSubtype_type]; kernel_rfl) (by rw [isSubtype_type]; kernel_rfl) ?_);rw [if_neg Bool.false_ne_true];refine wpAny_bind (wpAny_typeOf hT ?_);rw [if_pos (by decide)];refine wpAny_bind (wpAny_rule ?_);refine wpAny_bind (m := Builtin.Frozenset.addrOf (.ref d)) (wpAny_pure (a := d) ?_);rw [if_neg (by rw [hd]; exact Bool.false_ne_true)];refine wpAny_bind (wpAny_dictEpoch eo hdat ?_);refine wpAny_bind (wpAny_dictEntries eo hdat ?_);have room : ∀ {Q' : Unit -> Shared -> Prop}, (∀ h', Heap.SameBut S s.heap h' -> SetX knd h' S [] -> Q' () { s with heap := h' }) -> wpAny (model PP w) A (setRoomFor S es.size) Q' E s := by
  intro Q' hQ';unfold setRoomFor;refine wpAny_bind (wpAny_setState_of hS rfl (by rfl) ?_);dsimp only;unfold SetTable.roomFor
  split
  ·rename_i wanted hw
   have hwn : wanted = (0 + es.size) * 2 := by
    split at hw
    ·exact (Option.some.inj hw).symm
    ·cases hw
   unfold setRelay;refine wpAny_bind (wpAny_setState_of hS rfl (by rfl) ?_);dsimp only;rw [if_neg (by rw [hwn, sizeLine_eq]; have := above_small ((0 + es.size) * 2) (ar203 hb hsz); exact Nat.not_lt.mpr this)];rw [show (#[] : Array (Int × Value)).map (·.1) = #[] from by simp, relaid0];refine wpAny_bind (Q := Q') (A := A) ?_;refine wpAny_of_eq (a := ((#[] : Array (Int × Value)), ({ mask := SetTable.sizeAbove wanted - 1, place := #[], dummies := #[], finger := 0, led := ledOf w, moves := (SetTable.fresh 0 0 (ledOf w)).movedTo (SetTable.sizeAbove wanted - 1), plain := true } : SetTable))) (by rfl) ?_;refine wpAny_storeSet_of hS rfl ?_ (by simp);obtain ⟨_, hX⟩ := SetX_store (knd := knd) (w := w) (ks := []) (es' := (#[] : Array (Int × Value))) (t' := { mask := SetTable.sizeAbove wanted - 1, place := #[], dummies := #[], finger := 0, led := ledOf w, moves := (SetTable.fresh 0 0 (ledOf w)).movedTo (SetTable.sizeAbove wanted - 1), plain := true })
    hS ⟨rfl, rfl, rfl⟩ rfl (fun e he => by simp at he) ⟨[], .nil, by simp, fun i k e h => by simp at h⟩ .nil (by simp [scanBound]) (by simp [SetTable.fits, SetTable.fill]) ⟨.nil, rfl, rfl⟩
   exact hQ' _ (Heap.SameBut.update ..) hX
  ·exact wpAny_pure (hQ' s.heap (Heap.SameBut.refl ..) (SetX.fresh hS))
 refine wpAny_bind (room fun h1 s1 hX1 => ?_);have eo1 : h1.get? d = some o := (s1.2 d hne).trans eo;refine wpAny_bind (wpAny_dictEntries (s := { s with heap := h1 }) eo1 hdat ?_);rw [Std.Legacy.Range.forIn_eq_forIn_range'];refine wpAny_bind (wpAny_forIn_list _ (fun rest _ s' => ∃ i h' tk, rest = List.range' i (es.size - i) ∧ i <= es.size ∧ s' = { s with heap := h', toks := tk } ∧ (KpD S s.heap h') ∧ SetX knd h' S ((kvs.map (·.1)).take i)) _ ?_ ?_ _ _ ?_)
 ·rintro x rest b s' ⟨i, h', tk, hr, hi, rfl, hk', hX⟩
  have hlt : i < es.size := by
   rcases Nat.lt_or_ge i es.size with h | h
   ·exact h
   ·rw [show es.size - i = 0 from Nat.sub_eq_zero_of_le h] at hr; simp at hr
  rw [show es.size - i = (es.size - (i + 1)) + 1 from (Nat.succ_pred_eq_of_pos (Nat.sub_pos_of_lt hlt)).symm, List.range'_succ] at hr;obtain ⟨rfl, rfl⟩ := List.cons.inj hr;have eo' : h'.get? d = some o := hk' _ _ hne eo;have hlk : x < kvs.length := by rw [← hsz]; exact hlt
  have hpk := hp.get? (i := x) (e := es[x]) (k := kvs[x].1) (v := kvs[x].2) (by simp [hlt]) (by simp [hlk]);obtain ⟨kk, hkk, hhash⟩ := hk es[x] (Array.getElem_mem hlt);obtain rfl : kk = kvs[x].1 := knd.inj _ _ _ hkk hpk.1;refine wpAny_bind (wpAny_dictEntries (s := { s with heap := h', toks := tk }) eo' hdat ?_);rw [Array.getElem?_eq_getElem hlt];dsimp only;rw [hhash];have htk : ((kvs.map (·.1)).take x).length + 1 < scanBound := by rw [List.length_take, List.length_map]; simp only [scanBound]; lia
  refine wpAny_bind (wpAny_holding (addHashed_x (knd := knd) (s := { s with heap := h', toks := tk }) hkk (hsc _ _ hkk) hX htk fun h2 hs2 hX2 => ?_));refine wpAny_bind (wpAny_dictEpoch (s := { s with heap := h2, toks := tk }) ((hs2.2 _ hne).trans eo') hdat ?_);rw [if_neg (by simp)];refine wpAny_pure ⟨x + 1, h2, tk, rfl, (hlt), rfl, fun a o ha e => (hs2.2 a ha).trans (hk' a o ha e), ?_⟩;have hget : (kvs.map (·.1))[x]? = some kvs[x].1 := by simp [hlk]
  have hni : kvs[x].1 ∉ (kvs.map (·.1)).take x := fun hm => by
   obtain ⟨j, hj⟩ := List.mem_iff_getElem?.mp hm;obtain ⟨hj1, hj2⟩ := List.getElem?_eq_some_iff.mp hj;rw [List.length_take] at hj1;rw [List.getElem?_take_of_lt (by lia)] at hj;have := (List.getElem?_inj (by lia) hnd).mp (hj.trans hget.symm)
   lia
  rw [List.take_add_one, hget];unfold addK at hX2;rw [if_neg hni] at hX2;exact hX2
 ·rintro b s' ⟨i, h', tk, hr, hi, rfl, hk', hX⟩
  have : es.size - i = 0 := by
   rcases Nat.eq_zero_or_pos (es.size - i) with h | h
   ·exact h
   ·have := congrArg List.length hr; rw [List.length_range'] at this; simp at this; exact ar224 this
  have hi' : i = es.size := (ar24 hi this);subst hi';rw [List.take_of_length_le (by simp [hsz])] at hX;exact wpAny_pure (h h' tk hk' hX)
 ·exact ⟨0, h1, s.toks, by simp, Nat.zero_le _, rfl, fun a o ha e => (s1.2 a ha).trans e, by simpa using hX1⟩
end
end Mine
end
section
open PySem PySem.W PySem.Calls PyProof.Rows
namespace Mine
section
variable {w : World} {A : Around} {E : Value -> Shared -> Prop} {s : Shared} {K : Type} [DecidableEq K] {knd : KeyKind PP w K}
theorem Iter.values {I d : Addr} {kvs : List (K × Value)} {ep : Nat} (hne : d ≠ I) : Iter w I (fun i o => o.cls = .type "dict_valueiterator" ∧ o.data = .fields #[.ref d, .int i 0, .int kvs.length 0, .int ep 0]) kvs.length (fun i v => ∃ k, kvs[i]? = some (k, v)) (fun h => h.DictAt knd d kvs ep) where
 keep := fun _ _ x k => x.keep k
 item := fun A i s Q E o hh hi ho hit hl hQ => by
  refine wpAny_pyNext_values_item (knd := knd) (k := kvs[i].1) (v := kvs[i].2) ⟨o, ho, hit.1, hit.2⟩ hl (by simp [hi]) fun h' hit' hs' => ?_;obtain ⟨o', ho', hit'⟩ := hit';exact hQ _ h' s.toks o' ⟨kvs[i].1, by simp [hi]⟩ ho' hit' fun a o ha e => (hs'.2 a ha).trans e
 done := fun A s Q E o hh ho hit hl hQ => wpAny_pyNext_values_end (knd := knd) hh ⟨o, ho, hit.1, hit.2⟩ hl (by simp) fun h' he' => hQ h' s.toks fun a o ha e => he' a o ha e
theorem up_values {ident : String} {S d v : Addr} {J : Type} [DecidableEq J] {kn : KeyKind PP w J} {ks0 : List J} {key : Nat -> J} {Q : Unit -> Shared -> Prop} {kx : List (K × Value)} (hh : A.handled = none) (hv : s.heap.IsValuesView v d) (hm : s.heap.DictOf knd d kx) (hS : SetX kn s.heap S ks0)
  (hne : d ≠ S) (hvS : v ≠ S) (hval : ∀ (i : Nat) (k : K) (x : Value), kx[i]? = some (k, x) -> kn.is (key i) x = true ∧ x.scannable = true) (hb : ks0.length + kx.length + 1 < scanBound)
  (h : ∀ h' tk, (KpD S s.heap h') -> SetX kn h' S (addN ks0 key kx.length) -> Q () { s with heap := h', toks := tk }) : wpAny (model PP w) A (Builtin.Frozenset.updateFrom ident S (.ref v)) Q E s := by
 have hT : s.TypeIs (.ref v) "dict_values" := hv.typeIs;obtain ⟨ep, hat⟩ := hm.dictAt;unfold Builtin.Frozenset.updateFrom;refine wpAny_bind (anySet_no hT (by rw [isSubtype_type]; kernel_rfl) (by rw [isSubtype_type]; kernel_rfl) ?_);rw [if_neg Bool.false_ne_true];refine wpAny_bind (wpAny_typeOf hT ?_);rw [if_neg (by decide)];refine wpAny_bind (wpAny_pyIter_values (knd := knd) hv hat ?_);obtain ⟨oS, eS⟩ : ∃ o, s.heap.get? S = some o := hS.ex;have hSl : S < s.heap.objs.size := Heap.lt_size eS;have hdl : d < s.heap.objs.size := hat.lt_size;refine wpAny_bind (wpAny_runValue ?_);refine loop_x (knd := kn) (Iter.values (knd := knd) (kvs := kx) (ep := ep) (Nat.ne_of_lt hdl)) hh (Nat.ne_of_lt hSl) (fun h1 h2 hs hk => hs.at' fun o e => hk _ _ hne (Nat.ne_of_lt hdl) e) key (fun i x ⟨k, e⟩ => hval i k x e) ks0 hb (kx.length - 0) 0 _ _ (ar30) (Nat.zero_le _) (Heap.get?_push_size _ rfl) ⟨rfl, rfl⟩
  (hat.keep fun b o e => Heap.get?_push_of_some _ e) (hS.keep fun o e => Heap.get?_push_of_some _ e) fun h' tk hk hS' => ?_
 exact wpAny_pure (h h' tk (fun a o ha e => hk a o ha (Nat.ne_of_lt (Heap.lt_size e)) (Heap.get?_push_of_some _ e)) hS')
theorem call_update_w {S r : Addr} {Q : Value -> Shared -> Prop} (hT : s.TypeIs (.ref S) "set") (hup : ∀ (A' : Around) (E' : Value -> Shared -> Prop) (Q' : Unit -> Shared -> Prop), A'.handled = A.handled -> (∀ s', Q .none s' -> Q' () s') -> wpAny (model PP w) A' (Builtin.Frozenset.updateFrom "set.update" S (.ref r)) Q' E' s) :
  wpAny (model PP w) A (call (.builtin "set.update") [.ref S, .ref r]) Q E s := by
 refine wpAny_call_entry PySem.F.slot_set_update hT PySem.F.entry_set_update ?_ (PySem.F.args_set_update_2 _ _);unfold Builtin.«set.update»;refine wpAny_bind (m := Builtin.Frozenset.manyOthers "update" _) (wpAny_pure (a := (S, [Value.ref r])) ?_);dsimp only;refine wpAny_bind (wpAny_forIn_list _ (fun l _ s' => (l = [Value.ref r] ∧ s' = s) ∨ (l = [] ∧ Q .none s')) _ ?_ ?_ _ _ (.inl ⟨rfl, rfl⟩))
 ·rintro x rest b s' (⟨hl, rfl⟩ | ⟨hl, _⟩)
  ·cases hl;exact wpAny_bind (hup _ _ _ rfl fun s' hQ => wpAny_pure (.inr ⟨rfl, hQ⟩))
  ·cases hl
 ·rintro b s' (⟨hl, rfl⟩ | ⟨_, hQ⟩)
  ·cases hl
  ·exact wpAny_pure ⟨_, rfl, hQ⟩
theorem len_x {a : Addr} {ks : List K} {Q : Value -> Shared -> Prop} (hS : SetX knd s.heap a ks) (h : ∀ t tk, Q (.int ks.length t) { s with toks := tk }) : wpAny (model PP w) A (call (.builtin "len") [.ref a]) Q E s := by
 obtain ⟨o, es, ep, t, ho, hex, hd, hel, ⟨kk, hp, hl, hk⟩, hnd, hb, hf, ht⟩ := hS;have hlen : ks.length = es.size := by rw [← hl, hp.length_eq]
 refine call_len_set ho hex hd hf (by simp only [scanBound] at hb; lia) ?_;have := h (s.toks + 1) (s.toks + 1 + 1);rw [hlen] at this;exact this
noncomputable def HeldOk (A : Around) (h : Heap) : Prop := A.handled = none ∨ ∃ x ox xs, A.handled = some (.ref x) ∧ h.get? x = some ox ∧ ox.data = .fields xs ∧ xs[2]? = some .none
theorem HeldOk.keep {h h' : Heap} (x : HeldOk A h) (k : Kp h h') : HeldOk A h' := x.imp id fun hz => by obtain ⟨x, ox, xs, e, h1, r⟩ := hz; exact ⟨x, ox, xs, e, k _ _ h1, r⟩
theorem stop_raise2 {α : Type} {Q : α -> Shared -> Prop} (hh : HeldOk A s.heap)
  (h : ∀ h' e, (Kp s.heap h') -> Shared.TypeIs { s with heap := h' } e "StopIteration" -> E e { s with heap := h' }) :
  wpAny (model PP w) A (newExc (.type "StopIteration") [] >>= fun e => (raiseNew e : Sem α)) Q E s := by
 rcases hh with hh | ⟨x, ox, xs, hh, hx, dx, x2⟩
 ·exact stop_raise hh h
 ·refine wpAny_bind ?_;simp only [newExc, newTuple];refine wpAny_bind (wpAny_newObj_type ?_ (by size_fits));refine wpAny_bind (m := firstArgMember _ _) (wpAny_of_eq (a := Value.none) (by first | rfl | (simp only [firstArgMember]; rfl)) ?_);refine wpAny_newObj_type ?_ (by size_fits);have hxl : x < s.heap.objs.size := Heap.lt_size hx;have hsz : ∀ (h1 : Heap) (o1 : Obj), (h1.push o1).objs.size = h1.objs.size + 1 := fun h1 o1 => Heap.size_push ..;refine raiseNew_held hh ?_ (Heap.get?_push_of_some _ (Heap.get?_push_of_some _ hx)) dx x2 (Heap.get?_push_size _ rfl) rfl (by simp; exact Nat.lt_of_lt_of_le (by decide) (Nat.le_add_right 6 _)) ?_
  ·show x ≠ (s.heap.push _).objs.size;rw [hsz]; exact Nat.ne_of_lt (Nat.lt_succ_of_lt hxl)
  ·refine h _ _ (fun b o e => ?_) ⟨_, Heap.get?_update_self _ (Heap.get?_push_size _ rfl) (by rfl), (Obj.cls_mapFields ..)⟩;refine (Heap.get?_update_other _ _ ?_).trans (Heap.get?_push_of_some _ (Heap.get?_push_of_some _ e))
   show (s.heap.push _).objs.size ≠ b;rw [hsz]; exact Nat.ne_of_gt (Nat.lt_succ_of_lt (Heap.lt_size e))
end
end Mine
end
section
open PySem PySem.W PySem.Calls PyProof.Rows
namespace Mine
section
variable {w : World} {A : Around} {E : Value -> Shared -> Prop} {s : Shared} {K : Type} [DecidableEq K] {knd : KeyKind PP w K}
theorem keys_end {it d : Addr} {i ep : Nat} {kvs : List (K × Value)} {Q : Option Value -> Shared -> Prop} (hh : HeldOk A s.heap) (hit : s.heap.IsKeyIter it d i kvs.length ep) (hm : s.heap.DictAt knd d kvs ep) (hx : kvs[i]? = none) (hhI : A.handled ≠ some (.ref it))
  (hQ : ∀ h', (KpD it s.heap h') -> Q none { s with heap := h' }) : wpAny (model PP w) A (pyNext (.ref it)) Q E s := by
 obtain ⟨o, ho, hc, hd⟩ := id hit;obtain ⟨od, es, hod, hcd, hdd, hk, hp, hn⟩ := id hm;unfold pyNext;refine wpAny_bind (wpAny_attempt (wpAny_callSpecial?_slot (name := Str.ofString "__next__") hit.typeIs F.slot_dict_keyiterator_next
  (wpAny_call_entry F.slot_dict_keyiterator_next hit.typeIs F.entry_dict_keyiterator_next ?_ (F.args_dict_keyiterator_next_1 _))))
 refine wpAny_bind (wpAny_pure ?_);refine wpAny_bind ?_;refine wpAny_bind ?_
 first | refine wpAny_bind (wpAny_typeNameOfWhole_keyiter hit.typeIs (wpAny_pure ?_)) | refine wpAny_bind (wpAny_typeNameOf_keyiter hit.typeIs (wpAny_pure ?_))
 refine wpAny_bind (wpAny_fieldsOf ho hd ?_);have hown : Builtin.Dict_items.ownsTuple "dict_keyiterator" = false := by decide
 rw [hown, if_neg Bool.false_ne_true];show wpAny _ _ (if (Value.ref d == Value.none) = true then _ else _) _ _ s;rw [if_neg (show ¬ ((Value.ref d == Value.none) = true) from Bool.false_ne_true)];refine wpAny_bind (wpAny_pure ?_);refine wpAny_bind (wpAny_dictEntries hod hdd ?_);have hsz : es.size = kvs.length := by rw [← hp.length]; simp
 rw [if_neg (by rw [hsz]; simp)];refine wpAny_bind (wpAny_pure ?_);refine wpAny_bind (wpAny_dictEpoch hod hdd ?_);rw [if_neg (by simp)];refine wpAny_pure ?_;have hge : es.size <= i := by rw [hsz]; simpa using hx
 dsimp only;rw [show (if ((i : Nat) : Int) < 0 then none else es[((i : Nat) : Int).toNat]?) = none by rw [if_neg ar8, Int.toNat_natCast, Array.getElem?_eq_none hge]];refine wpAny_bind ?_
 first | refine wpAny_bind (wpAny_typeNameOfWhole_keyiter hit.typeIs (wpAny_pure ?_)) | refine wpAny_bind (wpAny_typeNameOf_keyiter hit.typeIs (wpAny_pure ?_))
 show wpAny _ _ (setField (.ref it) 0 .none >>= _) _ _ s;refine wpAny_bind (wpAny_setField ho hd (by simp) ?_);have k1 : ∀ b o, b ≠ it -> s.heap.get? b = some o -> (s.heap.update it (Obj.mapFields (·.setIfInBounds 0 Value.none))).get? b = some o := fun b o hb e => (Heap.get?_update_other _ _ (Ne.symm hb)).trans e;have hh1 : HeldOk A.in1 (s.heap.update it (Obj.mapFields (·.setIfInBounds 0 Value.none))) := by
  rcases hh with hh | ⟨x, ox, xs, hh, hx, r⟩
  ·exact .inl hh
  ·exact .inr ⟨x, ox, xs, hh, k1 _ _ (fun e => hhI (by rw [hh, e])) hx, r⟩
 refine stop_raise2 (s := { s with heap := s.heap.update it (Obj.mapFields (·.setIfInBounds 0 Value.none)) }) hh1 fun h2 e k2 hT2 => ?_;refine wpAny_bind (wpAny_isInstance (T := "StopIteration") (b := true) hT2 isSubtype_stop ?_);exact wpAny_pure (hQ h2 fun b o hb e => k2 b o (k1 b o hb e))
theorem hint_keyiter {it : Addr} {Q : Bool -> Shared -> Prop} (hT : s.TypeIs (.ref it) "dict_keyiterator") (h : ∀ b, Q b s) : wpAny (model PP w) A (Builtin.List.listLengthHint (.ref it)) Q E s := by
 unfold Builtin.List.listLengthHint;refine wpAny_bind (wpAny_specialOf hT (by rw [typeLookup_type, builtinLookup_eq_fast]; kernel_rfl) (r := none) ?_);show wpAny _ _ (specialOf (Value.ref it) (Str.ofString "__length_hint__") >>= _) _ _ _;refine wpAny_bind (wpAny_specialOf hT (by rw [typeLookup_type, builtinLookup_eq_fast]; kernel_rfl) (r := some (.builtin "dict_keyiterator.__length_hint__")) ?_);generalize hid : ("dict_keyiterator.__length_hint__" : String) = id0
 wp_delta
 rw [show splitId id0 = some ("dict_keyiterator", "__length_hint__") from by subst hid; decide +kernel];subst hid;refine wpAny_bind (wpAny_isInstance (b := true) hT (by rw [isSubtype_type]; kernel_rfl) ?_);exact wpAny_pure (h _)
theorem hint_listiter {it : Addr} {Q : Bool -> Shared -> Prop} (hT : s.TypeIs (.ref it) "list_iterator") (h : ∀ b, Q b s) : wpAny (model PP w) A (Builtin.List.listLengthHint (.ref it)) Q E s := by
 unfold Builtin.List.listLengthHint;refine wpAny_bind (wpAny_specialOf hT F.nolen_li ?_);show wpAny _ _ (specialOf (Value.ref it) (Str.ofString "__length_hint__") >>= _) _ _ _;refine wpAny_bind (wpAny_specialOf hT F.hint_li ?_);generalize hid : ("list_iterator.__length_hint__" : String) = id0
 wp_delta
 rw [show splitId id0 = some ("list_iterator", "__length_hint__") from by subst hid; decide +kernel];subst hid;refine wpAny_bind (wpAny_isInstance (b := true) hT (by rw [isSubtype_type]; kernel_rfl) ?_);exact wpAny_pure (h _)
theorem hint_dict {d : Addr} {Q : Bool -> Shared -> Prop} (hT : s.TypeIs (.ref d) "dict") (h : ∀ b, Q b s) : wpAny (model PP w) A (Builtin.List.listLengthHint (.ref d)) Q E s := by
 unfold Builtin.List.listLengthHint;refine wpAny_bind (wpAny_specialOf hT PySem.F.slot_dict_len.lookup ?_);generalize hid : ("dict.__len__" : String) = id0
 wp_delta
 rw [show splitId id0 = some ("dict", "__len__") from by subst hid; decide +kernel];subst hid;refine wpAny_bind (wpAny_isInstance (T := "dict") (b := true) hT (by rw [isSubtype_type]; kernel_rfl) ?_);refine wpAny_ite_split (fun hab => absurd hab (by decide)) (fun _ => ?_);refine wpAny_ite_split (fun _ => ?_) (fun hab => absurd (by decide +kernel) hab);refine wpAny_bind (wpAny_typeOf hT ?_);exact wpAny_pure (h _)
structure Aside (z : Addr) (s s' : Shared) : Prop where
 keep : KpD z s.heap s'.heap
 gens : s'.gens = s.gens
 os : s'.os = s.os
theorem src_keyiter {it d : Addr} {ep : Nat} {kvs : List (K × Value)} (hh : HeldOk A s.heap) (hit : s.heap.IsKeyIter it d 0 kvs.length ep) (hm : s.heap.DictAt knd d kvs ep) (hne : d ≠ it) (hhI : A.handled ≠ some (.ref it)) (hn : kvs.length <= sizeLine) :
  Src w A s.heap.objs.size it it "dict_keyiterator" kvs.length (fun i v => ∃ k x, kvs[i]? = some (k, x) ∧ knd.is k v = true) (fun i s₁ => Aside it s s₁ ∧ HeldOk A s₁.heap ∧ s₁.heap.IsKeyIter it d i kvs.length ep ∧ s₁.heap.DictAt knd d kvs ep) (fun s' => Aside it s s') s := by
 obtain ⟨oi, ei, ri⟩ := id hit;obtain ⟨od, esd, ed, rd⟩ := id hm;have hl : it < s.heap.objs.size := Heap.lt_size ei;have hlt : ∀ {a : Addr} {o : Obj}, s.heap.get? a = some o -> a ≠ s.heap.objs.size := fun e => Nat.ne_of_lt (Heap.lt_size e);have hold : ∀ {h₁ h' : Heap}, HeldOk A h₁ -> (∀ y oy, A.handled = some (.ref y) -> y ≠ it -> h₁.get? y = some oy -> h'.get? y = some oy) -> HeldOk A h' := fun hk k => by
  rcases hk with hh | ⟨y, oy, ys, hh, hy, r⟩
  ·exact .inl hh
  ·exact .inr ⟨y, oy, ys, hh, k y oy hh (fun e => hhI (by rw [hh, e])) hy, r⟩
 constructor
 ·decide
 ·decide
 ·exact hn
 ·rintro i s₁ h' ⟨x, hk, hi, hd⟩ hs _
  refine ⟨⟨fun b o hb e => (hs.2 b (hlt e)).trans (x.keep b o hb e), x.gens, x.os⟩, ?_, hi.at fun o e => (hs.2 _ (hlt ei)).trans e, hd.at' fun o e => (hs.2 _ (hlt ed)).trans e⟩;rcases hh with hh | ⟨y, oy, ys, hh, hy, r⟩
  ·exact .inl hh
  ·exact .inr ⟨y, oy, ys, hh, (hs.2 _ (hlt hy)).trans (x.keep _ _ (fun (e : y = it) => hhI (by rw [hh, e])) hy), r⟩
 ·intro s₁ Q E o hg hos hdr hk _ _ _ hS hQ;exact wpAny_pyIter_keyiter (hit.at fun o e => hk _ _ e) (hQ _ ⟨⟨fun b o _ e => hk _ _ e, hg, hos⟩, hh.keep hk, hit.at fun o e => hk _ _ e, hm.at' fun o e => hk _ _ e⟩ hS (hit.at fun o e => hk _ _ e).typeIs)
 ·exact fun s₂ Q E st hT hQ => hint_keyiter hT hQ
 ·rintro i s₁ Q E o hi ⟨x, hk, hit1, hd⟩ hS hQ
  refine wpAny_pyNext_dict_item (knd := knd) (k := kvs[i].1) (v := kvs[i].2) hit1 hd (by simp [hi]) fun key h' hkey hit' hs => ?_;exact hQ key _ ⟨kvs[i].1, kvs[i].2, by simp [hi], hkey⟩ ⟨⟨fun b o hb e => (hs.2 b hb).trans (x.keep b o hb e), x.gens, x.os⟩, hold hk fun y oy _ hy e => (hs.2 y hy).trans e, hit', hd.at' fun o e => (hs.2 _ hne).trans e⟩ ((hs.2 _ (Nat.ne_of_gt hl)).trans hS)
 ·rintro s₁ Q E o ⟨x, hk, hit1, hd⟩ hS hQ
  exact keys_end hk hit1 hd (by simp) hhI fun h' k' => hQ _ ⟨fun b o hb e => k' b o hb (x.keep b o hb e), x.gens, x.os⟩ (k' _ _ (Nat.ne_of_gt hl) hS)
theorem src_dict {d : Addr} {kvs : List (K × Value)} (hh : HeldOk A s.heap) (hm : s.heap.DictOf knd d kvs) (hd : (d == sysModules) = false) (hn : kvs.length <= sizeLine) :
  ∃ St, Src w A s.heap.objs.size d (s.heap.objs.size + 1) "dict" kvs.length (fun i v => ∃ k x, kvs[i]? = some (k, x) ∧ knd.is k v = true) St (fun s' => Stp W0 s s') s := by
 obtain ⟨ep, hm⟩ := hm.dictAt;obtain ⟨od, esd, ed, rd⟩ := id hm;have hdl : d < s.heap.objs.size := Heap.lt_size ed;have hn1 : s.heap.get? (s.heap.objs.size + 1) = none := by
  cases q : s.heap.get? (s.heap.objs.size + 1) with
  | none => rfl
  | some _ => exact absurd (Heap.lt_size q) (Nat.not_lt.mpr (Nat.le_succ _))
 have hdI : d ≠ s.heap.objs.size + 1 := Nat.ne_of_lt (Nat.lt_succ_of_lt hdl);have hSI : s.heap.objs.size + 1 ≠ s.heap.objs.size := Nat.succ_ne_self _;have hx : ∀ y, A.handled = some (.ref y) -> y < s.heap.objs.size := fun y e => by
  rcases hh with hh | ⟨z, oz, _, hh, hz, _⟩
  ·rw [hh] at e; cases e
  ·rw [hh] at e; cases e; exact Heap.lt_size hz
 refine ⟨fun i s₁ => Stp W0 s s₁ ∧ s₁.heap.IsKeyIter (s.heap.objs.size + 1) d i kvs.length ep, ?_⟩
 constructor
 ·decide
 ·decide
 ·exact hn
 ·rintro i s₁ h' ⟨x, hi⟩ hs _
  exact ⟨stp_same x hs, hi.at fun o e => (hs.2 _ hSI).trans e⟩
 ·intro s₁ Q E o hg hos hdr hk hz _ hSl hS hQ;have hsz : s₁.heap.objs.size = s.heap.objs.size + 1 := Nat.le_antisymm hz hSl;refine wpAny_pyIter_dict (knd := knd) hd (hm.at' fun o e => hk _ _ e) ?_;rw [hsz];refine hQ _ ⟨⟨fun b o e => ⟨o, Heap.get?_push_of_some _ (hk _ _ e)⟩, fun b o _ e => Heap.get?_push_of_some _ (hk _ _ e), hg, hos⟩, ⟨{ cls := .type "dict_keyiterator", data := .fields #[.ref d, .int 0 0, .int kvs.length 0, .int ep 0] }, ?_, rfl, rfl⟩⟩ (Heap.get?_push_of_some _ hS) ⟨od, Heap.get?_push_of_some _ (hk _ _ ed), rd.1.1⟩;rw [← hsz]; exact Heap.get?_push_size _ rfl
 ·exact fun s₂ Q E st hT hQ => hint_dict hT hQ
 ·rintro i s₁ Q E o hi ⟨x, hit1⟩ hS hQ
  refine wpAny_pyNext_dict_item (knd := knd) (k := kvs[i].1) (v := kvs[i].2) hit1 (hm.at' fun o e => x.all _ _ e) (by simp [hi]) fun key h' hkey hit' hs => ?_;exact hQ key _ ⟨kvs[i].1, kvs[i].2, by simp [hi], hkey⟩ ⟨stp_all (tk := s₁.toks) (d := s₁.drawn) x fun b o e e' => (hs.2 b (fun q => by rw [q, hn1] at e; cases e)).trans e', hit'⟩ ((hs.2 _ (Ne.symm hSI)).trans hS)
 ·rintro s₁ Q E o ⟨x, hit1⟩ hS hQ
  refine keys_end (hh.keep x.all) hit1 (hm.at' fun o e => x.all _ _ e) (by simp) (fun e => absurd (hx _ e) (Nat.not_lt.mpr (Nat.le_succ _))) fun h' k' => hQ _ ?_ (k' _ _ (Ne.symm hSI) hS);exact stp_all (tk := s₁.toks) (d := s₁.drawn) x fun b o e e' => k' b o (fun q => by rw [q, hn1] at e; cases e) e'
theorem src_listiter {it l : Addr} {items : Array Value} (hh : A.handled = none) (hit : s.heap.IsListIter it l 0) (hl : s.heap.IsList l items) (hne : l ≠ it) (hn : items.size <= sizeLine) :
  Src w A s.heap.objs.size it it "list_iterator" items.size (fun i v => items[i]? = some v) (fun i s₁ => Aside it s s₁ ∧ s₁.heap.IsListIter it l i) (fun s' => Aside it s s') s := by
 obtain ⟨oi, ei, ri⟩ := id hit;obtain ⟨ol, el, rl⟩ := id hl;have hil : it < s.heap.objs.size := Heap.lt_size ei;have hlt : ∀ {a : Addr} {o : Obj}, s.heap.get? a = some o -> a ≠ s.heap.objs.size := fun e => Nat.ne_of_lt (Heap.lt_size e)
 constructor
 ·decide
 ·decide
 ·exact hn
 ·rintro i s₁ h' ⟨x, oj, ej, rj⟩ hs _
  exact ⟨⟨fun b o hb e => (hs.2 b (hlt e)).trans (x.keep b o hb e), x.gens, x.os⟩, oj, (hs.2 _ (hlt ei)).trans ej, rj⟩
 ·intro s₁ Q E o hg hos hdr hk _ _ _ hS hQ;have hT : s₁.TypeIs (.ref it) "list_iterator" := ⟨oi, hk _ _ ei, ri.1⟩;refine wpAny_pyIter_slot hT slot_listiter_iter (wpAny_call_entry slot_listiter_iter hT entry_listiter_iter ?_ (args_listiter_iter _));show wpAny _ _ (ret (.ref it)) _ _ _;exact wpAny_pure ⟨_, rfl, "list_iterator", _, hT, slot_listiter_next.lookup, hQ _ ⟨⟨fun b o _ e => hk _ _ e, hg, hos⟩, oi, hk _ _ ei, ri⟩ hS hT⟩
 ·exact fun s₂ Q E st hT hQ => hint_listiter hT hQ
 ·rintro i s₁ Q E o hi ⟨x, hit1⟩ hS hQ
  refine wpAny_pyNext_list_item (x := items[i]) hit1 ⟨ol, x.keep _ _ hne el, rl⟩ (by simp [hi]) fun h' hit' hs => ?_;exact hQ _ _ (by simp [hi]) ⟨⟨fun b o hb e => (hs.2 b hb).trans (x.keep b o hb e), x.gens, x.os⟩, hit'⟩ ((hs.2 _ (Nat.ne_of_gt hil)).trans hS)
 ·rintro s₁ Q E o ⟨x, hit1⟩ hS hQ
  exact wpAny_pyNext_list_end hh hit1 ⟨ol, x.keep _ _ hne el, rl⟩ (by simp) fun h' he => hQ _ ⟨fun b o hb e => he b o hb (x.keep b o hb e), x.gens, x.os⟩ (he _ _ (Nat.ne_of_gt hil) hS)
end
end Mine
end
section
open PySem PySem.W PySem.Calls PyProof.Rows
namespace Mine
noncomputable abbrev NoE : Value -> Shared -> Prop := fun _ _ => False
section
variable {w : World} {A : Around} {R : GenEnd} {Y : Protocol} {n : Nat} {s₀ : Shared} {c : Code} {fs : List Frame} {s : Shared} {env : Env}
 {K : Flow -> Sem PySem.Fin} {H : Value -> Sem PySem.Fin} {gd : Bool -> Bool} {lv : List Value -> List Value}
theorem seg_do {α : Type} {m : Sem α} {K : α -> Sem PySem.Fin} {H : Value -> Sem PySem.Fin} (h : wpAny (model PP w) (A.over c fs) m (fun a s' => Seg (model PP w) A R Y n s₀ c (K a) fs s') NoE s) : Seg (model PP w) A R Y n s₀ c (m.wrap K H gd lv) fs s :=
 seg_wrap (wpAny_mono h (ee) fun _ _ x => x.elim)
theorem seg_stmt {st : Stmt} {rest : List Stmt} (h : wpAny (model PP w) (A.over c fs) (exec st env) (fun f s' => f = .next ∧ Seg (model PP w) A R Y n s₀ c ((execs rest env).wrap K H gd lv) fs s') NoE s) :
  Seg (model PP w) A R Y n s₀ c ((execs (st :: rest) env).wrap K H gd lv) fs s :=
 seg_execs_cons (seg_do (wpAny_mono h (fun f s' ⟨e, h'⟩ => by subst e; exact h') ee))
theorem seg_If {test : PySem.Expr} {body orelse : List Stmt} {pos : Pos} (h : wpAny (model PP w) (A.over c fs) (isTrue test env (eval test env)) (fun b s' => if b = true then Seg (model PP w) A R Y n s₀ c ((execs body env).wrap K H gd lv) fs s' else Seg (model PP w) A R Y n s₀ c ((execs orelse env).wrap K H gd lv) fs s') NoE s) :
  Seg (model PP w) A R Y n s₀ c ((exec (.If test body orelse pos) env).wrap K H gd lv) fs s := by
 rw [exec_If];show Seg (model PP w) A R Y n s₀ c (.at pos fun _ => ((isTrue test env (eval test env)) >>= fun b => if b = true then execs body env else execs orelse env).wrap K H gd lv) fs s;refine seg_at ?_;rw [Sem.bind_eq_wrap', Sem.wrap_wrap];refine seg_do (wpAny_mono h (fun b s' hb => ?_) ee);cases b with
 | true => exact hb
 | false => exact hb
theorem seg_For {target iter : PySem.Expr} {body orelse : List Stmt} {pos : Pos}
  (h : wpAny (model PP w) (A.over c fs) (eval iter env) (fun x s₁ => wpAny (model PP w) (A.over c fs) (pyIter x) (fun it s₂ => ∀ p k, (∀ f, k (.ok f) = K f) ->
   Seg (model PP w) A R Y n s₀ (.forLoop target it body orelse env) ((model PP w).den (.forLoop target it body orelse env)) (.ret k none (gd false) (lv []) c p [] :: fs) s₂) NoE s₁) NoE s)
  (hs : ∀ x, foldedSetIterable iter env x = pure x := by intro _; rfl) :
  Seg (model PP w) A R Y n s₀ c ((exec (.For target iter body orelse pos) env).wrap K H gd lv) fs s := by
 rw [exec_For];show Seg (model PP w) A R Y n s₀ c (.at pos fun _ => (eval iter env >>= fun x => foldedSetIterable iter env x >>= fun x => standAt iter.pos >>= fun _ => holding [x] (pyIter x) >>= fun it => runOwn (.forLoop target it body orelse env) env).wrap K H gd lv) fs s;refine seg_at ?_;rw [Sem.bind_eq_wrap', Sem.wrap_wrap];refine seg_do (wpAny_mono h (fun x s₁ h₁ => ?_) ee);rw [hs x];show Seg (model PP w) A R Y n s₀ c (.at iter.pos fun _ => (holding [x] (pyIter x) >>= fun it => runOwn (.forLoop target it body orelse env) env).wrap K H _ _) fs s₁;refine seg_at ?_;rw [Sem.bind_eq_wrap', Sem.wrap_wrap];refine seg_do (wpAny_holding (wpAny_mono h₁ (fun it s₂ h₂ => ?_) ee));exact seg_call fun p => h₂ p _ fun f => rfl
theorem seg_forLoop {x : Str} {px : Pos} {it : Value} {body : List Stmt}
  (h : wpAny (model PP w) (A.over (.forLoop (.Name x px) it body [] env) fs) (pyNext it) (fun r s₁ => match r with
   | none => ∀ c', Seg (model PP w) A R Y n s₀ c' (leafOf (.ok .next)) fs s₁
   | some v => wpAny (model PP w) (A.over (.forLoop (.Name x px) it body [] env) fs) (storeName env x v) (fun _ s₂ => ∀ K H, K .next = (.pure (.again (.forLoop (.Name x px) it body [] env)) : Sem PySem.Fin) ->
     Seg (model PP w) A R Y n s₀ (.forLoop (.Name x px) it body [] env) ((execs body env).wrap K H id id) fs s₂) NoE s₁) NoE s)
  (ht : ∀ v, letOwnedTupleGo (.Name x px) it v = pure () := by intro _; rfl) :
  Seg (model PP w) A R Y n s₀ (.forLoop (.Name x px) it body [] env) ((model PP w).den (.forLoop (.Name x px) it body [] env)) fs s := by
 show Seg _ A R Y n s₀ _ ((forTurn (.Name x px) it body [] env).onRaise (fun x => do noteFrame x env; theTreesLotGoes x)) fs s;unfold forTurn;rw [Sem.onRaise_eq_wrap];rw [Sem.bind_eq_wrap', Sem.wrap_wrap];refine seg_do (wpAny_standAt ?_);rw [Sem.bind_eq_wrap', Sem.wrap_wrap];refine seg_do (wpAny_onRaise (wpAny_mono h (fun r s₁ h₁ => ?_) fun _ _ x => x.elim));cases r with
 | none =>
  refine seg_again rfl ?_;show Seg _ A R Y n s₀ _ (((execs [] env).onRaise (fun x => do noteFrame x env; theTreesLotGoes x)) >>= fun f => pure (.done f)) fs s₁;exact h₁ _
 | some v =>
  dsimp only;rw [ht v, PySem.assign_Name];rw [Sem.bind_eq_wrap', Sem.wrap_wrap];refine seg_do (wpAny_pure ?_);rw [Sem.bind_eq_wrap', Sem.wrap_wrap];refine seg_do (wpAny_bind (wpAny_standAt (wpAny_bindName (wpAny_mono h₁ (fun _ s₂ h₂ => ?_) ee))));rw [Sem.bind_eq_wrap', Sem.wrap_wrap];exact h₂ _ _ rfl
end
end Mine
end
section
open PySem PySem.W PySem.Calls PyProof.Rows
namespace Mine
structure Guar (B gB : Nat) (C : Addr) (s₀ s' : Shared) : Prop where
 keep : ∀ a o, a < B -> a ≠ C -> s₀.heap.get? a = some o -> s'.heap.get? a = some o
 gsize : s₀.gens.size <= s'.gens.size
 gens : ∀ g, g < gB -> s'.gens[g]? = s₀.gens[g]?
 bare : (∀ x ∈ s₀.gens, x.bare = true) -> ∀ x ∈ s'.gens, x.bare = true
 os : s'.os = s₀.os
theorem Guar.refl (B gB : Nat) (C : Addr) (s : Shared) : Guar B gB C s s := ⟨fun _ _ _ _ e => e, Nat.le_refl _, fun _ _ => rfl, fun h => h, rfl⟩
theorem Guar.trans {B gB : Nat} {C : Addr} {a b c : Shared} (x : Guar B gB C a b) (y : Guar B gB C b c) : Guar B gB C a c :=
 ⟨fun z o h1 h2 e => y.keep z o h1 h2 (x.keep z o h1 h2 e), Nat.le_trans x.gsize y.gsize, fun g hg => (y.gens g hg).trans (x.gens g hg), fun h => y.bare (x.bare h), y.os.trans x.os⟩
structure Asm (B gB : Nat) (C : Addr) (hD : Heap) (s' s'' : Shared) : Prop where
 keep : ∀ a o, (a = C ∨ B <= a ∨ a < 456 ∨ hD.get? a ≠ none) -> s'.heap.get? a = some o -> s''.heap.get? a = some o
 live : ∀ a o, a < B -> s'.heap.get? a = some o -> ∃ o', s''.heap.get? a = some o'
 gsize : s''.gens.size = s'.gens.size
 gens : ∀ g, gB <= g -> s''.gens[g]? = s'.gens[g]?
 os : s''.os = s'.os
theorem Asm.refl (B gB : Nat) (C : Addr) (hD : Heap) (s : Shared) : Asm B gB C hD s s := ⟨fun _ _ _ e => e, fun _ o _ e => ⟨o, e⟩, rfl, fun _ _ => rfl, rfl⟩
theorem Asm.trans {B gB : Nat} {C : Addr} {hD : Heap} {a b c : Shared} (x : Asm B gB C hD a b) (y : Asm B gB C hD b c) : Asm B gB C hD a c :=
 ⟨fun z o h e => y.keep z o h (x.keep z o h e), fun z o h e => (by obtain ⟨o', e'⟩ := x.live z o h e; exact y.live z o' h e'), y.gsize.trans x.gsize, fun g hg => (y.gens g hg).trans (x.gens g hg), y.os.trans x.os⟩
noncomputable def gY (tot : List Str) (B gB : Nat) (C : Addr) (hD : Heap) : Protocol := fun k s₀ v s' kap => (∃ x t, tot[tot.length - 1 - k]? = some x ∧ v = .str x t) ∧ Guar B gB C s₀ s' ∧ ∀ s'', Asm B gB C hD s' s'' -> kap (.send .none) s''
noncomputable def gR (B gB : Nat) (C : Addr) : GenEnd := fun n s₀ r s' => r = .ok (.ret .none) ∧ n = 0 ∧ Guar B gB C s₀ s'
noncomputable def Liv (w : World) (A : Around) (tot : List Str) (B gB : Nat) (C : Addr) (hD : Heap) (g j : Nat) (s : Shared) : Prop :=
 ∃ gs, s.gens[g]? = some gs ∧ g < gB ∧ ∀ s'', Asm B gB C hD s s'' -> gs.Goes (model PP w) A (gR B gB C) (gY tot B gB C hD) (tot.length - j) (.send .none) s''
theorem Liv.asm {w : World} {A : Around} {tot : List Str} {B gB : Nat} {C : Addr} {hD : Heap} {g j : Nat} {s s' : Shared} (x : Liv w A tot B gB C hD g j s) (y : Asm B gB C hD s s') (hg : s'.gens[g]? = s.gens[g]?) : Liv w A tot B gB C hD g j s' :=
 by obtain ⟨gs, e, hlt, h⟩ := x; exact ⟨gs, hg.trans e, hlt, fun s'' z => h s'' (y.trans z)⟩
theorem setGen_size (s : Shared) (g : Nat) (x : GenState) : (s.setGen g x).gens.size = s.gens.size := by unfold Shared.setGen; simp
theorem setGen_ne (s : Shared) {g i : Nat} (x : GenState) (h : i ≠ g) : (s.setGen g x).gens[i]? = s.gens[i]? := by
 unfold Shared.setGen; simp [Array.getElem?_setIfInBounds_ne (Ne.symm h)]
theorem setGen_at {s : Shared} {g : Nat} {y : GenState} (x : GenState) (h : s.gens[g]? = some y) : (s.setGen g x).gens[g]? = some x := by
 obtain ⟨hl, _⟩ := Array.getElem?_eq_some_iff.mp h;unfold Shared.setGen; simp [hl]
theorem setGen_bare {s : Shared} {g : Nat} {x : GenState} (hx : x.bare = true) (h : ∀ y ∈ s.gens, y.bare = true) : ∀ y ∈ (s.setGen g x).gens, y.bare = true := by
 intro y hy;obtain ⟨i, hi⟩ := Array.mem_iff_getElem?.mp hy
 by_cases e : i = g
 ·subst e
  by_cases hl : i < s.gens.size
  ·rw [setGen_at x (Array.getElem?_eq_getElem hl)] at hi; cases hi; exact hx
  ·rw [Array.getElem?_eq_none (by rw [setGen_size]; exact Nat.le_of_not_lt hl)] at hi; cases hi
 ·rw [setGen_ne s x e] at hi;exact h y (Array.mem_of_getElem? hi)
section
variable {w : World} {A : Around} {E : Value -> Shared -> Prop} {s : Shared}
structure GuarG (B gB : Nat) (C : Addr) (g : Nat) (s s' : Shared) : Prop where
 keep : ∀ a o, a < B -> a ≠ C -> s.heap.get? a = some o -> s'.heap.get? a = some o
 gsize : s.gens.size <= s'.gens.size
 gens : ∀ i, i < gB -> i ≠ g -> s'.gens[i]? = s.gens[i]?
 bare : (∀ x ∈ s.gens, x.bare = true) -> ∀ x ∈ s'.gens, x.bare = true
 os : s'.os = s.os
theorem GuarG.of {B gB : Nat} {C : Addr} {g : Nat} {s s₁ : Shared} {x y : GenState} {h' : Heap} (z : Guar B gB C (s.setGen g x) s₁) (hx : x.bare = true) (hy : y.bare = true) (hk : Kp s₁.heap h') : GuarG B gB C g s { s₁.setGen g y with heap := h' } :=
 ⟨fun a o h1 h2 e => hk _ _ (z.keep a o h1 h2 e), by have := z.gsize; rw [setGen_size] at this; exact Nat.le_trans this (Nat.le_of_eq (setGen_size s₁ g y).symm),
  fun i h1 h2 => (setGen_ne s₁ y h2).trans ((z.gens i h1).trans (setGen_ne s x h2)), fun h => setGen_bare hy (z.bare (setGen_bare hx h)), z.os⟩
theorem gen_next {a C : Addr} {g j B gB : Nat} {tot : List Str} {hD : Heap} {Q : Option Value -> Shared -> Prop} (hh : A.handled = none) (hl : s.heap.NoLimit) (hroom : A.depth < recursionLimit) (hg : s.heap.IsGen a g) (L : Liv w A.in1 tot B gB C hD g j s) (hj : j <= tot.length)
  (hY : ∀ x t s', tot[j]? = some x -> GuarG B gB C g s s' -> Liv w A.in1 tot B gB C hD g (j + 1) s' -> Q (some (.str x t)) s')
  (hR : j = tot.length -> ∀ s', GuarG B gB C g s s' -> Q none s') : wpAny (model PP w) A (pyNext (.ref a)) Q E s := by
 obtain ⟨gs, hgs, hlt, hgo⟩ := L;have hasm : Asm B gB C hD s (s.setGen g .running) := ⟨fun _ _ _ e => e, fun _ o _ e => ⟨o, e⟩, setGen_size _ _ _, fun i hi => setGen_ne _ _ (ar22 hlt hi), rfl⟩;have hgo := hgo _ hasm;unfold pyNext;refine wpAny_bind (wpAny_attempt (wpAny_callSpecial?_slot (name := Str.ofString "__next__") hg.typeIs slot_gen_next
  (wpAny_call_entry slot_gen_next hg.typeIs entry_gen_next ?_ (args_gen_next _))))
 show wpAny _ A.in1 (Builtin.Generator.genWake (.ref a) (.send .none)) _ _ s;unfold Builtin.Generator.genWake;refine wpAny_bind (wpAny_holding (wpAny_genNumber hg (wpAny_bind (wpAny_genState hgs ?_))));cases gs with
 | running => exact hgo.elim
 | finished => exact hgo.elim
 | _ =>
  refine wpAny_bind (wpAny_roomToWake hl hroom ?_);show wpAny _ A.in1 (.resume g (.send .none) [] _) _ _ s;refine wpAny_resumeQ hgs hgo (fun x s₁ hx => ?_) (fun v s₁ gs' hb hv => ?_)
  ·obtain ⟨rfl, hn0, hG⟩ := hx;show wpAny _ A.in1 (newExc (.type "StopIteration") [] >>= _) _ _ _;refine wpAny_bind ?_;simp only [newExc, newTuple];refine wpAny_bind (wpAny_newObj_type ?_ (by size_fits));refine wpAny_bind (m := firstArgMember _ _) (wpAny_of_eq (a := Value.none) (by first | rfl | (simp only [firstArgMember]; rfl)) ?_);refine wpAny_newObj_type ?_ (by size_fits);simp only [raiseNew];refine wpAny_bind (wpAny_bind (wpAny_handled ?_));rw [show A.in1.handled = none from hh];refine wpAny_throw ?_;refine wpAny_bind (wpAny_isInstance (T := "StopIteration") (b := true) ⟨_, Heap.get?_push_size _ rfl, rfl⟩ isSubtype_stop ?_);refine wpAny_pure (hR (ar24 hj hn0) _ (GuarG.of (x := .running) (y := .finished) hG rfl rfl (fun b o e => Heap.get?_push_of_some _ (Heap.get?_push_of_some _ e))))
  ·obtain ⟨⟨x, t, hx, rfl⟩, hG, hkap⟩ := hv;refine wpAny_pure ⟨_, rfl, wpAny_pure ?_⟩;cases hn : tot.length - j with
   | zero =>
    rw [hn] at hkap;exact (hkap s₁ (Asm.refl ..)).elim
   | succ m =>
    rw [hn] at hkap hx;have hjx : tot.length - 1 - (m + 1 - 1) = j := (ar44 hn);rw [hjx] at hx;have hG' : GuarG B gB C g s (s₁.setGen g gs') := by
     have := GuarG.of (x := .running) (y := gs') (h' := s₁.heap) hG rfl hb (ee);exact this
    have hg1 : (s₁.setGen g gs').gens[g]? = some gs' := by
     have h1 := hG.gens g hlt;rw [setGen_at _ hgs] at h1;exact setGen_at _ h1
    refine hY x t _ hx hG' ⟨gs', hg1, hlt, fun s'' z => ?_⟩;have hm : tot.length - (j + 1) = m := (ar3 hn);rw [hm];exact hkap s'' (Asm.trans (show Asm B gB C hD s₁ (s₁.setGen g gs') from ⟨fun _ _ _ e => e, fun _ o _ e => ⟨o, e⟩, setGen_size _ _ _, fun i hi => setGen_ne _ _ (ar22 hlt hi), rfl⟩) z)
end
end Mine
end
section
open PySem PySem.W PySem.Calls PyProof.Rows PySem.Spec
namespace Mine
theorem DC.look_eq {c : DC} {R : RG} (hr : c.rows = encR (rowsOf R)) (w : WF R) (q : Int) : (c.look q = none -> arcsOf R q = []) ∧ ∀ x, c.look q = some x -> keyOf x.2 = enc (arcsOf R q) := by
 have h1 : (c.look q).map (fun x => keyOf x.2) = ((rowsOf R).find? fun x => decide (x.1 = q)).map fun x => enc x.2 := by
  have e1 : (c.rows.find? fun x => decide (x.1 = q)).map (·.2) = (c.look q).map fun x => keyOf x.2 := by
   unfold DC.rows DC.look;rw [List.find?_map, Option.map_map, Option.map_map]
   rfl
  rw [← e1, hr];unfold encR;rw [List.find?_map, Option.map_map]
  rfl
 rw [rows_find w] at h1
 by_cases h : arcsOf R q = []
 ·rw [if_pos h] at h1;refine ⟨fun _ => h, fun x hx => ?_⟩;rw [hx] at h1; cases h1
 ·rw [if_neg h] at h1;refine ⟨fun hn => ?_, fun x hx => ?_⟩
  ·rw [hn] at h1; cases h1
  ·rw [hx] at h1
   simpa using h1
theorem sorted_eq_str {a b : List Str} (ha : sortedS a = true) (hb : b.Pairwise fun x y => x.cps.toList < y.cps.toList) (h : a.Perm b) : a = b :=
 h.eq_of_pairwise (fun x y _ _ h1 h2 => by
  have h3 : x.cps.toList = y.cps.toList := List.le_antisymm (List.not_lt.mp h1) (List.not_lt.mp h2);rw [← mkS_list x, ← mkS_list y, h3]) (sortedS_pw ha) (hb.imp fun hlt hgt => List.lt_irrefl _ (List.lt_trans hlt hgt))
theorem keys_of_acc {n : Nat} {kvs : List (Str × Value)} {w : World} {acc : Array Value} (h : ItemsOf (fun i v => ∃ k x, kvs[i]? = some (k, x) ∧ (strKind PP w).is k v = true) acc kvs.length) : StrsAre acc.toList (kvs.map (·.1)) := by
 obtain ⟨hs, hi⟩ := h;have : ∀ (l : List Value) (ks : List (Str × Value)), l.length = ks.length -> (∀ (i : Nat) (v : Value), l[i]? = some v -> ∃ k x, ks[i]? = some (k, x) ∧ (strKind PP w).is k v = true) -> StrsAre l (ks.map (·.1)) := by
  intro l
  induction l with
  | nil => intro ks hl _; cases ks with | nil => exact .nil | cons _ _ => simp at hl
  | cons v l ih =>
   intro ks hl hx;cases ks with
   | nil => simp at hl
   | cons p r =>
    obtain ⟨k, x, e, hk⟩ := hx 0 v rfl;have e' : p = (k, x) := by simpa using e
    subst e';have hv : ∃ t, v = .str k t := by
     exact Value.isStrOf_shape hk
    obtain ⟨t, rfl⟩ := hv;exact StrsAre.cons _ _ (ih r (by simpa using hl) fun i v h => by simpa using hx (i + 1) v (by simpa using h))
 exact this _ _ (by simpa using hs) fun i v h => hi i v (by simpa using h)
theorem strs_of_acc {n : Nat} {ss : List Str} {w : World} {acc : Array Value} (h : ItemsOf (fun i v => ∃ k, ss[i]? = some k ∧ (strKind PP w).is k v = true) acc ss.length) : StrsAre acc.toList ss := by
 have := keys_of_acc (n := n) (w := w) (kvs := ss.map fun s => (s, Value.none)) (acc := acc) ⟨by simpa using h.1, fun i v hv => by
  obtain ⟨k, e, hk⟩ := h.2 i v hv;exact ⟨k, .none, by simp [e], hk⟩⟩
 rw [List.map_map, show ((fun x : Str × Value => x.1) ∘ fun s : Str => (s, Value.none)) = id from rfl, List.map_id] at this;exact this
noncomputable def LabIt (w : World) (h : Heap) (it : Addr) (ss : List Str) : Prop :=
 (∃ d kvs ep, h.IsKeyIter it d 0 kvs.length ep ∧ h.DictAt (strKind PP w) d kvs ep ∧ kvs.map (·.1) = ss ∧ d ≠ it) ∨ ∃ l, h.IsListIter it l 0 ∧ h.IsList l #[] ∧ l ≠ it ∧ ss = []
section
variable {w : World} {mg mb : Str -> Option Value} {s : Shared} {A : Around} {E : Value -> Shared -> Prop}
theorem iter_w {v : Value} {Q : Value -> Shared -> Prop} (h : wpAny (model PP w) A.in1 (pyIter v) Q E s) : wpAny (model PP w) A (call (.builtin "iter") [v]) Q E s := by
 refine call_function_entry (by decide +kernel) (by decide +kernel) kdk_entry_iter (kdk_args_iter _) ?_;unfold Builtin.«iter»;refine wpAny_bind (m := someArgs "iter" 1 2 _) (wpAny_of_eq (a := [v]) (by first | rfl | kernel_rfl!) ?_);show wpAny _ _ (pyIter v >>= _) _ _ _;exact wpAny_bind (wpAny_mono h (fun it s' hQ => wpAny_pure ⟨_, rfl, hQ⟩) ee)
theorem m_list0 {L : Addr} {sE : Shared} {W : Addr -> Prop} {H : List (Addr × Obj)} {b : Heap} {m : Str -> Option Value} {env : Env} {pos : Pos} {Q : Value -> Shared -> Prop} (F : Fx w mg mb L sE W H b s m)
  (h : ∀ s' a, Fx w mg mb L sE W H b s' m -> s'.heap.get? a = some (listO [] 0) -> b.get? a = none -> a ∉ L :: H.map (·.1) -> 456 <= a -> s.heap.get? a = none -> Stp W0 s s' -> Q (.ref a) s') :
  wpAny (model PP w) A (eval (.List [] pos) env) Q E s := wpAny_List (wpAny_pure ⟨by simp, F.alloc (Q := fun a s' => Q (.ref a) s') rfl h⟩)
theorem get_labels_spec {c : DC} {R : RG} {q : Int} {tq : Tok} {Q : Value -> Shared -> Prop} {k : Nat} (g : G w mg mb s.heap) (hA : Rm A k) (D : DFAAt w s.heap c) (hr : c.rows = encR (rowsOf R)) (hw : WF R)
  (h : ∀ s' it, Stp W0 s s' -> s.heap.get? it = none -> 456 <= it -> (∀ a o, s.heap.get? a = some o -> a < it) -> LabIt w s'.heap it ((arcsOf R q).map fun x => lab x.1) -> Q (.ref it) s') : wpAny (model PP w) A (call (.ref 136) [.ref c.x.m, .int q tq]) Q E s := by
 refine wpAny_call (m_call W0 [("self", .ref c.x.m), ("src", .int q tq)] g hA.room (by rfl) (by kernel_rfl) (.of_eq (by rfl)) (locs (by rfl)) (fun s₁ F => ?_) (by decide));refine wpAny_execs_cons (wpAny_Return_some (Call_ (m_bi F (ng_iter w) boot_iter (m_cwb (args_cons (MethodCall_ (m_attr (m_local F (by rfl) (o_transitions F D.obj fun s F => gm_dget (D.T.keep F.keep) (m_cwb (args_cons (m_local F (by rfl) (args_cons (m_list0 F fun s x F ex _ hx lx hnx _ => ?_))))))))))))));refine args_nil ?_;refine d_get2 F D.loT (intKind_is _ _ _ _) (D.T.keep F.keep) fun s F hs => ?_;rw [← hs] at ex;refine (F.rebase) _ fun b' F kb kn => ?_;have D' := D.keeps kb;have ex' := kn x _ hx ex;refine args_nil (iter_w ?_);obtain ⟨h1, h2⟩ := DC.look_eq hr hw q;rw [c.valueAt_kvs];cases hl : c.look q with
 | none =>
  rw [h1 hl] at h;show wpAny _ _ (pyIter (.ref x)) _ _ _;refine wpAny_pyIter_list (items := #[]) ⟨_, F.keep _ _ ex', rfl, _, rfl⟩ ?_;have hn := F.none_of (Nat.le_refl _);refine h _ _ (F.grow (.of fun _ _ e => Heap.get?_push_of_some _ e)).done hn.2.2.1 hn.2.2.2 (fun a o e => F.tot.lt e) (.inr ⟨x, ⟨_, Heap.get?_push_size _ rfl, rfl, rfl⟩, ⟨_, Heap.get?_push_of_some _ (F.keep _ _ ex'), rfl, _, rfl⟩, Nat.ne_of_lt (Heap.lt_size (F.keep _ _ ex')), rfl⟩)
 | some z =>
  have hk := h2 z hl;obtain ⟨hd, lz⟩ := D'.row hl;obtain ⟨ep, hd⟩ := hd.dictAt;show wpAny _ _ (pyIter (.ref z.1)) _ _ _;refine wpAny_pyIter_dict (sysM lz) (hd.keep F.keep) ?_;have hn := F.none_of (Nat.le_refl _);have hx2 := (hd.keep F.keep);refine h _ _ (F.grow (.of fun _ _ e => Heap.get?_push_of_some _ e)).done hn.2.2.1 hn.2.2.2 (fun a o e => F.tot.lt e) (.inl ⟨z.1, intPairs z.2, ep, ⟨_, Heap.get?_push_size _ rfl, rfl, rfl⟩, hx2.push _, ?_, Nat.ne_of_lt hx2.lt_size⟩);have : (keyOf z.2).map (·.1) = (enc (arcsOf R q)).map (·.1) := by rw [hk]
  unfold keyOf enc at this;rw [List.map_map, List.map_map] at this
  show ((z.2.map fun x => (x.1, Value.int x.2.1 x.2.2)).map (·.1)) = _;rw [List.map_map];exact this
theorem sorted_labels {it : Addr} {ls : List Nat} {Q : Value -> Shared -> Prop} (hh : A.handled = none) (hL : LabIt w s.heap it (ls.map lab)) (hasc : ls.Pairwise (· < ·)) (hlen : ls.length < 64)
  (h : ∀ s' B out, Aside it s s' -> s'.heap.IsList B out -> s.heap.objs.size <= B -> StrsAre out.toList (ls.map lab) -> Q (.ref B) s') : wpAny (model PP w) A (call (.builtin "sorted") [.ref it]) Q E s := by
 have hascS : (ls.map lab).Pairwise fun x y => x.cps.toList < y.cps.toList := by
  rw [List.pairwise_map];refine hasc.imp fun {a b} hab => ?_;show [a] < [b];exact List.Lex.rel hab
 have fin : ∀ s1 acc c, Aside it s s1 -> s1.heap.get? s.heap.objs.size = some (lstO acc c) -> StrsAre acc.toList (ls.map lab) ->
   acc.toList.length < 64 ∧ ∃ ss, StrsAre acc.toList ss ∧ ∀ (out : Array Value) (ss' : List Str), StrsAre out.toList ss' -> ss'.Perm ss -> sortedS ss' = true ->
   ∀ h2, (Kp s1.heap h2) -> h2.IsList s1.heap.objs.size out -> Q (.ref s1.heap.objs.size) { s1 with heap := h2 } := by
  intro s1 acc c ha hS hacc;refine ⟨by rw [hacc.len_eq, List.length_map]; exact hlen, _, hacc, fun out ss' h1 h2 h3 hp hk hl => ?_⟩;have e := sorted_eq_str h3 hascS h2;subst e;exact h _ _ out ⟨fun b o hb e => hk _ _ (ha.keep b o hb e), ha.gens, ha.os⟩ hl (Nat.le_of_lt (Heap.lt_size hS)) h1
 refine sorted_coll_strs ?_;rcases hL with ⟨d, kvs, ep, hit, hm, hkv, hne⟩ | ⟨l, hit, hl, hne, he⟩
 ·have hkl : kvs.length = ls.length := by rw [← List.length_map (f := (·.1)), hkv, List.length_map]
  refine collect_w (src_keyiter (A := A.in1.in1) (.inl hh) hit hm hne (by rw [show A.in1.in1.handled = none from hh]; simp) (by rw [sizeLine_eq]; exact ar58 hlen hkl)) hit.typeIs fun s' acc c ha hS hI => ?_;refine fin s' acc c ha hS ?_;rw [← hkv];exact keys_of_acc (n := 0) hI
 ·obtain ⟨oi, ei, ri⟩ := id hit;refine collect_w (src_listiter (A := A.in1.in1) hh hit hl hne (by rw [sizeLine_eq]; simp)) ⟨oi, ei, ri.1⟩ fun s' acc c ha hS hI => ?_;refine fin s' acc c ha hS ?_;have : acc.toList = [] := by
   have := hI.1;simp at this;rw [this]
  rw [this, he];exact .nil
end
end Mine
end
section
open PySem PySem.W PySem.Calls PyProof.Rows PySem.Spec
namespace Mine
section
variable {w : World} {mg mb : Str -> Option Value} {s : Shared} {A : Around} {E : Value -> Shared -> Prop}
theorem m_callG {R : Result -> Shared -> Prop} {f : Addr} {name qual : Str} {params : Arguments} {body : List Stmt} {scope : Scope} {dV kV doc pm cdv ct oc : Value} {an od : Option Addr} {osl : Array (Option Value)} {args : Args}
  (binds : List (Str × Value)) (g : G w mg mb s.heap) (hroom : A.depth < recursionLimit)
  (ho : (KK w).lookup f = some ⟨oc, od, .func (fnOf name qual params body scope dV kV doc pm an cdv ct), osl⟩) (hcd : codeIn (KK w) cdv qual = true)
  (hbind : BindsTo s (fnOf name qual params body scope dV kV doc pm an cdv ct) args binds) (hloc : ∀ y ∈ binds, scope.names.lookup y.1 = some .local)
  (h : ∀ s' C a, G w mg mb s'.heap -> Kp s.heap s'.heap -> s.heap.get? C = none -> 456 <= C -> C < a -> s.heap.objs.size <= C -> s'.heap.Ns C (fun y => binds.reverse.lookup y) -> s'.heap.IsGen a s.gens.size ->
   s'.gens = s.gens.push (.fresh (.func body (envOf qual scope C f cdv))) -> s'.os = s.os -> R (.ok (.ret (.ref a))) s')
  (hcell : ∀ x ∈ scope.names, x.2 ≠ .cell) (hco : scope.isCoroutine = false := by rfl) (hgen : scope.isGenerator = true := by rfl) (hk : scope.kind = .function := by rfl) :
  codeAny (model PP w) A (.call (.ref f) args) R s := by
 refine codeAny_call_generator (fd := fnOf name qual params body scope dV kV doc pm an cdv ct) (body := body) hroom (g.X _ _ ho) rfl hco hgen rfl (codeRec_of g.X hcd) (hbind _ _ _ _ ?_);refine wpAny_newFunctionEnv hcell hloc (fun h₀ hns₀ hsb₀ => ?_) hk;have hz : h₀.objs.size = s.heap.objs.size + 1 := by rw [hsb₀.1, Heap.size_push]
 have k1 : Kp s.heap h₀ := fun b o e => hsb₀.extBut b o (Nat.ne_of_lt (Heap.lt_size e)) (Heap.get?_push_of_some _ e);refine ⟨g.lim.fresh _ hsb₀, ?_⟩;refine h _ s.heap.objs.size _ (g.low fun b o _ e => Heap.get?_push_of_some _ (k1 b o e)) (fun b o e => Heap.get?_push_of_some _ (k1 b o e)) (Heap.get?_size_none _) g.size ?_ (Nat.le_refl _) (hns₀.push _) ⟨_, _, _, Heap.get?_push_size _ rfl, rfl, rfl, rfl⟩ rfl rfl;show s.heap.objs.size < h₀.objs.size;rw [hz]; exact Nat.lt_succ_self _
structure GS (w : World) (mg mb : Str -> Option Value) (hD : Heap) (C : Addr) (z gB : Nat) (s₀ s : Shared) (m : Str -> Option Value) : Prop where
 g : G w mg mb s.heap
 lo : 456 <= C
 ns : s.heap.Ns C m
 hd : Kp hD s.heap
 hC : hD.get? C = none
 guar : Guar (z + 1) gB C s₀ s
 gs : gB <= s.gens.size
 zz : ∃ o, s.heap.get? z = some o
 zC : z ≠ C
variable {hD : Heap} {C : Addr} {z gB : Nat} {s₀ s' : Shared} {m m' : Str -> Option Value} {b : Heap} {H : List (Addr × Obj)}
theorem GS.fx (x : GS w mg mb hD C z gB s₀ s m) : Fx w mg mb C s W0 [] (hideAll s.heap [C]) s m :=
 ⟨x.g, x.lo, x.ns, ⟨fun b o e => ⟨o, e⟩, fun b o _ e => e, rfl, rfl⟩, fun a o e => of_hideAll _ e, hideAll_none _ (by simp), fun p hp => nomatch hp⟩
theorem GS.inb (x : GS w mg mb hD C z gB s₀ s m) {a : Addr} {o : Obj} (e : s.heap.get? a = some o) (h : a ≠ C) : (hideAll s.heap [C]).get? a = some o := hideAll_get _ e (by simpa using h)
theorem GS.hdb (x : GS w mg mb hD C z gB s₀ s m) : Kp hD (hideAll s.heap [C]) := fun a o e => x.inb (x.hd a o e) (fun q => by rw [q, x.hC] at e; cases e)
theorem GS.step (x : GS w mg mb hD C z gB s₀ s m) (F : Fx w mg mb C s W0 H b s' m') : GS w mg mb hD C z gB s₀ s' m' := by
 have k : KpD C s.heap s'.heap := fun a o h e => F.tot.keep a o (.inr (fun h' => h'.elim h id)) e;refine ⟨F.g, x.lo, F.ns, fun a o e => k a o (fun q => by rw [q, x.hC] at e; cases e) (x.hd a o e), x.hC, x.guar.trans ⟨fun a o _ h e => k a o h e, ?_, fun g _ => ?_, ?_, F.tot.os⟩, ?_, ?_, x.zC⟩
 ·rw [F.tot.gens]; exact Nat.le_refl _
 ·rw [F.tot.gens]
 ·rw [F.tot.gens]; exact fun h => h
 ·rw [F.tot.gens]; exact x.gs
 ·obtain ⟨o, e⟩ := x.zz; exact ⟨o, k z o x.zC e⟩
theorem GS.grow (x : GS w mg mb hD C z gB s₀ s m) (k : Kp s.heap s'.heap) (hg : ∀ g, g < s.gens.size -> s'.gens[g]? = s.gens[g]?) (hz : s.gens.size <= s'.gens.size) (hb : (∀ x ∈ s.gens, x.bare = true) -> ∀ x ∈ s'.gens, x.bare = true) (ho : s'.os = s.os) : GS w mg mb hD C z gB s₀ s' m :=
 ⟨x.g.low fun a o _ e => k a o e, x.lo, x.ns.keeps k, fun a o e => k a o (x.hd a o e), x.hC, x.guar.trans ⟨fun a o _ _ e => k a o e, hz, fun g hg' => hg g (Nat.lt_of_lt_of_le hg' x.gs), hb, ho⟩, Nat.le_trans x.gs hz, (by obtain ⟨o, e⟩ := x.zz; exact ⟨o, k z o e⟩), x.zC⟩
theorem GS.aside (x : GS w mg mb hD C z gB s₀ s m) {I : Addr} (k : KpD I s.heap s'.heap) (hI : z < I) (hIC : I ≠ C) (hID : hD.get? I = none) (lo : 456 <= I) (hg : s'.gens = s.gens) (ho : s'.os = s.os) : GS w mg mb hD C z gB s₀ s' m := by
 refine ⟨x.g.low fun a o ha e => k a o (Nat.ne_of_lt (Nat.lt_of_lt_of_le ha lo)) e, x.lo, ?_, fun a o e => k a o (fun q => by rw [q, hID] at e; cases e) (x.hd a o e), x.hC, x.guar.trans ⟨fun a o h1 _ e => k a o (Nat.ne_of_lt (Nat.lt_of_lt_of_le h1 hI)) e, by rw [hg]; exact Nat.le_refl _, fun g _ => by rw [hg], by rw [hg]; exact fun h => h, ho⟩, by rw [hg]; exact x.gs, ?_, x.zC⟩
 ·obtain ⟨o, es, ep, e, r⟩ := x.ns; exact ⟨o, es, ep, k _ _ (Ne.symm hIC) e, r⟩
 ·obtain ⟨o, e⟩ := x.zz; exact ⟨o, k z o (Nat.ne_of_lt hI) e⟩
theorem GS.new (x : GS w mg mb hD C z gB s₀ s m) {a : Addr} (h : s.heap.objs.size <= a) : z < a ∧ a ≠ C ∧ hD.get? a = none ∧ 456 <= a := by
 obtain ⟨o, e⟩ := x.zz;refine ⟨Nat.lt_of_lt_of_le (Heap.lt_size e) h, fun q => absurd x.ns.lt (Nat.not_lt.mpr (q ▸ h)), ?_, Nat.le_trans x.g.size h⟩;cases q : hD.get? a with
 | none => rfl
 | some o' => exact absurd (Heap.lt_size (x.hd a o' q)) (Nat.not_lt.mpr h)
end
end Mine
end
section
open PySem PySem.W PySem.Calls PyProof.Rows PySem.Spec
namespace Mine
section
variable {w : World} {mg mb : Str -> Option Value} {A : Around} {hD : Heap} {C : Addr} {z gB : Nat} {s₀ s s' : Shared} {m m' : Str -> Option Value} {tot : List Str}
theorem GS.asm (x : GS w mg mb hD C z gB s₀ s m) (y : Asm (z + 1) gB C hD s s') : GS w mg mb hD C z gB s' s' m :=
 ⟨x.g.low fun a o h e => y.keep a o (.inr (.inr (.inl h))) e, x.lo, (by obtain ⟨o, es, ep, e, r⟩ := x.ns; exact ⟨o, es, ep, y.keep _ _ (.inl rfl) e, r⟩), fun a o e => y.keep a o (.inr (.inr (.inr (by rw [e]; simp)))) (x.hd a o e), x.hC, .refl .., by rw [y.gsize]; exact x.gs,
  (by obtain ⟨o, e⟩ := x.zz; exact y.live z o (Nat.lt_succ_self z) e), x.zC⟩
theorem gen_yield {c : Code} {fs : List Frame} {K : Flow -> Sem PySem.Fin} {H : Value -> Sem PySem.Fin} {env : Env} {y : Str} {p yp pos : Pos} {pre rest : List Str} {x : Str} {t : Tok} (htot : tot = pre ++ x :: rest) (hfs : splitAtGen fs = none) (hfg : fs.any Frame.guarded = false)
  (G0 : GS w mg mb hD C z gB s₀ s m) (hm : m y = some (.str x t))
  (h : ∀ s'', Asm (z + 1) gB C hD s s'' -> Seg (model PP w) A (gR (z + 1) gB C) (gY tot (z + 1) gB C hD) rest.length s'' c (K .next) fs s'')
  (hL : env.locals = C := by rfl) (hk : env.scope.kind = .function := by rfl) (hl : env.kindOf y = some .local := by rfl) (hd : (y == ("__debug__" : Str)) = false := by decide) (hco : env.scope.isCoroutine = false := by rfl) (hi : interactive env = false := by rfl) :
  Seg (model PP w) A (gR (z + 1) gB C) (gY tot (z + 1) gB C hD) (x :: rest).length s₀ c ((exec (.Expr (.Yield (some (.Name y p)) yp) pos) env).wrap K H id id) fs s := by
 refine seg_Expr_Yield (n := rest.length) hfs rfl hfg (wpAny_mono (m_local G0.fx hm ?_ hL hk hl hd (Q := fun v s' => v = .str x t ∧ s' = s) (E := NoE)) (fun v s' h' => ?_) fun _ _ e => e.elim) hco hi
 ·exact ⟨rfl, rfl⟩
 ·obtain ⟨rfl, rfl⟩ := h';intro kap hkap;refine ⟨⟨x, t, ?_, rfl⟩, G0.guar, fun s'' a => hkap .none s'' (h s'' a)⟩;have : tot.length - 1 - rest.length = pre.length := by rw [htot, List.length_append, List.length_cons]; exact Eq.symm (Nat.eq_sub_of_add_eq rfl)
  rw [this, htot];simp
theorem GS.turn {B1 gB1 : Nat} {C1 : Addr} {g1 : Nat} (x : GS w mg mb hD C z gB s₀ s m) (y : GuarG B1 gB1 C1 g1 s s') (h1 : z < B1) (hC : C < B1) (hCC : C ≠ C1) (hz : z < C1) (lo : 456 <= C1) (lo' : 456 <= B1) (hD1 : ∀ a o, hD.get? a = some o -> a < B1 ∧ a ≠ C1) (hg : gB <= g1) (hg1 : gB <= gB1) :
  GS w mg mb hD C z gB s₀ s' m := by
 refine ⟨x.g.low fun a o h e => y.keep a o (Nat.lt_of_lt_of_le h lo') (Nat.ne_of_lt (Nat.lt_of_lt_of_le h lo)) e, x.lo, ?_, fun a o e => y.keep a o (hD1 a o e).1 (hD1 a o e).2 (x.hd a o e), x.hC, x.guar.trans ⟨fun a o ha hne e => y.keep a o (ar115 h1 ha) (Nat.ne_of_lt (Nat.lt_of_lt_of_le ha hz)) e, y.gsize, fun g hg' => y.gens g (ar98 hg1 hg') (Nat.ne_of_lt (Nat.lt_of_lt_of_le hg' hg)), y.bare, y.os⟩, Nat.le_trans x.gs y.gsize, ?_, x.zC⟩
 ·obtain ⟨o, es, ep, e, r⟩ := x.ns; exact ⟨o, es, ep, y.keep _ _ hC hCC e, r⟩
 ·obtain ⟨o, e⟩ := x.zz; exact ⟨o, y.keep z o h1 (Nat.ne_of_lt hz) e⟩
structure Hold (hO : Heap) (z : Nat) (C C1 : Addr) (B1 : Nat) (s : Shared) : Prop where
 at_ : Kp hO s.heap
 dom : ∀ a o, hO.get? a = some o -> z < a ∧ a < B1 ∧ a ≠ C ∧ a ≠ C1
theorem inner_loop {env : Env} {y : Str} {px p yp pos : Pos} {a1 C1 : Addr} {g1 gB1 : Nat} {tot1 rest : List Str} {hO : Heap} {fs : List Frame}
  (hfs : splitAtGen fs = none) (hfg : fs.any Frame.guarded = false)
  (hA : (A.over (.forLoop (.Name y px) (.ref a1) [.Expr (.Yield (some (.Name y p)) yp) pos] [] env) fs).handled = none) (hroom : (A.over (.forLoop (.Name y px) (.ref a1) [.Expr (.Yield (some (.Name y p)) yp) pos] [] env) fs).depth < recursionLimit)
  (hzC : z < C1) (hC1 : C1 < a1) (hC : C < C1) (lo : 456 <= C1) (hgg : gB <= g1) (hg1 : g1 < gB1) (hD1 : ∀ a o, hD.get? a = some o -> a < C1)
  (hL : env.locals = C) (hk : env.scope.kind = .function) (hl : env.kindOf y = some .local) (hd : (y == ("__debug__" : Str)) = false) (hco : env.scope.isCoroutine = false) (hi : interactive env = false) :
  ∀ (r j : Nat) (s₀ s : Shared) (m : Str -> Option Value) (pre : List Str), tot1.length - j = r -> j <= tot1.length -> tot = pre ++ (tot1.drop j ++ rest) -> GS w mg mb hD C z gB s₀ s m -> s.heap.IsGen a1 g1 ->
   Liv w (A.over (.forLoop (.Name y px) (.ref a1) [.Expr (.Yield (some (.Name y p)) yp) pos] [] env) fs).in1 tot1 (a1 + 1) gB1 C1 hD g1 j s -> Hold hO z C C1 (a1 + 1) s ->
   (∀ s₀' s' m', GS w mg mb hD C z gB s₀' s' m' -> (∀ u, u ≠ y -> m' u = m u) -> Kp hO s'.heap -> ∀ c', Seg (model PP w) A (gR (z + 1) gB C) (gY tot (z + 1) gB C hD) rest.length s₀' c' (leafOf (.ok .next)) fs s') ->
   Seg (model PP w) A (gR (z + 1) gB C) (gY tot (z + 1) gB C hD) (tot1.drop j ++ rest).length s₀ (.forLoop (.Name y px) (.ref a1) [.Expr (.Yield (some (.Name y p)) yp) pos] [] env)
    ((model PP w).den (.forLoop (.Name y px) (.ref a1) [.Expr (.Yield (some (.Name y p)) yp) pos] [] env)) fs s := by
 intro r
 induction r with
 | zero =>
  intro j s₀ s m pre hr hj htot G0 hg L HO fin;have hjl : j = tot1.length := (ar7 hr hj);refine seg_forLoop (gen_next hA G0.g.lim hroom hg L hj (fun x t s' hx _ _ => ?_) fun _ s' hG => ?_)
  ·rw [hjl, List.getElem?_eq_none (Nat.le_refl _)] at hx; cases hx
  ·dsimp only;intro c';have : (tot1.drop j ++ rest).length = rest.length := by rw [hjl, List.drop_length]; rfl
   rw [this];refine fin s₀ s' m (G0.turn hG (Nat.lt_of_lt_of_le (Nat.lt_trans hzC hC1) (Nat.le_succ _)) (Nat.lt_of_lt_of_le (Nat.lt_trans hC hC1) (Nat.le_succ _)) (Nat.ne_of_lt hC) hzC lo (Nat.le_trans lo (Nat.le_of_lt (Nat.lt_of_lt_of_le hC1 (Nat.le_succ _)))) (fun a o e => ⟨Nat.lt_of_lt_of_le (Nat.lt_trans (hD1 a o e) hC1) (Nat.le_succ _), Nat.ne_of_lt (hD1 a o e)⟩) hgg (ar39 hgg hg1)) (fun _ _ => rfl) (fun a o e => hG.keep a o (HO.dom a o e).2.1 (HO.dom a o e).2.2.2 (HO.at_ a o e)) c'
 | succ r ih =>
  intro j s₀ s m pre hr hj htot G0 hg L HO fin;have hjl : j < tot1.length := (ar5 hr);refine seg_forLoop (gen_next hA G0.g.lim hroom hg L hj (fun x t s1 hx hG L1 => ?_) fun e => ?_)
  ·dsimp only;have hdrop : tot1.drop j = x :: tot1.drop (j + 1) := by
    obtain ⟨h1, rfl⟩ := List.getElem?_eq_some_iff.mp hx;exact List.drop_eq_getElem_cons h1
   have G1 := G0.turn hG (Nat.lt_of_lt_of_le (Nat.lt_trans hzC hC1) (Nat.le_succ _)) (Nat.lt_of_lt_of_le (Nat.lt_trans hC hC1) (Nat.le_succ _)) (Nat.ne_of_lt hC) hzC lo (Nat.le_trans lo (Nat.le_of_lt (Nat.lt_of_lt_of_le hC1 (Nat.le_succ _)))) (fun a o e => ⟨Nat.lt_of_lt_of_le (Nat.lt_trans (hD1 a o e) hC1) (Nat.le_succ _), Nat.ne_of_lt (hD1 a o e)⟩) hgg (ar39 hgg hg1);refine m_store G1.fx (fun s2 F2 => ?_) hL hk hl;intro K H hK;have G2 := G1.step F2;have hne : C ≠ a1 := Nat.ne_of_lt (Nat.lt_trans hC hC1);have k12 : KpD C s1.heap s2.heap := fun a o h e => F2.tot.keep a o (.inr (fun h' => h'.elim h id)) e;have A12 : Asm (a1 + 1) gB1 C1 hD s1 s2 := ⟨fun a o h e => k12 a o (fun q => by
     subst q;rcases h with h | h | h | h
     ·exact absurd h (Nat.ne_of_lt hC)
     ·exact absurd (Nat.lt_of_lt_of_le (Nat.lt_trans hC hC1) (Nat.le_succ a1)) (Nat.not_lt.mpr h)
     ·exact absurd h (Nat.not_lt.mpr G1.lo)
     ·exact h G1.hC) e, fun a o _ e => F2.tot.live a o e, by rw [F2.tot.gens], fun g _ => by rw [F2.tot.gens], F2.tot.os⟩
   rw [hdrop];refine seg_execs_cons (gen_yield (pre := pre) (rest := tot1.drop (j + 1) ++ rest) (by rw [htot, hdrop]; rfl) hfs hfg G2 (x := x) (t := t) (by simp [upd]) (fun s3 a3 => ?_) hL hk hl hd hco hi);refine seg_execs_nil ?_;rw [hK];refine seg_again rfl ?_;have G3 := G2.asm a3;have big : ∀ a, a1 + 1 <= a -> z + 1 <= a := fun a h => Nat.le_trans (Nat.succ_le_succ (Nat.le_of_lt (Nat.lt_trans hzC hC1))) h;have A23 : Asm (a1 + 1) gB1 C1 hD s2 s3 := ⟨fun a o h e => a3.keep a o (by
     rcases h with h | h | h | h
     ·exact .inr (.inl (by rw [h]; exact hzC))
     ·exact .inr (.inl (big a h))
     ·exact .inr (.inr (.inl h))
     ·exact .inr (.inr (.inr h))) e, fun a o h e => by
      by_cases ha : a < z + 1
      ·exact a3.live a o ha e
      ·exact ⟨o, a3.keep a o (.inr (.inl (Nat.not_lt.mp ha))) e⟩, a3.gsize, fun g hg => a3.gens g (Nat.le_trans hgg (Nat.le_trans (Nat.le_of_lt hg1) hg)), a3.os⟩
   refine ih (j + 1) s3 s3 _ (pre ++ [x]) (ar3 hr) (hjl) (by rw [htot, hdrop]; simp) G3 ?_ ?_ ⟨fun a o e => ?_, HO.dom⟩ ?_
   ·obtain ⟨o, nm, qn, e, r⟩ := hg;refine ⟨o, nm, qn, a3.keep _ _ (.inr (.inl (Nat.lt_trans hzC hC1))) (k12 _ _ (Ne.symm hne) (hG.keep _ _ (Nat.lt_succ_self _) (Nat.ne_of_gt hC1) e)), r⟩
   ·exact (L1.asm A12 (by rw [F2.tot.gens])).asm A23 (a3.gens g1 hgg)
   ·have hd := HO.dom a o e;exact a3.keep _ _ (.inr (.inl hd.1)) (k12 _ _ hd.2.2.1 (hG.keep a o hd.2.1 hd.2.2.2 (HO.at_ a o e)))
   ·intro s₀' s' m' G' hm' hO' c';exact fin s₀' s' m' G' (fun u hu => (hm' u hu).trans (by simp [upd, hu])) hO' c'
  ·exact absurd e (ar12 hjl)
end
end Mine
end
section
open PySem PySem.W PySem.Calls PyProof.Rows PySem.Spec
namespace Mine
theorem Rm.over1 {A : Around} {j : Nat} {body : List Stmt} {env : Env} (r : Rm A (j + 1)) : Rm (A.over (.func body env) []) j :=
 ⟨r.hh, by have := r.dp; show A.depth + 0 + 1 + j < _; exact Nat.lt_of_le_of_lt (Nat.le_of_eq (Nat.add_right_comm _ 1 _)) this, by have := r.un; show A.units + 0 + 3 + 8 * j < _; exact arK 3 (by decide) this⟩
theorem Rm.over2 {A : Around} {j : Nat} {body b2 : List Stmt} {env e2 : Env} {t : PySem.Expr} {it : Value} {o : List Stmt} {k l p kp} (r : Rm A (j + 1)) : Rm (A.over (.forLoop t it b2 o e2) [.ret k none false l (.func body env) p kp]) j :=
 ⟨r.hh, by have := r.dp; show A.depth + (1 + 0) + 0 + j < _; exact Nat.lt_of_le_of_lt (Nat.le_of_eq (Nat.add_right_comm _ 1 _)) this, by have := r.un; show A.units + (3 + 0) + 0 + 8 * j < _; exact arK 3 (by decide) this⟩
theorem Rm.over3 {A : Around} {j : Nat} {body b2 b3 : List Stmt} {env e2 e3 : Env} {t t3 : PySem.Expr} {it it3 : Value} {o o3 : List Stmt} {k l p kp k2 l2 p2 kp2} (r : Rm A (j + 1)) : Rm (A.over (.forLoop t3 it3 b3 o3 e3) [.ret k2 none false l2 (.forLoop t it b2 o e2) p2 kp2, .ret k none false l (.func body env) p kp]) j :=
 ⟨r.hh, by have := r.dp; show A.depth + (0 + (1 + 0)) + 0 + j < _; exact Nat.lt_of_le_of_lt (Nat.le_of_eq (Nat.add_right_comm _ 1 _)) this, by have := r.un; show A.units + (0 + (3 + 0)) + 0 + 8 * j < _; exact arK 3 (by decide) this⟩
theorem Rm.in1 {A : Around} {j : Nat} (r : Rm A (j + 1)) : Rm A.in1 j := ⟨r.hh, by have := r.dp; show A.depth + j < _; exact Nat.lt_of_succ_lt this, by have := r.un; show A.units + 1 + 8 * j < _; exact ar45 this⟩
section
variable {w : World} {mg mb : Str -> Option Value} {A : Around} {hD : Heap} {C : Addr} {z gB : Nat} {s₀ s s' : Shared} {m m' : Str -> Option Value} {tot : List Str}
theorem seg_if_yield {c : Code} {fs : List Frame} {K : Flow -> Sem PySem.Fin} {H : Value -> Sem PySem.Fin} {env : Env} {y : Str} {test : PySem.Expr} {p yp pos ip : Pos} {rest : List Stmt} {pre rst : List Str} {x : Str} {t : Tok} {fb : Bool}
  (htot : tot = pre ++ ((if fb then [x] else []) ++ rst)) (hfs : splitAtGen fs = none) (hfg : fs.any Frame.guarded = false) (hm : m y = some (.str x t))
  (ht : wpAny (model PP w) (A.over c fs) (isTrue test env (eval test env)) (fun b s' => b = fb ∧ GS w mg mb hD C z gB s₀ s' m) NoE s)
  (h : ∀ s₀' s', GS w mg mb hD C z gB s₀' s' m -> Seg (model PP w) A (gR (z + 1) gB C) (gY tot (z + 1) gB C hD) rst.length s₀' c ((execs rest env).wrap K H id id) fs s')
  (hL : env.locals = C := by rfl) (hk : env.scope.kind = .function := by rfl) (hl : env.kindOf y = some .local := by rfl) (hd : (y == ("__debug__" : Str)) = false := by decide) (hco : env.scope.isCoroutine = false := by rfl) (hi : interactive env = false := by rfl) :
  Seg (model PP w) A (gR (z + 1) gB C) (gY tot (z + 1) gB C hD) ((if fb then [x] else []) ++ rst).length s₀ c ((execs (.If test [.Expr (.Yield (some (.Name y p)) yp) pos] [] ip :: rest) env).wrap K H id id) fs s := by
 refine seg_execs_cons (seg_If (wpAny_mono ht (fun b s' ⟨hb, G1⟩ => ?_) ee));subst hb;cases b with
 | true =>
  refine ifT rfl ?_;refine seg_execs_cons (gen_yield (pre := pre) (rest := rst) (x := x) (t := t) (by simpa using htot) hfs hfg G1 hm (fun s'' a => ?_) hL hk hl hd hco hi);exact seg_execs_nil (h _ _ (G1.asm a))
 | false =>
  refine ifF rfl ?_;exact seg_execs_nil (h _ _ G1)
theorem seg_for_list {I B : Addr} {ol : Obj} {vs : Array Value} {y : Str} {px : Pos} {body : List Stmt} {env : Env} {fs : List Frame} (hl : ∀ h : Heap, h.get? B = some ol -> h.IsList B vs)
  (hA : (A.over (.forLoop (.Name y px) (.ref I) body [] env) fs).handled = none) (hBI : B ≠ I) (hIz : z < I) (hIC : I ≠ C) (hID : hD.get? I = none) (loI : 456 <= I) (hBC : B ≠ C)
  (J : (Str -> Option Value) -> Prop) (hJ : ∀ m v, J m -> J (fun u => if u = y then some v else m u)) (rem : Nat -> List Str)
  (step : ∀ i v s₀ s m, vs[i]? = some v -> J m -> GS w mg mb hD C z gB s₀ s (fun u => if u = y then some v else m u) -> s.heap.IsListIter I B (i + 1) -> s.heap.get? B = some ol ->
   ∀ K H, (∀ s₀' s' m', J m' -> GS w mg mb hD C z gB s₀' s' m' -> s'.heap.IsListIter I B (i + 1) -> s'.heap.get? B = some ol -> Seg (model PP w) A (gR (z + 1) gB C) (gY tot (z + 1) gB C hD) (rem (i + 1)).length s₀' (.forLoop (.Name y px) (.ref I) body [] env) (K .next) fs s') ->
    Seg (model PP w) A (gR (z + 1) gB C) (gY tot (z + 1) gB C hD) (rem i).length s₀ (.forLoop (.Name y px) (.ref I) body [] env) ((execs body env).wrap K H id id) fs s)
  (fin : ∀ s₀ s m, GS w mg mb hD C z gB s₀ s m -> ∀ c', Seg (model PP w) A (gR (z + 1) gB C) (gY tot (z + 1) gB C hD) (rem vs.size).length s₀ c' (leafOf (.ok .next)) fs s)
  (hL : env.locals = C) (hk : env.scope.kind = .function) (hkl : env.kindOf y = some .local) :
  ∀ (r i : Nat) (s₀ s : Shared) (m : Str -> Option Value), vs.size - i = r -> i <= vs.size -> J m -> GS w mg mb hD C z gB s₀ s m -> s.heap.IsListIter I B i -> s.heap.get? B = some ol ->
   Seg (model PP w) A (gR (z + 1) gB C) (gY tot (z + 1) gB C hD) (rem i).length s₀ (.forLoop (.Name y px) (.ref I) body [] env) ((model PP w).den (.forLoop (.Name y px) (.ref I) body [] env)) fs s := by
 intro r
 induction r with
 | zero =>
  intro i s₀ s m hr hi hj G0 hI hB;obtain rfl : i = vs.size := (ar7 hr hi);refine seg_forLoop (wpAny_pyNext_list_end hA hI (hl _ hB) (by simp) fun h' he => ?_);intro c';exact fin s₀ _ m (GS.aside (s' := { s with heap := h' }) (I := I) G0 (fun a o h e => he a o h e) hIz hIC hID loI rfl rfl) c'
 | succ r ih =>
  intro i s₀ s m hr hi hj G0 hI hB;have hlt : i < vs.size := (ar5 hr);refine seg_forLoop (wpAny_pyNext_list_item (x := vs[i]) hI (hl _ hB) (by simp [hlt]) fun h' hit hs => ?_);have G1 := GS.aside (s' := { s with heap := h' }) (I := I) G0 (fun a o h e => (hs.2 a h).trans e) hIz hIC hID loI rfl rfl;have hB1 : h'.get? B = some ol := (hs.2 B hBI).trans hB;refine m_store G1.fx (fun s2 F2 => ?_) hL hk hkl;intro K H hK;have k2 : KpD C h' s2.heap := fun a o h e => F2.tot.keep a o (.inr (fun h' => h'.elim h id)) e;refine step i vs[i] s₀ s2 m (by simp [hlt]) hj (G1.step F2) (by obtain ⟨o, e, r⟩ := hit; exact ⟨o, k2 _ _ hIC e, r⟩) (k2 _ _ hBC hB1) K H fun s₀' s' m' hj' G' hI' hB' => ?_;rw [hK];exact seg_again rfl (ih (i + 1) s₀' s' m' (ar3 hr) (hlt) hj' G' hI' hB')
end
noncomputable def GenOK (w : World) (body : List Stmt) (scope : Scope) (qual : Str) (cdv : Value) : Prop :=
 ∀ (k : Nat) (mg mb : Str -> Option Value) (hD : Heap) (c : DC) (R : RG) (A : Around) (q : Int) (x : List Nat) (C z gB : Nat) (s : Shared) (m : Str -> Option Value) (tq tx : Tok) (v : Value),
  DFAAt w hD c -> c.rows = encR (rowsOf R) -> WF R -> c.fin = finOf R -> (q ∈ ids R ∨ R = []) -> (∀ y ∈ lang R q, y.length <= k) -> Rm A (3 * k + 12) -> x.length + k <= 100 ->
  GS w mg mb hD C z gB s s m -> m "self" = some (.ref c.x.m) -> m "state" = some v -> (v = .int q tq ∨ (v = .none ∧ q = 0)) -> m "sofar" = some (.str (mkS x) tx) ->
  Seg (model PP w) A (gR (z + 1) gB C) (gY ((lang R q).map fun y => mkS (x ++ y)) (z + 1) gB C hD) (lang R q).length s (.func body (envOf qual scope C 144 cdv)) ((model PP w).den (.func body (envOf qual scope C 144 cdv))) [] s
noncomputable def GenCall (w : World) (body : List Stmt) (scope : Scope) (qual : Str) (cdv : Value) : Prop :=
 ∀ (mg mb : Str -> Option Value) (s : Shared) (A : Around) (Rr : Result -> Shared -> Prop) (mm : Addr), G w mg mb s.heap -> A.depth < recursionLimit ->
   (∀ s' C a t, G w mg mb s'.heap -> Kp s.heap s'.heap -> s.heap.get? C = none -> 456 <= C -> C < a -> s.heap.objs.size <= C -> s'.heap.Ns C (fun y => ([("self", Value.ref mm), ("state", .none), ("sofar", .str (mkS []) t)] : List (Str × Value)).reverse.lookup y) -> s'.heap.IsGen a s.gens.size ->
    s'.gens = s.gens.push (.fresh (.func body (envOf qual scope C 144 cdv))) -> s'.os = s.os -> Rr (.ok (.ret (.ref a))) s') -> codeAny (model PP w) A (.call (.ref 144) ⟨[.ref mm], []⟩) Rr s
inductive GenPk (w : World) : Prop
 | mk (name qual params body scope dV kV doc pm cdv ct oc an od osl) (ho : (KK w).lookup 144 = some ⟨oc, od, .func (fnOf name qual params body scope dV kV doc pm an cdv ct), osl⟩) (hcd : codeIn (KK w) cdv qual = true) (OK : GenOK w body scope qual cdv) (CL : GenCall w body scope qual cdv) : GenPk w
theorem gen_pack (w : World) : GenPk w := by
 refine ⟨_, _, _, _, _, _, _, _, _, _, _, _, _, _, _, by rfl, by kernel_rfl, ?_, ?call⟩
 case call =>
  intro mg mb s A Rr mm g hroom h;exact m_callG [("self", .ref mm), ("state", .none), ("sofar", .str "" _)] g hroom (by rfl) (by kernel_rfl) (.of_defaults rfl (g.X _ _ (by rfl)) rfl (by rfl) (by rfl)) (locs (by rfl)) (fun s' C a h1 h2 h3 h4 h5 h6 h7 h8 h9 h10 => h s' C a _ h1 h2 h3 h4 h5 h6 h7 h8 h9 h10) (by decide)
 intro k
 induction k using Nat.strongRecOn with
 | _ k ih =>
  intro mg mb hD c R A q x C z gB s m tq tx v D hr hw hfin hq hlen hA hx G0 hself hst hv hsf;refine seg_func ?_;have F := G0.fx;have Db := D.keeps G0.hdb;refine seg_stmt (wpAny_mono (Q := fun f s' => f = .next ∧ ∃ t, Fx w mg mb C s W0 [] (hideAll s.heap [C]) s' (upd m "state" (.int q t))) (wpAny_Assign_Name (wpAny_IfExp (wpAny_isTrue_Compare1 (m_local F (by exact hst) (m_cnone (is_none (wpAny_truthy_bool ?_))))))) (fun f s1 ⟨hf, t6, F⟩ => ⟨hf, ?_⟩) ee)
  ·rcases hv with rfl | ⟨rfl, rfl⟩
   ·exact m_local F (by exact hst) (m_store F fun s F => ⟨rfl, _, F⟩)
   ·refine MethodCall_ (m_local F (by exact hself) (o_meth F (mt_start w) Db.obj (m_cw0 (by rfl) F.g.X ?_)));exact start_spec F.g (hA.le (Nat.le_refl _)).over1 (Db.keeps F.keep) fun s t0 S => m_store (F.grow S) fun s F => ⟨rfl, _, F⟩
  ·have G1 := G0.step F;clear F Db;obtain ⟨fq, hlq, harc, hasc, hfq⟩ : ∃ fq, lang R q = own (arcsOf R q) fq (lang R) ∧ (∀ x ∈ arcsOf R q, ArcOk (ids R) x) ∧ AscL (arcsOf R q) ∧ finOf R q = fq := by
    rcases hq with hq | rfl
    ·obtain ⟨fq, hmem⟩ : ∃ f, ((arcsOf R q, f), q) ∈ R := by
      obtain ⟨a, f, h⟩ := mem_ids hq;rw [arcsOf_mem hw h]; exact ⟨f, h⟩
     obtain ⟨hlq, harc, hasc, hne⟩ := lang_mem hw hmem;refine ⟨fq, hlq, harc, hasc, ?_⟩;unfold finOf;cases fq with
     | true => exact List.any_eq_true.mpr ⟨_, hmem, by simp⟩
     | false =>
      refine List.any_eq_false.mpr fun y hy => ?_;obtain ⟨⟨a', f'⟩, q'⟩ := y
      by_cases hqq : q' = q
      ·subst hqq;have h1 := find_mem hw hy;rw [find_mem hw hmem] at h1;cases h1; simp
      ·simp [hqq]
    ·exact ⟨false, rfl, (fun x hx => nomatch hx), .nil, rfl⟩
   have htot : (lang R q).map (fun y => mkS (x ++ y)) = [] ++ ((if fq then [mkS x] else []) ++ ((arcsOf R q).flatMap fun a => (lang R a.2).map fun y => mkS (x ++ a.1 :: y))) := by
    conv => lhs; rw [hlq]
    unfold own;rw [List.map_append, List.map_flatMap, List.nil_append]
    congr 1
    ·cases fq <;> simp
    ·congr 1
     funext a
     rw [List.map_map]
     rfl
   have hn : (lang R q).length = ((if fq then [mkS x] else []) ++ ((arcsOf R q).flatMap fun a => (lang R a.2).map fun y => mkS (x ++ a.1 :: y))).length := by
    rw [← List.length_map (f := fun y => mkS (x ++ y)), htot]; rfl
   rw [hn];generalize htt : (lang R q).map (fun y => mkS (x ++ y)) = tot at htot ⊢;have F := G1.fx;have Db := D.keeps G1.hdb;refine seg_if_yield (mg := mg) (mb := mb) (m := upd m "state" (.int q t6)) htot rfl rfl (by exact hsf) (isTrue_plain (MethodCall_ (m_local F (by exact hself) (o_meth F (mt_is_final w) Db.obj (m_cw (by rfl) (args_cons (m_local F (by rfl) (args_nil ⟨F.g.X, ?_⟩))))))) (by rfl)) ?_
   ·refine is_final_spec (q := some q) F.g (hA.le (Nat.le_refl _)).over1 (Db.keeps F.keep) (oi_int w q t6) fun s' S => wpAny_truthy_bool ⟨?_, G1.step (F.grow S)⟩;show c.fin q = fq;rw [hfin, hfq]
   ·clear F Db;intro s₀' s2 G2;have F := G2.fx;have Db := D.keeps G2.hdb;refine seg_execs_cons (seg_For (Call_ (m_bi F (ng_sorted w) boot_sorted (m_cwb (args_cons (MethodCall_ (m_local F (by exact hself) (o_meth F (mt_get_labels w) Db.obj (m_cw (by rfl) (args_cons (m_local F (by rfl) (args_nil ⟨F.g.X, ?_⟩))))))))))));refine get_labels_spec F.g (hA.le (Nat.le_refl _)).over1 (Db.keeps F.keep) hr hw fun s3 it S3 hit lo3 hlt3 L3 => ?_;have hls : ((arcsOf R q).map (·.1)).Pairwise (· < ·) := by rw [List.pairwise_map]; exact hasc
    have hll : (arcsOf R q).length <= 3 := AscL.len hasc fun y hy => (harc y hy).2;refine args_nil (sorted_labels (ls := (arcsOf R q).map (·.1)) (hA.le (Nat.le_refl _)).over1.hh (by rw [List.map_map]; exact L3) hls (by rw [List.length_map]; exact ar36 hll) fun s4 B out ha hlB hB hs => ?_);have G3 := G2.step (F.grow S3);obtain ⟨zo, hzo⟩ := G2.zz;have hitz : z < it := hlt3 _ _ (F.tot.keep z zo (.inr (fun h => h.elim G2.zC id)) hzo);obtain ⟨oC, _, _, eC, _⟩ := F.ns;have hitC : it ≠ C := Nat.ne_of_gt (hlt3 _ _ eC);have hitD : hD.get? it = none := by
     cases hh : hD.get? it with
     | none => rfl
     | some oo => exact absurd (hlt3 _ _ (F.keep _ _ (G2.hdb _ _ hh))) (Nat.lt_irrefl _)
    have G4 := GS.aside (s' := s4) (I := it) G3 (fun a o h e => ha.keep a o h e) hitz hitC hitD lo3 ha.gens ha.os;have hBn := G3.new hB;refine wpAny_pyIter_list hlB ?_;intro p kk hkk;have G5 := GS.grow (s' := { s4 with heap := s4.heap.push { cls := .type "list_iterator", data := .fields #[.ref B, .int 0 0] } }) G4 (fun a o e => Heap.get?_push_of_some _ e) (fun _ _ => rfl) (Nat.le_refl _) (fun h => h) rfl;have hIn := G4.new (Nat.le_refl _);obtain ⟨oB, eB, cB, nB, dB⟩ := hlB;have hBI : B ≠ s4.heap.objs.size := Nat.ne_of_lt (Heap.lt_size eB);have hsz : out.size = (arcsOf R q).length := by rw [← Array.length_toList, hs.len_eq, List.length_map, List.length_map]
    refine seg_for_list (mg := mg) (mb := mb) (I := s4.heap.objs.size) (B := B) (ol := oB) (vs := out) (fun h e => ⟨oB, e, cB, nB, dB⟩) (hA.le (Nat.le_refl _)).over2.hh hBI hIn.1 hIn.2.1 hIn.2.2.1 hIn.2.2.2 hBn.2.1
     (fun m' => m' "self" = some (.ref c.x.m) ∧ m' "state" = some (.int q t6) ∧ m' "sofar" = some (.str (mkS x) tx)) (fun m' v h => ⟨by exact h.1, by exact h.2.1, by exact h.2.2⟩)
     (fun i => ((arcsOf R q).drop i).flatMap fun a => (lang R a.2).map fun y => mkS (x ++ a.1 :: y)) ?_ ?_ rfl rfl rfl (out.size - 0) 0 s₀' _ _ rfl (Nat.zero_le _) ⟨by exact hself, by rfl, by exact hsf⟩ G5 ⟨_, Heap.get?_push_size _ rfl, rfl, rfl⟩ (Heap.get?_push_of_some _ eB)
    ·rintro i v s₀ s m' hvi ⟨j1, j2, j3⟩ G hI hB' K H hcont
     have hil : i < (arcsOf R q).length := by rw [← hsz]; exact (Array.getElem?_eq_some_iff.mp hvi).1
     obtain ⟨l, d, had⟩ : ∃ l d, (arcsOf R q)[i] = (l, d) := ⟨_, _, rfl⟩;have hai : (arcsOf R q)[i]? = some (l, d) := by rw [List.getElem?_eq_getElem hil, had]
     obtain ⟨tl, htl⟩ := hs.at (j := i) (y := lab l) (by rw [List.map_map, List.getElem?_map, hai]; rfl);rw [Array.getElem?_toList, hvi] at htl;obtain rfl := Option.some.inj htl;have hmemA : (l, d) ∈ arcsOf R q := List.mem_of_getElem? hai;have hnext : c.next q (lab l) = some d := by rw [DC.next_eq hr hw]; exact toR_mem hasc hmemA
     obtain ⟨hd_ids, hlr⟩ := harc _ hmemA;have hkpos : 1 <= k ∧ ∀ y ∈ lang R d, y.length <= k - 1 := by
      have hin : ∀ y ∈ lang R d, l :: y ∈ lang R q := fun y hy => by
       rw [hlq];exact List.mem_append_right _ (List.mem_flatMap.mpr ⟨(l, d), hmemA, List.mem_map.mpr ⟨y, hy, rfl⟩⟩)
      obtain ⟨y0, hy0⟩ := List.exists_mem_of_ne_nil _ (lang_ne hw hd_ids);have h0 := hlen _ (hin y0 hy0);simp only [List.length_cons] at h0;refine ⟨(Nat.one_le_of_lt h0), fun y hy => ?_⟩;have h1 := hlen _ (hin y hy);simp only [List.length_cons] at h1;exact ar61 h1
     have F := G.fx;have Db := D.keeps G.hdb;refine seg_stmt (wpAny_Assign_Name (MethodCall_ (m_local F (by exact j1) (o_meth F (mt_next_state w) Db.obj (m_cw (by rfl) (args_cons (m_local F (by exact j2) (args_cons (m_local F (by rfl) (args_nil ⟨F.g.X, ?_⟩))))))))));refine next_state_spec F.g (hA.le (Nat.le_refl _)).over2 (Db.keeps F.keep) (fun s' d' t7 S hn => ?_) (fun s' S hn => absurd hn (by rw [hnext]; simp));obtain rfl : d = d' := Option.some.inj (hnext.symm.trans hn);refine m_store (F.grow S) fun s6 F => ⟨rfl, ?_⟩;have k6 : KpD C s.heap s6.heap := fun a o h e => F.tot.keep a o (.inr (fun h' => h'.elim h id)) e;have G6 := G.step F;clear F Db;have F := G6.fx;have Db := D.keeps G6.hdb;refine seg_execs_cons (seg_For (MethodCall_ (m_local F (by exact j1) (o_meth F (mt_generate_all w) Db.obj (m_cw (by rfl) (args_cons (m_local F (by rfl) (args_cons (wpAny_BinOp (m_local F (by exact j3) (m_local F (by rfl) (add_str (fun t8 tk => args_nil ⟨F.g.X, ?_⟩) (by rw [mkS_len]; show x.length + 1 <= _; rw [sizeLine_eq]; exact Nat.lt_of_le_of_lt (Nat.le_trans (Nat.le_add_right _ _) hx) (by decide))))))))))))));have ecat : mkS x ++ lab l = mkS (x ++ [l]) := by
      show (⟨x.toArray ++ [l].toArray⟩ : Str) = ⟨(x ++ [l]).toArray⟩;simp
     rw [ecat];refine wpAny_call (m_callG [("self", .ref c.x.m), ("state", .int d t7), ("sofar", .str (mkS (x ++ [l])) t8)] (F.tok tk).g (hA.le (Nat.le_refl _)).over2.room (by rfl) (by kernel_rfl) (.of_defaults rfl ((F.tok tk).g.X _ _ (by rfl)) rfl (by rfl) (by rfl)) (locs (by rfl)) (fun s7 C1 a1 g7 k7 hC1 lo1 hCa hC1s hns1 hgen hgens hos => ?_) (by decide));refine wpAny_pyIter_gen hgen ?_;intro p2 kk2 hkk2;have hsz7 : s7.gens.size = s6.gens.size + 1 := by rw [hgens, Array.size_push]
     have G7 : GS w mg mb hD C z gB s₀ s7 _ := GS.grow (s' := s7) G6 (fun a o e => k7 a o e) (fun g hg => by rw [hgens, Array.getElem?_push_lt hg]; exact (Array.getElem?_eq_getElem hg).symm) (by rw [hsz7]; exact Nat.le_succ _)
      (fun h y hy => by rw [hgens] at hy; rcases Array.mem_push.mp hy with hy | rfl; exact h y hy; rfl) hos
     have hn1 := G6.new (a := C1) hC1s;have hDlt : ∀ a o, hD.get? a = some o -> a < C1 := fun a o e => Nat.lt_of_lt_of_le (Heap.lt_size (G6.hd a o e)) hC1s;have Gi : GS w mg mb hD C1 a1 s7.gens.size s7 s7 (fun y => ([("self", Value.ref c.x.m), ("state", .int d t7), ("sofar", .str (mkS (x ++ [l])) t8)] : List (Str × Value)).reverse.lookup y) :=
      ⟨g7, lo1, hns1, fun a o e => k7 a o (G6.hd a o e), hn1.2.2.1, .refl .., Nat.le_refl _, (by obtain ⟨o, _, _, e, _⟩ := hgen; exact ⟨o, e⟩), Nat.ne_of_gt hCa⟩
     have hrem : ((arcsOf R q).drop i).flatMap (fun a => (lang R a.2).map fun y => mkS (x ++ a.1 :: y)) = ((lang R d).map fun y => mkS ((x ++ [l]) ++ y)) ++ ((arcsOf R q).drop (i + 1)).flatMap fun a => (lang R a.2).map fun y => mkS (x ++ a.1 :: y) := by
      rw [List.drop_eq_getElem_cons hil, had, List.flatMap_cons];simp
     have htot' : tot = ((if fq then [mkS x] else []) ++ ((arcsOf R q).take i).flatMap fun a => (lang R a.2).map fun y => mkS (x ++ a.1 :: y)) ++ ((((lang R d).map fun y => mkS ((x ++ [l]) ++ y)).drop 0) ++ ((arcsOf R q).drop (i + 1)).flatMap fun a => (lang R a.2).map fun y => mkS (x ++ a.1 :: y)) := by
      rw [htot, List.drop_zero, ← hrem, List.nil_append, List.append_assoc, ← List.flatMap_append, List.take_append_drop]
     rw [hrem];have hO := Gi;have hidx : ∀ {b : Addr} {o : Obj}, (hideAll s7.heap ((List.range s7.heap.objs.size).filter fun a => decide (a ≠ s4.heap.objs.size ∧ a ≠ B))).get? b = some o -> (b = s4.heap.objs.size ∨ b = B) ∧ s7.heap.get? b = some o := fun {b o} e => by
      have e1 := of_hideAll _ e;refine ⟨?_, e1⟩
      by_cases hb : b = s4.heap.objs.size ∨ b = B
      ·exact hb
      ·have : b ∈ (List.range s7.heap.objs.size).filter fun a => decide (a ≠ s4.heap.objs.size ∧ a ≠ B) := List.mem_filter.mpr ⟨List.mem_range.mpr (Heap.lt_size e1), by simpa using hb⟩;rw [hideAll_none _ this] at e; cases e
     have hback : ∀ {b : Addr} {o : Obj}, (b = s4.heap.objs.size ∨ b = B) -> s7.heap.get? b = some o -> (hideAll s7.heap ((List.range s7.heap.objs.size).filter fun a => decide (a ≠ s4.heap.objs.size ∧ a ≠ B))).get? b = some o := fun {b o} hb e => by
      refine hideAll_get _ e fun hm => ?_;have := (List.mem_filter.mp hm).2;simp at this;exact hb.elim this.1 this.2
     obtain ⟨oI, eI, rI⟩ := hI;have eI6 : s6.heap.get? s4.heap.objs.size = some oI := k6 _ _ hIn.2.1 eI;have eB6 : s6.heap.get? B = some oB := k6 _ _ hBn.2.1 hB';refine inner_loop (mg := mg) (mb := mb) (gB1 := s7.gens.size) (g1 := s6.gens.size) (C1 := C1) (hO := hideAll s7.heap ((List.range s7.heap.objs.size).filter fun a => decide (a ≠ s4.heap.objs.size ∧ a ≠ B))) (tot1 := (lang R d).map fun y => mkS ((x ++ [l]) ++ y)) rfl rfl
      (hA.le (Nat.le_refl _)).over3.hh (hA.le (Nat.le_refl _)).over3.room hn1.1 hCa (Nat.lt_of_lt_of_le G6.ns.lt hC1s) lo1 G6.gs (by rw [hsz7]; exact Nat.lt_succ_self _) hDlt rfl rfl rfl (by decide) rfl rfl _ 0 s₀ s7 _ _ rfl (Nat.zero_le _) htot' G7 hgen
      ⟨.fresh _, by rw [hgens]; exact Array.getElem?_push_size .., by rw [hsz7]; exact Nat.lt_succ_self _, fun s'' a => ⟨rfl, ?_⟩⟩ ⟨fun b o e => (hidx e).2, fun b o e => ?_⟩ ?_
     ·rw [Nat.sub_zero, List.length_map];exact ih (k - 1) (by lia) mg mb hD c R _ d (x ++ [l]) C1 a1 s7.gens.size s'' _ t7 t8 (.int d t7) D hr hw hfin (.inl hd_ids) hkpos.2 (hA.le (by lia)).over3.in1 (by rw [List.length_append]; simp; lia) (Gi.asm a) rfl rfl (.inl rfl) rfl
     ·have hlt6 : ∀ {b : Addr} {o : Obj}, s6.heap.get? b = some o -> b < C1 := fun e => Nat.lt_of_lt_of_le (Heap.lt_size e) hC1s;rcases (hidx e).1 with rfl | rfl
      ·exact ⟨hIn.1, Nat.lt_of_lt_of_le (Nat.lt_trans (hlt6 eI6) hCa) (Nat.le_succ _), hIn.2.1, Nat.ne_of_lt (hlt6 eI6)⟩
      ·exact ⟨hBn.1, Nat.lt_of_lt_of_le (Nat.lt_trans (hlt6 eB6) hCa) (Nat.le_succ _), hBn.2.1, Nat.ne_of_lt (hlt6 eB6)⟩
     ·intro s₀' s' m2 G' hm' hO' c';refine seg_leaf (.ok .next) ?_;rw [hkk2];exact seg_execs_nil (hcont s₀' s' m2 ⟨(hm' _ (by decide)).trans (by exact j1), (hm' _ (by decide)).trans (by exact j2), (hm' _ (by decide)).trans (by exact j3)⟩ G' ⟨oI, hO' _ _ (hback (.inl rfl) (k7 _ _ eI6)), rI⟩ (hO' _ _ (hback (.inr rfl) (k7 _ _ eB6))))
    ·intro s₀ s m G c';rw [hsz, List.drop_length];refine seg_leaf (.ok .next) ?_;rw [hkk];exact seg_execs_nil (seg_end (.ok (.ret .none)) ⟨rfl, rfl, G.guar⟩)
end Mine
end
section
open PySem PySem.W PySem.Calls PyProof.Rows PySem.Spec
namespace Mine
section
variable {w : World} {mg mb : Str -> Option Value} {A : Around} {E : Value -> Shared -> Prop} {s : Shared}
theorem hint_gen {a : Addr} {Q : Bool -> Shared -> Prop} (hT : s.TypeIs (.ref a) "generator") (h : ∀ b, Q b s) : wpAny (model PP w) A (Builtin.List.listLengthHint (.ref a)) Q E s := by
 unfold Builtin.List.listLengthHint;refine wpAny_bind (wpAny_specialOf hT F.gen_no_len ?_);show wpAny _ _ (specialOf (Value.ref a) (Str.ofString "__length_hint__") >>= _) _ _ _;refine wpAny_bind (wpAny_specialOf hT F.gen_no_hint ?_);exact wpAny_pure (h _)
structure Past (C : Addr) (s s' : Shared) : Prop where
 keep : KpD C s.heap s'.heap
 bare : (∀ x ∈ s.gens, x.bare = true) -> ∀ x ∈ s'.gens, x.bare = true
 os : s'.os = s.os
theorem src_gen {a C : Addr} {g : Nat} {hD : Heap} {tot : List Str} (hh : A.handled = none) (hroom : A.depth < recursionLimit) (g0 : G w mg mb s.heap) (hg : s.heap.IsGen a g) (hgl : g < s.gens.size) (hd : Kp hD s.heap) (hC : C < s.heap.objs.size) (lo : 456 <= C) (haC : a ≠ C) (hline : tot.length <= sizeLine)
  (hliv : ∀ s₁, s₁.gens = s.gens -> Kp s.heap s₁.heap -> (∃ o, s₁.heap.get? s.heap.objs.size = some o) -> Liv w A.in1 tot (s.heap.objs.size + 1) s.gens.size C hD g 0 s₁) :
  Src w A s.heap.objs.size a a "generator" tot.length (fun i v => ∃ x t, tot[i]? = some x ∧ v = .str x t) (fun i s₁ => Past C s s₁ ∧ s₁.heap.IsGen a g ∧ s₁.heap.NoLimit ∧ i <= tot.length ∧ Liv w A.in1 tot (s.heap.objs.size + 1) s.gens.size C hD g i s₁) (fun s' => Past C s s') s := by
 obtain ⟨oa, nm, qn, ea, ca, da, sa⟩ := id hg;have hlt : ∀ {b : Addr} {o : Obj}, s.heap.get? b = some o -> b ≠ s.heap.objs.size := fun e => Nat.ne_of_lt (Heap.lt_size e);have hDS : hD.get? s.heap.objs.size = none := by
  cases q : hD.get? s.heap.objs.size with
  | none => rfl
  | some o => exact absurd rfl (hlt (hd _ _ q))
 have turn : ∀ {s₁ s₂ : Shared}, GuarG (s.heap.objs.size + 1) s.gens.size C g s₁ s₂ -> Past C s s₁ -> s₁.heap.IsGen a g -> s₁.heap.NoLimit -> Past C s s₂ ∧ s₂.heap.IsGen a g ∧ s₂.heap.NoLimit := by
  intro s₁ s₂ G p hg1 hl1;obtain ⟨o, nm, qn, e, r⟩ := hg1;obtain ⟨mc, ⟨o2, es2, ep2, e2, r2⟩, q2⟩ := hl1;have hst : cStatics < s.heap.objs.size ∧ cStatics ≠ C :=
   ⟨Nat.lt_of_lt_of_le (by decide) g0.size, Nat.ne_of_lt (Nat.lt_of_lt_of_le (by decide) lo)⟩
  refine ⟨⟨fun b o hb e => G.keep b o (Nat.lt_succ_of_lt (Heap.lt_size e)) hb (p.keep b o hb e), fun h => G.bare (p.bare h), G.os.trans p.os⟩, ⟨o, nm, qn, G.keep _ _ (Nat.lt_succ_of_lt (Heap.lt_size ea)) haC e, r⟩, ⟨mc, ⟨o2, es2, ep2, G.keep _ _ (Nat.lt_succ_of_lt hst.1) hst.2 e2, r2⟩, q2⟩⟩
 constructor
 ·decide
 ·decide
 ·exact hline
 ·rintro i s₁ h' ⟨p, hg1, hl1, hi, L⟩ hs hSo
  refine ⟨⟨fun b o hb e => (hs.2 b (hlt e)).trans (p.keep b o hb e), p.bare, p.os⟩, ?_, ?_, hi, L.asm ⟨fun b o hb e => (hs.2 b (fun q => ?_)).trans e, fun b o _ e => ?_, rfl, fun _ _ => rfl, rfl⟩ rfl⟩
  ·obtain ⟨o, nm, qn, e, r⟩ := hg1;exact ⟨o, nm, qn, (hs.2 _ (hlt ea)).trans e, r⟩
  ·obtain ⟨mc, ⟨o2, es2, ep2, e2, r2⟩, q2⟩ := hl1;exact ⟨mc, ⟨o2, es2, ep2, (hs.2 _ (Nat.ne_of_lt (Nat.lt_of_lt_of_le (by decide) g0.size))).trans e2, r2⟩, q2⟩
  ·subst q;rcases hb with h | h | h | h
   ·exact absurd hC (Nat.not_lt.mpr (Nat.le_of_eq h))
   ·exact absurd (Nat.lt_succ_self _) (Nat.not_lt.mpr h)
   ·exact absurd h (Nat.not_lt.mpr g0.size)
   ·exact h hDS
  ·by_cases hb : b = s.heap.objs.size
   ·rw [hb]; exact hSo
   ·exact ⟨o, (hs.2 b hb).trans e⟩
 ·intro s₁ Q E o hgn hos hdr hk _ _ _ hS hQ;refine wpAny_pyIter_gen (hg.keeps hk) (hQ _ ⟨⟨fun b o _ e => hk _ _ e, fun h => by rw [hgn]; exact h, hos⟩, hg.keeps hk, ?_, Nat.zero_le _, hliv s₁ hgn hk ⟨_, hS⟩⟩ hS (hg.keeps hk).typeIs);obtain ⟨mc, ⟨o2, es2, ep2, e2, r2⟩, q2⟩ := g0.lim;exact ⟨mc, ⟨o2, es2, ep2, hk _ _ e2, r2⟩, q2⟩
 ·exact fun s₂ Q E st hT hQ => hint_gen hT hQ
 ·rintro i s₁ Q E o hi ⟨p, hg1, hl1, hi', L⟩ hS hQ
  refine gen_next hh hl1 hroom hg1 L hi' (fun x t s₂ hx G L2 => ?_) fun e => absurd e (ar12 hi);obtain ⟨p2, hg2, hl2⟩ := turn G p hg1 hl1;exact hQ _ _ ⟨x, t, hx, rfl⟩ ⟨p2, hg2, hl2, (hi), L2⟩ (G.keep _ _ (Nat.lt_succ_self _) (Nat.ne_of_gt hC) hS)
 ·rintro s₁ Q E o ⟨p, hg1, hl1, hi', L⟩ hS hQ
  refine gen_next hh hl1 hroom hg1 L hi' (fun x t s₂ hx G L2 => ?_) fun _ s₂ G => ?_
  ·rw [List.getElem?_eq_none (Nat.le_refl _)] at hx; cases hx
  ·exact hQ _ (turn G p hg1 hl1).1 (G.keep _ _ (Nat.lt_succ_self _) (Nat.ne_of_gt hC) hS)
theorem list_generate {c : DC} {R : RG} {k : Nat} {Q : Value -> Shared -> Prop} (g : G w mg mb s.heap) (hA : Rm A (3 * k + 15)) (D : DFAAt w s.heap c) (hr : c.rows = encR (rowsOf R)) (hw : WF R) (hfin : c.fin = finOf R) (h0 : (0 : Int) ∈ ids R ∨ R = []) (hlen : ∀ y ∈ lang R 0, y.length <= k) (hk : k <= 50) (hline : (lang R 0).length <= 1000)
  (h : ∀ s' S C acc n, Past C s s' -> s.heap.get? C = none -> s'.heap.get? S = some (lstO acc n) -> s.heap.objs.size <= S -> S ≠ C -> 456 <= C -> StrsAre acc.toList ((lang R 0).map mkS) -> Q (.ref S) s') :
  wpAny (model PP w) A (call (.ref 144) [.ref c.x.m]) (fun v s₁ => wpAny (model PP w) A (call (.type "list") [v]) Q E s₁) E s := by
 obtain ⟨name, qual, params, body, scope, dV, kV, doc, pm, cdv, ct, oc, an, od, osl, ho, hcd, OK, CL⟩ := gen_pack w;refine wpAny_call (CL mg mb s A _ c.x.m g (by have := hA.room; exact this) fun s1 C a t g1 k1 hC lo hCa hCs hns hgen hgens hos => ?_);show wpAny (model PP w) A (call (.type "list") [.ref a]) Q E s1;have hCl : C < s1.heap.objs.size := hns.lt;have hgs : s1.gens.size = s.gens.size + 1 := by rw [hgens, Array.size_push]
 have hCS : s1.heap.objs.size ≠ C := Nat.ne_of_gt hCl;have r3 : Rm A.in1.in1.in1 (3 * k + 12) := hA.in1.in1.in1;refine list_w (src_gen (tot := (lang R 0).map mkS) (hD := s.heap) (C := C) (by exact r3.hh) (by exact r3.room) g1 hgen (by rw [hgs]; exact Nat.lt_succ_self _) k1 hCl lo (Nat.ne_of_gt hCa) (by rw [List.length_map, sizeLine_eq]; exact ar19 hline) fun s₂ e1 e2 e3 => ?_) hgen.typeIs fun s' acc n p hS hI => ?_
 ·refine ⟨.fresh (.func body (envOf qual scope C 144 cdv)), by rw [e1, hgens]; exact Array.getElem?_push_size .., by rw [hgs]; exact Nat.lt_succ_self _, fun s'' as => ⟨rfl, ?_⟩⟩;have Gi : GS w mg mb s.heap C s1.heap.objs.size s1.gens.size s₂ s₂ (fun y => ([("self", Value.ref c.x.m), ("state", .none), ("sofar", .str (mkS []) t)] : List (Str × Value)).reverse.lookup y) :=
   ⟨g1.low fun b o _ e => e2 b o e, lo, hns.keeps e2, fun b o e => e2 b o (k1 b o e), hC, .refl .., Nat.le_of_eq (by rw [e1]), e3, hCS⟩
  rw [Nat.sub_zero, List.length_map];exact OK k mg mb s.heap c R _ 0 [] C s1.heap.objs.size s1.gens.size s'' _ 0 t .none D hr hw hfin h0 hlen r3 (by simp; exact ar255 hk) (Gi.asm as) rfl rfl (.inr ⟨rfl, rfl⟩) rfl
 ·refine h s' _ C acc n ⟨fun b o hb e => p.keep b o hb (k1 b o e), fun hb => p.bare ?_, p.os.trans hos⟩ hC hS (Nat.le_trans hCs (Nat.le_of_lt hCl)) hCS lo ?_
  ·rw [hgens];intro x hx;rcases Array.mem_push.mp hx with hx | rfl
   ·exact hb x hx
   ·rfl
  ·refine strs_of_acc (n := 0) (w := w) ⟨hI.1, fun i v hv => ?_⟩;obtain ⟨x, t, e, rfl⟩ := hI.2 i v hv;exact ⟨x, e, strKind_is _ _ _ _⟩
end
end Mine
end
section
open PySem PySem.W PySem.Calls PyProof.Rows PySem.Spec
namespace Mine
section
variable {w : World} {mg mb : Str -> Option Value} {A : Around} {E : Value -> Shared -> Prop} {s : Shared}
variable {K : Type} [DecidableEq K] {knd : KeyKind PP w K}
theorem call_set_dict {d : Addr} {kvs : List (K × Value)} {Q : Value -> Shared -> Prop} (hh : A.handled = none) (hm : s.heap.DictOf knd d kvs) (hd : (d == sysModules) = false) (hsc : ∀ (k : K) (v : Value), knd.is k v = true -> v.scannable = true) (hb : kvs.length < 64)
  (h : ∀ s', Stp W0 s s' -> SetX knd s'.heap s.heap.objs.size (kvs.map (·.1)) -> Q (.ref s.heap.objs.size) s') : wpAny (model PP w) A (call (.type "set") [.ref d]) Q E s := by
 have hdl : d < s.heap.objs.size := by obtain ⟨_, _, _, e, _⟩ := hm; exact Heap.lt_size e
 refine call_set_w (P := fun s' => Stp W0 s s' ∧ SetX knd s'.heap s.heap.objs.size (kvs.map (·.1))) (fun A' E' Q' hA hQ => ?_) (fun s' ⟨x, y⟩ => h s' x y);have hS : (s.heap.push (setO0 w)).get? s.heap.objs.size = some (setO0 w) := Heap.get?_push_size _ rfl;refine up_dict (s := { s with heap := s.heap.push (setO0 w) }) (knd := knd) (hA.trans hh) (hm.keep fun b o e => Heap.get?_push_of_some _ e) hd hS (Nat.ne_of_lt hdl) hsc hb fun h' tk hk hX => hQ _ ⟨?_, hX⟩;have k : Kp s.heap h' := fun b o e => hk b o (Nat.ne_of_lt (Heap.lt_size e)) (Heap.get?_push_of_some _ e);exact ⟨fun b o e => ⟨o, k b o e⟩, fun b o _ e => k b o e, rfl, rfl⟩
theorem call_set_list {l : Addr} {items : Array Value} {key : Nat -> K} {Q : Value -> Shared -> Prop} (hh : A.handled = none) (hl : s.heap.IsList l items) (hval : ∀ (i : Nat) (v : Value), items[i]? = some v -> knd.is (key i) v = true ∧ v.scannable = true) (hb : items.size + 1 < scanBound)
  (h : ∀ s', Stp W0 s s' -> SetX knd s'.heap s.heap.objs.size (addN [] key items.size) -> Q (.ref s.heap.objs.size) s') : wpAny (model PP w) A (call (.type "set") [.ref l]) Q E s := by
 have hdl : l < s.heap.objs.size := by obtain ⟨_, e, _⟩ := hl; exact Heap.lt_size e
 refine call_set_w (P := fun s' => Stp W0 s s' ∧ SetX knd s'.heap s.heap.objs.size (addN [] key items.size)) (fun A' E' Q' hA hQ => ?_) (fun s' ⟨x, y⟩ => h s' x y);have hS : (s.heap.push (setO0 w)).get? s.heap.objs.size = some (setO0 w) := Heap.get?_push_size _ rfl;refine up_list (s := { s with heap := s.heap.push (setO0 w) }) (knd := knd) (hA.trans hh) (keepsL hl fun b o e => Heap.get?_push_of_some _ e) (SetX.fresh hS) (Nat.ne_of_lt hdl) hval (by simpa using hb) fun h' tk hk hX => hQ _ ⟨?_, hX⟩;have k : Kp s.heap h' := fun b o e => hk b o (Nat.ne_of_lt (Heap.lt_size e)) (Heap.get?_push_of_some _ e);exact ⟨fun b o e => ⟨o, k b o e⟩, fun b o _ e => k b o e, rfl, rfl⟩
theorem sorted_set_int {a : Addr} {ks : List Int} {Q : Value -> Shared -> Prop} (hh : A.handled = none) (hS : SetX (intKind PP w) s.heap a ks) (hlen : ks.length < 64)
  (h : ∀ s' B out ns, Stp W0 s s' -> s'.heap.IsList B out -> s.heap.objs.size <= B -> IntsAre out.toList ns -> ns.Perm ks -> ns.Pairwise (· <= ·) -> Q (.ref B) s') : wpAny (model PP w) A (call (.builtin "sorted") [.ref a]) Q E s := by
 obtain ⟨kk, I, St, hp, X⟩ := src_set (A := A.in1.in1) hS hh;have hT : s.TypeIs (.ref a) "set" := by obtain ⟨o, es, ep, t, e, hex, _⟩ := hS; exact ⟨o, e, hex.1⟩
 refine sorted_coll_ints (collect_w X hT fun s' acc c S hSS hI => ?_);have hia : IntsAre acc.toList kk := by
  have : ∀ (l : List Value) (ks : List Int), l.length = ks.length -> (∀ (i : Nat) (v : Value), l[i]? = some v -> ∃ k, ks[i]? = some k ∧ (intKind PP w).is k v = true) -> IntsAre l ks := by
   intro l
   induction l with
   | nil => intro ks hl _; cases ks with | nil => exact .nil | cons _ _ => simp at hl
   | cons v l ih =>
    intro ks hl hx;cases ks with
    | nil => simp at hl
    | cons p r =>
     obtain ⟨k, e, hk⟩ := hx 0 v rfl;have e' : p = k := by simpa using e
     subst e';obtain ⟨t, rfl⟩ := Value.isInt_shape (show Value.isInt p v = true from hk);exact IntsAre.cons _ _ (ih r (by simpa using hl) fun i v h => by simpa using hx (i + 1) v (by simpa using h))
  exact this _ _ (by simpa using hI.1) fun i v h => hI.2 i v (by simpa using h)
 refine ⟨by rw [← hp.length_eq] at hlen; rw [hia.length]; exact hlen, kk, hia, fun out ns' h1 h2 h3 h2' hk hl => ?_⟩;exact h _ _ out ns' ⟨fun b o e => ⟨o, hk _ _ (S.all _ _ e)⟩, fun b o _ e => hk _ _ (S.all _ _ e), S.gens, S.os⟩ hl (Nat.le_of_lt (Heap.lt_size hSS)) h1 (h2.trans hp) h3
theorem sorted_set_str {a : Addr} {ks : List Str} {Q : Value -> Shared -> Prop} (hh : A.handled = none) (hS : SetX (strKind PP w) s.heap a ks) (hlen : ks.length < 64)
  (h : ∀ s' B out ss, Stp W0 s s' -> s'.heap.IsList B out -> s.heap.objs.size <= B -> StrsAre out.toList ss -> ss.Perm ks -> sortedS ss = true -> Q (.ref B) s') : wpAny (model PP w) A (call (.builtin "sorted") [.ref a]) Q E s := by
 obtain ⟨kk, I, St, hp, X⟩ := src_set (A := A.in1.in1) hS hh;have hT : s.TypeIs (.ref a) "set" := by obtain ⟨o, es, ep, t, e, hex, _⟩ := hS; exact ⟨o, e, hex.1⟩
 refine sorted_coll_strs (collect_w X hT fun s' acc c S hSS hI => ?_);have hia : StrsAre acc.toList kk := strs_of_acc (n := 0) hI;refine ⟨by rw [← hp.length_eq] at hlen; rw [hia.len_eq]; exact hlen, kk, hia, fun out ns' h1 h2 h3 h2' hk hl => ?_⟩;exact h _ _ out ns' ⟨fun b o e => ⟨o, hk _ _ (S.all _ _ e)⟩, fun b o _ e => hk _ _ (S.all _ _ e), S.gens, S.os⟩ hl (Nat.le_of_lt (Heap.lt_size hSS)) h1 (h2.trans hp) h3
inductive AsJ (w : World) (h0 : Heap) (c : DC) (S : Addr) (i : Nat) (b : Heap) (m : Str -> Option Value) : Prop
 | mk (kE : Kp h0 b) (hm : m "stateset" = some (.ref S)) (ks : List Int) (X : SetX (intKind PP w) b S ks) (hlen : ks.length <= 64 + 3 * i) (hmem : ∀ x, x ∈ ks ↔ (∃ r ∈ c.tra, r.1 = x) ∨ ∃ r ∈ c.tra.take i, ∃ y ∈ r.2.2, y.2.1 = x) : AsJ w h0 c S i b m
theorem all_states_spec {c : DC} {Q : Value -> Shared -> Prop} {k : Nat} (g : G w mg mb s.heap) (hA : Rm A (k + 1)) (D : DFAAt w s.heap c) (hn : c.tra.length < 64) (hrow : ∀ r ∈ c.tra, r.2.2.length <= 3)
  (h : ∀ s' S ks, Stp W0 s s' -> SetX (intKind PP w) s'.heap S ks -> s.heap.get? S = none -> 456 <= S -> (∀ x, x ∈ ks ↔ (∃ r ∈ c.tra, r.1 = x) ∨ ∃ r ∈ c.tra, ∃ y ∈ r.2.2, y.2.1 = x) -> Q (.ref S) s') : wpAny (model PP w) A (call (.ref 122) [.ref c.x.m]) Q E s := by
 refine wpAny_call (m_call W0 [("self", .ref c.x.m)] g hA.room (by rfl) (by kernel_rfl) (.of_eq (by rfl)) (locs (by rfl)) (fun s₁ F => ?_) (by decide));refine gQ1 fun Q0 hQ0 => ?_;have hB : ∀ env, Rm (A.deeper env) k := fun env => hA.deeper env;refine wpAny_execs_cons (wpAny_Assign_Name (Call_ (m_bi F (ng_set w) boot_set (m_ct (args_cons (m_attr (m_local F (by rfl) (o_transitions F D.obj fun s1 F => args_nil ?_))))))));have hkl : c.kvs.length < 64 := by unfold DC.kvs; rw [List.length_map]; exact hn
 have hscI : ∀ (k : Int) (v : Value), (intKind PP w).is k v = true -> v.scannable = true := fun k v hk => by
  obtain ⟨t, rfl⟩ := Value.isInt_shape (show Value.isInt k v = true from hk); rfl
 refine call_set_dict (hB default).hh (D.T.keep F.keep) (sysM D.loT) hscI hkl fun s2 S2 hX => ?_;have hn1 := F.none_of (Nat.le_refl s1.heap.objs.size);generalize hSS : s1.heap.objs.size = S at hX hn1 ⊢;have F := F.grow S2;refine (F.rebase) _ fun b1 F kb kn => ?_;have D1 := D.keeps kb;have X1 : SetX (intKind PP w) b1 S (c.kvs.map (·.1)) := hX.keep fun o e => kn _ _ hn1.2.1 e;refine m_store F fun s3 F => ?_;refine wpAny_execs_cons (wpAny_For (Call_ (m_glob F (gl_iteritems w) ?_)));refine m_cw (by rfl) (args_cons (m_attr (m_local F (by rfl) (o_transitions F D1.obj fun s4 F => args_nil ⟨F.g.X, ?_⟩))));refine iteritems_spec (knd := intKind PP w) F.g (hB _) D1.loT (D1.T.keep F.keep) fun s5 v S5 hv _ _ => ?_;have F := F.grow S5;obtain ⟨ep, hat⟩ := D.T.dictAt;refine for_items (knd := intKind PP w) (kvs := c.kvs) (ep := ep) (hB default).hh (AsJ w s.heap c S) (fun i b m h => by obtain ⟨k, _⟩ := h; exact hat.keep k) F hv ⟨kb, by rfl, _, X1, by rw [List.length_map]; exact Nat.le_of_lt hkl, fun x => ?_⟩ ?_ ?_
 ·simp [DC.kvs]
 ·intro i key val keyv s b m H' hH hkv hkey hJ F;refine gQ1 fun Qb hQb => ?_;obtain ⟨kE, hm, ks, X, hlen, hmem⟩ := hJ;have D := D.keeps kE;obtain ⟨r, hr, hrv⟩ : ∃ r, c.tra[i]? = some r ∧ val = .ref r.2.1 := by
   unfold DC.kvs at hkv;rw [List.getElem?_map] at hkv;cases hh : c.tra[i]? with
   | none => rw [hh] at hkv; cases hkv
   | some r => rw [hh] at hkv; cases hkv; exact ⟨r, rfl, rfl⟩
  subst hrv;have hrm : r ∈ c.tra := List.mem_of_getElem? hr;obtain ⟨hd, lr⟩ := D.rows r hrm;have hil : i < c.tra.length := (List.getElem?_eq_some_iff.mp hr).1;obtain ⟨oS, eS⟩ : ∃ o, b.get? S = some o := X.ex;have hTS : ∀ {s : Shared}, (Kp b s.heap) -> s.TypeIs (.ref S) "set" := fun k => by
   obtain ⟨o, es, ep, t, e, hex, _⟩ := X; exact ⟨o, k _ _ e, hex.1⟩
  refine wpAny_execs_cons (wpAny_Expr_any (MethodCall_ (m_local F (by exact hm) (getMethod_builtin (hTS F.keep) PySem.F.plainAttrs_set PySem.F.slot_set_update PySem.F.type_set_update (X.setOf.keep F.keep).noDict ?_))));refine m_cwb (args_cons (MethodCall_ (m_local F (by rfl) (gm_dvalues (hd.keep F.keep) (callWith_method0 ?_)))));refine call_meetsIn PySem.F.slot_dict_values (hd.keep F.keep).typeIs PySem.F.entry_dict_values (PySem.F.args_dict_values_1 _) (meets_dict_values (strKind PP w) r.2.1 (sysM lr)) ⟨⟨_, hd.keep F.keep⟩, ?_⟩;have hnv := F.none_of (Nat.le_refl _);have F2 := F.grow (s' := { s with heap := s.heap.push { cls := .type "dict_values", data := .fields #[.ref r.2.1] } }) (.of fun _ _ e => Heap.get?_push_of_some _ e);have hv2 : ({ s with heap := s.heap.push { cls := .type "dict_values", data := .fields #[.ref r.2.1] } } : Shared).heap.IsValuesView s.heap.objs.size r.2.1 := ⟨_, Heap.get?_push_size _ rfl, rfl, rfl⟩;have hSne : S ≠ r.2.1 := fun q => by
   obtain ⟨o, es, ep, t, e, hex, hdd, _⟩ := X;obtain ⟨o2, es2, ep2, e2, hex2, _⟩ := hd;rw [q, e2] at e; cases e;exact absurd (hex.1.symm.trans hex2.1) (by decide)
  have hkl3 := hrow r hrm;have hpl : (intPairs r.2.2).length = r.2.2.length := by unfold intPairs; rw [List.length_map]
  refine args_nil (call_update_w (hTS F2.keep) fun A' E' Q' hA' hQ => ?_);refine up_values (knd := strKind PP w) (kn := intKind PP w) (kx := intPairs r.2.2) (key := fun i => (r.2.2.getD i default).2.1) (hA'.trans (hB default).hh) hv2 (hd.keep F2.keep) (X.keep fun o e => F2.keep _ _ e) (Ne.symm hSne) ?_ ?_ ?_ fun h' tk hk hX => hQ _ ?_
  ·exact Nat.ne_of_gt (Heap.lt_size (F.keep _ _ eS))
  ·intro j kx x hx;unfold intPairs at hx;rw [List.getElem?_map] at hx;cases hy : r.2.2[j]? with
   | none => rw [hy] at hx; cases hx
   | some y =>
    rw [hy] at hx; cases hx;simp only [List.getD, hy, Option.getD_some];exact ⟨intKind_is _ _ _ _, rfl⟩
  ·rw [hpl]; simp only [scanBound]; exact ar91 hn hlen hil hkl3
  ·have T2 : Stp (· = S) { s with heap := s.heap.push { cls := .type "dict_values", data := .fields #[.ref r.2.1] } } { s with heap := h', toks := tk } :=
    ⟨fun b o e => by
     by_cases hb : b = S
     ·rw [hb]; obtain ⟨o, _, _, _, e, _⟩ := hX; exact ⟨o, e⟩
     ·exact ⟨o, hk b o hb e⟩, fun b o hb e => by
     by_cases hb' : b = S
     ·rcases hb with hb | hb
      ·exact absurd hb (Nat.not_lt.mpr (hb' ▸ hn1.2.2.2))
      ·exact absurd hb' hb
     ·exact hk b o hb' e, rfl, rfl⟩
   refine (F2.change T2 (fun q => F.ne eS q.symm) (fun p hp q => F.neH eS (List.mem_cons_of_mem _ (by rw [← q]; exact List.mem_map_of_mem hp))) (fun a o ha e => by rw [ha, hn1.2.2.1] at e; cases e)) _ fun b' F3 k1 k2 => ?_;refine wpAny_execs_nil (hQb _ _ ⟨b', _, F3, fun a o e => k1 a o (fun q => by rw [q, hn1.2.2.1] at e; cases e) (kE a o e), hm, addN ks (fun i => (r.2.2.getD i default).2.1) (intPairs r.2.2).length, hX.keep fun o e => k2 _ _ (F.neH eS) e, ?_, fun x => ?_⟩)
   ·have := addN_len ks (fun i => (r.2.2.getD i default).2.1) (intPairs r.2.2).length;exact ar76 hlen hkl3 hpl this
   ·rw [mem_addN, hmem x, List.take_add_one, hr, hpl];have hr' : (∃ j, j < r.2.2.length ∧ (r.2.2.getD j default).2.1 = x) ↔ ∃ y ∈ r.2.2, y.2.1 = x := by
     constructor
     ·rintro ⟨j, hj, e⟩
      refine ⟨r.2.2[j], List.getElem_mem hj, ?_⟩
      simpa [List.getD, hj] using e
     ·rintro ⟨y, hy, e⟩
      obtain ⟨j, hj, rfl⟩ := List.mem_iff_getElem.mp hy;exact ⟨j, hj, by simpa [List.getD, hj] using e⟩
    rw [hr', or_assoc]
    constructor
    ·rintro (h | ⟨r', h1, h2⟩ | h)
     ·exact .inl h
     ·exact .inr ⟨r', List.mem_append_left _ h1, h2⟩
     ·exact .inr ⟨r, List.mem_append_right _ (by simp), h⟩
    ·rintro (h | ⟨r', h1, h2⟩)
     ·exact .inl h
     ·rcases List.mem_append.mp h1 with h1 | h1
      ·exact .inr (.inl ⟨r', h1, h2⟩)
      ·simp at h1; subst h1; exact .inr (.inr h2)
 ·intro s b m hJ F;obtain ⟨kE, hm, ks, X, hlen, hmem⟩ := hJ;refine wpAny_execs_nil (wpAny_execs_cons (wpAny_Return_some (m_local F (by exact hm) ?_)));refine hQ0 _ _ (h _ _ ks F.done (X.keep fun o e => F.keep _ _ e) hn1.2.2.1 hn1.2.2.2 fun x => ?_);rw [hmem x, List.take_of_length_le (by unfold DC.kvs; rw [List.length_map]; exact Nat.le_refl _)]
end
end Mine
end
section
open PySem PySem.W PySem.Calls PyProof.Rows PySem.Spec
namespace Mine
namespace BI
theorem kind : builtinKind "_bisect.bisect_left" = none := by decide +kernel
theorem plain : plainId "_bisect.bisect_left" = true := by decide +kernel
theorem entry : entryFor table "_bisect.bisect_left" = some Builtin.«_bisect.bisect_left» := entryFor_of_fast (by kernel_rfl)
theorem plain_loop : plainId "_bisect.bisect_right.loop" = true := by decide +kernel
theorem entry_loop : entryFor table "_bisect.bisect_right.loop" = some Builtin.«_bisect.bisect_right.loop» := entryFor_of_fast (by kernel_rfl)
end BI
section
variable {w : World} {A : Around} {E : Value -> Shared -> Prop} {s : Shared}
theorem bisect_args (a b : Value) : argsOk "_bisect.bisect_left" ⟨[a, b], []⟩ := by unfold argsOk; kernel_rfl
theorem special_item {l : Addr} {items : Array Value} {v : Value} {k : Int} {t : Tok} {Q : Option Value -> Shared -> Prop} (hl : s.heap.IsList l items) (h0 : 0 <= k) (hx : items[k.toNat]? = some v) (h63 : k < 2 ^ 63) (h : Q (some v) s) :
  wpAny (model PP w) A (callSpecial? (.ref l) "__getitem__" [.int k t]) Q E s := by
 obtain ⟨o, ho, hc, ne, hd⟩ := id hl;refine wpAny_callSpecial?_slot (name := Str.ofString "__getitem__") hl.typeIs slot_list_getitem (wpAny_call_entry slot_list_getitem hl.typeIs entry_list_getitem ?_ (args_list_getitem _ _));show wpAny _ _ (Builtin.List.listSubscript? (.int k t) >>= _) _ _ s;refine wpAny_bind (wpAny_listSubscript_int (fitsIndex_of h0 h63) ?_);clear h63;obtain ⟨j, rfl⟩ := Int.eq_ofNat_of_zero_le h0;have hx' : items[j]? = some v := hx;show wpAny _ _ ((seqItemAt l j >>= fun r => pure (r.map (j, ·))) >>= _) _ _ s;refine wpAny_bind (wpAny_bind (wpAny_seqItemAt ho hd (wpAny_pure ?_)));rw [hx']
 first
  | exact wpAny_bind (wpAny_pure (wpAny_pure ⟨v, rfl, h⟩))
  | exact wpAny_pure ⟨v, rfl, h⟩
theorem lt_lookup : typeLookup (.type "str") "__lt__" = pure (some (.builtin "str.__lt__")) := by rw [typeLookup_type, builtinLookup_eq_fast]; kernel_rfl
theorem bi_turn {l : Addr} {items : Array Value} {x y : Str} {t u : Tok} {lo hi mid : Nat} {R : Result -> Shared -> Prop} (hl : s.heap.IsList l items) (hlt : lo < hi) (hmid : mid = (lo + hi) / 2) (hx : items[mid]? = some (.str y u)) (hz : items.size < 1000)
  (hr : ∀ tk, codeAny (model PP w) A (.builtin "_bisect.bisect_right.loop" ⟨if decide (y.cps.toList < x.cps.toList) = false then [.ref l, .str x t, rawInt lo, rawInt (mid : Nat), .none, .bool false, .bool true, rawInt 0] else [.ref l, .str x t, rawInt (mid + 1 : Nat), rawInt hi, .none, .bool false, .bool true, rawInt 0], []⟩) R { s with toks := tk }) :
  codeAny (model PP w) A (.builtin "_bisect.bisect_right.loop" ⟨[.ref l, .str x t, rawInt lo, rawInt hi, .none, .bool false, .bool true, rawInt 0], []⟩) R s := by
 have hT : s.TypeIs (.ref l) "list" := hl.typeIs;refine codeAny_builtin BI.entry_loop ?_;rw [Around.under_plainId BI.plain_loop _];have hlt' : ((lo : Nat) : Int) < (hi : Nat) := (Int.ofNat_lt.mpr hlt);have hmid' : ((lo : Nat) + (hi : Nat) : Int) / 2 = ((mid : Nat) : Int) := (ar113 hmid);have h63 : ((mid : Nat) : Int) < 2 ^ 63 := by
  have hsz : mid < items.size := (Array.getElem?_eq_some_iff.mp hx).1
  lia
 have hk0 : (0 : Int) <= ((mid : Nat) : Int) := Int.natCast_nonneg _;have hx' : items[((mid : Nat) : Int).toNat]? = some (.str y u) := hx;have hplus : ((mid + 1 : Nat) : Int) = ((mid : Nat) : Int) + 1 := ar32;rw [hplus] at hr;clear hmid hx hplus;generalize ((mid : Nat) : Int) = k at *;unfold Builtin.«_bisect.bisect_right.loop»;dsimp only [rawInt];rw [if_pos hlt', hmid'];refine wpAny_bind (wpAny_mkInt ?_);refine wpAny_bind (special_item (s := { s with toks := s.toks + 1 }) hl hk0 hx' h63 ?_);have hb := slot_str_lt.bind (Value.str y u)
 wp_walk
 refine wpAny_of_eq (a := some (.builtin "str.__lt__")) lt_lookup ?_
 wp_walk
 refine wpAny_askSetting ?_;simp only [Bool.false_eq_true, if_false];rw [hb];refine wpAny_mono (Q := fun a s' => a = some (Value.builtin "str.__lt__", [Value.str y u]) ∧ s' = { s with toks := s.toks + 1 }) (E := fun _ _ => False) ?_ (fun a s' ⟨e1, e2⟩ => ?_) fun _ _ x => x.elim
 ·split
  ·exact wpAny_bind (wpAny_pure (wpAny_pure ⟨rfl, rfl⟩))
  ·exact wpAny_tryCatch (wpAny_bind (wpAny_pure (wpAny_pure ⟨rfl, rfl⟩)))
 ·subst e1; subst e2;dsimp only;refine wpAny_bind (call_str_lt ?_);refine wpAny_pure ?_
  wp_walk
  have hr1 := hr (s.toks + 1);cases hd : decide (y.cps.toList < x.cps.toList) with
  | true =>
   rw [hd] at hr1;exact wpAny_pure ⟨plainId_quiet BI.plain_loop _, hr1⟩
  | false =>
   rw [hd] at hr1;exact wpAny_pure ⟨plainId_quiet BI.plain_loop _, hr1⟩
theorem bisect_spec {l : Addr} {items : Array Value} {x : Str} {t : Tok} {Q : Value -> Shared -> Prop} (hl : s.heap.IsList l items) (hz : items.size < 1000)
  (h : ∀ tk, codeAny (model PP w) A (.builtin "_bisect.bisect_right.loop" ⟨[.ref l, .str x t, rawInt (0 : Nat), rawInt items.size, .none, .bool false, .bool true, rawInt 0], []⟩) (fun r s' => match r with | .ok (.ret v) => Q v s' | .ok _ => False | .error e => E e s') { s with toks := tk }) :
  wpAny (model PP w) A (call (.builtin "_bisect.bisect_left") [.ref l, .str x t]) Q E s := by
 refine call_function_tree BI.kind BI.plain BI.entry (bisect_args _ _) ?_;have hT : s.TypeIs (.ref l) "list" := hl.typeIs;obtain ⟨⟨ocls, odict, odata, oslots⟩, ho, hc, n, hd⟩ := id hl;simp only at hc hd;subst hc; subst hd;unfold Builtin.«_bisect.bisect_left»
 wp_walk
 refine wpAny_of_eq (a := some (.builtin "list.__len__")) slot_list_len.lookup ?_
 wp_walk
 refine codeAny_builtin entry_len ?_;rw [Around.under_plainId plain_len _];refine wpAny_mono (wpAny_len_body_list (Q := fun v s' => ∃ t tk, v = .int items.size t ∧ s' = { s with toks := tk }) (E := fun _ _ => False) hl (by lia) ⟨_, _, rfl, rfl⟩) (fun fin s' ⟨r, e, t2, tk, e2, e3⟩ => ?_) fun _ _ x => x.elim;subst e; subst e2; subst e3
 wp_walk
 refine wpAny_of_eq (a := some (.builtin "list.__getitem__")) slot_list_getitem.lookup ?_
 wp_walk
 exact ⟨plainId_quiet BI.plain_loop _, h tk⟩
theorem lab_lt (a b : Nat) : decide ((lab a).cps.toList < (lab b).cps.toList) = decide (a < b) := by
 have : ((lab a).cps.toList < (lab b).cps.toList) ↔ a < b := by
  show ([a] < [b]) ↔ a < b
  constructor
  ·intro h;cases h with
   | rel h => exact h
   | cons h => cases h
  ·exact fun h => List.Lex.rel h
 exact decide_eq_decide.mpr this
theorem bi_loop {l : Addr} {items : Array Value} {ls : List Nat} {bd : Nat} {t : Tok} {R : Result -> Shared -> Prop} {h0 : Heap} (hl : h0.IsList l items) (hs : StrsAre items.toList (ls.map lab)) (hasc : ls.Pairwise (· < ·)) (hz : ls.length < 1000) {s0 : Shared} (hs0 : s0.heap = h0)
  (hR : ∀ p t tk, p <= ls.length -> (∀ (i c : Nat), i < p -> ls[i]? = some c -> c < bd) -> (∀ (i c : Nat), p <= i -> ls[i]? = some c -> bd <= c) -> R (.ok (.ret (.int (p : Nat) t))) { s0 with toks := tk }) :
  ∀ (k lo hi tk : Nat), hi - lo = k -> lo <= hi -> hi <= ls.length -> (∀ (i c : Nat), i < lo -> ls[i]? = some c -> c < bd) -> (∀ (i c : Nat), hi <= i -> ls[i]? = some c -> bd <= c) ->
   codeAny (model PP w) A (.builtin "_bisect.bisect_right.loop" ⟨[.ref l, .str (lab bd) t, rawInt lo, rawInt hi, .none, .bool false, .bool true, rawInt 0], []⟩) R { s0 with toks := tk } := by
 have hsz : items.size = ls.length := by rw [← Array.length_toList, hs.len_eq, List.length_map]
 intro k
 induction k using Nat.strongRecOn with
 | _ k ih =>
  intro lo hi tk hk hle hhi h1 h2
  by_cases hlt : lo < hi
  ·have hm : (lo + hi) / 2 < ls.length := (ar38 hhi hlt);obtain ⟨c, hc⟩ : ∃ c, ls[(lo + hi) / 2]? = some c := ⟨_, List.getElem?_eq_getElem hm⟩;obtain ⟨u, hu⟩ := hs.at (j := (lo + hi) / 2) (y := lab c) (by rw [List.getElem?_map, hc]; rfl);rw [Array.getElem?_toList] at hu;have mono : ∀ (i j a b : Nat), i < j -> ls[i]? = some a -> ls[j]? = some b -> a < b := fun i j a b hij ha hb => by
    obtain ⟨hi', rfl⟩ := List.getElem?_eq_some_iff.mp ha;obtain ⟨hj', rfl⟩ := List.getElem?_eq_some_iff.mp hb;exact List.pairwise_iff_getElem.mp hasc i j hi' hj' hij
   refine bi_turn (s := { s0 with toks := tk }) (by rw [hs0]; exact hl) hlt rfl hu (ar59 hz hsz) fun tk' => ?_;rw [lab_lt]
   by_cases hcb : c < bd
   ·rw [if_neg (by simp [hcb])];refine ih (hi - ((lo + hi) / 2 + 1)) (ar126 hk hlt) _ _ tk' rfl (ar56 hlt) hhi (fun i a hi' ha => ?_) h2;rcases Nat.lt_or_ge i ((lo + hi) / 2) with h | h
    ·exact Nat.lt_trans (mono _ _ _ _ h ha hc) hcb
    ·obtain rfl : i = (lo + hi) / 2 := (Nat.eq_of_le_of_lt_succ h hi');rw [hc] at ha; cases ha; exact hcb
   ·rw [if_pos (by simp [hcb])];refine ih ((lo + hi) / 2 - lo) (ar127 hk hlt) _ _ tk' rfl (ar55 hlt) (ar46 hm) h1 (fun i a hi' ha => ?_);rcases Nat.lt_or_ge ((lo + hi) / 2) i with h | h
    ·exact Nat.le_trans (Nat.not_lt.mp hcb) (Nat.le_of_lt (mono _ _ _ _ h hc ha))
    ·obtain rfl : i = (lo + hi) / 2 := (Nat.le_antisymm h hi');rw [hc] at ha; cases ha; exact Nat.not_lt.mp hcb
  ·obtain rfl : lo = hi := (ar2 hle hlt);refine codeAny_builtin BI.entry_loop ?_;rw [Around.under_plainId BI.plain_loop _];unfold Builtin.«_bisect.bisect_right.loop»;dsimp only [rawInt];rw [if_neg (ar234)];refine wpAny_bind (wpAny_mkInt (wpAny_pure ?_));exact hR lo _ _ hhi h1 h2
theorem call_bisect {l : Addr} {items : Array Value} {ls : List Nat} {bd : Nat} {t : Tok} {Q : Value -> Shared -> Prop} (hl : s.heap.IsList l items) (hs : StrsAre items.toList (ls.map lab)) (hasc : ls.Pairwise (· < ·)) (hz : ls.length < 1000)
  (h : ∀ p t tk, p <= ls.length -> (∀ (i c : Nat), i < p -> ls[i]? = some c -> c < bd) -> (∀ (i c : Nat), p <= i -> ls[i]? = some c -> bd <= c) -> Q (.int (p : Nat) t) { s with toks := tk }) :
  wpAny (model PP w) A (call (.builtin "_bisect.bisect_left") [.ref l, .str (lab bd) t]) Q E s := by
 have hsz : items.size = ls.length := by rw [← Array.length_toList, hs.len_eq, List.length_map]
 refine bisect_spec hl (ar59 hz hsz) fun tk => ?_;rw [hsz];exact bi_loop (s0 := s) hl hs hasc hz rfl (fun p t tk h1 h2 h3 => h p t tk h1 h2 h3) _ 0 ls.length tk rfl (Nat.zero_le _) (Nat.le_refl _) (fun i c h _ => absurd h (Nat.not_lt_zero _)) fun i c h hc => by rw [List.getElem?_eq_none h] at hc; cases hc
end
end Mine
end
section
open PySem PySem.W PySem.Calls PyProof.Rows PySem.Spec
namespace Mine
section
variable {w : World} {mg mb : Str -> Option Value} {A : Around} {E : Value -> Shared -> Prop} {L : Addr} {sE s s' : Shared} {W : Addr -> Prop} {H : List (Addr × Obj)} {b : Heap} {m : Str -> Option Value} {env : Env}
theorem flight_x {e T : Addr} {oe oT : Obj} {xs ts : Array Value} {Q : Unit -> Shared -> Prop} (he : s.heap.get? e = some oe) (de : oe.data = .fields xs) (x1 : xs[1]? = some (.ref T)) (hT : s.heap.get? T = some oT) (dT : oT.data = .fields ts) (h3 : 3 < ts.size)
  (h : Q () { s with heap := s.heap.update T (Obj.mapFields (·.setIfInBounds 3 .none)) }) : wpAny (model PP w) A (setFlight (.ref e) none) Q E s := by
 unfold setFlight;refine wpAny_bind (wpAny_field he de x1 ?_);rw [if_pos (show (Value.ref T != Value.none) = true from by simp)];exact wpAny_setField hT dT h3 h
theorem m_catch2 {X : String} {x : Str} {env : Env} {outer : List Env} {e : Addr} {h' : Heap} {t : Nat} {np pos : Pos} {b₀ : Stmt} {suite : List Stmt} {rest : List ExceptHandler} {Q : Flow -> Shared -> Prop}
  (F : Fx w mg mb L sE W H b s m) (hb : NonF (fra outer) b) (R : Frs A (env :: outer) s.heap) (live : ∀ a ∈ fra outer, (∃ o, sE.heap.get? a = some o) ∧ 456 <= a ∧ a ≠ L ∧ ¬ W a)
  (hx : Heap.NewExc s.heap h' e X) (ng : nsIn (KK w) mainGlobals x = some none) (hv : bootBuiltins x = some (.type X))
  (hexc : isSubtype (.type X) (.type "BaseException") = pure true) (hnt : isSubtype (.type ((Manifest.find? X).elim "type" fun x => x.metatype)) (.type "tuple") = pure false) (hsub : isSubtype (.type X) (.type X) = pure true)
  (h : ∀ s' sE' E' oe xs, Shift (fra outer) sE sE' -> Fx w mg mb L sE' W H b s' m -> s'.heap.get? e = some oe -> oe.data = .fields xs -> xs[2]? = some .none -> wpAny (model PP w) (A.mark (some (.ref e))) (execs (b₀ :: suite) env) Q E' s')
  (hf : env.frame = some L := by rfl) (hn : x ≠ "__name__" := by decide) (hG : env.globals = mainGlobals := by rfl) (hB : env.builtins = builtinsNs := by rfl) (hk : env.scope.kind = .function := by rfl) (hkx : env.kindOf x = some .globalImplicit := by rfl) (hd : (x == ("__debug__" : Str)) = false := by decide) :
  wpAny (model PP w) A (noteFrame (.ref e) env) (fun _ s₂ => wpAny (model PP w) A (setFlight (.ref e) none) (fun _ s₃ => wpAny (model PP w) A (handleBy (.ref e) env (.ExceptHandler (some (.Name x np)) none (b₀ :: suite) pos :: rest)) Q E s₃) E s₂) E { s with heap := h', toks := t } := by
 obtain ⟨oe, t0, he, hc, hde⟩ := hx.there;have hLH : L :: fra outer = fra (env :: outer) := by simp [fra, hf]
 have hbase : ∀ a ∈ fra (env :: outer), (hideAll s.heap (L :: fra outer)).get? a = none := fun a ha => hideAll_none _ (by rw [hLH]; exact ha);have fun0 : h'.FunFrames (hideAll s.heap (L :: fra outer)) (env :: outer) := funFrames fun en hen => by
  obtain ⟨hkk, L', o, hL', eL, hdL, _⟩ := R.ok en hen;exact ⟨hkk, L', o, hL', hbase _ (List.mem_filterMap.mpr ⟨en, hen, hL'⟩), hx.keeps _ _ eL, nfd hdL⟩
 have hene : e ∉ L :: fra outer := fun hm => by
  rw [hLH] at hm;obtain ⟨o, eo, _⟩ := R.mem hm;rw [hx.new] at eo; cases eo
 unfold noteFrame;simp only [hf];refine wpAny_bind (wpAny_field (s := { s with heap := h', toks := t }) he hde rfl ?_);rw [if_neg (by simp)];refine wpAny_bind (wpAny_frameOf_fun (s := { s with heap := h', toks := t }) R.stack fun0 hf fun h₁ hs₁ => ?_);rw [show (env :: outer).filterMap (·.frame) = L :: fra outer from hLH.symm] at hs₁;obtain ⟨hz1, hk1, hu1⟩ := hs₁;refine wpAny_bind (wpAny_entryPlaceOf fun pl hpl => ?_);unfold EntryCells.newEntry newFields;refine wpAny_bind (wpAny_newObj_type ?_ (hpl.sizeOk5 _ _ _ _ _));have he₁ : h₁.get? e = some oe := (hk1 e hene).trans he;have hTe : h₁.objs.size ≠ e := Nat.ne_of_gt (Heap.lt_size he₁);have hobx : ∀ (v0 : Value), ∃ ob : Obj, ob = { cls := .type "traceback", dict := none, data := .fields ([v0, Value.ref L, Value.none, rawInt L, Value.none] ++ (if pl.isEmpty then List.replicate 6 Value.none else pl)).toArray } ∧ ob.isFreed = false ∧ ∃ ts, ob.data = .fields ts ∧ 3 < ts.size := fun v0 => ⟨_, rfl, rfl, _, rfl, by simp only [List.size_toArray, List.length_append, List.length_cons, List.length_nil]; exact ar238⟩;obtain ⟨ob, hob, hobf, ts, hobd, h3s⟩ := hobx (#[t0, Value.none, Value.none, Value.none, Value.bool false, Value.none][1]);rw [← hob];have he₂ : (h₁.push ob).get? e = some oe := Heap.get?_push_of_some _ he₁;refine wpAny_setField he₂ hde (by simp) ?_;have hd₃ := Obj.data_mapFields hde (·.setIfInBounds 1 (Value.ref h₁.objs.size));have he₃ := Heap.get?_update_self (Obj.mapFields (·.setIfInBounds 1 (Value.ref h₁.objs.size))) he₂ (Obj.isFreed_of_fields hd₃);have hT₃ := (Heap.get?_update_other (h₁.push ob) (Obj.mapFields (·.setIfInBounds 1 (Value.ref h₁.objs.size))) (Ne.symm hTe)).trans (Heap.get?_push_size h₁ hobf);generalize hh3 : (h₁.push ob).update e (Obj.mapFields (·.setIfInBounds 1 (Value.ref h₁.objs.size))) = h3 at he₃ hT₃ ⊢;have keep3 : KpD e h₁ h3 := fun a o ha ea => by
  rw [← hh3]; exact (Heap.get?_update_other _ _ (Ne.symm ha)).trans (Heap.get?_push_of_some _ ea)
 have x1 : ((#[t0, Value.none, Value.none, Value.none, Value.bool false, Value.none] : Array Value).setIfInBounds 1 (Value.ref h₁.objs.size))[1]? = some (.ref h₁.objs.size) := by simp
 refine flight_x (s := { s with heap := h3, toks := t }) he₃ hd₃ x1 hT₃ hobd h3s ?_;have up : ∀ (h3 : Heap) a, a ≠ h₁.objs.size -> (h3.update h₁.objs.size (Obj.mapFields (·.setIfInBounds 3 Value.none))).get? a = h3.get? a := fun h3 a ha => Heap.get?_update_other _ _ (Ne.symm ha);have kf : ∀ a o, a ∉ L :: fra outer -> s.heap.get? a = some o -> h3.get? a = some o ∧ a ≠ h₁.objs.size := fun a o ha eo => by
  have e1 : h₁.get? a = some o := (hk1 a ha).trans (hx.keeps a o eo);exact ⟨keep3 a o (fun q => by rw [q, hx.new] at eo; cases eo) e1, Nat.ne_of_lt (Heap.lt_size e1)⟩
 have uf : ∀ a ∈ L :: fra outer, ∀ o, s.heap.get? a = some o -> ∃ sl, h3.get? a = some { o with slots := sl } ∧ a ≠ h₁.objs.size := fun a ha o eo => by
  obtain ⟨sl, e1⟩ := hu1 a o (hx.keeps a o eo);exact ⟨sl, keep3 a _ (fun q => hene (q ▸ ha)) e1, Nat.ne_of_lt (Heap.lt_size e1)⟩
 generalize hh4 : h3.update h₁.objs.size (Obj.mapFields (·.setIfInBounds 3 Value.none)) = h4;have up4 : ∀ a, a ≠ h₁.objs.size -> h4.get? a = h3.get? a := fun a ha => by rw [← hh4]; exact up h3 a ha
 have hdT4 := Obj.data_mapFields hobd (·.setIfInBounds 3 Value.none);have hT₄ : h4.get? h₁.objs.size = some (ob.mapFields (·.setIfInBounds 3 Value.none)) := by rw [← hh4]; exact Heap.get?_update_self _ hT₃ (Obj.isFreed_of_fields hdT4)
 have he₄ : h4.get? e = _ := (up4 e (Ne.symm hTe)).trans he₃;refine (F.shift (s' := { s with heap := h4, toks := t }) hb live (fun a o ha eo => (up4 a (kf a o ha eo).2).trans (kf a o ha eo).1) (fun a ha o eo => (by obtain ⟨sl, e1, n1⟩ := uf a ha o eo; exact ⟨sl, (up4 a n1).trans e1⟩)) rfl rfl) _ fun sE1 _ F1 => ?_;refine wpAny_handleBy_builtin (X := X) (T := X) (b := true) hexc hnt hsub (m_bi F1 ng hv ⟨rfl, ⟨_, he₄, (Obj.cls_mapFields ..).trans hc⟩, ?_⟩ hn hG hB hk hkx hd);simp only [if_true];refine flight_x (s := { s with heap := h4, toks := t }) he₄ hd₃ x1 hT₄ hdT4 (by simpa using h3s) ?_;have up5 : ∀ a, a ≠ h₁.objs.size -> (h4.update h₁.objs.size (Obj.mapFields (·.setIfInBounds 3 Value.none))).get? a = h3.get? a := fun a ha => (up h4 a ha).trans (up4 a ha);refine (F.shift (s' := { s with heap := h4.update h₁.objs.size (Obj.mapFields (·.setIfInBounds 3 Value.none)), toks := t }) hb live (fun a o ha eo => (up5 a (kf a o ha eo).2).trans (kf a o ha eo).1) (fun a ha o eo => (by obtain ⟨sl, e1, n1⟩ := uf a ha o eo; exact ⟨sl, (up5 a n1).trans e1⟩)) rfl rfl) _ fun sE2 S2 F2 => ?_;have he5 := (up5 e (Ne.symm hTe)).trans he₃;exact h _ sE2 _ _ _ S2 F2 he5 hd₃ (by simp)
end
end Mine
end
section
open PySem PySem.W PySem.Calls PyProof.Rows PySem.Spec
namespace Mine
structure OutOk (R : RG) (c : DC) : Prop where
 txt : ∀ x ∈ c.out, StrsAre x.2.2 ((arcsOf R x.1).map fun y => lab y.1)
 keys : ∀ x ∈ c.out, x.1 = 0 ∨ x.1 ∈ ids R
theorem ng_ord' (w : World) : nsIn (KK w) mainGlobals "ord" = some none := by kernel_rfl
theorem DFAAt.setOl {w : World} {h h' : Heap} {c : DC} {out' : List (Int × Addr × List Value)} (D : DFAAt w h c) (k : KpD c.x.Ol h h') (hO : h'.DictOf (intKind PP w) c.x.Ol (out'.map fun x => (x.1, Value.ref x.2.1)))
  (ho : ∀ x ∈ out', h'.IsList x.2.1 x.2.2.toArray) : DFAAt w h' { c with out := out' } := by
 obtain ⟨a, t0, t1, t2, t3, t4, t5, n, e⟩ := D.obj;refine (dob D.Ol) _ fun oO eO hexO => ?_;obtain ⟨n1, n2, n3, n4, n5, n6, n7, n8, n9, n10, _⟩ := D.ndx;have kd : ∀ {K : Type} [DecidableEq K] {knd : KeyKind PP w K} {z : Addr} {kvs : List (K × Value)}, z ≠ c.x.Ol -> h.DictOf knd z kvs -> h'.DictOf knd z kvs := fun hz x => movD x fun o e => k _ _ hz e;have hm : c.x.m ≠ c.x.Ol := fun q => by
  rw [q, eO] at a; cases a;exact absurd hexO.1 (by simp)
 have hFs : c.x.Fs ≠ c.x.Ol := fun q => by
  refine (sob D.Fs) _ fun o e hex => ?_;rw [q, eO] at e; cases e;exact absurd (hexO.1.symm.trans hex.1) (by decide)
 refine ⟨⟨k _ _ hm a, t0, t1, t2, t3, t4, t5, n, k _ _ n3 e⟩, kd n6 D.T, fun x hx => ⟨kd (fun q => n10 (by rw [← q]; exact List.mem_map_of_mem hx)) (D.rows x hx).1, (D.rows x hx).2⟩, kd n8 D.Df, ?_, hO, ho, D.loT, D.loDf, D.loOl, D.loFs, D.nd⟩;exact movT D.Fs fun o e _ => k _ _ hFs e
theorem sub_len {α : Type} [DecidableEq α] : ∀ {a b : List α}, a.Nodup -> (∀ x ∈ a, x ∈ b) -> a.length <= b.length
 | [], _, _, _ => Nat.zero_le _
 | x :: a, b, hn, h => by
  have hx := h x (by simp);have hl := List.length_erase_of_mem hx;have hpos : 0 < b.length := List.length_pos_of_mem hx;have := sub_len (a := a) (b := b.erase x) (List.nodup_cons.mp hn).2 fun y hy => (List.mem_erase_of_ne (fun e => by subst e; exact (List.nodup_cons.mp hn).1 hy)).mpr (h y (List.mem_cons_of_mem _ hy));rw [List.length_cons]; exact ar112 hl hpos this
theorem keys_len {l : List Int} {R : RG} (hn : l.Nodup) (hk : ∀ x ∈ l, x = 0 ∨ x ∈ ids R) : l.length <= R.length + 1 := by
 have := sub_len (b := 0 :: ids R) hn fun x hx => by
  rcases hk x hx with rfl | h
  ·exact List.mem_cons_self
  ·exact List.mem_cons_of_mem _ h
 simpa [ids] using this
section
variable {w : World} {mg mb : Str -> Option Value} {A : Around} {E : Value -> Shared -> Prop}
theorem subTail_go {s : Shared} {value slice : PySem.Expr} {o i : Value} {T id : String} {Q : Value -> Shared -> Prop} (hT : s.TypeIs o T) (hl : typeLookup (.type T) "__getitem__" = pure (some (.builtin id))) (h : wpAny (model PP w) A (getItem o i) Q E s)
  (hs : subscripted slice false o i = operate [o, i] (getItem o i) := by with_unfolding_all rfl) : wpAny (model PP w) A (subscriptTail value slice o i) Q E s := by
 unfold subscriptTail;refine wpAny_bind ?_;rw [getitemInPython_of_ne hT.not_modules];refine wpAny_bind (wpAny_specialOf hT hl ?_);have fin : wpAny (model PP w) A (subscripted slice false o i) (fun r s₃ => wpAny (model PP w) A (letTemporaryGo value o r >>= fun _ => pure r) Q E s₃) E s := by
  rw [hs];exact wpAny_operating (wpAny_mono h (fun r s₃ h₃ => wpAny_bind (wpAny_letTemporaryGo (wpAny_pure h₃))) ee)
 first
  | exact wpAny_pure (wpAny_bind fin)
  | exact wpAny_bind (wpAny_pure (wpAny_bind fin))
  | exact wpAny_bind fin
theorem assign_sub {s : Shared} {env : Env} {o i : PySem.Expr} {pos : Pos} {v : Value} {Q : Unit -> Shared -> Prop} (h : wpAny (model PP w) A (eval o env) (fun ov s₁ => wpAny (model PP w) A (eval i env) (fun iv s₂ => wpAny (model PP w) A (setItem ov iv v) Q E s₂) E s₁) E s) :
  wpAny (model PP w) A (assign (.Subscript o i pos) env v) Q E s := by
 rw [assign_Subscript];refine wpAny_bind (wpAny_holding (wpAny_mono h (fun ov s₁ h₁ => wpAny_bind (wpAny_holding (wpAny_mono h₁ (fun iv s₂ h₂ => wpAny_bind (wpAny_standAt (wpAny_bind (wpAny_holding (wpAny_mono h₂ (fun u s₃ h₃ => ?_) ee))))) ee))) ee));cases u;exact fun Γ p hΓ => by rw [Sem.wp_release]; exact h₃
theorem ge_drop {b : Nat} : ∀ {a : List (Nat × Int)} {p : Nat}, p <= a.length -> (∀ (i c : Nat), i < p -> (a.map (·.1))[i]? = some c -> c < b) -> (∀ (i c : Nat), p <= i -> (a.map (·.1))[i]? = some c -> b <= c) -> arcsGe a b = a.drop p
 | [], p, _, _, _ => by simp [arcsGe]
 | x :: r, 0, _, _, h2 => by
  unfold arcsGe;rw [List.drop_zero];refine List.filter_eq_self.mpr fun y hy => ?_;obtain ⟨i, hi⟩ := List.mem_iff_getElem?.mp hy;have := h2 i y.1 (Nat.zero_le _) (by rw [List.getElem?_map, hi]; rfl)
  simpa using this
 | x :: r, p + 1, hp, h1, h2 => by
  have hx := h1 0 x.1 (Nat.succ_pos _) rfl;unfold arcsGe;rw [List.filter_cons_of_neg (by simpa using hx), List.drop_succ_cons];exact ge_drop (a := r) (p := p) (by simpa using hp) (fun i c hi hc => h1 (i + 1) c (Nat.add_lt_add_right hi 1) (by simpa using hc)) fun i c hi hc => h2 (i + 1) c (ar16 hi) (by simpa using hc)
theorem sorted_dict_str {s : Shared} {d : Addr} {kvs : List (Str × Value)} {ls : List Nat} {Q : Value -> Shared -> Prop} (hh : HeldOk A s.heap) (hm : s.heap.DictOf (strKind PP w) d kvs) (hd : (d == sysModules) = false) (hkv : kvs.map (·.1) = ls.map lab) (hasc : ls.Pairwise (· < ·)) (hlen : ls.length < 64)
  (h : ∀ s' B out, Stp W0 s s' -> s'.heap.IsList B out -> s.heap.objs.size <= B -> StrsAre out.toList (ls.map lab) -> Q (.ref B) s') : wpAny (model PP w) A (call (.builtin "sorted") [.ref d]) Q E s := by
 have hascS : (ls.map lab).Pairwise fun x y => x.cps.toList < y.cps.toList := by
  rw [List.pairwise_map];refine hasc.imp fun {a b} hab => ?_;show [a] < [b];exact List.Lex.rel hab
 have hkl : kvs.length = ls.length := by rw [← List.length_map (f := (·.1)), hkv, List.length_map]
 obtain ⟨St, X⟩ := src_dict (A := A.in1.in1) (s := s) hh hm hd (by rw [sizeLine_eq]; exact ar58 hlen hkl);refine sorted_coll_strs (collect_w X hm.typeIs fun s1 acc c S hS hI => ?_);have hacc : StrsAre acc.toList (ls.map lab) := by rw [← hkv]; exact keys_of_acc (n := 0) hI
 refine ⟨by rw [hacc.len_eq, List.length_map]; exact hlen, _, hacc, fun out ss' h1 h2 h3 hp hk hl => ?_⟩;have e := sorted_eq_str h3 hascS h2;subst e;exact h _ _ out ⟨fun b o e => ⟨o, hk _ _ (S.all _ _ e)⟩, fun b o _ e => hk _ _ (S.all _ _ e), S.gens, S.os⟩ hl (Nat.le_of_lt (Heap.lt_size hS)) h1
theorem or_nil {s : Shared} {pos : Pos} {env : Env} {whole : Sem Value} {Q : Bool -> Shared -> Prop} (h : Q false s) : wpAny (model PP w) A (isTrue (.BoolOp .Or [] pos) env whole) Q E s := by
 show wpAny _ _ (pure false) _ _ _;exact wpAny_pure h
theorem head_ge {a : List (Nat × Int)} (h : AscL a) {b : Nat} {d : Int} (hb : toR a b = some d) : ((arcsGe a b).head?).map (·.1) = some b := by
 unfold arcsGe
 induction a with
 | nil => cases hb
 | cons x r ih =>
  have hx := List.pairwise_cons.mp h;unfold toR at hb;rw [List.find?_cons] at hb
  by_cases hxb : x.1 = b
  ·rw [List.filter_cons_of_pos (by simp [hxb])];simp [hxb]
  ·rw [decide_eq_false hxb] at hb;have hm := toR_in (show toR r b = some d from hb);have := hx.1 _ hm;rw [List.filter_cons_of_neg (by simpa using this)];exact ih hx.2 hb
inductive FeA (FF : Shared -> (Str -> Option Value) -> Prop) (m0 : Str -> Option Value) (l : Str) (f : Flow) (s : Shared) : Prop
 | mk (e : f = .next) (t : Tok) (F : FF s (upd m0 "label" (.str l t))) : FeA FF m0 l f s
noncomputable def FeJ (w : World) (mg mb : Str -> Option Value) (L : Addr) (W : Addr -> Prop) (fr : List Addr) (s0 : Shared) (b' : Heap) (c : DC) (R : RG) (ls : List Str) (vl : Value) (f : Flow) (s : Shared) : Prop := ∀ CC : Prop, (∀ (e : f = .next) (sE : Shared) (b2 : Heap) (m2 : Str -> Option Value) (c' : DC) (lst : Addr) (items : Array Value) (sh : Shift fr s0 sE) (F : Fx w mg mb L sE W [] b2 s m2) (hb2 : NonF fr b2) (k2 : KpD c.x.Ol b' b2) (D : DFAAt w b2 c') (hx : c'.x = c.x) (ht : c'.tra = c.tra) (hf : c'.fin = c.fin) (hO : OutOk R c') (ho : ∀ y ∈ c'.out, y ∈ c.out ∨ s0.heap.get? y.2.1 = none)
   (n1 : m2 "labels" = some (.ref lst)) (n2 : m2 "label" = some vl) (il : b2.IsList lst items) (st : StrsAre items.toList ls), CC) -> CC
theorem find_edge_spec {s0 : Shared} {q : Heap} {c : DC} {R : RG} {st : Int} {tst : Tok} {o : Option Nat} {v : Value} {outer : List Env} {Q : Value -> Shared -> Prop} {k : Nat}
  (g : G w mg mb s0.heap) (hA : Rm A (k + 1)) (hF : Frs A outer s0.heap) (hq : Kp q s0.heap) (hqf : NonF (fra outer) q)
  (D : DFAAt w q c) (hr : c.rows = encR (rowsOf R)) (hw : WF R) (hO : OutOk R c) (hst : st = 0 ∨ st ∈ ids R) (hRl : R.length <= 1000) (hasc : AscL (arcsOf R st)) (hlen64 : (arcsOf R st).length < 64) (hv : (o = none ∧ v = .none) ∨ ∃ ch t, o = some ch ∧ ch < 1000 ∧ v = .str (lab ch) t)
  (h : ∀ s1 s' q' c' v', Shift (fra outer) s0 s1 -> Stp (· = c.x.Ol) s1 s' -> Kp q' s'.heap -> (NonF (fra outer) q') -> KpD c.x.Ol q q' -> DFAAt w q' c' -> c'.x = c.x -> c'.tra = c.tra -> c'.fin = c.fin -> OutOk R c' -> (∀ y ∈ c'.out, y ∈ c.out ∨ s0.heap.get? y.2.1 = none) ->
   (match (arcsGe (arcsOf R st) (bnd o)).head? with | some (l, _) => ∃ t, v' = .str (lab l) t | none => v' = .none) -> Q v' s') :
  wpAny (model PP w) A (call (.ref 279) [.ref c.x.m, .int st tst, v] [("asbytes", .bool false)]) Q E s0 := by
 refine wpAny_call (m_call (· = c.x.Ol) [("self", .ref c.x.m), ("s", .int st tst), ("label", v), ("asbytes", .bool false)] g hA.room (by rfl) (by kernel_rfl) (.of_eq (by rfl)) (locs (by rfl)) (fun s₁ F => ?_) (by decide));refine gQ1 fun Q0 hQ0 => ?_;have hB : ∀ env, Rm (A.deeper env) k := fun env => hA.deeper env;have qL : q.get? s0.heap.objs.size = none := by
  cases e : q.get? s0.heap.objs.size with
  | none => rfl
  | some o => exact absurd (Heap.lt_size (hq _ o e)) (Nat.lt_irrefl _)
 have F : Fx w mg mb s0.heap.objs.size s0 (· = c.x.Ol) [] q s₁ _ := ⟨F.g, F.hL, F.ns, F.tot, fun a o e => F.keep a o (hq a o e), qL, fun p hp => nomatch hp⟩;have own_Ol : ∃ o, q.get? c.x.Ol = some o := by refine (dob D.Ol) _ fun o e _ => ?_; exact ⟨o, e⟩
 have frW : ∀ a ∈ fra outer, ¬ (a = c.x.Ol) ∧ a ≠ s0.heap.objs.size := fun a ha =>
  ⟨fun hm => (by obtain ⟨o, e⟩ := own_Ol; rw [← hm, hqf a ha] at e; cases e), fun hm => by obtain ⟨o, e, _⟩ := hF.mem ha; exact absurd (Heap.lt_size e) (by rw [hm]; exact Nat.lt_irrefl _)⟩
 refine (nmP (FeA (Fx w mg mb s0.heap.objs.size s0 (· = c.x.Ol) [] q) (fun y => ([("self", Value.ref c.x.m), ("s", .int st tst), ("label", v), ("asbytes", .bool false)] : List (Str × Value)).reverse.lookup y) (lab (bnd o)))) _ fun J1 j1i j1o => ?_;refine wpAny_execs_cons (wpAny_mono (Q := J1) (wpAny_If (wpAny_isTrue_Compare1 (m_local F (by rfl) (m_cnone (is_none (wpAny_truthy_bool ?_)))))) (fun f s2 hJ1 => ?_) ee)
 ·rcases hv with ⟨rfl, rfl⟩ | ⟨ch, t, rfl, hch, rfl⟩
  ·refine wpAny_execs_cons (wpAny_Assign_Name (wpAny_IfExp (isTrue_plain (m_local F (by rfl) (wpAny_truthy_bool ?_)) (by rfl))));exact m_cstr F fun s t F _ => m_store F fun s F => wpAny_execs_nil (j1i _ _ ⟨rfl, t, F⟩)
  ·refine wpAny_execs_cons (wpAny_Assign_Name (wpAny_IfExp (isTrue_plain (m_local F (by rfl) (wpAny_truthy_bool ?_)) (by rfl))));refine Call_ (m_glob F (gl_unichr w) (m_cwb (args_cons (wpAny_BinOp (Call_ (m_bi F (ng_ord' w) boot_ord (m_cwb (args_cons (m_local F (by rfl) (args_nil (PySem.P.ord_of_char (m_cint (F.tok _) fun s t F _ => m_add F fun s t F _ => args_nil ?_))))))))))));refine PySem.P.chr_of_int (by simp; exact ar279 hch) (m_store (F.tok _) fun s F => wpAny_execs_nil (j1i _ _ ⟨rfl, _, F⟩))
 ·obtain ⟨hf, t1, F⟩ := j1o _ _ hJ1;subst hf;show wpAny _ _ (execs _ _) _ _ _;refine wpAny_execs_cons (wpAny_Assign_Name (MethodCall_ (m_attr (m_local F (by rfl) (o_transitions F D.obj fun s F0 => gm_dget (D.T.keep F0.keep) (m_cwb (args_cons (m_local F0 (by rfl) (args_cons (m_dict0 F0 fun s x F ex bx hx lx hnx _ => args_nil ?_))))))))));refine d_get2 F D.loT (intKind_is _ _ _ _) (D.T.keep F.keep) fun s3 F hs => ?_;rw [← hs] at ex;refine (F.rebaseF hqf) _ fun b' F hb kb kn => ?_;have D' := D.keeps kb;have hxf : x ∉ fra outer := fun hm => by
   obtain ⟨o, e, _⟩ := hF.mem hm;obtain ⟨o', e'⟩ := F0.tot.live x o e;rw [hnx] at e'; cases e'
  have row : ∃ r vals, (valueAt c.kvs st).getD (.ref x) = .ref r ∧ 456 <= r ∧ b'.DictOf (strKind PP w) r (intPairs vals) ∧ keyOf vals = enc (arcsOf R st) ∧ r ≠ c.x.Ol := by
   obtain ⟨h1, h2⟩ := DC.look_eq hr hw st;rw [c.valueAt_kvs];cases hl : c.look st with
   | some z => exact ⟨z.1, z.2, rfl, (D'.row hl).2, (D'.row hl).1, h2 z hl, fun q => (by
    have hz : z.1 ∈ c.tra.map (·.2.1) := by
     unfold DC.look at hl;obtain ⟨y, hy, rfl⟩ := Option.map_eq_some_iff.mp hl;exact List.mem_map_of_mem (List.mem_of_find?_eq_some hy)
    obtain ⟨_, _, _, _, _, _, _, _, _, n10, _⟩ := D.ndx;exact n10 (q ▸ hz))⟩
   | none => exact ⟨x, [], rfl, lx, ⟨_, _, _, kn x _ hx hxf ex, ⟨rfl, rfl, rfl⟩, rfl, (fun e he => by simp at he), .nil, .nil⟩, by rw [h1 hl]; rfl, fun q => (by obtain ⟨o, e⟩ := own_Ol; rw [q, e] at bx; cases bx)⟩
  obtain ⟨r, vals, er, lr, hrw, hkey, hrO⟩ := row;rw [er];refine m_store F fun s F => ?_;refine (nmP (fun (f : Flow) (s' : Shared) => (f = .next ∧ Fx w mg mb s0.heap.objs.size s0 (· = c.x.Ol) [] b' s' (upd (upd (fun y => ([("self", Value.ref c.x.m), ("s", .int st tst), ("label", v), ("asbytes", .bool false)] : List (Str × Value)).reverse.lookup y) "label" (.str (lab (bnd o)) t1)) "trans" (.ref r)) ∧ toR (arcsOf R st) (bnd o) = none) ∨ (∃ t, f = .ret (.str (lab (bnd o)) t) ∧ (toR (arcsOf R st) (bnd o)).isSome = true ∧ Fx w mg mb s0.heap.objs.size s0 (· = c.x.Ol) [] b' s' (upd (upd (fun y => ([("self", Value.ref c.x.m), ("s", .int st tst), ("label", v), ("asbytes", .bool false)] : List (Str × Value)).reverse.lookup y) "label" (.str (lab (bnd o)) t1)) "trans" (.ref r))))) _ fun J2 j2i j2o => ?_;refine wpAny_execs_cons (wpAny_mono (Q := J2)
   (wpAny_If (isTrue_or (wpAny_isTrue_Compare1 (m_local F (by rfl) (m_local F (by rfl) (wpAny_in_of (strKind_is _ _ _ _) (sysM lr) (hrw.keep F.keep).mapOf (wpAny_truthy_bool ?_))))))) (fun f s' hf => ?_) ee)
  ·have hval : (valueAt (intPairs vals) (lab (bnd o))).isSome = (toR (arcsOf R st) (bnd o)).isSome := by
    rw [valueAt_intPairs, Option.isSome_map, ← enc_find, ← hkey, ← intAt_keyOf];unfold PySem.intAt;rw [Option.isSome_map]
   rw [hval];cases ht : toR (arcsOf R st) (bnd o) with
   | some d =>
    exact wpAny_execs_cons (wpAny_Return_some (m_local (F.tok _) (by rfl) (j2i _ _ (.inr ⟨_, rfl, by rw [ht]; rfl, F.tok _⟩))))
   | none =>
    refine isTrue_or (wpAny_isTrue_Compare1 (m_local (F.tok _) (by rfl) (m_attr (m_local (F.tok _) (by rfl) (o_defaults (F.tok _) D'.obj fun s F => ?_)))));refine wpAny_in_of (intKind_is _ _ _ _) (sysM D'.loDf) (D'.Df.keep F.keep).mapOf (wpAny_truthy_bool ?_);exact or_nil (wpAny_execs_nil (j2i _ _ (.inl ⟨rfl, F.tok _, ht⟩)))
  ·rcases j2o _ _ hf with ⟨rfl, F, hnone⟩ | ⟨t, rfl, hsome, F⟩
   ·show wpAny _ _ (execs _ _) _ _ _;have live : ∀ a ∈ fra outer, (∃ o, s0.heap.get? a = some o) ∧ 456 <= a ∧ a ≠ s0.heap.objs.size ∧ ¬ (a = c.x.Ol) := fun a ha => by
     obtain ⟨o, e, _, lo⟩ := hF.mem ha;exact ⟨⟨o, e⟩, lo, (frW a ha).2, (frW a ha).1⟩
    refine (nmP (FeJ w mg mb s0.heap.objs.size (· = c.x.Ol) (fra outer) s0 b' c R ((arcsOf R st).map fun y => lab y.1) (.str (lab (bnd o)) t1))) _ fun J3 j3i j3o => ?_;refine wpAny_execs_cons (wpAny_mono (Q := J3) (wpAny_Try_except ?_) ?_ ee)
    ·refine wpAny_execs_cons (wpAny_Assign_Name (Subscript_ (m_attr (m_local F (by rfl) (o_outlabels F D'.obj fun s F => m_local F (by rfl) (subTail_go (D'.Ol.keep F.keep).typeIs PySem.slot_dict_getitem.lookup ?_))))));cases hv2 : valueAt (c.out.map fun x => (x.1, Value.ref x.2.1)) st with
     | some lv =>
      refine wpAny_getItem_of (intKind_is _ _ _ _) (D'.Ol.keep F.keep).mapOf hv2 (m_store (F.tok _) fun s F => wpAny_execs_nil ?_);obtain ⟨y, hy, hyl⟩ : ∃ y ∈ c.out, y.1 = st ∧ lv = .ref y.2.1 := by
       unfold valueAt at hv2;rw [List.find?_map, Option.map_map] at hv2;obtain ⟨y, hy, rfl⟩ := Option.map_eq_some_iff.mp hv2;have h1 := List.find?_some hy;exact ⟨y, List.mem_of_find?_eq_some hy, by simpa using h1, rfl⟩
      obtain ⟨hy1, rfl⟩ := hyl;refine wpAny_execs_nil (j3i _ _ (fun _ kk => kk rfl s0 b' _ c y.2.1 y.2.2.toArray (.refl ..) F hb (fun a o _ e => e) D' rfl rfl rfl hO (fun y hy => .inl hy) rfl rfl (D'.outs y hy) ?_));rw [← hy1]; exact hO.txt y hy
     | none =>
      refine wpAny_getItem_missing_of (intKind_is _ _ _ _) (sysM D'.loOl) (hB default).hh (D'.Ol.keep F.keep).mapOf hv2 fun h' ex hx => ?_;refine m_catch2 F hb (F.frs hF frW (fun hk => nomatch hk) rfl) live hx (ng_KeyError w) boot_KeyError kr_isExc_KeyError (by rw [isSubtype_type]; kernel_rfl) (by rw [isSubtype_type]; kernel_rfl) fun s' sE' E' oe xs sh F hoe hxs hx2 => ?_;refine wpAny_execs_cons (wpAny_Assign_two (Call_ (m_bi F (ng_sorted w) boot_sorted (m_cwb (args_cons (m_local F (by rfl) (args_nil ?_)))))));have hkv : (intPairs vals).map (·.1) = ((arcsOf R st).map (·.1)).map lab := by
       have : (keyOf vals).map (·.1) = (enc (arcsOf R st)).map (·.1) := by rw [hkey]
       unfold keyOf enc at this;rw [List.map_map, List.map_map] at this;unfold intPairs;rw [List.map_map, List.map_map];exact this
      refine sorted_dict_str (.inr ⟨_, oe, xs, rfl, hoe, hxs, hx2⟩) (hrw.keep F.keep) (sysM lr) hkv (by rw [List.pairwise_map]; exact hasc) (by rw [List.length_map]; exact hlen64) fun s5 B out S5 hl5 hB5 hs5 => ?_;have hnB := F.none_of hB5;have hBf : B ∉ fra outer := fun hm => by
       obtain ⟨o, e, _⟩ := hF.mem hm;obtain ⟨o1, e1⟩ := sh.some e;exact absurd (F.tot.lt e1) (Nat.not_lt.mpr hB5)
      refine ((F.grow S5).rebaseF hb) _ fun b3 F hb3 k3 kn3 => ?_;obtain ⟨oB, eB, rB⟩ := hl5;have hB3 : b3.get? B = some oB := kn3 B oB hnB.2.1 hBf eB;have D3 := D'.keeps k3;refine assign_sub (m_attr (m_local F (by rfl) (o_outlabels F D3.obj fun s F => m_local F (by rfl) ?_)));have houtL : c.out.length <= 1001 := by
       have := keys_len (l := c.out.map (·.1)) (R := R) (by obtain ⟨_, _, _, _, _, _, _, _, hnd⟩ := D'.Ol; rw [List.map_map] at hnd; exact hnd) (fun x hx => by obtain ⟨y, hy, rfl⟩ := List.mem_map.mp hx; exact hO.keys y hy);rw [List.length_map] at this; exact Nat.le_trans this (Nat.succ_le_succ hRl)
      have hstored : stored (c.out.map fun x => (x.1, Value.ref x.2.1)) st (.ref B) = (c.out ++ [(st, B, out.toList)]).map fun x => (x.1, Value.ref x.2.1) := by
       unfold stored;rw [if_neg ?_, List.map_append]
       ·rfl
       ·intro hany;unfold valueAt at hv2;rw [Option.map_eq_none_iff, List.find?_eq_none] at hv2;obtain ⟨y, hy, hye⟩ := List.any_eq_true.mp hany;exact hv2 y hy hye
      refine wpAny_setItem_pairs (intKind_is _ _ _ _) (D3.Ol.keep F.keep) (fun h6 hD6 hs6 => ?_) (by rw [List.length_map, sizeLine_eq]; exact ar263 houtL);rw [hstored] at hD6;refine (dob hD6) _ fun oO eO _ => ?_;refine (dob D3.Ol) _ fun oO0 eO0 hex0 => ?_;refine (F.oneF (t := s.toks + 1) (d := s.drawn) hb3 hs6 eO D3.loOl eO0 (fun o _ => rfl)) _ fun b4 F hb4 k4 e4 => ?_;refine wpAny_assign_Name (m_store F fun s F => wpAny_execs_nil ?_);have neO : ∀ {a : Addr} {items : Array Value}, b3.IsList a items -> a ≠ c.x.Ol := fun {a items} hl q => by
       obtain ⟨o1, e1, c1, _⟩ := hl;rw [q, eO0] at e1; cases e1;exact absurd (hex0.1.symm.trans c1) (by decide)
      have lB3 : b3.IsList B out := ⟨oB, hB3, rB⟩;have mv : ∀ {a : Addr} {items : Array Value}, b3.IsList a items -> b4.IsList a items := fun {a items} hl => movL hl fun o e => k4 _ _ (neO hl) e;refine j3i _ _ (fun _ kk => kk rfl sE' b4 _ ({ c with out := c.out ++ [(st, B, out.toList)] }) B out sh F hb4 (fun a o ha e => k4 a o ha (k3 a o e)) (D3.setOl k4 (movD hD6 fun o e => by rw [eO] at e; rw [← e]; exact e4) (fun x hx => ?_)) rfl rfl rfl ⟨fun x hx => ?_, fun x hx => ?_⟩ (fun x hx => ?_) rfl rfl (mv lB3) ?_)
      ·rcases List.mem_append.mp hx with hx | hx
       ·exact mv (D3.outs x hx)
       ·simp at hx; subst hx; exact mv lB3
      ·rcases List.mem_append.mp hx with hx | hx
       ·exact hO.txt x hx
       ·simp at hx; subst hx; rw [List.map_map] at hs5; exact hs5
      ·rcases List.mem_append.mp hx with hx | hx
       ·exact hO.keys x hx
       ·simp at hx; subst hx; exact hst
      ·rcases List.mem_append.mp hx with hx | hx
       ·exact .inl hx
       ·simp at hx; subst hx;refine .inr ?_;cases q' : s0.heap.get? B with
        | none => rfl
        | some o => obtain ⟨o', e'⟩ := sh.some q'; rw [hnB.2.2.1] at e'; cases e'
      ·rw [List.map_map] at hs5; exact hs5
    ·intro f s6 hJ3;refine (j3o _ _ hJ3) _ fun hf6 sE b2 m2 c' lst items sh F hb2 k2 D2 hx2 htr hfi hO2 hfr2 hm1 hm2 hl2 hs2 => ?_;subst hf6;show wpAny _ _ (execs _ _) _ _ _;have hs2' : StrsAre items.toList (((arcsOf R st).map (·.1)).map lab) := by rw [List.map_map]; exact hs2
     refine wpAny_execs_cons (wpAny_Assign_Name (Call_ (m_glob F (gl_bisect w) (m_cwb (args_cons (m_local F (by exact hm1) (args_cons (m_local F (by exact hm2) (args_nil ?_)))))))));refine call_bisect (keepsL hl2 F.keep) hs2' (by rw [List.pairwise_map]; exact hasc) (by rw [List.length_map]; exact ar274 hlen64) fun p tp tk hp1 hp2 hp3 => m_store (F.tok tk) fun s F => ?_;rw [List.length_map] at hp1;have hge := ge_drop hp1 hp2 hp3;have hsz : items.size = (arcsOf R st).length := by rw [← Array.length_toList, hs2.len_eq, List.length_map]
     have sEL : sE.heap.get? s0.heap.objs.size = none := sh.none (Heap.get?_size_none _) fun hm => (frW _ hm).2 rfl;refine wpAny_execs_cons (wpAny_If (wpAny_isTrue_Compare1 (m_local F (by rfl) (Call_ (m_bi F (ng_len w) boot_len (m_cwb (args_cons (m_local F (by exact hm1) (args_nil (m_len F (keepsL hl2 F.keep) (by rw [hsz, sizeLine_eq]; exact ar10 hlen64) fun s tl F _ => lt_int (wpAny_truthy_bool ?_)))))))))));have fin : ∀ {s : Shared} {v' : Value}, Stp (· = c.x.Ol) sE s -> Kp b2 s.heap -> (match (arcsGe (arcsOf R st) (bnd o)).head? with | some (l, _) => ∃ t, v' = .str (lab l) t | none => v' = .none) -> Q v' s := fun S hk hres => h sE _ b2 c' _ sh S hk hb2 (fun a o ha e => k2 a o ha (kb a o e)) D2 hx2 htr hfi hO2 hfr2 hres
     by_cases hlt : p < (arcsOf R st).length
     ·rw [show decide (((p : Nat) : Int) < (items.size : Nat)) = true from by rw [hsz]; simpa using hlt];refine ifT rfl ?_;obtain ⟨y, hy⟩ : ∃ y, (arcsOf R st)[p]? = some y := ⟨_, List.getElem?_eq_getElem hlt⟩;obtain ⟨ty, hty⟩ := hs2.at (j := p) (y := lab y.1) (by rw [List.getElem?_map, hy]; rfl);rw [Array.getElem?_toList] at hty;refine wpAny_execs_cons (wpAny_Return_some (Subscript_ (m_local F (by exact hm1) (m_local F (by rfl) (subscriptTail_builtin (keepsL hl2 F.keep).typeIs PySem.slot_list_getitem.lookup ?_)))));refine wpAny_getItem_list (keepsL hl2 F.keep) (Int.natCast_nonneg _) (by lia) (by exact hty) ?_;refine hQ0 _ _ (fin (F.done' sEL) F.keep ?_);rw [hge, List.head?_drop, hy];exact ⟨ty, rfl⟩
     ·rw [show decide (((p : Nat) : Int) < (items.size : Nat)) = false from by rw [hsz]; simpa using hlt];refine ifF rfl ?_;refine wpAny_execs_nil (wpAny_execs_cons (wpAny_Return_some (m_cnone (hQ0 _ _ (fin (F.done' sEL) F.keep ?_)))));rw [hge, List.head?_drop, List.getElem?_eq_none (Nat.not_lt.mp hlt)]
   ·obtain ⟨d, hd⟩ := Option.isSome_iff_exists.mp hsome;refine hQ0 _ _ (h s0 _ b' c _ (.refl ..) F.done F.keep hb (fun a o _ e => kb a o e) D' rfl rfl rfl hO (fun y hy => .inl hy) ?_);have := head_ge hasc hd;cases hh : (arcsGe (arcsOf R st) (bnd o)).head? with
    | none => rw [hh] at this; cases this
    | some y => rw [hh] at this; obtain ⟨l, d'⟩ := y; cases this; exact ⟨t, rfl⟩
end
end Mine
end
section
open PySem PySem.W PySem.Calls PyProof.Rows PySem.Spec
namespace Mine
section
variable {w : World} {mg mb : Str -> Option Value} {L : Addr} {sE s s' : Shared} {W : Addr -> Prop} {H : List (Addr × Obj)} {b : Heap} {m : Str -> Option Value}
variable {A : Around} {E : Value -> Shared -> Prop} {env : Env}
theorem Fx.turn2 {I J : Addr} {o o' p p' : Obj} (F : Fx w mg mb L sE W ((I, o) :: (J, p) :: H) b s m) (hI : ∀ p ∈ H, p.1 ≠ I) (hJ : ∀ p ∈ H, p.1 ≠ J) (he : s'.heap.get? I = some o') (hp : s'.heap.get? J = some p') (hk : ∀ a o, a ≠ I -> a ≠ J -> s.heap.get? a = some o -> s'.heap.get? a = some o)
  (hg : s'.gens = s.gens) (hos : s'.os = s.os) : Fx w mg mb L sE W ((I, o') :: (J, p') :: H) b s' m := by
 have h1 := F.hid _ (List.mem_cons_self);have h2 := F.hid (J, p) (List.mem_cons_of_mem _ List.mem_cons_self);have nI : ∀ {a : Addr}, sE.heap.get? a ≠ none -> a ≠ I ∧ a ≠ J := fun {a} e => ⟨fun q => e (by rw [q]; exact h1.2.2.2.1), fun q => e (by rw [q]; exact h2.2.2.2.1)⟩;refine ⟨F.g.low fun a o ha e => hk a o (Nat.ne_of_lt (Nat.lt_of_lt_of_le ha h1.2.2.2.2)) (Nat.ne_of_lt (Nat.lt_of_lt_of_le ha h2.2.2.2.2)) e, F.hL, ?_, ?_, fun a o e => hk a o (fun q => by rw [q, h1.2.1] at e; cases e) (fun q => by rw [q, h2.2.1] at e; cases e) (F.keep a o e), F.noL, fun p hp' => ?_⟩
 ·obtain ⟨o, es, ep, e, r⟩ := F.ns; exact ⟨o, es, ep, hk _ _ (Ne.symm h1.2.2.1) (Ne.symm h2.2.2.1) e, r⟩
 ·refine ⟨fun c o e => (by obtain ⟨_, e'⟩ := F.tot.live c o e; exact ⟨_, hk c _ (nI (by rw [e]; simp)).1 (nI (by rw [e]; simp)).2 e'⟩), fun c o hc e => hk c o (nI (by rw [e]; simp)).1 (nI (by rw [e]; simp)).2 (F.tot.keep c o hc e), hg.trans F.tot.gens, hos.trans F.tot.os⟩
 ·rcases List.mem_cons.mp hp' with rfl | hp'
  ·exact ⟨he, h1.2⟩
  ·rcases List.mem_cons.mp hp' with rfl | hp'
   ·exact ⟨hp, h2.2⟩
   ·have := F.hid p (List.mem_cons_of_mem _ (List.mem_cons_of_mem _ hp'));exact ⟨hk _ _ (hI p hp') (hJ p hp') this.1, this.2⟩
noncomputable def LpE (w : World) (mg mb : Str -> Option Value) (L : Addr) (sE : Shared) (W : Addr -> Prop) (H : List (Addr × Obj)) (I : Addr) (x : Str) (t : Tok) (J : Nat -> Heap -> (Str -> Option Value) -> Prop) (N : Nat) (s : Shared) : Prop := ∀ CC : Prop, (∀ (i : Nat) (b : Heap) (m : Str -> Option Value) (oi : Obj) (old : Value) (F : Fx w mg mb L sE W ((I + 1, { cls := .type "enumerate", dict := none, data := .fields #[.none, .bool false, .ref I, rawInt (i : Nat), .none, old], slots := #[] }) :: (I, oi) :: H) b s m) (ci : oi.cls = .type "str_ascii_iterator") (di : oi.data = .fields #[.str x t, .int i 0]) (hj : J i b m) (hin : i <= x.cps.size) (e : N = x.cps.size + 1 - i), CC) -> CC
theorem for_enum {R : Result -> Shared -> Prop} {xk xv : Str} {pk pv pt : Pos} {x1} {body orelse : List Stmt} {x : Str} {t : Tok} (hh : A.handled = none) (ha : x.cps.all (· < 128) = true)
  (J : Nat -> Heap -> (Str -> Option Value) -> Prop) (F : Fx w mg mb L sE W H b s m) (j0 : J 0 b m)
  (step : ∀ i c t1 t2 s b m H', (∀ p ∈ H, p ∈ H') -> x.cps[i]? = some c -> J i b m -> Fx w mg mb L sE W H' b s (upd (upd m xk (.int i t1)) xv (.str ⟨#[c]⟩ t2)) ->
   wpAny (model PP w) A (execs body env) (fun f s' => match f with
    | .next | .cont => ∃ b' m', Fx w mg mb L sE W H' b' s' m' ∧ J (i + 1) b' m'
    | .brk => R (.ok .next) s'
    | .ret u => R (.ok (.ret u)) s') (notedBy (model PP w) A env fun e s' => R (.error e) s') s)
  (fin : ∀ s b m, J x.cps.size b m -> Fx w mg mb L sE W H b s m -> wpAny (model PP w) A (execs orelse env) (fun f s' => R (.ok f) s') (notedBy (model PP w) A env fun e s' => R (.error e) s') s)
  (hL : env.locals = L := by rfl) (hk : env.scope.kind = .function := by rfl) (hlk : env.kindOf xk = some .local := by rfl) (hlv : env.kindOf xv = some .local := by rfl) :
  wpAny (model PP w) A (call (.type "enumerate") [.str x t]) (fun ev s₁ => wpAny (model PP w) A (pyIter ev) (fun it s₂ => codeAny (model PP w) A (.forLoop (.Tuple [.Name xk pk, .Name xv pv] x1 pt) it body orelse env) R s₂) E s₁) E s := by
 have hty : strIterType x = "str_ascii_iterator" := by unfold strIterType; rw [if_pos ha]
 refine call_enumerate_str fun h0 he hi hz hk0 => ?_;rw [hty] at hi;have hn := F.none_of (Nat.le_refl s.heap.objs.size);have hn1 := F.none_of (Nat.le_succ s.heap.objs.size);obtain ⟨oi, ei, ci, di⟩ := hi;have S0 : Stp W0 s { s with heap := h0 } := ⟨fun b o e => ⟨o, hk0 _ _ e⟩, fun b o _ e => hk0 _ _ e, rfl, rfl⟩;have Fg := F.grow S0;have hIp : ∀ p ∈ H, p.1 ≠ s.heap.objs.size := fun p hp e => absurd (Heap.lt_size (F.hid p hp).1) (by rw [e]; exact Nat.lt_irrefl _);have hEp : ∀ p ∈ H, p.1 ≠ s.heap.objs.size + 1 := fun p hp e => absurd (Heap.lt_size (F.hid p hp).1) (by rw [e]; exact Nat.not_lt.mpr (Nat.le_succ _));have Fe : Fx w mg mb L sE W ((s.heap.objs.size + 1, _) :: (s.heap.objs.size, oi) :: H) b { s with heap := h0 } m :=
  ⟨Fg.g, Fg.hL, Fg.ns, Fg.tot, Fg.keep, Fg.noL, fun p hp => by
   rcases List.mem_cons.mp hp with rfl | hp
   ·exact ⟨he, hn1.1, fun e => hn1.2.1 (e ▸ List.mem_cons_self), hn1.2.2.1, hn1.2.2.2⟩
   ·rcases List.mem_cons.mp hp with rfl | hp
    ·exact ⟨ei, hn.1, fun e => hn.2.1 (e ▸ List.mem_cons_self), hn.2.2.1, hn.2.2.2⟩
    ·exact Fg.hid p hp⟩
 refine wpAny_pyIter_enum he ?_;generalize hI : s.heap.objs.size = I at *;have hne : I + 1 ≠ I := Nat.succ_ne_self _;refine codeAny_forLoop_any (LpE w mg mb L sE W H I x t J) ?_ (x.cps.size + 1)
  (fun _ kk => kk 0 b m oi .none Fe ci di j0 (Nat.zero_le _) rfl)
 intro N s hLp;refine hLp _ fun i b m oi old F ci di hj hin eq5 => ?_;subst eq5;have h1 := F.hid _ (List.mem_cons_self);have h2 := F.hid (I, oi) (List.mem_cons_of_mem _ List.mem_cons_self);have D := Draws.strAscii (prog := PP) (w := w) (A := A.in1) hh I x t
 by_cases hlt : i < x.cps.size
 ·refine wpAny_pyNext_enum_itemD D h1.1 ⟨oi, h2.1, ci, di⟩ hlt hne (by simp) fun y h₁ tk hP heo hst ht₁ hz₁ hk₁ => ?_;obtain ⟨c, u, hc, rfl⟩ := hP;have heH : I + 1 < s.heap.objs.size := Heap.lt_size h1.1;refine wpAny_letOwnedTupleGo_enum heo fun h₂ he₂ hs₂ => ?_
  replace hs₂ : Heap.SameBut (I + 1) h₁ h₂ := hs₂
  have ht₂ : h₂.IsTuple s.heap.objs.size #[.int i tk, .str ⟨#[c]⟩ u] := ⟨_, (hs₂.2 _ (Nat.ne_of_gt heH)).trans ht₁, rfl, _, rfl⟩;have hz₂ : h₂.objs.size = s.heap.objs.size + 1 := hs₂.1.trans hz₁;refine wpAny_assign_Tuple hh ht₂ rfl rfl fun h₃ hx₃ => ?_
  replace hx₃ : Heap.ExtBut h₂.objs.size h₂ h₃ := hx₃
  have old3 : ∀ b o, b < s.heap.objs.size -> h₂.get? b = some o -> h₃.get? b = some o := fun b o hb x => hx₃ b o (by rw [hz₂]; exact Nat.ne_of_lt (Nat.lt_succ_of_lt hb)) x;obtain ⟨oi', ei', ci', di'⟩ := hst;have hIl : I < s.heap.objs.size := Heap.lt_size h2.1;have F' : Fx w mg mb L sE W ((I + 1, _) :: (I, oi') :: H) b { s with heap := h₃, toks := tk + 1 } m :=
   F.turn2 hEp hIp (old3 _ _ heH he₂) (old3 _ _ hIl ((hs₂.2 I (Ne.symm hne)).trans ei')) (fun a o ha hb e => old3 a o (Heap.lt_size e) ((hs₂.2 a ha).trans (hk₁ a o ha hb e))) rfl rfl
  show wpAny _ _ (do holding [.str ⟨#[c]⟩ u] (assign (.Name xk pk) env (.int i tk)); do holding [] (assign (.Name xv pv) env (.str ⟨#[c]⟩ u)); pure ()) _ _ _;refine wpAny_bind (wpAny_holding (wpAny_assign_Name (m_store F' (fun s F => ?_) hL hk hlk)));refine wpAny_bind (wpAny_holding (wpAny_assign_Name (m_store F (fun s F => wpAny_pure ?_) hL hk hlv)));refine wpAny_mono (step i c tk u s b m _ (fun p hp => List.mem_cons_of_mem _ (List.mem_cons_of_mem _ hp)) hc hj F) (fun f s' hf => ?_) ee;have ecast : rawInt ((i : Int) + 1) = rawInt ((i + 1 : Nat) : Int) := by congr 1
  cases f with
  | next => obtain ⟨b', m', F', hj'⟩ := hf; exact ⟨x.cps.size + 1 - (i + 1), (ar17 hlt), fun _ kk => kk (i + 1) b' m' oi' _ (by rw [ecast] at F'; exact F') ci' di' hj' hlt rfl⟩
  | cont => obtain ⟨b', m', F', hj'⟩ := hf; exact ⟨x.cps.size + 1 - (i + 1), (ar17 hlt), fun _ kk => kk (i + 1) b' m' oi' _ (by rw [ecast] at F'; exact F') ci' di' hj' hlt rfl⟩
  | brk => exact hf
  | ret u => exact hf
 ·have e : i = x.cps.size := (ar2 hin hlt);subst e;refine wpAny_pyNext_enum_endD D h1.1 ⟨oi, h2.1, ci, di⟩ fun h' he' => fin _ b m hj ?_;have hk' : KpD I s.heap h' := fun a o ha e => he' a o ha e;exact (F.fewer (H' := (I, oi) :: H) fun p hp => List.mem_cons_of_mem _ hp).over hIp hk' rfl rfl
end
end Mine
end
section
open PySem PySem.W PySem.Calls PyProof.Rows PySem.Spec
namespace Mine
noncomputable def hgt (R : RG) (q : Int) : Nat := ((lang R q).map List.length).foldr max 0
theorem max_ge : ∀ (l : List Nat) (x : Nat), x ∈ l -> x <= l.foldr max 0
 | y :: r, x, h => by
  rcases List.mem_cons.mp h with rfl | h
  ·exact Nat.le_max_left _ _
  ·exact Nat.le_trans (max_ge r x h) (Nat.le_max_right _ _)
theorem max_le : ∀ (l : List Nat) (k : Nat), (∀ x ∈ l, x <= k) -> l.foldr max 0 <= k
 | [], k, _ => Nat.zero_le _
 | y :: r, k, h => Nat.max_le.mpr ⟨h y (by simp), max_le r k fun x hx => h x (List.mem_cons_of_mem _ hx)⟩
theorem hgt_child {R : RG} (w : WF R) {q d : Int} {l : Nat} (hq : q ∈ ids R) (h : (l, d) ∈ arcsOf R q) : hgt R d + 1 <= hgt R q := by
 obtain ⟨a, f, hm⟩ := mem_ids hq;obtain ⟨e1, h2, h3, h4⟩ := lang_mem w hm;rw [arcsOf_mem w hm] at h;have hd := (h2 _ h).1;have hin : ∀ y ∈ lang R d, y.length + 1 <= hgt R q := fun y hy => by
  refine max_ge _ _ (List.mem_map.mpr ⟨l :: y, ?_, by simp⟩);rw [e1];exact List.mem_append_right _ (List.mem_flatMap.mpr ⟨(l, d), h, List.mem_map.mpr ⟨y, hy, rfl⟩⟩)
 obtain ⟨y0, hy0⟩ := List.exists_mem_of_ne_nil _ (lang_ne w hd);have h1 := hin y0 hy0;have : hgt R d <= hgt R q - 1 := max_le _ _ fun x hx => by
  obtain ⟨y, hy, rfl⟩ := List.mem_map.mp hx;have := hin y hy;exact ar61 this
 exact ar139 h1 this
theorem arcs_ids {R : RG} {q : Int} (h : arcsOf R q ≠ []) : q ∈ ids R := by
 unfold arcsOf at h;cases hf : R.find? fun x => decide (x.2 = q) with
 | none => rw [hf] at h; exact absurd rfl h
 | some x =>
  have h1 := List.mem_of_find?_eq_some hf;have h2 := List.find?_some hf;simp at h2; subst h2;exact List.mem_map_of_mem h1
theorem arcs_asc {R : RG} (w : WF R) (q : Int) : AscL (arcsOf R q) ∧ (arcsOf R q).length <= 3 ∧ ∀ x ∈ arcsOf R q, ArcOk (ids R) x := by
 by_cases h : arcsOf R q = []
 ·rw [h]; exact ⟨.nil, by simp, fun x hx => nomatch hx⟩
 ·obtain ⟨a, f, hm⟩ := mem_ids (arcs_ids h);obtain ⟨e1, h2, h3, h4⟩ := lang_mem w hm;rw [arcsOf_mem w hm];exact ⟨h3, AscL.len h3 fun x hx => (h2 x hx).2, h2⟩
noncomputable def EntAt (h : Heap) (a : Addr) (e : SE) : Prop := ∃ t t2 lv, h.get? a = some (tupO [.str (mkS e.1) t, .int e.2.1 t2, lv]) ∧ ((e.2.2 = none ∧ lv = .none) ∨ ∃ ch tc, e.2.2 = some ch ∧ ch < 128 ∧ lv = .str (lab ch) tc)
inductive Ents (h : Heap) : List Addr -> List SE -> Prop
 | nil : Ents h [] []
 | cons {a : Addr} {e : SE} {as : List Addr} {es : List SE} : EntAt h a e -> Ents h as es -> Ents h (a :: as) (e :: es)
theorem EntAt.keep {h h' : Heap} {a : Addr} {e : SE} (x : EntAt h a e) (k : ∀ vs, h.get? a = some (tupO vs) -> h'.get? a = some (tupO vs)) : EntAt h' a e := by obtain ⟨t, t2, lv, e1, r⟩ := x; exact ⟨t, t2, lv, k _ e1, r⟩
theorem Ents.keep {h h' : Heap} (k : ∀ a vs, h.get? a = some (tupO vs) -> h'.get? a = some (tupO vs)) {as : List Addr} {es : List SE} (x : Ents h as es) : Ents h' as es := by
 induction x with
 | nil => exact .nil
 | cons x _ ih => exact .cons (x.keep fun vs e => k _ vs e) ih
theorem Ents.len {h : Heap} {as : List Addr} {es : List SE} (x : Ents h as es) : as.length = es.length := by
 induction x with
 | nil => rfl
 | cons _ _ ih => rw [List.length_cons, List.length_cons, ih]
noncomputable def meas (R : RG) (es : List SE) : Nat := (es.map fun e => hgt R e.2.1 + 1).sum
theorem sl_all (x : List Nat) : PySem.StrLaws.sliceText (mkS x) none (some ((((x.length - 1 : Nat) : Int)) + 1)) = mkS x := by
 cases x with
 | nil => rfl
 | cons a r =>
  have : ((((a :: r).length - 1 : Nat) : Int)) + 1 = (((a :: r).length : Nat) : Int) := by simp
  rw [this, sl_to (Nat.le_refl _), List.take_of_length_le (Nat.le_refl _)]
theorem stk_ids {R : RG} (hw : WF R) : ∀ (x : List Nat) (q : Int) (p : List Nat), (q = 0 ∨ q ∈ ids R) -> ∀ e ∈ stackOf R q p x, e.2.1 = 0 ∨ e.2.1 ∈ ids R := by
 intro x
 induction x with
 | nil => intro q p hq e he; simp [stackOf] at he; subst he; exact hq
 | cons ch x ih =>
  intro q p hq e he;unfold stackOf at he;rcases List.mem_append.mp he with he | he
  ·cases hd : toR (arcsOf R q) ch with
   | none => rw [hd] at he; cases he
   | some d =>
    rw [hd] at he;have h3 := (arcs_asc hw q).2.2 _ (toR_in hd);exact ih d _ (.inr h3.1) e he
  ·simp at he; subst he; exact hq
section
variable {w : World} {mg mb : Str -> Option Value} {A : Around} {E : Value -> Shared -> Prop}
theorem push_ent {L : Addr} {sE s : Shared} {W : Addr -> Prop} {H : List (Addr × Obj)} {b : Heap} {m : Str -> Option Value} {fr : List Addr} {S : Addr} {as : List Addr} {es : List SE} {n : Nat} {e : SE} {t t2 : Tok} {lv : Value} {Q : Value -> Shared -> Prop}
  (F : Fx w mg mb L sE W H b s m) (hb : NonF fr b) (hfr : ∀ a ∈ fr, ∃ o, sE.heap.get? a = some o) (eS : b.get? S = some (listO (as.reverse.map Value.ref) n)) (hE : Ents b as es) (lS : 456 <= S) (hSE : sE.heap.get? S = none) (hz : es.length <= 1000)
  (hlv : (e.2.2 = none ∧ lv = .none) ∨ ∃ ch tc, e.2.2 = some ch ∧ ch < 128 ∧ lv = .str (lab ch) tc)
  (h : ∀ s' b' a, Fx w mg mb L sE W H b' s' m -> NonF fr b' -> (KpD S b b') -> b'.get? S = some (listO ((a :: as).reverse.map Value.ref) (n + 1)) -> Ents b' (a :: as) (e :: es) -> Q .none s') :
  wpAny (model PP w) A (call (.builtin "list.append") [.ref S, .ref s.heap.objs.size]) Q E { s with heap := s.heap.push (tupO [.str (mkS e.1) t, .int e.2.1 t2, lv]) } := by
 have hn := F.none_of (Nat.le_refl s.heap.objs.size);have F1 := F.grow (s' := { s with heap := s.heap.push (tupO [.str (mkS e.1) t, .int e.2.1 t2, lv]) }) (.of fun _ _ e => Heap.get?_push_of_some _ e);refine (F1.rebaseF hb) _ fun b1 F1 hb1 k1 kn1 => ?_;have hnf : s.heap.objs.size ∉ fr := fun hm => by
  obtain ⟨o, eo⟩ := hfr _ hm;exact absurd (F.tot.lt eo) (Nat.lt_irrefl _)
 have eT : b1.get? s.heap.objs.size = some (tupO [.str (mkS e.1) t, .int e.2.1 t2, lv]) := kn1 _ _ hn.2.1 hnf (Heap.get?_push_size _ rfl);have tS : ∀ {a : Addr} {vs : List Value}, b1.get? a = some (tupO vs) -> a ≠ S := fun {a vs} ea q => by
  rw [q, k1 _ _ eS] at ea;have := congrArg Obj.cls (Option.some.inj ea);exact absurd this (by simp)
 refine m_append F1 (k1 _ _ eS) lS (fun o eo => by rw [hSE] at eo; cases eo) (by rw [List.length_map, List.length_reverse, hE.len, sizeLine_eq]; exact ar19 hz) fun s' b2 F2 k2 e2 => ?_;refine (F2.hideF (fr := fr)) _ fun F3 hb3 k3 => ?_;have up : KpD S b1 (hideAll b2 fr) := fun a o ha eo => k3 a o (fun hm => by rw [hb1 a hm] at eo; cases eo) (k2 a o ha eo);have hSf : S ∉ fr := fun hm => by rw [hb S hm] at eS; cases eS
 refine h s' _ s.heap.objs.size F3 hb3 (fun a o ha eo => up a o ha (k1 a o eo)) ?_ (.cons ⟨t, t2, lv, up _ _ (tS eT) eT, hlv⟩ (hE.keep fun a vs ea => up _ _ (tS (k1 _ _ ea)) (k1 _ _ ea)));have := k3 _ _ hSf e2;rw [List.reverse_cons, List.map_append];exact this
theorem DFAAt.movS {h h' : Heap} {c : DC} {S : Addr} {vs : List Value} {n : Nat} (D : DFAAt w h c) (hS : h.get? S = some (listO vs n)) (hout : ∀ y ∈ c.out, y.2.1 ≠ S) (k : KpD S h h') : DFAAt w h' c := by
 obtain ⟨a, t0, t1, t2, t3, t4, t5, n, e⟩ := D.obj;have ne : ∀ {z : Addr} {o : Obj}, h.get? z = some o -> o.cls ≠ .type "list" -> z ≠ S := fun {z o} ez hc q => by
  rw [q, hS] at ez; cases ez; exact hc rfl
 have kd : ∀ {K : Type} [DecidableEq K] {knd : KeyKind PP w K} {z : Addr} {kvs : List (K × Value)}, h.DictOf knd z kvs -> h'.DictOf knd z kvs := fun x => movE x fun o e r => k _ _ (ne e (by rw [r.1]; decide)) e;refine ⟨⟨k _ _ (ne a (by simp)) a, t0, t1, t2, t3, t4, t5, n, k _ _ (ne e (by simp)) e⟩, kd D.T, fun x hx => ⟨kd (D.rows x hx).1, (D.rows x hx).2⟩, kd D.Df, ?_, kd D.Ol, fun x hx => ?_, D.loT, D.loDf, D.loOl, D.loFs, D.nd⟩
 ·exact movT D.Fs fun o e r => k _ _ (ne e (by rw [r.1]; decide)) e
 ·obtain ⟨o, e, r⟩ := D.outs x hx;exact ⟨o, k _ _ (hout x hx) e, r⟩
theorem MethodCallK {o : PySem.Expr} {name : Str} {apos pos : Pos} {args : List PySem.Expr} {env : Env} {s : Shared} {kws} {pl : Sem Bool} {Q : Value -> Shared -> Prop}
  (h : wpAny (model PP w) A (eval o env) (fun ov s₁ => wpAny (model PP w) A (getMethod ov name pl) (fun fx s₂ => wpAny (model PP w) A (callWith pos fx.1 fx.2 (backTo pos (starEach args env)) (backToKw pos (keywordEach kws env))) Q E s₂) E s₁) E s)
  (he : eval (.Call (.Attribute o name apos) args kws pos) env = (do
   let ov ← eval o env
   standAt apos.atName
   let (f, first) ← holding [ov] (getMethod ov name pl)
   callWith pos f first (backTo pos (starEach args env)) (backToKw pos (keywordEach kws env))) := by rfl) :
  wpAny (model PP w) A (eval (.Call (.Attribute o name apos) args kws pos) env) Q E s := by
 rw [he];exact wpAny_bind (wpAny_mono h (fun ov s₁ h₁ => wpAny_bind (wpAny_standAt (wpAny_bind (wpAny_holding (wpAny_mono h₁ (fun fx s₂ h₂ => h₂) ee))))) ee)
theorem m_cwk {s : Shared} {env : Env} {pos : Pos} {f : Addr} {first : List Value} {e : PySem.Expr} {rest : List PySem.Expr} {kn : Str} {ke : PySem.Expr} {p1} {fd : FuncData} {oc : Value} {od : Option Addr} {osl : Array (Option Value)} {Q : Value -> Shared -> Prop}
  (ho : (KK w).lookup f = some ⟨oc, od, .func fd, osl⟩)
  (h : wpAny (model PP w) A (spliced (backTo pos (starEach (e :: rest) env))) (fun vs s₁ => wpAny (model PP w) A (eval ke env) (fun kv s₂ => (KK w).In s₂.heap ∧ wpAny (model PP w) A (call (.ref f) (first ++ vs) [(kn, kv)]) Q E s₂) E s₁) E s)
  (he : starEach (e :: rest) env = (false, eval e env) :: starEach rest env := by rfl) :
  wpAny (model PP w) A (callWith pos (.ref f) first (backTo pos (starEach (e :: rest) env)) (backToKw pos (keywordEach [⟨some kn, ke, p1⟩] env))) Q E s := by
 rw [he] at h ⊢;refine callWith_function_kw (o := ⟨oc, od, .func fd, osl⟩) (fd := fd) (evalArgs_kw rfl (wpAny_mono h (fun vs s₁ h₁ => ?_) ee));show wpAny _ _ (evalAll [_]) _ _ _;refine wpAny_evalAll_cons ?_;show wpAny _ _ (eval ke env >>= fun v => standAt pos >>= fun _ => pure v) _ _ _;refine wpAny_bind (wpAny_mono h₁ (fun kv s₂ h₂ => wpAny_bind (wpAny_standAt (wpAny_pure (wpAny_evalAll_nil ⟨⟨h₂.1 _ _ ho, rfl⟩, h₂.2⟩)))) ee)
noncomputable def NvA (FF : Heap -> Shared -> (Str -> Option Value) -> Prop) (fr : List Addr) (q : Heap) (x : List Nat) (R : RG) (S : Addr) (vm vs : Value) (f : Flow) (s' : Shared) : Prop := ∀ CC : Prop, (∀ (ef : f = .next) (b : Heap) (m : Str -> Option Value) (as : List Addr) (es : List SE) (n : Nat) (o : Option Int) (v : Value) (F : FF b s' m) (hb : NonF fr b) (kq : Kp q b)
   (m1 : m "self" = some vm) (m2 : m "string" = some vs) (m3 : m "asbytes" = some (.bool false)) (m4 : m "stack" = some (.ref S)) (m6 : m "state" = some v) (hov : isOI o v = true) (hrun : runR R 0 x = o)
   (eS : b.get? S = some (listO (as.reverse.map Value.ref) n)) (hE : Ents b as es) (hst : es = stackOf R 0 [] x) (hel : es.length <= x.length + 1) (hep : ∀ e ∈ es, e.1.length <= 10), CC) -> CC
noncomputable def NvB (fr : List Addr) (q : Heap) (x : List Nat) (R : RG) (S : Addr) (vm vs : Value) (i : Nat) (b : Heap) (m : Str -> Option Value) : Prop := ∀ CC : Prop, (∀ (hb : NonF fr b) (kq : Kp q b)
   (m1 : m "self" = some vm) (m2 : m "string" = some vs) (m3 : m "asbytes" = some (.bool false)) (m4 : m "stack" = some (.ref S)) (ti : Tok) (m5 : m "i" = some (.int (i - 1 : Nat) ti))
   (as : List Addr) (es : List SE) (n : Nat) (qi : Int) (tq : Tok) (m6 : m "state" = some (.int qi tq)) (hrun : runR R 0 (x.take i) = some qi) (eS : b.get? S = some (listO (as.reverse.map Value.ref) n)) (hE : Ents b as es)
   (hst : stackOf R 0 [] x = stackOf R qi (x.take i) (x.drop i) ++ es) (hel : es.length = i) (hep : ∀ e ∈ es, e.1.length <= 10), CC) -> CC
noncomputable def NvC (w : World) (mg mb : Str -> Option Value) (L : Addr) (fr : List Addr) (q : Heap) (x : List Nat) (R : RG) (S : Addr) (s0 : Shared) (c : DC) (N : Nat) (s : Shared) : Prop := ∀ CC : Prop, (∀ (sE : Shared) (b : Heap) (m : Str -> Option Value) (c' : DC) (as : List Addr) (es : List SE) (n : Nat) (sh : Shift fr s0 sE) (F : Fx w mg mb L sE (· = c.x.Ol) [] b s m) (hb : NonF fr b) (kq : KpD c.x.Ol q b) (Db : DFAAt w b c')
   (hcx : c'.x = c.x) (hct : c'.tra = c.tra) (hcf : c'.fin = c.fin) (hO : OutOk R c') (hoS : ∀ y ∈ c'.out, y.2.1 ≠ S) (m1 : m "self" = some (.ref c.x.m)) (m3 : m "asbytes" = some (.bool false)) (m4 : m "stack" = some (.ref S))
   (eS : b.get? S = some (listO (as.reverse.map Value.ref) n)) (hE : Ents b as es) (hres : (es.flatMap (cand R)).head? = ((stackOf R 0 [] x).flatMap (cand R)).head?) (heb : ∀ e ∈ es, e.1.length + hgt R e.2.1 <= 70 ∧ (e.2.1 = 0 ∨ e.2.1 ∈ ids R)) (hel : es.length <= 100) (eN : N = meas R es), CC) -> CC
theorem next_valid_spec {s0 : Shared} {q : Heap} {c : DC} {R : RG} {x : List Nat} {t : Tok} {outer : List Env} {Q : Value -> Shared -> Prop} {k : Nat}
  (g : G w mg mb s0.heap) (hA : Rm A (k + 3)) (hF : Frs A outer s0.heap) (hq : Kp q s0.heap) (hqf : NonF (fra outer) q)
  (D : DFAAt w q c) (hr : c.rows = encR (rowsOf R)) (hw : WF R) (hfin : c.fin = finOf R) (hO : OutOk R c) (h0 : R = [] ∨ (0 : Int) ∈ ids R) (hnz : ∀ q c, toR (arcsOf R q) c ≠ some 0) (hRl : R.length <= 1000) (hx : ∀ c ∈ x, c < 128) (hxl : x.length <= 10) (hhg : ∀ q, hgt R q <= 50)
  (h : ∀ s1 s' q' c' v', Shift (fra outer) s0 s1 -> Stp (· = c.x.Ol) s1 s' -> Kp q' s'.heap -> (NonF (fra outer) q') -> KpD c.x.Ol q q' -> DFAAt w q' c' -> c'.x = c.x -> c'.tra = c.tra -> c'.fin = c.fin -> OutOk R c' ->
   (match ((if (runR R 0 x).any (finOf R) then [x] else []) ++ (stackOf R 0 [] x).flatMap (cand R)).head? with | some wd => ∃ t, v' = .str (mkS wd) t | none => v' = .none) -> Q v' s') :
  wpAny (model PP w) A (call (.ref 272) [.ref c.x.m, .str (mkS x) t]) Q E s0 := by
 refine wpAny_call (m_call (· = c.x.Ol) [("self", .ref c.x.m), ("string", .str (mkS x) t), ("asbytes", .bool false)] g hA.room (by rfl) (by kernel_rfl) (.of_defaults rfl (g.X _ _ (by rfl)) rfl (by rfl) (by rfl)) (locs (by rfl)) (fun s₁ F => ?_) (by decide));refine gQ fun Q0 E0 hQ0 hE0 => ?_;have hB : ∀ env, Rm (A.deeper env) (k + 2) := fun env => hA.deeper env;have qL : q.get? s0.heap.objs.size = none := by
  cases e : q.get? s0.heap.objs.size with
  | none => rfl
  | some o => exact absurd (Heap.lt_size (hq _ o e)) (Nat.lt_irrefl _)
 have F : Fx w mg mb s0.heap.objs.size s0 (· = c.x.Ol) [] q s₁ _ := ⟨F.g, F.hL, F.ns, F.tot, fun a o e => F.keep a o (hq a o e), qL, fun p hp => nomatch hp⟩;have own_Ol : ∃ o, q.get? c.x.Ol = some o := by refine (dob D.Ol) _ fun o e _ => ?_; exact ⟨o, e⟩
 have frW : ∀ a ∈ fra outer, ¬ (a = c.x.Ol) ∧ a ≠ s0.heap.objs.size := fun a ha =>
  ⟨fun hm => (by obtain ⟨o, e⟩ := own_Ol; rw [← hm, hqf a ha] at e; cases e), fun hm => by obtain ⟨o, e, _⟩ := hF.mem ha; exact absurd (Heap.lt_size e) (by rw [hm]; exact Nat.lt_irrefl _)⟩
 refine wpAny_execs_cons (wpAny_Assign_Name (MethodCall_ (m_local F (by rfl) (o_meth F (mt_start w) D.obj (m_cw0 (by rfl) F.g.X ?_)))));refine start_spec F.g (hB _) (D.keeps F.keep) fun s t1 S1 => m_store (F.grow S1) fun s2 F1 => ?_;refine wpAny_execs_cons (wpAny_Assign_Name (m_list0 F1 fun s3 S F eS bS hS lS hnS _ => ?_));have sES : s0.heap.get? S = none := by
  cases q' : s0.heap.get? S with
  | none => rfl
  | some o => obtain ⟨o', e'⟩ := F1.tot.live S o q'; rw [hnS] at e'; cases e'
 have hfr0 : ∀ a ∈ fra outer, ∃ o, s0.heap.get? a = some o := fun a ha => (by obtain ⟨o, e, _⟩ := hF.mem ha; exact ⟨o, e⟩);have hSf : S ∉ fra outer := fun hm => by obtain ⟨o, e⟩ := hfr0 S hm; rw [sES] at e; cases e
 refine (F.rebaseF hqf) _ fun b1 F hb1 k1 kn1 => ?_;have eS1 := kn1 _ _ hS hSf eS;refine m_store F fun s4 F => ?_;refine wpAny_execs_cons (wpAny_Assign_Name (m_cint F fun s t3 F _ => m_store F fun s5 F => ?_));have hxa : (mkS x).cps.all (· < 128) = true := by
  rw [← Array.all_toList];exact List.all_eq_true.mpr fun c hc => by simpa using hx c hc
 refine (nmP (NvA (Fx w mg mb s0.heap.objs.size s0 (· = c.x.Ol) []) (fra outer) q x R S (.ref c.x.m) (.str (mkS x) t))) _ fun J1 j1i j1o => ?_;refine wpAny_execs_cons (wpAny_mono (Q := J1)
  (wpAny_For (Call_ (m_bi F (ng_enumerate w) boot_enumerate (m_ct (args_cons (m_local F (by rfl) (args_nil (for_enum (hB default).hh hxa (NvB (fra outer) q x R S (.ref c.x.m) (.str (mkS x) t)) F ?_ ?_ ?_)))))))) ?_ ee)
 ·refine (fun _ kk => kk hb1 k1 (by rfl) (by rfl) (by rfl) (by rfl) _ (by rfl) [] [] 0 0 _ (by rfl) rfl eS1 (.nil) (by simp) rfl (fun e he => nomatch he))
 ·intro i ch t4 t5 s b m H' hH hch hJ F;refine gQ fun Qb Eb hQb hEb => ?_;refine hJ _ fun hb kq m1 m2 m3 m4 ti m5 as es n qi tq m6 hrun eS hE hst hel hep => ?_;have hxi : x[i]? = some ch := by simpa [mkS] using hch
  have hil : i < x.length := (List.getElem?_eq_some_iff.mp hxi).1;have hdrop : x.drop i = ch :: x.drop (i + 1) := by
   obtain ⟨h1, rfl⟩ := List.getElem?_eq_some_iff.mp hxi;exact List.drop_eq_getElem_cons h1
  have hch128 : ch < 128 := hx ch (List.mem_of_getElem? hxi);refine wpAny_execs_cons (wpAny_Expr (MethodCall_ (m_local F (by exact m4) (gm_list (F.keep _ _ eS) PySem.F.slot_list_append PySem.F.type_list_append (m_cwb ?_)))) (by rfl) (by rfl));refine (args_cons (wpAny_Tuple (args_cons (m_to (p := ((i : Nat) : Int)) (y := x.take i) (sl_to (ar27 hil)) (by rw [List.length_take, sizeLine_eq]; lia) (m_local F (by exact m2) ⟨t, rfl, m_local F (by rfl) ⟨_, b, _, rfl, F, fun s t6 F => args_cons (m_local F (by exact m6) (args_cons (m_local F (by rfl) (args_nil ⟨by rw [sizeLine_eq]; show 3 <= _; exact ar20, args_nil ?_⟩))))⟩⟩)))));refine push_ent (e := (x.take i, qi, some ch)) F hb hfr0 eS hE lS sES (ar109 hxl hel hil) (.inr ⟨ch, _, rfl, hch128, rfl⟩) fun s b2 a2 F hb2 k2 eS2 hE2 => ?_;have kq2 : Kp q b2 := fun a o e => k2 a o (fun hq' => by rw [hq'] at e; have := hq _ _ e; rw [sES] at this; cases this) (kq a o e);have Db := D.keeps kq2;refine wpAny_execs_cons (wpAny_Assign_Name (MethodCall_ (m_local F (by exact m1) (o_meth F (mt_next_state w) Db.obj (m_cw (by rfl) (args_cons (m_local F (by exact m6) (args_cons (m_local F (by rfl) (args_nil ⟨F.g.X, ?_⟩))))))))));have hnx : c.next qi ⟨#[ch]⟩ = toR (arcsOf R qi) ch := DC.next_eq hr hw qi ch;have hrun' : runR R 0 (x.take (i + 1)) = toR (arcsOf R qi) ch := by
   rw [List.take_add_one, hxi, runR_append, hrun]
   show (toR (arcsOf R qi) ch).bind _ = _;cases toR (arcsOf R qi) ch <;> rfl
  have hst' : stackOf R 0 [] x = (match toR (arcsOf R qi) ch with | some d => stackOf R d (x.take i ++ [ch]) (x.drop (i + 1)) | none => []) ++ ((x.take i, qi, some ch) :: es) := by
   rw [hst, hdrop];rw [show stackOf R qi (x.take i) (ch :: x.drop (i + 1)) = (match toR (arcsOf R qi) ch with | some d => stackOf R d (x.take i ++ [ch]) (x.drop (i + 1)) | none => []) ++ [(x.take i, qi, some ch)] from rfl, List.append_assoc]
   rfl
  have htk : x.take i ++ [ch] = x.take (i + 1) := by rw [List.take_add_one, hxi]; rfl
  have hep' : ∀ e ∈ ((x.take i, qi, some ch) : SE) :: es, e.1.length <= 10 := fun e he => by
   rcases List.mem_cons.mp he with rfl | he
   ·rw [List.length_take]; lia
   ·exact hep e he
  refine next_state_spec F.g (hB _) (Db.keeps F.keep) (fun s' d t7 S7 hn => m_store (F.grow S7) fun s F => ?_) fun s' S7 hn => m_store (F.grow S7) fun s F => ?_
  ·rw [hnx] at hn;rw [hn] at hrun' hst';have hd0 : d ≠ 0 := fun e => hnz qi ch (by rw [hn, e]);refine wpAny_execs_cons (wpAny_If (isTrue_not (isTrue_plain (m_local F (by rfl) (P.truthy_int ?_)) (by rfl))));rw [show (!(d != 0)) = false by simp [hd0]];refine wpAny_execs_nil (wpAny_execs_nil (hQb _ _ ⟨b2, _, F, fun _ kk => kk hb2 kq2 (by exact m1) (by exact m2) (by exact m3) (by exact m4) t4 (by rfl) _ _ _ d t7 (by rfl) hrun' eS2 hE2 ?_ (by rw [List.length_cons, hel]) hep'⟩));rw [← htk]; exact hst'
  ·rw [hnx] at hn;rw [hn] at hrun' hst';refine wpAny_execs_cons (wpAny_If (isTrue_not (isTrue_plain (m_local F (by rfl) (truthy_noneQ ?_)) (by rfl))));refine wpAny_execs_cons (wpAny_Break (hQb _ _ (j1i _ _ (fun _ kk => kk rfl b2 _ _ _ _ none .none (F.fewer (fun p hp => nomatch hp)) hb2 kq2 (by exact m1) (by exact m2) (by exact m3) (by exact m4) (by rfl) rfl ?_ eS2 hE2 hst'.symm (by rw [List.length_cons, hel]; exact ar187 hil) hep'))));rw [← List.take_append_drop (i + 1) x, runR_append, hrun']; rfl
 ·intro s b m hLp F;refine hLp _ fun hb kq m1 m2 m3 m4 ti m5 as es n qi tq m6 hrun eS hE hst hel hep => ?_;have hxs : (mkS x).cps.size = x.length := by simp [mkS]
  rw [hxs] at m5 hrun hst hel;rw [List.take_of_length_le (Nat.le_refl _)] at hrun hst;rw [List.drop_of_length_le (Nat.le_refl _)] at hst;have hst' : stackOf R 0 [] x = (x, qi, none) :: es := hst;have hsl := sl_all x;refine wpAny_execs_cons (wpAny_Expr (MethodCall_ (m_local F (by exact m4) (gm_list (F.keep _ _ eS) PySem.F.slot_list_append PySem.F.type_list_append (m_cwb ?_)))) (by rfl) (by rfl));refine (args_cons (wpAny_Tuple (args_cons (m_to (p := (((x.length - 1 : Nat) : Int)) + 1) (y := x) hsl (by rw [sizeLine_eq]; exact ar266 hxl) (m_local F (by exact m2) ⟨t, rfl, wpAny_BinOp (m_local F (by exact m5) (m_cint F fun s t5 F _ => m_add F fun s t6 F _ => ⟨_, b, _, rfl, F, fun s t7 F => args_cons (m_local F (by exact m6) (args_cons (m_cnone (args_nil ⟨by rw [sizeLine_eq]; show 3 <= _; exact ar20, args_nil ?_⟩))))⟩))⟩)))));refine push_ent (e := (x, qi, none)) F hb hfr0 eS hE lS sES (ar177 hxl hel) (.inl ⟨rfl, rfl⟩) fun s b2 a2 F hb2 k2 eS2 hE2 => ?_;have kq2 : Kp q b2 := fun a o e => k2 a o (fun hq' => by rw [hq'] at e; have := hq _ _ e; rw [sES] at this; cases this) (kq a o e);refine wpAny_execs_nil (j1i _ _ (fun _ kk => kk rfl b2 _ _ _ _ (some qi) (.int qi tq) F hb2 kq2 m1 m2 m3 m4 m6 (oi_int w qi tq) hrun eS2 hE2 hst'.symm (by rw [List.length_cons, hel]; exact Nat.le_refl _) (fun e he => ?_)));rcases List.mem_cons.mp he with rfl | he
  ·exact hxl
  ·exact hep e he
 ·intro f s' hJ1;refine (j1o _ _ hJ1) _ fun eq13 b m as es n o v F hb kq m1 m2 m3 m4 m6 hov hrun eS hE hst hel hep => ?_;subst eq13;show wpAny _ _ (execs _ _) _ _ _;subst hst;have Db := D.keeps kq;have hfo : c.finO o = (runR R 0 x).any (finOf R) := by
   rw [hrun];cases o with
   | none => rfl
   | some d => show c.fin d = finOf R d; rw [hfin]
  refine wpAny_execs_cons (wpAny_If (m_tbool (c := c.finO o) (MethodCall_ (m_local F (by exact m1) (o_meth F (mt_is_final w) Db.obj (m_cw (by rfl) (args_cons (m_local F (by exact m6) (args_nil ⟨F.g.X, ?_⟩)))))))));refine is_final_spec (q := o) F.g (hB _) (Db.keeps F.keep) hov fun s6 S6 => ⟨rfl, ?_⟩;have F := F.grow S6;rw [hfo];have keyq : ∀ {b : Heap}, (Kp q b) -> KpD c.x.Ol q b := fun k a o _ e => k a o e;cases hacc : (runR R 0 x).any (finOf R) with
  | true =>
   refine ifT rfl ?_;refine wpAny_execs_cons (wpAny_Return_some (m_local F (by exact m2) (hQ0 _ _ (h s0 _ b c _ (.refl ..) F.done F.keep hb (keyq kq) Db rfl rfl rfl hO ?_))));rw [hacc];exact ⟨t, rfl⟩
  | false =>
   refine ifF rfl ?_;have hac0 := hacc;refine wpAny_execs_nil (wpAny_execs_cons (wpAny_While ?_));refine (nmP (NvC w mg mb s0.heap.objs.size (fra outer) q x R S s0 c)) _ fun J0 j0i j0o => ?_;refine whileQ J0 ?_ (meas R (stackOf R 0 [] x))
    (j0i _ _ (fun _ kk => kk s0 b m c as _ n (.refl ..) F hb (keyq kq) Db rfl rfl rfl hO (fun y hy hq' => by obtain ⟨o, e, _⟩ := D.outs y hy; have := hq _ _ e; rw [hq', sES] at this; cases this) m1 m3 m4 eS hE rfl (fun e he => ⟨(by have := hep e he; have := hhg e.2.1; exact Nat.le_trans (Nat.add_le_add (by assumption) this) (by decide)), stk_ids hw x 0 [] (.inl rfl) e he⟩) (Nat.le_trans (Nat.le_trans hel (Nat.succ_le_succ hxl)) (by decide)) rfl))
   clear F hE eS m1 m2 m3 m4 m6 hb kq Db hov;intro N s hJ0 Qw Qe Ew hQw hQe hEw;refine (j0o _ _ hJ0) _ fun sE b m c' as es n sh F hb kq Db hcx hct hcf hO' hoS m1 m3 m4 eS hE hres heb hel' eq14 => ?_;subst eq14;have sES' : sE.heap.get? S = none := sh.none sES hSf;have hlS : b.IsList S (as.reverse.map Value.ref).toArray := ⟨_, eS, rfl, _, rfl⟩;refine isTrue_plain (m_local F (by exact m4) (wpAny_truthy_list (keepsL hlS F.keep) (by rw [List.size_toArray, List.length_map, List.length_reverse, hE.len]; lia) ?_)) (by rfl);have F := F.tok (s.toks + 1 + 1);cases hE with
   | nil =>
    refine ifF (show (!(([] : List Addr).reverse.map Value.ref).toArray.isEmpty) = false from rfl) ?_;refine wpAny_execs_nil (hQe _ _ (wpAny_execs_cons (wpAny_Return_some (m_cnone ?_))));have sEL : sE.heap.get? s0.heap.objs.size = none := sh.none (Heap.get?_size_none _) fun hm => (frW _ hm).2 rfl;refine hQ0 _ _ (h sE _ b c' _ sh (F.done' sEL) F.keep hb kq Db hcx hct hcf hO' ?_);rw [hac0, if_neg Bool.false_ne_true, List.nil_append, ← hres]
    rfl
   | @cons a1 e1 as1 es1 he1 hE1 =>
    refine ifT (show (!((a1 :: as1).reverse.map Value.ref).toArray.isEmpty) = true from by simp) ?_;rw [List.reverse_cons, List.map_append] at eS;refine wpAny_execs_cons (Assign_Tuple (MethodCall_ (m_local F (by exact m4) (gm_list (F.keep _ _ eS) PySem.F.slot_list_pop PySem.F.type_list_pop (callWith_method0 ?_)))));refine m_pop F eS lS (fun o e => by rw [sES'] at e; cases e) (by rw [List.length_map, List.length_reverse, hE1.len, sizeLine_eq]; simp only [List.length_cons] at hel'; exact ar283 hel') fun s b1 F k1 eS1 => ?_;refine (F.hideF (fr := fra outer)) _ fun F hb1 kh => ?_;have k1 : ∀ a o, a ≠ S -> b.get? a = some o -> (hideAll b1 (fra outer)).get? a = some o := fun a o ha e => kh a o (fun hm => by rw [hb a hm] at e; cases e) (k1 a o ha e);have eS1 := kh _ _ hSf eS1;generalize hideAll b1 (fra outer) = b1 at F hb1 k1 eS1;have tS : ∀ {a : Addr} {vs : List Value}, b.get? a = some (tupO vs) -> a ≠ S := fun {a vs} ea q => by
     rw [q, eS] at ea;have := congrArg Obj.cls (Option.some.inj ea);exact absurd this (by simp)
    have hE1' : Ents b1 as1 es1 := hE1.keep fun a vs ea => k1 _ _ (tS ea) ea;obtain ⟨tp, tq, lv, eT, hlv⟩ := he1.keep (h' := b1) fun vs ea => k1 _ _ (tS ea) ea;have kq1 : KpD c.x.Ol q b1 := fun a o ha e => k1 a o (fun hq' => by rw [hq'] at e; have := hq _ _ e; rw [sES] at this; cases this) (kq a o ha e);have Db1 : DFAAt w b1 c' := Db.movS eS hoS k1;refine wpAny_assign_Tuple (hB default).hh ⟨_, F.keep _ _ eT, rfl, _, rfl⟩ rfl rfl fun h3 hx3 => ?_;have F := F.grow (s' := { s with heap := h3 }) (.of fun b o e => hx3 b o (Nat.ne_of_lt (Heap.lt_size e)) e);show wpAny _ _ (do holding [.int e1.2.1 tq, lv] (assign (.Name "path" _) _ (.str (mkS e1.1) tp)); do holding [lv] (assign (.Name "state" _) _ (.int e1.2.1 tq)); do holding [] (assign (.Name "label" _) _ lv); pure ()) _ _ _;refine wpAny_bind (wpAny_holding (wpAny_assign_Name (m_store F fun s F => ?_)));refine wpAny_bind (wpAny_holding (wpAny_assign_Name (m_store F fun s F => ?_)));refine wpAny_bind (wpAny_holding (wpAny_assign_Name (m_store F fun s F => wpAny_pure ?_)));have oj := Db1.obj;rw [hcx] at oj;refine wpAny_execs_cons (wpAny_Assign_Name (MethodCallK (m_local F (by exact m1) (o_meth F (mt_find_edge w) oj ?_))));refine m_cwk (by rfl) ?_;refine args_cons (m_local F (by rfl) (args_cons (m_local F (by rfl) (args_nil (m_local F (by exact m3) ⟨F.g.X, ?_⟩)))));have hst1 := (heb e1 (by simp)).2;have hasc1 := arcs_asc hw e1.2.1;have hlv' : (e1.2.2 = none ∧ lv = .none) ∨ ∃ ch t, e1.2.2 = some ch ∧ ch < 1000 ∧ lv = .str (lab ch) t := hlv.imp id fun ⟨ch, tc, x1, x2, x3⟩ => ⟨ch, tc, x1, (ar278 x2), x3⟩;rw [show (Value.ref c.x.m) = .ref c'.x.m from by rw [hcx]];refine find_edge_spec (q := b1) F.g (hB _) (F.frs (hF.slots sh.1) frW (fun hk => nomatch hk) rfl) F.keep (fun a ha => ?_) Db1 (by rw [DC.rows, hct]; exact hr) hw hO' hst1 hRl hasc1.1 (by lia) hlv' fun s6 s7 q7 c7 v7 sh7 S7 hq7 hqf7 kq7 D7 hx7 ht7 hf7 hO7 hfr7 hres7 => ?_
    ·rcases List.mem_cons.mp (show a ∈ s0.heap.objs.size :: fra outer from ha) with rfl | ha
     ·exact F.noL
     ·exact hb1 a ha
    have lvF : ∀ a ∈ fra outer, (∃ o, sE.heap.get? a = some o) ∧ 456 <= a ∧ a ≠ s0.heap.objs.size ∧ ¬ (a = c.x.Ol) := fun a ha => by
     obtain ⟨o, e, _, lo⟩ := hF.mem ha;exact ⟨sh.some e, lo, (frW a ha).2, (frW a ha).1⟩
    have lSs : ∃ o, s.heap.get? S = some o := ⟨_, F.keep _ _ eS1⟩;refine (F.shift (s' := s6) hb1 lvF (fun a o ha e => (sh7.1.2.1 a ha).trans e) (fun a _ o e => sh7.1.2.2 a o e) sh7.2.1 sh7.2.2) _ fun sE' shE F => ?_;have sh' := sh.trans shE;have hOlL : ¬ (s0.heap.objs.size = c'.x.Ol) := fun q' => by
     obtain ⟨o, e⟩ := own_Ol;rw [hcx] at q';exact absurd (Heap.lt_size (hq _ _ e)) (by rw [← q']; exact Nat.lt_irrefl _)
    refine (F.changeF (W' := (· = c'.x.Ol)) hb1 S7 hOlL (fun p hp => nomatch hp) (fun a o ha _ => by rw [hcx] at ha; exact ha)) _ fun b2 F hb2 k2 kn2 => ?_;rw [hcx] at k2 kq7;have hq72 : Kp q7 b2 := fun a o e => kn2 a o (fun hm => by
      have hm' : a = s0.heap.objs.size := by simpa using hm
      rw [hm', hqf7 _ (show _ ∈ s0.heap.objs.size :: fra outer from List.mem_cons_self)] at e; cases e) (fun hm => by rw [hqf7 _ (show a ∈ s0.heap.objs.size :: fra outer from List.mem_cons_of_mem _ hm)] at e; cases e) (hq7 a o e)
    have D2 := D7.keeps hq72;have hS_Ol : S ≠ c.x.Ol := fun q' => by obtain ⟨o, e⟩ := own_Ol; have := hq _ _ e; rw [← q', sES] at this; cases this
    have eS2 := k2 _ _ hS_Ol eS1;have hE2 : Ents b2 as1 es1 := hE1'.keep fun a vs ea => k2 _ _ (fun q' => by
     refine (dob Db1.Ol) _ fun o eo hex => ?_;rw [hcx, ← q', ea] at eo;have := hex.1;cases eo;exact absurd this (by simp)) ea
    have kq2 : KpD c.x.Ol q b2 := fun a o ha e => k2 a o ha (kq1 a o ha e);have hoS2 : ∀ y ∈ c7.out, y.2.1 ≠ S := fun y hy => (hfr7 y hy).elim (hoS y) fun hn q' => by obtain ⟨o, e⟩ := lSs; rw [← q', hn] at e; cases e
    have sES2 : sE'.heap.get? S = none := sh'.none sES hSf;have heb1 := heb e1 (by simp);have hebr : ∀ e ∈ es1, e.1.length + hgt R e.2.1 <= 70 ∧ (e.2.1 = 0 ∨ e.2.1 ∈ ids R) := fun e he => heb e (List.mem_cons_of_mem _ he);have hmeas : meas R (e1 :: es1) = (hgt R e1.2.1 + 1) + meas R es1 := by unfold meas; simp
    have hl1 : es1.length <= 99 := by simp only [List.length_cons] at hel'; exact Nat.le_of_succ_le_succ hel'
    have hx7' := hx7.trans hcx;refine m_store F fun s8 F => ?_;cases hhd : (arcsGe (arcsOf R e1.2.1) (bnd e1.2.2)).head? with
    | none =>
     rw [hhd] at hres7;subst hres7;have hc0 : cand R e1 = [] := cand_none hhd;rw [List.flatMap_cons, hc0, List.nil_append] at hres;refine wpAny_execs_cons (wpAny_If (isTrue_plain (m_local F (by rfl) (truthy_noneQ ?_)) (by rfl)));refine wpAny_execs_nil (wpAny_execs_nil (hQw _ _ ⟨meas R es1, by rw [hmeas]; exact ar149, j0i _ _ (fun _ kk => kk sE' b2 _ c7 as1 es1 _ sh' F hb2 kq2 D2 hx7' (ht7.trans hct) (hf7.trans hcf) hO7 hoS2 (by exact m1) (by exact m3) (by exact m4) eS2 hE2 hres hebr (ar249 hl1) rfl)⟩))
    | some y =>
     obtain ⟨l, d⟩ := y;rw [hhd] at hres7;obtain ⟨tl, rfl⟩ := hres7;have hqids : e1.2.1 ∈ ids R := arcs_ids fun h => by rw [h] at hhd; simp [arcsGe] at hhd
     obtain ⟨p1, q1, o1⟩ := e1;obtain ⟨hdi, hcs⟩ := cand_some hw (p := p1) hqids hhd es1;have hmemA : (l, d) ∈ arcsOf R q1 := by
      have := List.mem_of_head? hhd;exact (List.mem_filter.mp this).1
     have hch := hgt_child hw hqids hmemA;have hnx : c7.next q1 (lab l) = some d := by rw [DC.next_eq (by rw [DC.rows, ht7, hct]; exact hr) hw]; exact toR_mem hasc1.1 hmemA
     have hlen1 : p1.length + hgt R q1 <= 70 := heb1.1;have hch' : hgt R d + 1 <= hgt R q1 := hch;have hsnoc : mkS p1 ++ lab l = mkS (p1 ++ [l]) := by
      show (⟨_⟩ : Str) = ⟨_⟩
      congr 1
      simp [mkS, lab]
     refine wpAny_execs_cons (wpAny_If (isTrue_plain (m_local F (by rfl) (P.truthy_str (x := lab l) (by show ¬ (((1 : Nat) : Int) ≥ _); decide) ?_)) (by rfl)));refine ifT (show (((lab l).length : Int) != 0) = true from rfl) ?_;have F := F.tok (s8.toks + 1 + 1);refine wpAny_execs_cons (wpAny_AugAssign_Name (m_local' F (by rfl) (m_local F (by rfl) (iadd_str (fun t8 tk => ?_) (by rw [mkS_len]; show p1.length + 1 <= _; rw [sizeLine_eq]; lia)))));refine m_store (F.tok tk) fun s9 F => ?_;have oj := D2.obj;rw [hx7'] at oj;refine wpAny_execs_cons (wpAny_Assign_Name (MethodCall_ (m_local F (by exact m1) (o_meth F (mt_next_state w) oj (m_cw (by rfl) (args_cons (m_local F (by rfl) (args_cons (m_local F (by rfl) (args_nil ⟨F.g.X, ?_⟩))))))))));rw [show (Value.ref c.x.m) = .ref c7.x.m from by rw [hx7']];refine next_state_spec F.g (hB _) (D2.keeps F.keep) (fun s' d' t7 S7 hn => m_store (F.grow S7) fun s F => ?_) fun s' S7 hn => by rw [hnx] at hn; cases hn
     rw [hnx] at hn;cases hn;have hmeasR : meas R ((p1 ++ [l], d, none) :: es1) = (hgt R d + 1) + meas R es1 := by unfold meas; simp
     refine wpAny_execs_cons (wpAny_If (m_tbool (c := c7.finO (some d)) (MethodCall_ (m_local F (by exact m1) (o_meth F (mt_is_final w) oj (m_cw (by rfl) (args_cons (m_local F (by rfl) (args_nil ⟨F.g.X, ?_⟩)))))))));rw [show (Value.ref c.x.m) = .ref c7.x.m from by rw [hx7']];refine is_final_spec (q := some d) F.g (hB _) (D2.keeps F.keep) (oi_int w d t7) fun s6 S6 => ⟨rfl, ?_⟩;have F := F.grow S6;have hfd : c7.finO (some d) = finOf R d := by show c7.fin d = _; rw [hf7, hcf, hfin]
     rw [hfd];cases hacc : finOf R d with
     | true =>
      refine ifT rfl ?_;have sEL : sE'.heap.get? s0.heap.objs.size = none := sh'.none (Heap.get?_size_none _) fun hm => (frW _ hm).2 rfl;refine wpAny_execs_cons (wpAny_Return_some (m_local F (by rfl) (hQw _ _ (hQ0 _ _ (h sE' _ b2 c7 _ sh' (F.done' sEL) F.keep hb2 kq2 D2 hx7' (ht7.trans hct) (hf7.trans hcf) hO7 ?_)))));rw [hac0, if_neg Bool.false_ne_true, List.nil_append, ← hres, hcs, hacc];exact ⟨t8, by rw [← hsnoc]⟩
     | false =>
      refine ifF rfl ?_;refine wpAny_execs_nil (wpAny_execs_cons (wpAny_Expr (MethodCall_ (m_local F (by exact m4) (gm_list (F.keep _ _ eS2) PySem.F.slot_list_append PySem.F.type_list_append (m_cwb ?_)))) (by rfl) (by rfl)));refine (args_cons (wpAny_Tuple (args_cons (m_local F (by rfl) (args_cons (m_local F (by rfl) (args_cons (m_cnone (args_nil ⟨by rw [sizeLine_eq]; show 3 <= _; exact ar20, args_nil ?_⟩)))))))));rw [show mkS (p1, q1, o1).1 ++ lab l = mkS ((p1 ++ [l], d, (none : Option Nat)) : SE).1 from hsnoc];refine push_ent (e := (p1 ++ [l], d, none)) F hb2 (fun a ha => (by obtain ⟨o, e⟩ := hfr0 a ha; exact sh'.some e)) eS2 hE2 lS sES2 (ar248 hl1) (.inl ⟨rfl, rfl⟩) fun s b3 a3 F hb3 k3 eS3 hE3 => ?_;rw [hacc] at hcs;refine wpAny_execs_nil (wpAny_execs_nil (hQw _ _ ⟨meas R ((p1 ++ [l], d, none) :: es1), by rw [hmeas, hmeasR]; show _ < (hgt R q1 + 1) + _; lia, j0i _ _ (fun _ kk => kk sE' b3 _ c7 _ _ _ sh' F hb3 (fun a o ha e => k3 a o (fun hq' => by rw [hq'] at e; have := hq _ _ e; rw [sES] at this; cases this) (kq2 a o ha e)) (D2.movS eS2 hoS2 k3) hx7' (ht7.trans hct) (hf7.trans hcf) hO7 hoS2 (by exact m1) (by exact m3) (by exact m4) eS3 hE3 ?_ ?_ (by rw [List.length_cons]; exact Nat.succ_le_succ hl1) rfl)⟩))
      ·rw [← hres, hcs]; rfl
      ·intro e he;rcases List.mem_cons.mp he with rfl | he
       ·exact ⟨by simp only [List.length_append, List.length_singleton]; lia, .inr hdi⟩
       ·exact hebr e he
end
end Mine
end
section
open PySem PySem.W PySem.Calls PyProof.Rows PySem.Spec
namespace Mine
noncomputable def NsO (o : Obj) (m : Str -> Option Value) : Prop := ∀ (h : Heap) (a : Addr), h.get? a = some o -> h.Ns a m
theorem NsO.of {h : Heap} {a : Addr} {m : Str -> Option Value} (x : h.Ns a m) : ∃ o, h.get? a = some o ∧ NsO o m := by
 obtain ⟨o, es, ep, e, r⟩ := x; exact ⟨o, e, fun h' a' e' => ⟨o, es, ep, e', r⟩⟩
section
variable {w : World} {mg mb : Str -> Option Value} {L : Addr} {sE s s' : Shared} {W : Addr -> Prop} {H : List (Addr × Obj)} {b : Heap} {m : Str -> Option Value}
variable {A : Around} {E : Value -> Shared -> Prop} {env : Env}
theorem m_nameC {x : Str} {pos : Pos} {v : Value} {Q : Value -> Shared -> Prop} {cenv : Env} {C : Addr} {mC : Str -> Option Value} (F : Fx w mg mb L sE W H b s m) (hC : ∃ oC, (C, oC) ∈ H ∧ NsO oC mC) (hv : mC x = some v) (h : Q v s)
  (hL : cenv.locals = C := by rfl) (hk : cenv.scope.kind = .function := by rfl) (hl : cenv.kindOf x = some .local := by rfl) (hd : (x == ("__debug__" : Str)) = false := by decide) :
  wpAny (model PP w) A (eval (.Name x pos) cenv) Q E s := by
 obtain ⟨oC, hm, hn⟩ := hC;exact wpAny_Name (wpAny_loadName_local hk hl (by rw [hL]; exact hn _ _ (F.hid _ hm).1) hv h) hd
theorem m_nameK {x : Str} {pos : Pos} {v : Value} {Q : Value -> Shared -> Prop} {cenv : Env} {K : Addr} (F : Fx w mg mb L sE W H b s m) (hK : ∃ oK, (K, oK) ∈ H ∧ oK.data = .cell (some v)) (h : Q v s)
  (hc : cenv.cells.lookup x = some K := by rfl) (hk : cenv.scope.kind = .function := by rfl) (hl : cenv.kindOf x = some .cell := by rfl) (hd : (x == ("__debug__" : Str)) = false := by decide) :
  wpAny (model PP w) A (eval (.Name x pos) cenv) Q E s := by
 obtain ⟨oK, hm, hd'⟩ := hK;exact wpAny_Name (wpAny_loadName_cell hk hl hc ⟨oK, (F.hid _ hm).1, hd'⟩ h) hd
theorem m_storeK {x : Str} {v : Value} {v0 : Option Value} {K : Addr} {oK : Obj} {Q : Unit -> Shared -> Prop} (F : Fx w mg mb L sE W ((K, oK) :: H) b s m) (hK : ∀ p ∈ H, p.1 ≠ K) (ho : oK.data = .cell v0)
  (h : ∀ s' o', Fx w mg mb L sE W ((K, o') :: H) b s' m -> o'.data = .cell (some v) -> Q () s')
  (hc : env.cells.lookup x = some K := by rfl) (hk : env.scope.kind = .function := by rfl) (hl : env.kindOf x = some .cell := by rfl) :
  wpAny (model PP w) A (storeName env x v) Q E s := by
 refine wpAny_storeName_cell hk hl hc ⟨oK, (F.hid _ List.mem_cons_self).1, ho⟩ fun h' hc' hs' => ?_;obtain ⟨o', e', d'⟩ := hc';exact h _ o' (F.turn hK e' (fun a o ha e => (hs'.2 a ha).trans e) rfl rfl) d'
theorem Iter.tuple {I ax : Addr} {items : Array Value} : Iter w I (fun i o => o.cls = .type "tuple_iterator" ∧ o.data = .fields #[.ref ax, .int i 0]) items.size (fun i v => items[i]? = some v) (fun h => h.IsTuple ax items) where
 keep := fun _ _ x k => by obtain ⟨o, e, r⟩ := x; exact ⟨o, k _ _ e, r⟩
 item := fun A i s Q E o hh hi ho hit hl hQ => by
  refine wpAny_pyNext_tuple_item (x := items[i]) ⟨o, ho, hit.1, hit.2⟩ hl (by simp [hi]) fun h' hit' hs' => ?_;obtain ⟨o', ho', hit'⟩ := hit';exact hQ _ h' _ o' (by simp [hi]) ho' hit' fun a o ha e => (hs'.2 a ha).trans e
 done := fun A s Q E o hh ho hit hl hQ => wpAny_pyNext_tuple_end hh ⟨o, ho, hit.1, hit.2⟩ hl (by simp) fun h' he' => hQ h' _ fun a o ha e => he' a o ha e
noncomputable def LpK (w : World) (mg mb : Str -> Option Value) (L : Addr) (W : Addr -> Prop) (H : List (Addr × Obj)) (I K : Addr) (It : Nat -> Obj -> Prop) (PK : Obj -> Prop) (J : Nat -> Shared -> Heap -> (Str -> Option Value) -> Prop) (n N : Nat) (s : Shared) : Prop := ∀ CC : Prop, (∀ (i : Nat) (sE : Shared) (b : Heap) (m : Str -> Option Value) (o oK : Obj) (F : Fx w mg mb L sE W ((I, o) :: (K, oK) :: H) b s m) (hi : It i o) (hK : PK oK) (hj : J i sE b m) (hin : i <= n) (e : N = n - i), CC) -> CC
noncomputable def LpC (w : World) (mg mb : Str -> Option Value) (L : Addr) (sE : Shared) (W : Addr -> Prop) (b : Heap) (m : Str -> Option Value) (HH : Obj -> Obj -> Obj -> List (Addr × Obj)) (It : Nat -> Obj -> Prop) (J : Nat -> List Value -> Prop) (n N : Nat) (s : Shared) : Prop := ∀ CC : Prop, (∀ (i : Nat) (o oC : Obj) (mC : Str -> Option Value) (k : Nat) (ys : List Value) (F : Fx w mg mb L sE W (HH o oC (listO ys k)) b s m) (hC : NsO oC mC) (hi : It i o) (hj : J i ys) (hin : i <= n) (e : N = n - i), CC) -> CC
theorem for_genC {R : Result -> Shared -> Prop} {v : Str} {px : Pos} {body orelse : List Stmt} {I K : Addr} {o0 oK0 : Obj} {It : Nat -> Obj -> Prop} {n : Nat} {P : Nat -> Value -> Prop} {Src : Heap -> Prop} (T : Iter w I It n P Src) (hh : A.handled = none)
  (J : Nat -> Shared -> Heap -> (Str -> Option Value) -> Prop) (hS : ∀ i sE b m, J i sE b m -> Src b) (F : Fx w mg mb L sE W ((I, o0) :: (K, oK0) :: H) b s m) (hI : ∀ p ∈ H, p.1 ≠ I) (hK : ∀ p ∈ H, p.1 ≠ K) (hIK : K ≠ I) (h0 : It 0 o0) (hK0 : ∃ v, oK0.data = .cell v) (j0 : J 0 sE b m)
  (step : ∀ i val s sE b m o oK, i < n -> P i val -> J i sE b m -> oK.data = .cell (some val) -> It (i + 1) o -> Fx w mg mb L sE W ((I, o) :: (K, oK) :: H) b s m ->
   wpAny (model PP w) A (execs body env) (fun f s' => match f with
    | .next | .cont => ∃ sE' b' m', Fx w mg mb L sE' W ((I, o) :: (K, oK) :: H) b' s' m' ∧ J (i + 1) sE' b' m'
    | .brk => R (.ok .next) s'
    | .ret u => R (.ok (.ret u)) s') (notedBy (model PP w) A env fun e s' => R (.error e) s') s)
  (fin : ∀ s sE b m oK, J n sE b m -> (∃ v, oK.data = .cell v) -> Fx w mg mb L sE W ((K, oK) :: H) b s m -> wpAny (model PP w) A (execs orelse env) (fun f s' => R (.ok f) s') (notedBy (model PP w) A env fun e s' => R (.error e) s') s)
  (hc : env.cells.lookup v = some K := by rfl) (hk : env.scope.kind = .function := by rfl) (hl : env.kindOf v = some .cell := by rfl) :
  codeAny (model PP w) A (.forLoop (.Name v px) (.ref I) body orelse env) R s := by
 refine codeAny_forLoop (LpK w mg mb L W H I K It (fun oK => ∃ v, oK.data = .cell v) J n) ?_ n (fun _ kk => kk 0 sE b m o0 oK0 F h0 hK0 j0 (Nat.zero_le _) rfl);intro N s hLp;refine hLp _ fun i sE b m o oK F hi hz6 hj hin eq7 => ?_;obtain ⟨v0, hv0⟩ := hz6;subst eq7;have h1 := F.hid _ (List.mem_cons_self);have src : Src s.heap := T.keep _ _ (hS _ _ _ _ hj) F.keep;have hI' : ∀ p ∈ (K, oK) :: H, p.1 ≠ I := fun p hp => by
  rcases List.mem_cons.mp hp with rfl | hp
  ·exact hIK
  ·exact hI p hp
 by_cases hlt : i < n
 ·refine T.item A i s _ _ o hh hlt h1.1 hi src fun val h' tk o' hp he hi' hk' => ?_;have F' : Fx w mg mb L sE W ((I, o') :: (K, oK) :: H) b { s with heap := h', toks := tk } m := F.turn hI' he hk' rfl rfl;have F'' := F'.fewer (H' := (K, oK) :: (I, o') :: H) fun p hp => (List.Perm.swap _ _ _).mem_iff.mp hp;refine wpAny_assign_Name (m_storeK F'' (fun p hp => ?_) hv0 (fun s oK' F ho' => ?_) hc hk hl)
  ·rcases List.mem_cons.mp hp with rfl | hp
   ·exact Ne.symm hIK
   ·exact hK p hp
  have F := F.fewer (H' := (I, o') :: (K, oK') :: H) fun p hp => (List.Perm.swap _ _ _).mem_iff.mp hp;refine wpAny_mono (step i val s sE b m o' oK' hlt hp hj ho' hi' F) (fun f s' hf => ?_) ee;cases f with
  | next => obtain ⟨sE', b', m', F', hj'⟩ := hf; exact ⟨n - (i + 1), (ar1 hlt), fun _ kk => kk (i + 1) sE' b' m' o' oK' F' hi' ⟨_, ho'⟩ hj' hlt rfl⟩
  | cont => obtain ⟨sE', b', m', F', hj'⟩ := hf; exact ⟨n - (i + 1), (ar1 hlt), fun _ kk => kk (i + 1) sE' b' m' o' oK' F' hi' ⟨_, ho'⟩ hj' hlt rfl⟩
  | brk => exact hf
  | ret u => exact hf
 ·have e : i = n := (ar2 hin hlt);subst e;exact T.done A s _ _ o hh h1.1 hi src fun h' tk hk' => fin _ sE b m oK hj ⟨v0, hv0⟩ (F.over hI' hk' rfl rfl)
theorem m_appendH {D : Addr} {p : List Value} {y : Value} {k : Nat} {Q : Value -> Shared -> Prop} (F : Fx w mg mb L sE W ((D, listO p k) :: H) b s m) (hD : ∀ q ∈ H, q.1 ≠ D) (hz : p.length <= sizeLine)
  (h : ∀ s', Fx w mg mb L sE W ((D, listO (p ++ [y]) (k + 1)) :: H) b s' m -> Q .none s') :
  wpAny (model PP w) A (call (.builtin "list.append") [.ref D, y]) Q E s := by
 have es := (F.hid _ List.mem_cons_self).1;refine wpAny_call_entry (name := "append") PySem.F.slot_list_append ⟨_, es, rfl⟩ PySem.entry_list_append ?_ (PySem.args_list_append _ _);unfold Builtin.«list.append»;refine wpAny_bind (m := PySem.selfAndOne "list.append" _) (wpAny_pure (a := (Value.ref D, y)) ?_);have e2 := upd_list (f := fun a => a.push y) (vs' := p ++ [y]) es (by simp) (by simp);refine wpAny_bind (listUpdate_at es rfl ?_ (by rw [List.size_toArray]; exact hz) (by rw [Array.size_push, List.size_toArray]; exact ar16 hz));have hs := Heap.SameBut.update s.heap D (Obj.mapSeq fun a => a.push y);exact wpAny_pure ⟨_, rfl, h _ (F.turn hD e2 (fun a o ha e => (hs.2 a ha).trans e) rfl rfl)⟩
theorem perm3 {α : Type} {x a b c : α} {H : List α} (h : x ∈ a :: b :: c :: H) : x ∈ b :: a :: c :: H := (List.Perm.swap _ _ _).mem_iff.mp h
theorem perm3c {α : Type} {x a b c : α} {H : List α} (h : x ∈ c :: a :: b :: H) : x ∈ a :: b :: c :: H := (List.perm_middle (l₁ := [a, b]) (a := c) (l₂ := H)).mem_iff.mpr h
theorem perm3d {α : Type} {x a b c : α} {H : List α} (h : x ∈ a :: b :: c :: H) : x ∈ c :: a :: b :: H := (List.perm_middle (l₁ := [a, b]) (a := c) (l₂ := H)).mem_iff.mp h
structure Apart3 (I C D : Addr) (H : List (Addr × Obj)) : Prop where
 ic : I ≠ C
 id : I ≠ D
 cd : C ≠ D
 h : ∀ p ∈ H, p.1 ≠ I ∧ p.1 ≠ C ∧ p.1 ≠ D
theorem m_storeC {x : Str} {v : Value} {Q : Unit -> Shared -> Prop} {cenv : Env} {C : Addr} {oC : Obj} {mC : Str -> Option Value} (F : Fx w mg mb L sE W ((C, oC) :: H) b s m) (hC : ∀ p ∈ H, p.1 ≠ C) (hn : NsO oC mC)
  (h : ∀ s' o', Fx w mg mb L sE W ((C, o') :: H) b s' m -> NsO o' (upd mC x v) -> Q () s')
  (hL : cenv.locals = C := by rfl) (hk : cenv.scope.kind = .function := by rfl) (hl : cenv.kindOf x = some .local := by rfl) :
  wpAny (model PP w) A (storeName cenv x v) Q E s := by
 subst hL;refine wpAny_storeName_local hl (hn _ _ (F.hid _ List.mem_cons_self).1) (fun h' hn' hs => ?_) (by rw [hk]; rfl);obtain ⟨o', e', n'⟩ := NsO.of hn';exact h _ o' (F.turn hC e' (fun a o ha e => (hs.2 a ha).trans e) rfl rfl) n'
theorem comp_loop {R : Result -> Shared -> Prop} {elt iter : PySem.Expr} {x : Str} {px : Pos} {ifs : List PySem.Expr} {scope : Scope} {cenv : Env} {pos : Pos} {I C D : Addr} {o0 oC0 : Obj} {mC0 : Str -> Option Value} {It : Nat -> Obj -> Prop} {n : Nat} {P : Nat -> Value -> Prop} {Src : Heap -> Prop} (T : Iter w I It n P Src) (hh : A.handled = none) (hn : n <= sizeLine)
  (J : Nat -> List Value -> Prop) (hS : Src b) (F : Fx w mg mb L sE W ((I, o0) :: (C, oC0) :: (D, listO [] 0) :: H) b s m) (ap : Apart3 I C D H) (h0 : It 0 o0) (hC0 : NsO oC0 mC0) (j0 : J 0 [])
  (step : ∀ i val s oI oC oD mC ys E', i < n -> P i val -> J i ys -> NsO oC mC -> mC x = some val -> Fx w mg mb L sE W ((I, oI) :: (C, oC) :: (D, oD) :: H) b s m ->
   wpAny (model PP w) A (forIn ifs true fun c r => if r = true then do let ok ← isTrue c cenv (eval c cenv); pure (ForInStep.yield ok) else pure (ForInStep.yield r))
    (fun ok s' => if ok = true then wpAny (model PP w) A (eval elt cenv) (fun y s'' => Fx w mg mb L sE W ((I, oI) :: (C, oC) :: (D, oD) :: H) b s'' m ∧ J (i + 1) (ys ++ [y])) E' s' else Fx w mg mb L sE W ((I, oI) :: (C, oC) :: (D, oD) :: H) b s' m ∧ J (i + 1) ys) E' s)
  (fin : ∀ s' oC mC k ys, J n ys -> NsO oC mC -> Fx w mg mb L sE W ((C, oC) :: (D, listO ys k) :: H) b s' m -> R (.ok .next) s')
  (hL : cenv.locals = C := by rfl) (hk : cenv.scope.kind = .function := by rfl) (hl : cenv.kindOf x = some .local := by rfl) :
  codeAny (model PP w) A (.compLoop (.ListComp elt [⟨.Name x px, iter, ifs, 0⟩] scope pos) 0 (.ref I) (.ref D) cenv) R s := by
 refine codeAny_compLoop_tests (LpC w mg mb L sE W b m (fun o oC oD => (I, o) :: (C, oC) :: (D, oD) :: H) It (fun i ys => J i ys ∧ ys.length <= i) n) ?_ n (fun _ kk => kk 0 o0 oC0 mC0 0 [] F hC0 h0 ⟨j0, Nat.le_refl _⟩ (Nat.zero_le _) rfl);intro N s hLp;refine hLp _ fun i o oC mC k ys F hC hi hz8 hin eq9 => ?_;obtain ⟨hj, hy⟩ := hz8;subst eq9;have h1 := F.hid _ (List.mem_cons_self);have src : Src s.heap := T.keep _ _ hS F.keep;have hI' : ∀ {oC oD : Obj}, ∀ p ∈ (C, oC) :: (D, oD) :: H, p.1 ≠ I := fun p hp => by
  rcases List.mem_cons.mp hp with rfl | hp
  ·exact Ne.symm ap.ic
  ·rcases List.mem_cons.mp hp with rfl | hp
   ·exact Ne.symm ap.id
   ·exact (ap.h p hp).1
 have hC' : ∀ {oI oD : Obj}, ∀ p ∈ (I, oI) :: (D, oD) :: H, p.1 ≠ C := fun p hp => by
  rcases List.mem_cons.mp hp with rfl | hp
  ·exact ap.ic
  ·rcases List.mem_cons.mp hp with rfl | hp
   ·exact Ne.symm ap.cd
   ·exact (ap.h p hp).2.1
 have hD' : ∀ {oI oC : Obj}, ∀ p ∈ (I, oI) :: (C, oC) :: H, p.1 ≠ D := fun p hp => by
  rcases List.mem_cons.mp hp with rfl | hp
  ·exact ap.id
  ·rcases List.mem_cons.mp hp with rfl | hp
   ·exact ap.cd
   ·exact (ap.h p hp).2.2
 by_cases hlt : i < n
 ·refine T.item A i s _ _ o hh hlt h1.1 hi src fun val h' tk o' hp he hi' hk' => ?_;have F' : Fx w mg mb L sE W ((I, o') :: (C, oC) :: (D, listO ys k) :: H) b { s with heap := h', toks := tk } m := F.turn hI' he hk' rfl rfl;refine wpAny_assign_Name (m_storeC (F'.fewer fun p hp => perm3 hp) hC' hC (fun s2 oC2 F2 n2 => ?_) hL hk hl);have F3 : Fx w mg mb L sE W ((I, o') :: (C, oC2) :: (D, listO ys k) :: H) b s2 m := F2.fewer fun p hp => perm3 hp;refine wpAny_mono (step i val s2 o' oC2 _ _ ys _ hlt hp hj n2 (by simp [upd]) F3) (fun ok s3 h3 => ?_) ee;cases ok with
  | false =>
   simp only [Bool.false_eq_true, if_false] at h3 ⊢;exact ⟨n - (i + 1), (ar1 hlt), fun _ kk => kk (i + 1) o' oC2 _ k ys h3.1 n2 hi' ⟨h3.2, (ar51 hy)⟩ hlt rfl⟩
  | true =>
   simp only [if_true] at h3 ⊢;refine wpAny_mono h3 (fun y s4 h4 => ?_) ee;refine m_appendH (h4.1.fewer fun p hp => perm3c hp) hD' (Nat.le_trans hy (Nat.le_trans (Nat.le_of_lt hlt) hn)) fun s5 F5 => ?_;exact ⟨n - (i + 1), (ar1 hlt), fun _ kk => kk (i + 1) o' oC2 _ _ (ys ++ [y]) (F5.fewer fun p hp => perm3d hp) n2 hi' ⟨h4.2, by rw [List.length_append]; simp; exact hy⟩ hlt rfl⟩
 ·have e : i = n := (ar2 hin hlt);subst e;exact T.done A s _ _ o hh h1.1 hi src fun h' tk hk' => fin _ oC mC k ys hj hC (F.over hI' hk' rfl rfl)
end
end Mine
end
section
open PySem PySem.W PySem.Calls PyProof.Rows PySem.Spec
namespace Mine
section
variable {w : World} {mg mb : Str -> Option Value} {L : Addr} {sE s s' : Shared} {W : Addr -> Prop} {H : List (Addr × Obj)} {b : Heap} {m : Str -> Option Value}
variable {A : Around} {E : Value -> Shared -> Prop} {env : Env}
theorem perm3e {α : Type} {x a b c : α} {H : List α} (h : x ∈ a :: b :: c :: H) : x ∈ a :: c :: b :: H := (List.Perm.cons a (List.Perm.swap c b H)).mem_iff.mp h
noncomputable def FxO (w : World) (mg mb : Str -> Option Value) (L : Addr) (sE : Shared) (W : Addr -> Prop) (H : List (Addr × Obj)) (b : Heap) (D : Addr) (o : Obj) (s : Shared) (m : Str -> Option Value) : Prop := ∀ C : Prop, (∀ (b' : Heap) (F : Fx w mg mb L sE W H b' s m) (k : Kp b b') (e : b'.get? D = some o) (lo : 456 <= D) (sn : sE.heap.get? D = none) (bn : b.get? D = none), C) -> C
theorem Fx.out {D : Addr} {o : Obj} (F : Fx w mg mb L sE W ((D, o) :: H) b s m) (hD : ∀ p ∈ H, p.1 ≠ D) : FxO w mg mb L sE W H b D o s m := by
 intro C kk;have h1 := F.hid _ List.mem_cons_self;refine ((F.fewer (H' := H) fun p hp => List.mem_cons_of_mem _ hp).rebase) _ fun b' F' k1 k2 => ?_;refine kk b' F' k1 (k2 _ _ (fun hm => ?_) h1.1) h1.2.2.2.2 h1.2.2.2.1 h1.2.1;rcases List.mem_cons.mp hm with q | hm
 ·exact h1.2.2.1 q
 ·obtain ⟨p, hp, e⟩ := List.mem_map.mp hm;exact hD p hp e
structure CSrc (w : World) (A : Around) (I : Addr) (o0 : Obj) (It : Nat -> Obj -> Prop) (n : Nat) (P : Nat -> Value -> Prop) (Src : Heap -> Prop) : Prop where
 T : Iter w I It n P Src
 h0 : It 0 o0
 n : n <= sizeLine
 self : ∀ (s : Shared) (Q : Value -> Shared -> Prop) (E : Value -> Shared -> Prop), s.heap.get? I = some o0 -> Q (.ref I) s -> wpAny (model PP w) A (pyIter (.ref I)) Q E s
theorem comp_block {R : Value -> Addr -> Result -> Shared -> Prop} {elt iter : PySem.Expr} {x : Str} {px : Pos} {ifs : List PySem.Expr} {scope : Scope} {cl : List (Str × Addr)} {pos : Pos} {I : Addr} {o0 : Obj} {It : Nat -> Obj -> Prop} {n : Nat} {P : Nat -> Value -> Prop} {Src : Heap -> Prop} (S : CSrc w A I o0 It n P Src) (hh : A.handled = none)
  (J : Nat -> List Value -> Prop) (hS : Src b) (F : Fx w mg mb L sE W ((I, o0) :: H) b s m) (hI : ∀ p ∈ H, p.1 ≠ I) (j0 : J 0 [])
  (hcell : ∀ y ∈ scope.names, y.2 ≠ .cell) (hkind : scope.kind = .function) (hx : scope.names.lookup x = some .local)
  (step : ∀ i val s C D oI oC oD mC ys E', i < n -> P i val -> J i ys -> NsO oC mC -> mC x = some val -> Fx w mg mb L sE W ((I, oI) :: (C, oC) :: (D, oD) :: H) b s m ->
   wpAny (model PP w) A (forIn ifs true fun c r => if r = true then do let ok ← isTrue c (compEnvC scope cl C env) (eval c (compEnvC scope cl C env)); pure (ForInStep.yield ok) else pure (ForInStep.yield r))
    (fun ok s' => if ok = true then wpAny (model PP w) A (eval elt (compEnvC scope cl C env)) (fun y s'' => Fx w mg mb L sE W ((I, oI) :: (C, oC) :: (D, oD) :: H) b s'' m ∧ J (i + 1) (ys ++ [y])) E' s' else Fx w mg mb L sE W ((I, oI) :: (C, oC) :: (D, oD) :: H) b s' m ∧ J (i + 1) ys) E' s)
  (fin : ∀ s' C D oC mC k ys, J n ys -> NsO oC mC -> (∀ p ∈ H, p.1 ≠ D) -> C ≠ D -> (∀ p ∈ H, p.1 ≠ C) -> Fx w mg mb L sE W ((C, oC) :: (D, listO ys k) :: H) b s' m -> R (.ref D) C (.ok .next) s') :
  wpAny (model PP w) A (newList []) (fun acc s₃ => wpAny (model PP w) A (newFunctionEnv scope env.globals cl [] env.qual none .none (some env)) (fun cenv s₄ =>
   codeAny (model PP w) A (.compStart (.ListComp elt [⟨.Name x px, iter, ifs, 0⟩] scope pos) 0 (.ref I) acc { cenv with scope := relabel scope env }) (R acc cenv.locals) s₄) E s₃) E s := by
 refine wpAny_newObj_type (wpAny_newFunctionEnv hcell (by intro y hy; simp at hy) (fun h₁ hns₁ hsb₁ => ?_) hkind);have lt : ∀ p ∈ (I, o0) :: H, p.1 < s.heap.objs.size := fun p hp => Heap.lt_size (F.hid p hp).1;have F1 : Fx w mg mb L sE W ((s.heap.objs.size, listO [] 0) :: (I, o0) :: H) b { s with heap := s.heap.push (listO [] 0) } m := F.push rfl;have F2 := F1.push (o := { cls := .type "dict", dict := none, data := .dict #[] }) rfl;have hC : (s.heap.push (listO [] 0)).objs.size = s.heap.objs.size + 1 := Heap.size_push ..;obtain ⟨oC, eC, nC⟩ := NsO.of hns₁;have hCn : ∀ p ∈ (s.heap.objs.size, listO [] 0) :: (I, o0) :: H, p.1 ≠ (s.heap.push (listO [] 0)).objs.size := fun p hp => by
  rw [hC];rcases List.mem_cons.mp hp with rfl | hp
  ·exact Nat.ne_of_lt (Nat.lt_succ_self _)
  ·exact Nat.ne_of_lt (Nat.lt_succ_of_lt (lt p hp))
 have F3 := F2.turn (s' := { s with heap := h₁, toks := s.toks + ([] : List (Str × Value)).length }) hCn eC (fun a o ha e => hsb₁.extBut a o ha e) rfl rfl;have F3 := F3.fewer (H' := (I, o0) :: ((s.heap.push (listO [] 0)).objs.size, oC) :: (s.heap.objs.size, listO [] 0) :: H) fun p hp => perm3e (perm3 hp);have hIs := lt _ List.mem_cons_self;have ap : Apart3 I (s.heap.push (listO [] 0)).objs.size s.heap.objs.size H := ⟨by rw [hC]; exact Nat.ne_of_lt (Nat.lt_succ_of_lt hIs), Nat.ne_of_lt hIs, by rw [hC]; exact Ne.symm (Nat.ne_of_lt (Nat.lt_succ_self _)), fun p hp => ⟨hI p hp, by rw [hC]; exact Nat.ne_of_lt (Nat.lt_succ_of_lt (lt p (List.mem_cons_of_mem _ hp))), Nat.ne_of_lt (lt p (List.mem_cons_of_mem _ hp))⟩⟩;have loop : codeAny (model PP w) A (.compLoop (.ListComp elt [⟨.Name x px, iter, ifs, 0⟩] scope pos) 0 (.ref I) (.ref s.heap.objs.size) (compEnvC scope cl (s.heap.push (listO [] 0)).objs.size env)) (R (.ref s.heap.objs.size) (s.heap.push (listO [] 0)).objs.size) { s with heap := h₁, toks := s.toks + ([] : List (Str × Value)).length } := by
  refine comp_loop S.T hh S.n J hS F3 ap S.h0 nC j0 (fun i val s oI oC oD mC ys E' hi hp hj hn hv F => step i val s _ _ oI oC oD mC ys E' hi hp hj hn hv F) (fun s' oC mC k ys hj hn F => fin s' _ _ oC mC k ys hj hn (fun p hp => (ap.h p hp).2.2) ap.cd (fun p hp => (ap.h p hp).2.1) F) rfl (by simp [compEnvC, relabel, hkind]) (lookup_relabel_local hx)
 exact codeAny_compStart_list loop (S.self _ _ _ (F3.hid _ List.mem_cons_self).1 loop)
inductive LC (w : World) (mg mb : Str -> Option Value) (L : Addr) (sE : Shared) (W : Addr -> Prop) (H : List (Addr × Obj)) (m : Str -> Option Value) (A : Around) (Step : Addr -> Heap -> Nat -> (Nat -> Value -> Prop) -> Prop) (Fin : Heap -> Nat -> Prop) (it : Value) (s : Shared) : Prop
 | mk (I : Addr) (o0 : Obj) (b : Heap) (It : Nat -> Obj -> Prop) (n : Nat) (P : Nat -> Value -> Prop) (Src : Heap -> Prop) (e : it = .ref I) (F : Fx w mg mb L sE W ((I, o0) :: H) b s m) (hI : ∀ p ∈ H, p.1 ≠ I) (S : CSrc w A I o0 It n P Src) (hS : Src b) (step : Step I b n P) (fin : Fin b n) : LC w mg mb L sE W H m A Step Fin it s
theorem m_ListComp {elt iter : PySem.Expr} {x : Str} {px : Pos} {ifs : List PySem.Expr} {scope : Scope} {cl : List (Str × Addr)} {pos : Pos} {Q : Value -> Shared -> Prop} (hh : A.handled = none)
  (J : Nat -> List Value -> Prop) (j0 : J 0 []) (hclos : closureFor scope env = pure cl) (hcell : ∀ y ∈ scope.names, y.2 ≠ .cell) (hkind : scope.kind = .function)
  (hnames : ∀ y ∈ scope.names, y.2 = .local -> scope.names.lookup y.1 = some .local) (hx : scope.names.lookup x = some .local)
  (h : wpAny (model PP w) A (eval iter env) (fun xv s₁ => wpAny (model PP w) A (pyIter xv) (LC w mg mb L sE W H m A (fun I b n P =>
   ∀ i val s C D oI oC oD mC ys E', i < n -> P i val -> J i ys -> NsO oC mC -> mC x = some val -> Fx w mg mb L sE W ((I, oI) :: (C, oC) :: (D, oD) :: H) b s m ->
    wpAny (model PP w) A (forIn ifs true fun c r => if r = true then do let ok ← isTrue c (compEnvC scope cl C env) (eval c (compEnvC scope cl C env)); pure (ForInStep.yield ok) else pure (ForInStep.yield r))
     (fun ok s' => if ok = true then wpAny (model PP w) A (eval elt (compEnvC scope cl C env)) (fun y s'' => Fx w mg mb L sE W ((I, oI) :: (C, oC) :: (D, oD) :: H) b s'' m ∧ J (i + 1) (ys ++ [y])) E' s' else Fx w mg mb L sE W ((I, oI) :: (C, oC) :: (D, oD) :: H) b s' m ∧ J (i + 1) ys) E' s)
   (fun b n => ∀ s' b' D k ys, J n ys -> Fx w mg mb L sE W H b' s' m -> Kp b b' -> b'.get? D = some (listO ys k) -> 456 <= D -> sE.heap.get? D = none -> b.get? D = none -> Q (.ref D) s')) E s₁) E s)
  (hs : ∀ x, foldedSetIterable iter env x = pure x := by intro _; rfl) :
  wpAny (model PP w) A (eval (.ListComp elt [⟨.Name x px, iter, ifs, 0⟩] scope pos) env) Q E s := by
 rw [eval_ListComp];refine wpAny_comprehension_free (use := none) rfl hs hclos hkind hnames (wpAny_mono h (fun xv s₁ h₁ => wpAny_mono h₁ (fun it s₂ h₂ => ?_) ee) ee);obtain ⟨I, o0, b, It, n, P, Src, rfl, F, hI, S, hS, step, fin⟩ := h₂;refine comp_block (R := fun acc C => compPost (model PP w) A E none Q acc C) S hh J hS F hI j0 hcell hkind hx step fun s C D oC mC k ys hj hn hD hCD hCH F => ?_;exact ⟨mC, hn _ _ (F.hid _ List.mem_cons_self).1, fun h' hs' => by
  have F1 := F.over (s' := { s with heap := h' }) (fun p hp => by
   rcases List.mem_cons.mp hp with rfl | hp
   ·exact Ne.symm hCD
   ·exact hCH p hp) (fun a o ha e => (hs'.2 a ha).trans e) rfl rfl
  refine (F1.out hD) _ fun b' F2 k1 e1 lo1 sn1 bn1 => ?_;exact fin _ b' D k ys hj F2 k1 e1 lo1 sn1 bn1⟩
theorem m_AssignListComp {elt iter : PySem.Expr} {x y : Str} {px py : Pos} {ifs : List PySem.Expr} {scope : Scope} {cl : List (Str × Addr)} {pos spos : Pos} {Q : Flow -> Shared -> Prop} (hh : A.handled = none)
  (J : Nat -> List Value -> Prop) (j0 : J 0 []) (hsw : swapsWith (.ListComp elt [⟨.Name x px, iter, ifs, 0⟩] scope pos) (some (.Name y py)) spos.line env = pure true) (hclos : closureFor scope env = pure cl) (hcell : ∀ y ∈ scope.names, y.2 ≠ .cell) (hkind : scope.kind = .function)
  (hnames : ∀ y ∈ scope.names, y.2 = .local -> scope.names.lookup y.1 = some .local) (hx : scope.names.lookup x = some .local) (hL : env.locals = L) (hk : env.scope.kind = .function) (hl : env.kindOf y = some .local)
  (h : wpAny (model PP w) A (eval iter env) (fun xv s₁ => wpAny (model PP w) A (pyIter xv) (LC w mg mb L sE W H m A (fun I b n P =>
   ∀ i val s C D oI oC oD mC ys E', i < n -> P i val -> J i ys -> NsO oC mC -> mC x = some val -> Fx w mg mb L sE W ((I, oI) :: (C, oC) :: (D, oD) :: H) b s m ->
    wpAny (model PP w) A (forIn ifs true fun c r => if r = true then do let ok ← isTrue c (compEnvC scope cl C env) (eval c (compEnvC scope cl C env)); pure (ForInStep.yield ok) else pure (ForInStep.yield r))
     (fun ok s' => if ok = true then wpAny (model PP w) A (eval elt (compEnvC scope cl C env)) (fun y s'' => Fx w mg mb L sE W ((I, oI) :: (C, oC) :: (D, oD) :: H) b s'' m ∧ J (i + 1) (ys ++ [y])) E' s' else Fx w mg mb L sE W ((I, oI) :: (C, oC) :: (D, oD) :: H) b s' m ∧ J (i + 1) ys) E' s)
   (fun b n => ∀ s' b' D k ys, J n ys -> Fx w mg mb L sE W H b' s' (fun z => if z = y then some (.ref D) else m z) -> Kp b b' -> b'.get? D = some (listO ys k) -> 456 <= D -> sE.heap.get? D = none -> b.get? D = none -> Q .next s')) E s₁) E s)
  (hs : ∀ x, foldedSetIterable iter env x = pure x := by intro _; rfl) :
  wpAny (model PP w) A (exec (.Assign [.Name y py] (.ListComp elt [⟨.Name x px, iter, ifs, 0⟩] scope pos) spos) env) Q E s := by
 rw [exec_Assign_Name_used _ _ _ _ hsw];refine wpAny_bind (wpAny_standAt (wpAny_bind ?_));show wpAny _ A (do let _ ← comprehension (.ListComp elt [⟨.Name x px, iter, ifs, 0⟩] scope pos) scope env _ (newList []) false (eval iter env) (some (assign (.Name y py) env))) _ _ s;refine wpAny_bind (wpAny_mono (wpAny_comprehension_free (use := some (assign (.Name y py) env)) (Q := fun _ s' => Q .next s') rfl hs hclos hkind hnames
  (wpAny_mono h (fun xv s₁ h₁ => wpAny_mono h₁ (fun it s₂ h₂ => ?_) ee) ee)) (fun _ s' hq => wpAny_pure (wpAny_pure hq)) ee)
 obtain ⟨I, o0, b, It, n, P, Src, rfl, F, hI, S, hS, step, fin⟩ := h₂;refine comp_block (R := fun acc C => compPost (model PP w) A E (some (assign (.Name y py) env)) (fun _ s' => Q .next s') acc C) S hh J hS F hI j0 hcell hkind hx step fun s' C D oC mC k ys hj hn hD hCD hCH F => ?_;show wpAny _ A (assign (.Name y py) env (.ref D)) _ _ _;refine wpAny_assign_Name (m_store F (fun s F => ?_) hL hk hl);exact ⟨mC, hn _ _ (F.hid _ List.mem_cons_self).1, fun h' hs' => by
  have F1 := F.over (s' := { s with heap := h' }) (fun p hp => by
   rcases List.mem_cons.mp hp with rfl | hp
   ·exact Ne.symm hCD
   ·exact hCH p hp) (fun a o ha e => (hs'.2 a ha).trans e) rfl rfl
  refine (F1.out hD) _ fun b' F2 k1 e1 lo1 sn1 bn1 => ?_;exact fin _ b' D k ys hj F2 k1 e1 lo1 sn1 bn1⟩
theorem csrc_list {ax : Addr} {items : Array Value} (hn : items.size <= sizeLine) {I : Addr} : CSrc w A I { cls := .type "list_iterator", dict := none, data := .fields #[.ref ax, .int 0 0] } (fun i o => o.cls = .type "list_iterator" ∧ o.data = .fields #[.ref ax, .int (i : Nat) 0]) items.size (fun i v => items[i]? = some v) (fun h => h.IsList ax items) :=
 ⟨Iter.list, ⟨rfl, rfl⟩, hn, fun s Q E e h => wpAny_pyIter_listiter (l := ax) (i := 0) ⟨_, e, rfl, rfl⟩ h⟩
end
end Mine
end
section
open PySem PySem.W PySem.Calls PyProof.Rows PySem.Spec
namespace Mine
theorem compTurn2a (elt t1 i1 t2 i2 : PySem.Expr) (scope : Scope) (pos : Pos) (it acc : Value) (env : Env) :
  compTurn (.ListComp elt [⟨t1, i1, [], 0⟩, ⟨t2, i2, [], 0⟩] scope pos) 0 it acc env = (standAt i1.pos >>= fun _ => pyNext it >>= fun r => match r with
   | none => pure (.done .next)
   | some v => letOwnedTupleGo t1 it v >>= fun _ => assign t1 env v >>= fun _ =>
    (eval i2 env >>= fun x => standAt i2.pos >>= fun _ => foldedSetIterable i2 env x >>= fun x => holding [x] (pyIter x) >>= fun it2 =>
     runOwn (.compStart (.ListComp elt [⟨t1, i1, [], 0⟩, ⟨t2, i2, [], 0⟩] scope pos) 1 it2 acc env) env >>= fun _ =>
     again (.compLoop (.ListComp elt [⟨t1, i1, [], 0⟩, ⟨t2, i2, [], 0⟩] scope pos) 0 it acc env))) := by rfl
theorem compTurn2b (elt t1 i1 t2 i2 : PySem.Expr) (scope : Scope) (pos : Pos) (it acc : Value) (env : Env) :
  compTurn (.ListComp elt [⟨t1, i1, [], 0⟩, ⟨t2, i2, [], 0⟩] scope pos) 1 it acc env = (standAt i2.pos >>= fun _ => pyNext it >>= fun r => match r with
   | none => pure (.done .next)
   | some v => letOwnedTupleGo t2 it v >>= fun _ => assign t2 env v >>= fun _ =>
    (eval elt env >>= fun x => call (.builtin "list.append") [acc, x] >>= fun _ => pure ()) >>= fun _ =>
     again (.compLoop (.ListComp elt [⟨t1, i1, [], 0⟩, ⟨t2, i2, [], 0⟩] scope pos) 1 it acc env)) := by rfl
section
variable {w : World} {mg mb : Str -> Option Value} {L : Addr} {sE s s' : Shared} {W : Addr -> Prop} {H : List (Addr × Obj)} {b : Heap} {m : Str -> Option Value}
variable {A : Around} {E : Value -> Shared -> Prop} {env : Env}
theorem compStart2 {R : Result -> Shared -> Prop} {elt t1 i1 t2 i2 : PySem.Expr} {scope : Scope} {pos : Pos} {it acc : Value} {env : Env} {d : Nat} (hd : d < 2)
  (h0 : codeAny (model PP w) A (.compLoop (.ListComp elt [⟨t1, i1, [], 0⟩, ⟨t2, i2, [], 0⟩] scope pos) d it acc env) R s)
  (h : wpAny (model PP w) A (pyIter it) (fun it' s' => codeAny (model PP w) A (.compLoop (.ListComp elt [⟨t1, i1, [], 0⟩, ⟨t2, i2, [], 0⟩] scope pos) d it' acc env) R s')
   (notedBy (model PP w) A env fun x s' => R (.error x) s') s) :
  codeAny (model PP w) A (.compStart (.ListComp elt [⟨t1, i1, [], 0⟩, ⟨t2, i2, [], 0⟩] scope pos) d it acc env) R s := by
 refine codeAny_of_tree ?_;show wpAny _ _ ((compStart (.ListComp elt [⟨t1, i1, [], 0⟩, ⟨t2, i2, [], 0⟩] scope pos) d it acc env).onRaise (fun x => do noteFrame x env; standAt theWindowsPlace)) _ _ s;refine wpAny_notedAt ?_;unfold compStart;cases d with
 | zero =>
  show wpAny _ _ (ask >>= _) _ _ s;refine wpAny_bind (wpAny_askSetting (wpAny_ite ?_))
  split
  ·first
    | exact wpAny_bind (wpAny_pure (wpAny_pure (And.intro rfl h0)))
    | exact wpAny_pure (And.intro rfl h0)
  ·refine wpAny_bind (wpAny_rule ?_);show wpAny _ _ (standAt _ >>= _) _ _ s;exact wpAny_bind (wpAny_standAt (wpAny_bind (wpAny_mono h (fun it' s' h' => wpAny_pure (And.intro rfl h')) ee)))
 | succ d =>
  obtain rfl : d = 0 := Nat.lt_one_iff.mp (Nat.lt_of_succ_lt_succ hd);show wpAny _ _ (ask >>= _) _ _ s;refine wpAny_bind (wpAny_askSetting (wpAny_ite ?_))
  split
  ·first
    | exact wpAny_bind (wpAny_pure (wpAny_pure (And.intro rfl h0)))
    | exact wpAny_pure (And.intro rfl h0)
  ·refine wpAny_bind (wpAny_rule ?_);show wpAny _ _ (standAt _ >>= _) _ _ s;exact wpAny_bind (wpAny_standAt (wpAny_bind (wpAny_mono h (fun it' s' h' => wpAny_pure (And.intro rfl h')) ee)))
structure Apart4 (I2 I C D : Addr) (H : List (Addr × Obj)) : Prop where
 i2 : I2 ≠ I
 ic : I2 ≠ C
 id : I2 ≠ D
 h : ∀ p ∈ H, p.1 ≠ I2
theorem perm4c {α : Type} {x a b c d : α} {H : List α} (h : x ∈ a :: b :: c :: d :: H) : x ∈ c :: a :: b :: d :: H := (List.perm_middle (l₁ := [a, b]) (a := c) (l₂ := d :: H)).mem_iff.mp h
theorem perm4c' {α : Type} {x a b c d : α} {H : List α} (h : x ∈ c :: a :: b :: d :: H) : x ∈ a :: b :: c :: d :: H := (List.perm_middle (l₁ := [a, b]) (a := c) (l₂ := d :: H)).mem_iff.mpr h
theorem perm4d {α : Type} {x a b c d : α} {H : List α} (h : x ∈ a :: b :: c :: d :: H) : x ∈ d :: a :: b :: c :: H := (List.perm_middle (l₁ := [a, b, c]) (a := d) (l₂ := H)).mem_iff.mp h
theorem perm4d' {α : Type} {x a b c d : α} {H : List α} (h : x ∈ d :: a :: b :: c :: H) : x ∈ a :: b :: c :: d :: H := (List.perm_middle (l₁ := [a, b, c]) (a := d) (l₂ := H)).mem_iff.mpr h
noncomputable def LpCx (w : World) (mg mb : Str -> Option Value) (L : Addr) (sE : Shared) (W : Addr -> Prop) (b : Heap) (m : Str -> Option Value) (HH : Obj -> Obj -> Obj -> List (Addr × Obj)) (It : Nat -> Obj -> Prop) (J : Nat -> List Value -> Prop) (x : Str) (xval : Value) (n N : Nat) (s : Shared) : Prop := ∀ CC : Prop, (∀ (i : Nat) (o oC : Obj) (mC : Str -> Option Value) (k : Nat) (ys : List Value) (F : Fx w mg mb L sE W (HH o oC (listO ys k)) b s m) (hC : NsO oC mC) (hxv : mC x = some xval) (hi : It i o) (hj : J i ys) (hin : i <= n) (e : N = n - i), CC) -> CC
theorem comp_in {R : Result -> Shared -> Prop} {elt t1 i1 i2 : PySem.Expr} {x y : Str} {py : Pos} {scope : Scope} {cenv : Env} {pos : Pos} {I2 I C D : Addr} {o2 oI oC0 : Obj} {mC0 : Str -> Option Value} {k0 : Nat} {ys0 : List Value} {xval : Value}
  {It2 : Nat -> Obj -> Prop} {n2 : Nat} {P2 : Nat -> Value -> Prop} {Src2 : Heap -> Prop} (T : Iter w I2 It2 n2 P2 Src2) (hh : A.handled = none)
  (J : Nat -> List Value -> Prop) (hJ : ∀ i ys, J i ys -> ys.length <= sizeLine) (hS : Src2 b) (F : Fx w mg mb L sE W ((I2, o2) :: (I, oI) :: (C, oC0) :: (D, listO ys0 k0) :: H) b s m) (ap : Apart3 I C D H) (ap2 : Apart4 I2 I C D H)
  (h0 : It2 0 o2) (hC0 : NsO oC0 mC0) (hxv0 : mC0 x = some xval) (hxy : x ≠ y) (j0 : J 0 ys0)
  (step : ∀ i val s o2 oC oD mC ys E', i < n2 -> P2 i val -> J i ys -> NsO oC mC -> mC x = some xval -> mC y = some val -> Fx w mg mb L sE W ((I2, o2) :: (I, oI) :: (C, oC) :: (D, oD) :: H) b s m ->
   wpAny (model PP w) A (eval elt cenv) (fun v s'' => Fx w mg mb L sE W ((I2, o2) :: (I, oI) :: (C, oC) :: (D, oD) :: H) b s'' m ∧ J (i + 1) (ys ++ [v])) E' s)
  (fin : ∀ s' oC mC k ys, J n2 ys -> NsO oC mC -> Fx w mg mb L sE W ((I, oI) :: (C, oC) :: (D, listO ys k) :: H) b s' m -> R (.ok .next) s')
  (hL : cenv.locals = C := by rfl) (hk : cenv.scope.kind = .function := by rfl) (hl : cenv.kindOf y = some .local := by rfl) :
  codeAny (model PP w) A (.compLoop (.ListComp elt [⟨t1, i1, [], 0⟩, ⟨.Name y py, i2, [], 0⟩] scope pos) 1 (.ref I2) (.ref D) cenv) R s := by
 refine codeAny_loop rfl (LpCx w mg mb L sE W b m (fun o oC oD => (I2, o) :: (I, oI) :: (C, oC) :: (D, oD) :: H) It2 J x xval n2) ?_ n2 (fun _ kk => kk 0 o2 oC0 mC0 k0 ys0 F hC0 hxv0 h0 j0 (Nat.zero_le _) rfl);intro N s hLp;refine hLp _ fun i o oC mC k ys F hC hxv hi hj hin eq10 => ?_;subst eq10;show wpAny _ _ ((compTurn (.ListComp elt [⟨t1, i1, [], 0⟩, ⟨.Name y py, i2, [], 0⟩] scope pos) 1 (.ref I2) (.ref D) cenv).onRaise (fun x => do noteFrame x cenv; theTreesLotGoes x)) _ _ s;refine wpAny_noted ?_;rw [compTurn2b];have h1 := F.hid _ (List.mem_cons_self);have src : Src2 s.heap := T.keep _ _ hS F.keep;have hI' : ∀ {oI oC oD : Obj}, ∀ p ∈ (I, oI) :: (C, oC) :: (D, oD) :: H, p.1 ≠ I2 := fun p hp => by
  rcases List.mem_cons.mp hp with rfl | hp
  ·exact Ne.symm ap2.i2
  ·rcases List.mem_cons.mp hp with rfl | hp
   ·exact Ne.symm ap2.ic
   ·rcases List.mem_cons.mp hp with rfl | hp
    ·exact Ne.symm ap2.id
    ·exact ap2.h p hp
 have hC' : ∀ {o2 oI oD : Obj}, ∀ p ∈ (I2, o2) :: (I, oI) :: (D, oD) :: H, p.1 ≠ C := fun p hp => by
  rcases List.mem_cons.mp hp with rfl | hp
  ·exact ap2.ic
  ·rcases List.mem_cons.mp hp with rfl | hp
   ·exact ap.ic
   ·rcases List.mem_cons.mp hp with rfl | hp
    ·exact Ne.symm ap.cd
    ·exact (ap.h p hp).2.1
 have hD' : ∀ {o2 oI oC : Obj}, ∀ p ∈ (I2, o2) :: (I, oI) :: (C, oC) :: H, p.1 ≠ D := fun p hp => by
  rcases List.mem_cons.mp hp with rfl | hp
  ·exact ap2.id
  ·rcases List.mem_cons.mp hp with rfl | hp
   ·exact ap.id
   ·rcases List.mem_cons.mp hp with rfl | hp
    ·exact ap.cd
    ·exact (ap.h p hp).2.2
 refine wpAny_bind (wpAny_standAt (wpAny_bind ?_))
 by_cases hlt : i < n2
 ·refine T.item _ i s _ _ o hh hlt h1.1 hi src fun val h' tk o' hp he hi' hk' => ?_;have F' : Fx w mg mb L sE W ((I2, o') :: (I, oI) :: (C, oC) :: (D, listO ys k) :: H) b { s with heap := h', toks := tk } m := F.turn hI' he hk' rfl rfl;refine wpAny_bind (wpAny_of_eq (show letOwnedTupleGo (.Name y py) (.ref I2) val = pure () from rfl) (wpAny_bind (wpAny_assign_Name (m_storeC (F'.fewer fun p hp => perm4c' hp) hC' hC (fun s2 oC2 F2 n2 => ?_) hL hk hl))));have F3 : Fx w mg mb L sE W ((I2, o') :: (I, oI) :: (C, oC2) :: (D, listO ys k) :: H) b s2 m := F2.fewer fun p hp => perm4c hp;refine wpAny_bind (wpAny_bind (wpAny_mono (step i val s2 o' oC2 _ _ ys _ hlt hp hj n2 (by simp only [upd, if_neg hxy]; exact hxv) (by simp [upd]) F3) (fun v s4 h4 => wpAny_bind ?_) ee));refine m_appendH (h4.1.fewer fun p hp => perm4d' hp) hD' (hJ _ _ hj) fun s5 F5 => wpAny_pure (wpAny_pure ⟨rfl, ?_⟩);exact ⟨_, (ar1 hlt), fun _ kk => kk (i + 1) o' oC2 _ _ (ys ++ [v]) (F5.fewer fun p hp => perm4d hp) n2 (by simp only [upd, if_neg hxy]; exact hxv) hi' h4.2 hlt rfl⟩
 ·have e : i = n2 := (ar2 hin hlt);subst e;exact T.done _ s _ _ o hh h1.1 hi src fun h' tk hk' => wpAny_pure (fin _ oC mC k ys hj hC (F.over hI' hk' rfl rfl))
end
end Mine
end
section
open PySem PySem.W PySem.Calls PyProof.Rows PySem.Spec
namespace Mine
section
variable {w : World} {mg mb : Str -> Option Value} {L : Addr} {sE s s' : Shared} {W : Addr -> Prop} {H : List (Addr × Obj)} {b : Heap} {m : Str -> Option Value}
variable {A : Around} {E : Value -> Shared -> Prop} {env : Env}
theorem comp_out {R : Result -> Shared -> Prop} {elt i1 i2 : PySem.Expr} {x y : Str} {px py : Pos} {scope : Scope} {cenv : Env} {pos : Pos} {I C D : Addr} {o0 oC0 : Obj} {mC0 : Str -> Option Value}
  {It : Nat -> Obj -> Prop} {n : Nat} {P : Nat -> Value -> Prop} {Src : Heap -> Prop} (T : Iter w I It n P Src) (hh : A.handled = none)
  (J : Nat -> List Value -> Prop) (hS : Src b) (F : Fx w mg mb L sE W ((I, o0) :: (C, oC0) :: (D, listO [] 0) :: H) b s m) (ap : Apart3 I C D H) (h0 : It 0 o0) (hC0 : NsO oC0 mC0) (j0 : J 0 [])
  (step : ∀ i val s oI oC mC k ys, i < n -> P i val -> J i ys -> NsO oC mC -> mC x = some val -> Fx w mg mb L sE W ((I, oI) :: (C, oC) :: (D, listO ys k) :: H) b s m ->
   wpAny (model PP w) A (eval i2 cenv) (fun xv s1 => wpAny (model PP w) A (pyIter xv) (fun it s2 => ∀ (R' : Result -> Shared -> Prop), (∀ s' oC mC k ys, J (i + 1) ys -> NsO oC mC -> Fx w mg mb L sE W ((I, oI) :: (C, oC) :: (D, listO ys k) :: H) b s' m -> R' (.ok .next) s') ->
    codeAny (model PP w) A (.compStart (.ListComp elt [⟨.Name x px, i1, [], 0⟩, ⟨.Name y py, i2, [], 0⟩] scope pos) 1 it (.ref D) cenv) R' s2) (notedBy (model PP w) A cenv fun e s' => R (.error e) s') s1) (notedBy (model PP w) A cenv fun e s' => R (.error e) s') s)
  (fin : ∀ s' oC mC k ys, J n ys -> NsO oC mC -> Fx w mg mb L sE W ((C, oC) :: (D, listO ys k) :: H) b s' m -> R (.ok .next) s')
  (hs : ∀ x, foldedSetIterable i2 cenv x = pure x)
  (hL : cenv.locals = C := by rfl) (hk : cenv.scope.kind = .function := by rfl) (hl : cenv.kindOf x = some .local := by rfl) :
  codeAny (model PP w) A (.compLoop (.ListComp elt [⟨.Name x px, i1, [], 0⟩, ⟨.Name y py, i2, [], 0⟩] scope pos) 0 (.ref I) (.ref D) cenv) R s := by
 refine codeAny_loop rfl (LpC w mg mb L sE W b m (fun o oC oD => (I, o) :: (C, oC) :: (D, oD) :: H) It J n) ?_ n (fun _ kk => kk 0 o0 oC0 mC0 0 [] F hC0 h0 j0 (Nat.zero_le _) rfl);intro N s hLp;refine hLp _ fun i o oC mC k ys F hC hi hj hin eq11 => ?_;subst eq11;show wpAny _ _ ((compTurn (.ListComp elt [⟨.Name x px, i1, [], 0⟩, ⟨.Name y py, i2, [], 0⟩] scope pos) 0 (.ref I) (.ref D) cenv).onRaise (fun x => do noteFrame x cenv; theTreesLotGoes x)) _ _ s;refine wpAny_noted ?_;rw [compTurn2a];have h1 := F.hid _ (List.mem_cons_self);have src : Src s.heap := T.keep _ _ hS F.keep;have hI' : ∀ {oC oD : Obj}, ∀ p ∈ (C, oC) :: (D, oD) :: H, p.1 ≠ I := fun p hp => by
  rcases List.mem_cons.mp hp with rfl | hp
  ·exact Ne.symm ap.ic
  ·rcases List.mem_cons.mp hp with rfl | hp
   ·exact Ne.symm ap.id
   ·exact (ap.h p hp).1
 have hC' : ∀ {oI oD : Obj}, ∀ p ∈ (I, oI) :: (D, oD) :: H, p.1 ≠ C := fun p hp => by
  rcases List.mem_cons.mp hp with rfl | hp
  ·exact ap.ic
  ·rcases List.mem_cons.mp hp with rfl | hp
   ·exact Ne.symm ap.cd
   ·exact (ap.h p hp).2.1
 refine wpAny_bind (wpAny_standAt (wpAny_bind ?_))
 by_cases hlt : i < n
 ·refine T.item _ i s _ _ o hh hlt h1.1 hi src fun val h' tk o' hp he hi' hk' => ?_;have F' : Fx w mg mb L sE W ((I, o') :: (C, oC) :: (D, listO ys k) :: H) b { s with heap := h', toks := tk } m := F.turn hI' he hk' rfl rfl;refine wpAny_bind (wpAny_of_eq (show letOwnedTupleGo (.Name x px) (.ref I) val = pure () from rfl) (wpAny_bind (wpAny_assign_Name (m_storeC (F'.fewer fun p hp => perm3 hp) hC' hC (fun s2 oC2 F2 n2 => ?_) hL hk hl))));have F3 : Fx w mg mb L sE W ((I, o') :: (C, oC2) :: (D, listO ys k) :: H) b s2 m := F2.fewer fun p hp => perm3 hp;refine wpAny_bind (wpAny_mono (step i val s2 o' oC2 _ k ys hlt hp hj n2 (by simp [upd]) F3) (fun xv s4 h4 => wpAny_bind (wpAny_standAt (wpAny_bind (wpAny_of_eq (hs xv) (wpAny_bind (wpAny_holding (wpAny_mono h4 (fun it s5 h5 => wpAny_bind (wpAny_runOwn ?_)) ee))))))) ee);exact h5 _ fun s' oC mC k ys hj hn F => wpAny_pure ⟨rfl, n - (i + 1), (ar1 hlt), fun _ kk => kk (i + 1) o' oC mC k ys F hn hi' hj hlt rfl⟩
 ·have e : i = n := (ar2 hin hlt);subst e;exact T.done _ s _ _ o hh h1.1 hi src fun h' tk hk' => wpAny_pure (fin _ oC mC k ys hj hC (F.over hI' hk' rfl rfl))
theorem m_ListComp2 {elt i1 i2 : PySem.Expr} {x y : Str} {px py : Pos} {scope : Scope} {cl : List (Str × Addr)} {pos : Pos} {Q : Value -> Shared -> Prop} (hh : A.handled = none)
  (J : Nat -> List Value -> Prop) (j0 : J 0 []) (hclos : closureFor scope env = pure cl) (hcell : ∀ y ∈ scope.names, y.2 ≠ .cell) (hkind : scope.kind = .function)
  (hnames : ∀ y ∈ scope.names, y.2 = .local -> scope.names.lookup y.1 = some .local) (hx : scope.names.lookup x = some .local) (hy : scope.names.lookup y = some .local)
  (h : wpAny (model PP w) A (eval i1 env) (fun xv s₁ => wpAny (model PP w) A (pyIter xv) (LC w mg mb L sE W H m A (fun I b n P =>
   ∀ i val s C D oI oC mC k ys E', i < n -> P i val -> J i ys -> NsO oC mC -> mC x = some val -> Apart3 I C D H -> Fx w mg mb L sE W ((I, oI) :: (C, oC) :: (D, listO ys k) :: H) b s m ->
    wpAny (model PP w) A (eval i2 (compEnvC scope cl C env)) (fun xv s1 => wpAny (model PP w) A (pyIter xv) (fun it s2 => ∀ (R' : Result -> Shared -> Prop), (∀ s' oC mC k ys, J (i + 1) ys -> NsO oC mC -> Fx w mg mb L sE W ((I, oI) :: (C, oC) :: (D, listO ys k) :: H) b s' m -> R' (.ok .next) s') ->
     codeAny (model PP w) A (.compStart (.ListComp elt [⟨.Name x px, i1, [], 0⟩, ⟨.Name y py, i2, [], 0⟩] scope pos) 1 it (.ref D) (compEnvC scope cl C env)) R' s2) E' s1) E' s)
   (fun b n => ∀ s' b' D k ys, J n ys -> Fx w mg mb L sE W H b' s' m -> Kp b b' -> b'.get? D = some (listO ys k) -> 456 <= D -> sE.heap.get? D = none -> b.get? D = none -> Q (.ref D) s')) E s₁) E s)
  (hs : ∀ x, foldedSetIterable i1 env x = pure x := by intro _; rfl) (hs2 : ∀ C x, foldedSetIterable i2 (compEnvC scope cl C env) x = pure x := by intro _ _; rfl) :
  wpAny (model PP w) A (eval (.ListComp elt [⟨.Name x px, i1, [], 0⟩, ⟨.Name y py, i2, [], 0⟩] scope pos) env) Q E s := by
 rw [eval_ListComp];refine wpAny_comprehension_free (use := none) rfl hs hclos hkind hnames (wpAny_mono h (fun xv s₁ h₁ => wpAny_mono h₁ (fun it s h₂ => ?_) ee) ee);obtain ⟨I, o0, b, It, n, P, Src, rfl, F, hI, S, hS, step, fin⟩ := h₂;refine wpAny_newObj_type (wpAny_newFunctionEnv hcell (by intro y hy; simp at hy) (fun h₁ hns₁ hsb₁ => ?_) hkind);have lt : ∀ p ∈ (I, o0) :: H, p.1 < s.heap.objs.size := fun p hp => Heap.lt_size (F.hid p hp).1;have F1 : Fx w mg mb L sE W ((s.heap.objs.size, listO [] 0) :: (I, o0) :: H) b { s with heap := s.heap.push (listO [] 0) } m := F.push rfl;have F2 := F1.push (o := { cls := .type "dict", dict := none, data := .dict #[] }) rfl;have hC : (s.heap.push (listO [] 0)).objs.size = s.heap.objs.size + 1 := Heap.size_push ..;obtain ⟨oC, eC, nC⟩ := NsO.of hns₁;have hCn : ∀ p ∈ (s.heap.objs.size, listO [] 0) :: (I, o0) :: H, p.1 ≠ (s.heap.push (listO [] 0)).objs.size := fun p hp => by
  rw [hC];rcases List.mem_cons.mp hp with rfl | hp
  ·exact Nat.ne_of_lt (Nat.lt_succ_self _)
  ·exact Nat.ne_of_lt (Nat.lt_succ_of_lt (lt p hp))
 have F3 := F2.turn (s' := { s with heap := h₁, toks := s.toks + ([] : List (Str × Value)).length }) hCn eC (fun a o ha e => hsb₁.extBut a o ha e) rfl rfl;have F3 := F3.fewer (H' := (I, o0) :: ((s.heap.push (listO [] 0)).objs.size, oC) :: (s.heap.objs.size, listO [] 0) :: H) fun p hp => perm3e (perm3 hp);have hIs := lt _ List.mem_cons_self;have ap : Apart3 I (s.heap.push (listO [] 0)).objs.size s.heap.objs.size H := ⟨by rw [hC]; exact Nat.ne_of_lt (Nat.lt_succ_of_lt hIs), Nat.ne_of_lt hIs, by rw [hC]; exact Ne.symm (Nat.ne_of_lt (Nat.lt_succ_self _)), fun p hp => ⟨hI p hp, by rw [hC]; exact Nat.ne_of_lt (Nat.lt_succ_of_lt (lt p (List.mem_cons_of_mem _ hp))), Nat.ne_of_lt (lt p (List.mem_cons_of_mem _ hp))⟩⟩;have loop : codeAny (model PP w) A (.compLoop (.ListComp elt [⟨.Name x px, i1, [], 0⟩, ⟨.Name y py, i2, [], 0⟩] scope pos) 0 (.ref I) (.ref s.heap.objs.size) (compEnvC scope cl (s.heap.push (listO [] 0)).objs.size env)) (compPost (model PP w) A E none Q (.ref s.heap.objs.size) (s.heap.push (listO [] 0)).objs.size) { s with heap := h₁, toks := s.toks + ([] : List (Str × Value)).length } := by
  refine comp_out S.T hh J hS F3 ap S.h0 nC j0 (fun i val s oI oC mC k ys hi hp hj hn hv F => step i val s _ _ oI oC mC k ys _ hi hp hj hn hv ap F) (fun s' oC mC k ys hj hn F => ?_) (hs2 _) rfl (by simp [compEnvC, relabel, hkind]) (lookup_relabel_local hx);exact ⟨mC, hn _ _ (F.hid _ List.mem_cons_self).1, fun h' hs' => by
   have F1 := F.over (s' := { s' with heap := h' }) (fun p hp => by
    rcases List.mem_cons.mp hp with rfl | hp
    ·exact Ne.symm ap.cd
    ·exact (ap.h p hp).2.1) (fun a o ha e => (hs'.2 a ha).trans e) rfl rfl
   refine (F1.out fun p hp => (ap.h p hp).2.2) _ fun b' F2 k1 e1 lo1 sn1 bn1 => ?_;exact fin _ b' _ k ys hj F2 k1 e1 lo1 sn1 bn1⟩
 exact compStart2 (by decide) loop (S.self _ _ _ (F3.hid _ List.mem_cons_self).1 loop)
end
end Mine
end
section
open PySem PySem.W PySem.Calls PyProof.Rows PySem.Spec
namespace Mine
noncomputable def lawStmt : Stmt := (PySem.Challenge.pw_ky0010_01.main.body.getLast?).getD (.Pass default)
noncomputable def lawBody : List Stmt := match lawStmt with | .FunctionDef _ _ b .. => b | _ => []
noncomputable def lawScope : Scope := match lawStmt with | .FunctionDef (scope := s) .. => s | _ => default
noncomputable abbrev lawEnv (L fa : Addr) (cd : Value) : Env := envOfC "law" lawScope L fa cd
section
variable {w : World} {mg mb : Str -> Option Value} {L : Addr} {sE s s' : Shared} {W : Addr -> Prop} {H : List (Addr × Obj)} {b : Heap} {m : Str -> Option Value}
variable {A : Around} {E : Value -> Shared -> Prop} {env : Env}
theorem Fx.allocB {o : Obj} {Q : Addr -> Shared -> Prop} (F : Fx w mg mb L sE W H b s m) (hf : o.isFreed = false)
  (h : ∀ s' b' a, Fx w mg mb L sE W H b' s' m -> Kp b b' -> b'.get? a = some o -> 456 <= a -> sE.heap.get? a = none -> b.get? a = none -> Q a s') : Q s.heap.objs.size { s with heap := s.heap.push o } := by
 have hn := F.none_of (Nat.le_refl _);have F1 := F.grow (s' := { s with heap := s.heap.push o }) (.of fun _ _ e => Heap.get?_push_of_some _ e);refine (F1.rebase) _ fun b' F2 k1 k2 => ?_;exact h _ b' _ F2 k1 (k2 _ _ hn.2.1 (Heap.get?_push_size _ hf)) hn.2.2.2 hn.2.2.1 hn.1
theorem subTail_goO {s : Shared} {value slice : PySem.Expr} {o i : Value} {T id : String} {ops : List Value} {Q : Value -> Shared -> Prop} (hT : s.TypeIs o T) (hl : typeLookup (.type T) "__getitem__" = pure (some (.builtin id))) (h : wpAny (model PP w) A (getItem o i) Q E s)
  (hs : subscripted slice false o i = operate ops (getItem o i)) : wpAny (model PP w) A (subscriptTail value slice o i) Q E s := by
 unfold subscriptTail;refine wpAny_bind ?_;rw [getitemInPython_of_ne hT.not_modules];refine wpAny_bind (wpAny_specialOf hT hl ?_);have fin : wpAny (model PP w) A (subscripted slice false o i) (fun r s₃ => wpAny (model PP w) A (letTemporaryGo value o r >>= fun _ => pure r) Q E s₃) E s := by
  rw [hs];exact wpAny_operating (wpAny_mono h (fun r s₃ h₃ => wpAny_bind (wpAny_letTemporaryGo (wpAny_pure h₃))) ee)
 first
  | exact wpAny_pure (wpAny_bind fin)
  | exact wpAny_bind (wpAny_pure (wpAny_bind fin))
  | exact wpAny_bind fin
inductive LslP (w : World) (mg mb : Str -> Option Value) (L : Addr) (sE : Shared) (W : Addr -> Prop) (H : List (Addr × Obj)) (vl vu : Value) (QQ : Heap -> (Str -> Option Value) -> Array Value -> Option Int -> Option Int -> Prop) (o : Value) (s : Shared) : Prop
 | mk (a : Addr) (b : Heap) (m : Str -> Option Value) (items : Array Value) (l u : Option Int) (e : o = .ref a) (pl : IsPart vl l) (pu : IsPart vu u) (F : Fx w mg mb L sE W H b s m) (hl : b.IsList a items) (hz : items.size <= sizeLine) (hQ : QQ b m items l u) : LslP w mg mb L sE W H vl vu QQ o s
theorem m_lslice {value : PySem.Expr} {lo hi : Option PySem.Expr} {p' pos : Pos} {Q : Value -> Shared -> Prop}
  (h : wpAny (model PP w) A (eval value env) (fun o s₁ => wpAny (model PP w) A (evalPart lo env) (fun vl s₂ => wpAny (model PP w) A (evalPart hi env) (LslP w mg mb L sE W H vl · (fun b m items l u =>
   ∀ s' b' a', Fx w mg mb L sE W H b' s' m -> Kp b b' -> b'.get? a' = some (listO (slicePick items l u none).toList 0) -> 456 <= a' -> sE.heap.get? a' = none -> Q (.ref a') s') o) E s₂) E s₁) E s) :
  wpAny (model PP w) A (eval (.Subscript value (.Slice lo hi none p') pos) env) Q E s := by
 refine Subscript_ (wpAny_mono h (fun o s₁ h₁ => wpAny_Slice (wpAny_mono h₁ (fun vl s₂ h₂ => wpAny_mono h₂ (fun vu s₃ h₃ => ?_) ee) ee)) ee);obtain ⟨a, b, m, items, l, u, rfl, pl, pu, F, hl, hz, hQ⟩ := h₃;rw [evalPart_none];refine wpAny_pure ?_;have hl' := keepsL hl F.keep;refine subTail_goO (Heap.IsList.typeIs (s := { s₃ with heap := s₃.heap.push { cls := .type "slice", data := .fields #[vl, vu, .none] } }) (hl'.push _)) list_getitem_lookup
  (wpAny_getItem_list_slice (hl'.push _) (Heap.IsSliceOf.new ..) pl pu .none (by simp) ?_ hz) rfl
 have F1 := F.grow (s' := { s₃ with heap := s₃.heap.push { cls := .type "slice", data := .fields #[vl, vu, .none] } }) (.of fun _ _ e => Heap.get?_push_of_some _ e);refine F1.allocB (Q := fun a s' => Q (.ref a) s') rfl fun s' b' a F k e lo sn _ => hQ s' b' a F k ?_ lo sn;rw [e]
theorem m_addL {l c : Addr} {vs ws : List Value} {Q : Value -> Shared -> Prop} (F : Fx w mg mb L sE W H b s m) (hl : b.IsList l vs.toArray) (hb : b.IsList c ws.toArray)
  (h : ∀ s' b' a, Fx w mg mb L sE W H b' s' m -> Kp b b' -> b'.get? a = some (listO (vs ++ ws) 0) -> 456 <= a -> sE.heap.get? a = none -> b.get? a = none -> Q (.ref a) s')
  (hsz : vs.length + ws.length <= sizeLine) : wpAny (model PP w) A (binaryOp .Add (.ref l) (.ref c)) Q E s := by
 obtain ⟨⟨cls, dd, data, sl⟩, ho, hc, n, hd⟩ := keepsL hl F.keep;obtain ⟨⟨cls2, dd2, data2, sl2⟩, ho2, hc2, n2, hd2⟩ := keepsL hb F.keep;simp only at hc hd hc2 hd2;subst hc hd hc2 hd2;have e : vs.toArray ++ ws.toArray = (vs ++ ws).toArray := by simp
 refine concat_meets ⟨_, ho, rfl⟩ ⟨_, ho2, rfl⟩ noFill_list_add seq_list_add PySem.F.slot_list_add PySem.F.entry_list_add (PySem.F.args_list_add_2 _ _) (list_addW l c vs.toArray ws.toArray n n2 dd dd2 sl sl2 (by simpa using hsz)) ⟨ho, ho2, ?_⟩;rw [e];exact F.allocB (Q := fun a s' => Q (.ref a) s') rfl h
theorem readsL {h : Heap} {a : Addr} {items : Array Value} {ds : List PyData} {as : List Addr} (hl : h.IsList a items) (r : ReadsAll h items.toList ds as) : Reads h (.ref a) (.list ds) (a :: as) := by
 obtain ⟨o, e, c, n, d⟩ := hl; exact .list e c d r
theorem depth_str : ∀ (ss : List Str), PyData.depthAll (ss.map .str) = 0
 | [] => by rw [List.map_nil, PyData.depthAll]
 | x :: r => by rw [List.map_cons, PyData.depthAll, PyData.depth, depth_str r]; rfl
theorem depth_int : ∀ (ss : List Int), PyData.depthAll (ss.map .int) = 0
 | [] => by rw [List.map_nil, PyData.depthAll]
 | x :: r => by rw [List.map_cons, PyData.depthAll, PyData.depth, depth_int r]; rfl
theorem lay_str : ∀ (ss : List Str), (∀ x ∈ ss, PyData.strOk x = true) -> PyData.canLayAll0 (ss.map .str) = true
 | [], _ => by rw [List.map_nil, PyData.canLayAll0]
 | x :: r, h => by rw [List.map_cons, PyData.canLayAll0, PyData.canLay0, h x (by simp), lay_str r fun y hy => h y (List.mem_cons_of_mem _ hy)]; rfl
theorem lay_int : ∀ (ss : List Int), PyData.canLayAll0 (ss.map .int) = true
 | [] => by rw [List.map_nil, PyData.canLayAll0]
 | x :: r => by rw [List.map_cons, PyData.canLayAll0, PyData.canLay0, lay_int r]; rfl
theorem shaped_strs {ss : List Str} (h : ∀ x ∈ ss, PyData.strOk x = true) : SeqAt.shaped (.list (ss.map .str)) = true := by
 unfold SeqAt.shaped; rw [PyData.canLay0, lay_str ss h, PyData.depth, depth_str]; rfl
theorem shaped_ints {ss : List Int} : SeqAt.shaped (.list (ss.map .int)) = true := by
 unfold SeqAt.shaped; rw [PyData.canLay0, lay_int ss, PyData.depth, depth_int]; rfl
theorem strOk_mkS {x : List Nat} (h : ∀ c ∈ x, c < 128) : PyData.strOk (mkS x) = true := by
 unfold PyData.strOk;rw [← Array.all_toList];exact List.all_eq_true.mpr fun c hc => by have := h c (by simpa [mkS] using hc); simp; exact ar277 this
theorem Rm.u64 {k : Nat} (h : Rm A (k + 8)) : A.units + 64 < cLine := by have := h.un; exact ar133 this
theorem m_neSame {l c : Addr} {items items2 : Array Value} {ss : List Str} {k : Nat} {Q : Value -> Shared -> Prop} (F : Fx w mg mb L sE W H b s m) (hA : Rm A (k + 8)) (hl : b.IsList l items) (hc : b.IsList c items2) (h1 : StrsAre items.toList ss) (h2 : StrsAre items2.toList ss) (hok : ∀ x ∈ ss, PyData.strOk x = true)
  (h : Q (.bool false) s) : wpAny (model PP w) A (compareOp .NotEq (.ref l) (.ref c)) Q E s := by
 have sh := shaped_strs hok;refine ne_dataH (readsL (keepsL hl F.keep) (h1.reads _)) (readsL (keepsL hc F.keep) (h2.reads _)) sh sh hA.u64 ?_;rw [SeqAt.eqv_refl _ (SeqAt.canLay_of_shaped sh)];exact h
theorem m_neSameI {l c : Addr} {items items2 : Array Value} {ss : List Int} {k : Nat} {Q : Value -> Shared -> Prop} (F : Fx w mg mb L sE W H b s m) (hA : Rm A (k + 8)) (hl : b.IsList l items) (hc : b.IsList c items2) (h1 : IntsAre items.toList ss) (h2 : IntsAre items2.toList ss)
  (h : Q (.bool false) s) : wpAny (model PP w) A (compareOp .NotEq (.ref l) (.ref c)) Q E s := by
 have sh := shaped_ints (ss := ss);refine ne_dataH (readsL (keepsL hl F.keep) (h1.reads _)) (readsL (keepsL hc F.keep) (h2.reads _)) sh sh hA.u64 ?_;rw [SeqAt.eqv_refl _ (SeqAt.canLay_of_shaped sh)];exact h
theorem m_neNil {l c : Addr} {items : Array Value} {ss : List Str} {k : Nat} {Q : Value -> Shared -> Prop} (F : Fx w mg mb L sE W H b s m) (hA : Rm A (k + 8)) (hl : b.IsList l items) (hc : s.heap.IsList c #[]) (h1 : StrsAre items.toList ss) (hok : ∀ x ∈ ss, PyData.strOk x = true)
  (h : Q (.bool (!ss.isEmpty)) s) : wpAny (model PP w) A (compareOp .NotEq (.ref l) (.ref c)) Q E s := by
 have sh := shaped_strs hok;refine ne_dataH (readsL (keepsL hl F.keep) (h1.reads _)) (readsL (ds := []) (as := []) hc .nil) sh (by unfold SeqAt.shaped; rw [PyData.canLay0, PyData.canLayAll0, PyData.depth, PyData.depthAll]; rfl) hA.u64 ?_;cases ss with
 | nil => rw [List.map_nil, PyData.eqv, PyData.eqvAll]; exact h
 | cons x r => rw [List.map_cons, PyData.eqv, PyData.eqvAll]; exact h
end
end Mine
end
section
open PySem PySem.W PySem.Calls PyProof.Rows PySem.Spec
namespace Mine
noncomputable def Hid (o : Obj) : Prop := (∃ v, o.data = .cell v) ∨ o.cls = .type "list_iterator" ∨ o.cls = .type "tuple_iterator" ∨ o.cls = .type "range_iterator" ∨ o.cls = .type "str_ascii_iterator"
section
variable {w : World} {mg mb : Str -> Option Value} {L : Addr} {sE s s' : Shared} {W : Addr -> Prop} {H : List (Addr × Obj)} {b : Heap} {m : Str -> Option Value}
variable {A : Around} {E : Value -> Shared -> Prop} {env : Env}
theorem movX {h h' : Heap} {K : Type} [DecidableEq K] {knd : KeyKind PP w K} {a : Addr} {S : K -> Bool} {n : Nat} (x : h.SetOf knd a S n) (k : ∀ o es ep t, h.get? a = some o -> o.ExactSet -> o.data = .set es ep t -> h'.get? a = some o) : h'.SetOf knd a S n := by
 obtain ⟨o, es, ep, t, e, q, q2, r⟩ := x; exact ⟨o, es, ep, t, k _ _ _ _ e q q2, q, q2, r⟩
theorem DFAAt.keepsH {h h' : Heap} {c : DC} (D : DFAAt w h c) (k : ∀ a o, h.get? a = some o -> ¬ Hid o -> h'.get? a = some o) : DFAAt w h' c := by
 obtain ⟨a, t0, t1, t2, t3, t4, t5, n, e⟩ := D.obj;have kd : ∀ {K : Type} [DecidableEq K] {knd : KeyKind PP w K} {z : Addr} {kvs : List (K × Value)}, h.DictOf knd z kvs -> h'.DictOf knd z kvs := fun x => by
  obtain ⟨o, es, ep, e, r⟩ := x;refine ⟨o, es, ep, k _ _ e ?_, r⟩;have h1 := r.1.1; have h2 := r.2.1
  rintro (⟨v, hv⟩ | hv | hv | hv | hv)
  ·rw [h2] at hv; cases hv
  all_goals (rw [h1] at hv; exact absurd hv (by simp))
 refine ⟨⟨k _ _ a ?_, t0, t1, t2, t3, t4, t5, n, k _ _ e ?_⟩, kd D.T, fun x hx => ⟨kd (D.rows x hx).1, (D.rows x hx).2⟩, kd D.Df, ?_, kd D.Ol, fun x hx => ?_, D.loT, D.loDf, D.loOl, D.loFs, D.nd⟩
 ·rintro (⟨v, hv⟩ | hv | hv | hv | hv)
  ·cases hv
  all_goals exact absurd hv (by simp)
 ·rintro (⟨v, hv⟩ | hv | hv | hv | hv)
  ·cases hv
  all_goals exact absurd hv (by simp)
 ·refine movX D.Fs fun o es ep t e r h2 => k _ _ e ?_;have h1 := r.1
  rintro (⟨v, hv⟩ | hv | hv | hv | hv)
  ·rw [h2] at hv; cases hv
  all_goals (rw [h1] at hv; exact absurd hv (by simp))
 ·obtain ⟨o, e, h1, n, h2⟩ := D.outs x hx;refine ⟨o, k _ _ e ?_, h1, n, h2⟩
  rintro (⟨v, hv⟩ | hv | hv | hv | hv)
  ·rw [h2] at hv; cases hv
  all_goals (rw [h1] at hv; exact absurd hv (by simp))
theorem Fx.notH (F : Fx w mg mb L sE W H b s m) (hH : ∀ p ∈ H, Hid p.2) {q : Heap} (hq : Kp q s.heap) (hqL : q.get? L = none) {a : Addr} {o : Obj} (e : q.get? a = some o) (hn : ¬ Hid o) : a ∉ L :: H.map (·.1) := by
 intro hm;rcases List.mem_cons.mp hm with rfl | hm
 ·rw [hqL] at e; cases e
 ·obtain ⟨p, hp, rfl⟩ := List.mem_map.mp hm;have := hq _ _ e;rw [(F.hid p hp).1] at this;cases this;exact hn (hH p hp)
noncomputable def Absb (w : World) (mg mb : Str -> Option Value) (L : Addr) (sE : Shared) (W : Addr -> Prop) (H : List (Addr × Obj)) (b : Heap) (c : DC) (s : Shared) (m : Str -> Option Value) : Prop := ∀ C : Prop, (∀ (b' : Heap) (F : Fx w mg mb L sE W H b' s m) (k : Kp b b') (D : DFAAt w b' c), C) -> C
theorem Fx.absorb {c : DC} (F : Fx w mg mb L sE W H b s m) (hH : ∀ p ∈ H, Hid p.2) {q : Heap} (hq : Kp q s.heap) (hqL : q.get? L = none) (D : DFAAt w q c) :
  Absb w mg mb L sE W H b c s m := by
 intro C kk;refine (F.rebase) _ fun b' F' k1 k2 => ?_;exact kk b' F' k1 (D.keepsH fun a o e hn => k2 a o (F.notH hH hq hqL e hn) (hq a o e))
theorem Fx.shiftL (F : Fx w mg mb L sE W H b s m) (sh : Shift [L] s s') : Sft w mg mb L sE W H b [] s' m :=
 F.shift (fr := []) (fun a ha => nomatch ha) (fun a ha => nomatch ha) (fun a o ha e => (sh.1.2.1 a ha).trans e) (fun a ha o e => sh.1.2.2 a o e) sh.2.1 sh.2.2
theorem Fx.past {C : Addr} (F : Fx w mg mb L sE W H b s m) (P : Past C s s') (hC : s.heap.get? C = none) : Fx w mg mb L { sE with gens := s'.gens } W H b s' m := by
 have k : Kp s.heap s'.heap := fun a o e => P.keep a o (fun q => by rw [q, hC] at e; cases e) e;refine ⟨F.g.low fun a o _ e => k a o e, F.hL, ?_, ⟨fun a o e => (by obtain ⟨o', e'⟩ := F.tot.live a o e; exact ⟨o', k _ _ e'⟩), fun a o h e => k _ _ (F.tot.keep a o h e), rfl, P.os.trans F.tot.os⟩, fun a o e => k _ _ (F.keep a o e), F.noL, fun p hp => ⟨k _ _ (F.hid p hp).1, (F.hid p hp).2⟩⟩;obtain ⟨o, es, ep, e, r⟩ := F.ns; exact ⟨o, es, ep, k _ _ e, r⟩
structure Anc (s0 sE : Shared) : Prop where
 heap : ∀ a, sE.heap.get? a = s0.heap.get? a
 os : sE.os = s0.os
 gens : ∀ x ∈ sE.gens, x.bare = true
theorem Anc.shift {s0 a c : Shared} (x : Anc s0 a) (sh : Shift [] a c) : Anc s0 c := ⟨fun z => (sh.1.2.1 z (by simp)).trans (x.heap z), sh.2.2.trans x.os, by rw [sh.2.1]; exact x.gens⟩
structure Done (s0 s' : Shared) : Prop where
 keep : Kp s0.heap s'.heap
 os : s'.os = s0.os
 gens : ∀ x ∈ s'.gens, x.bare = true
theorem Anc.done {s0 : Shared} (x : Anc s0 sE) (hL : s0.heap.get? L = none) (F : Fx w mg mb L sE W0 H b s m) : Done s0 s := by
 have S := F.done' ((x.heap L).trans hL);exact ⟨fun a o e => S.keep a o (.inr id) ((x.heap a).trans e), S.os.trans x.os, by rw [S.gens]; exact x.gens⟩
end
end Mine
end
section
open PySem PySem.W PySem.Calls PyProof.Rows PySem.Spec
namespace Mine
noncomputable def txt (x : Str) : List Nat := x.cps.toList
theorem mkS_txt (x : Str) : mkS (txt x) = x := mkS_list x
theorem txt_mkS (x : List Nat) : txt (mkS x) = x := by simp [txt, mkS]
theorem lt_of_not {a b : List Nat} (h : ¬ b < a) (hn : a ≠ b) : a < b := by
 rcases Classical.em (a < b) with h' | h'
 ·exact h'
 ·exact absurd (List.le_antisymm h h') hn
theorem sorted_pw {ss : List Str} (h : sortedS ss = true) (hn : ss.Nodup) : (ss.map txt).Pairwise (· < ·) := by
 rw [List.pairwise_map];have h1 := sortedS_pw h;have := List.pairwise_and_iff.mpr ⟨h1, hn⟩;exact this.imp fun {x y} ⟨h2, h3⟩ => lt_of_not h2 fun e => h3 (by rw [← mkS_list x, ← mkS_list y]; exact congrArg mkS e)
theorem asc_of : ∀ {W : List (List Nat)} {u : List Nat}, W.Pairwise (· < ·) -> (∀ x ∈ W, u < x) -> AscW u W
 | [], _, _, _ => trivial
 | v :: r, u, h, hu => ⟨hu v (by simp), asc_of (List.pairwise_cons.mp h).2 fun x hx => (List.pairwise_cons.mp h).1 x hx⟩
theorem nil_lt {x : List Nat} (h : x ≠ []) : [] < x := by
 cases x with
 | nil => exact absurd rfl h
 | cons a r => exact List.nil_lt_cons ..
structure Words (GW W : List (List Nat)) : Prop where
 pw : W.Pairwise (· < ·)
 mem : ∀ x, x ∈ W ↔ x ∈ GW
 abc : ∀ x ∈ W, ∀ c ∈ x, 97 <= c ∧ c <= 99
 ne : ∀ x ∈ W, x ≠ []
 len : ∀ x ∈ W, x.length <= 4
 n : W.length <= 9
theorem Words.asc {GW W : List (List Nat)} (h : Words GW W) : AscW [] W := asc_of h.pw fun x hx => nil_lt (h.ne x hx)
theorem sum_le {W : List (List Nat)} {k : Nat} (h : ∀ x ∈ W, x.length <= k) : (W.map List.length).sum <= k * W.length := by
 induction W with
 | nil => simp
 | cons a r ih =>
  have h1 := h a (by simp);have h2 := ih fun x hx => h x (List.mem_cons_of_mem _ hx);rw [List.map_cons, List.sum_cons, List.length_cons, Nat.mul_succ];exact ar82 h1 h2
theorem wordsAre_of {vals : Array Value} {W : List (List Nat)} (h : StrsAre vals.toList (W.map mkS)) : WordsAre vals W := by
 have hl := h.length;refine ⟨by simpa using hl, fun i wd hi => ?_⟩;have key : ∀ (vs : List Value) (ss : List Str), StrsAre vs ss -> ∀ (i : Nat) (x : Str), ss[i]? = some x -> ∃ t, vs[i]? = some (Value.str x t) := by
  intro vs ss h
  induction h with
  | nil => intro i x hx; cases hx
  | cons y t r ih =>
   intro i x hx;cases i with
   | zero => cases hx; exact ⟨t, rfl⟩
   | succ i => exact ih i x hx
 obtain ⟨t, e⟩ := key _ _ h i (mkS wd) (by rw [List.getElem?_map, hi]; rfl);exact ⟨t, by simpa using e⟩
noncomputable def givenW (ns : List Int) : List (List Nat) := (ns.take 9).map lawWord
inductive SGet {α : Type} (ss : List α) (i : Nat) (f : α -> Tok -> Value) (v : Value) : Prop
 | mk (x : α) (t : Tok) (e : ss[i]? = some x) (ev : v = f x t) : SGet ss i f v
theorem strsAre_get {vs : List Value} {ss : List Str} (h : StrsAre vs ss) : ∀ {i : Nat} {v : Value}, vs[i]? = some v -> SGet ss i .str v := by
 induction h with
 | nil => intro i v h; cases h
 | cons y t r ih => intro i v h; cases i with
  | zero => cases h; exact ⟨y, t, rfl, rfl⟩
  | succ i => obtain ⟨x, t, e, ev⟩ := ih (i := i) h; exact ⟨x, t, e, ev⟩
theorem intsAre_get {vs : List Value} {ss : List Int} (h : IntsAre vs ss) : ∀ {i : Nat} {v : Value}, vs[i]? = some v -> SGet ss i .int v := by
 induction h with
 | nil => intro i v h; cases h
 | cons y t r ih => intro i v h; cases i with
  | zero => cases h; exact ⟨y, t, rfl, rfl⟩
  | succ i => obtain ⟨x, t, e, ev⟩ := ih (i := i) h; exact ⟨x, t, e, ev⟩
theorem strsAre_snoc {vs : List Value} {ss : List Str} (h : StrsAre vs ss) (x : Str) (t : Tok) : StrsAre (vs ++ [Value.str x t]) (ss ++ [x]) := by
 induction h with
 | nil => exact .cons x t .nil
 | cons y t' r ih => exact .cons y t' ih
theorem words_of {ns : List Int} {ss : List Str} {n : Nat} {key : Nat -> Str} (hn : n = (givenW ns).length) (hk : ∀ i, i < n -> (givenW ns)[i]?.map mkS = some (key i)) (hp : ss.Perm (addN [] key n)) (hs : sortedS ss = true) (hnd : (addN [] key n).Nodup) : Words (givenW ns) (ss.map txt) := by
 have hmem : ∀ x, x ∈ ss.map txt ↔ x ∈ givenW ns := fun x => by
  rw [List.mem_map]
  constructor
  ·rintro ⟨y, hy, rfl⟩
   have := (hp.mem_iff).mp hy;rw [mem_addN] at this;obtain h | ⟨j, hj, rfl⟩ := this
   ·cases h
   ·have e := hk j hj;cases hg : (givenW ns)[j]? with
    | none => rw [hg] at e; cases e
    | some z =>
     rw [hg] at e;have e' : mkS z = key j := Option.some.inj e;rw [← e', txt_mkS]; exact List.mem_of_getElem? hg
  ·intro hx;obtain ⟨j, hj⟩ := List.getElem?_of_mem hx;have hjn : j < n := by rw [hn]; exact (List.getElem?_eq_some_iff.mp hj).1
   have e := hk j hjn;rw [hj] at e;exact ⟨key j, (hp.mem_iff).mpr (by rw [mem_addN]; exact .inr ⟨j, hjn, rfl⟩), by rw [← Option.some.inj e, txt_mkS]⟩
 have hg : ∀ x ∈ ss.map txt, ∃ z, x = lawWord z := fun x hx => by
  have := (hmem x).mp hx;unfold givenW at this;obtain ⟨z, _, e⟩ := List.mem_map.mp this;exact ⟨z, e.symm⟩
 refine ⟨sorted_pw hs (hp.nodup_iff.mpr hnd), hmem, fun x hx => ?_, fun x hx => ?_, fun x hx => ?_, ?_⟩
 ·obtain ⟨z, rfl⟩ := hg x hx; exact lawWord_abc z
 ·obtain ⟨z, rfl⟩ := hg x hx;intro e;have := (lawWord_len z).1;rw [e] at this; simp at this
 ·obtain ⟨z, rfl⟩ := hg x hx; exact (lawWord_len z).2
 ·rw [List.length_map, hp.length_eq];have h1 := addN_len [] key n;have : (givenW ns).length <= 9 := by unfold givenW; rw [List.length_map, List.length_take]; lia
  simp only [List.length_nil] at h1;exact ar110 hn h1 this
end Mine
end
section
open PySem PySem.W PySem.Calls PyProof.Rows PySem.Spec
namespace Mine
section
variable {w : World} {mg mb : Str -> Option Value} {L : Addr} {sE s s0 : Shared} {H : List (Addr × Obj)} {b : Heap} {m : Str -> Option Value}
variable {A0 : Around} {E : Value -> Shared -> Prop} {fa : Addr} {cd : Value} {Q : Flow -> Shared -> Prop}
structure LJ1 (w : World) (L : Addr) (s0 sE : Shared) (b : Heap) (m : Str -> Option Value) (ns : List Int) (aS : Addr) (vs : List Value) (aG : Addr) (gv : List Value) (aW : Addr) (wv : Array Value) (W : List (List Nat)) : Prop where
 anc : Anc s0 sE
 m1 : m "script" = some (.ref aS)
 l1 : b.IsList aS vs.toArray
 i1 : IntsAre vs ns
 len : ns.length <= 63
 m2 : m "given" = some (.ref aG)
 l2 : b.IsList aG gv.toArray
 i2 : StrsAre gv ((givenW ns).map mkS)
 m3 : m "words" = some (.ref aW)
 l3 : b.IsList aW wv
 i3 : StrsAre wv.toList (W.map mkS)
 ws : Words (givenW ns) W
theorem law1a {vs : List Value} {ns : List Int} {aS : Addr} (hA : Rm A0 61) (F : Fx w mg mb L sE W0 H b s m) (hH : ∀ p ∈ H, Hid p.2) (N : Anc s0 sE)
  (hm : m "script" = some (.ref aS)) (hl : b.IsList aS vs.toArray) (hi : IntsAre vs ns) (hlen : ns.length <= 63)
  (h : ∀ sE' b' s' m' aG gv aW wv W, LJ1 w L s0 sE' b' m' ns aS vs aG gv aW wv W -> Fx w mg mb L sE' W0 H b' s' m' -> wpAny (model PP w) (A0.deeper (lawEnv L fa cd)) (execs (lawBody.drop 2) (lawEnv L fa cd)) Q E s') :
  wpAny (model PP w) (A0.deeper (lawEnv L fa cd)) (execs lawBody (lawEnv L fa cd)) Q E s := by
 have hB : Rm (A0.deeper (lawEnv L fa cd)) 60 := hA.deeper _;have hvl : vs.length = ns.length := hi.length;refine wpAny_execs_cons ?_;refine m_AssignListComp (w := w) (mg := mg) (mb := mb) (L := L) (sE := sE) (W := W0) (H := H) (m := m) hB.hh (fun i ys => StrsAre ys (((givenW ns).take i).map mkS)) .nil (by rfl) (by rfl) (by decide) rfl (by decide) (by rfl) rfl (by rfl) (by rfl) ?_;refine m_lslice (w := w) (mg := mg) (mb := mb) (L := L) (sE := sE) (W := W0) (H := H) (m_local F hm ?_);rw [evalPart_none];refine wpAny_pure ?_;rw [evalPart_some];refine m_cint F fun s t F _ => ⟨aS, b, m, vs.toArray, none, some 9, rfl, .none, .int _ _, F, hl, by rw [List.size_toArray, hvl, sizeLine_eq]; exact ar68 hlen, fun s b' a9 F k9 e9 lo9 sn9 => ?_⟩;have e9' : (slicePick vs.toArray none (some 9) none).toList = vs.take 9 := by
  rw [show (9 : Int) = ((9 : Nat) : Int) from rfl, slicePick_upto']
 rw [e9'] at e9;have l9 : b'.IsList a9 (vs.take 9).toArray := ⟨_, e9, rfl, _, rfl⟩;have i9 := hi.take 9;have hgl : (givenW ns).length = (vs.take 9).length := by unfold givenW; rw [List.length_map, i9.length]
 refine wpAny_pyIter_list (keepsL l9 F.keep) ?_;have F1 := F.push (o := { cls := .type "list_iterator", data := .fields #[.ref a9, .int 0 0] }) rfl;refine ⟨_, _, b', _, _, _, _, rfl, F1, fun p hp q => absurd (Heap.lt_size (F.hid p hp).1) (by rw [q]; exact Nat.lt_irrefl _), csrc_list (items := (vs.take 9).toArray) (by rw [List.size_toArray, List.length_take, sizeLine_eq]; lia), l9, ?_, ?_⟩
 ·rintro i val s C D oI oC oD mC ys E' hlt hv hj hn hmC F
  obtain ⟨z, tz, hz, rfl⟩ := intsAre_get i9 (by simpa using hv);refine wpAny_tests_nil ?_;refine ifT rfl ?_;refine Call_ (m_glob F (gl_law_word w) (m_cw (by rfl) (args_cons (m_nameC (C := C) F ⟨oC, by simp, hn⟩ hmC (args_nil ⟨F.g.X, ?_⟩)))));refine law_word_spec F.g hB fun s' t S => ⟨F.grow S, ?_⟩;have hg : (givenW ns)[i]? = some (lawWord z) := by unfold givenW; rw [List.getElem?_map, hz]; rfl
  rw [List.take_add_one, hg, List.map_append];exact strsAre_snoc hj _ _
 ·intro s b2 D k gv hj F k2 eD loD snD bnD;rw [List.size_toArray, ← hgl, List.take_of_length_le (Nat.le_refl _)] at hj;have lG : b2.IsList D gv.toArray := ⟨_, eD, rfl, _, rfl⟩;have hgn : gv.length = (givenW ns).length := by rw [hj.length, List.length_map]
  have hg9 : (givenW ns).length <= 9 := by unfold givenW; rw [List.length_map, List.length_take]; lia
  show wpAny _ _ (execs _ _) _ _ _;refine wpAny_execs_cons (wpAny_Assign_Name (Call_ (m_bi F (ng_sorted w) boot_sorted (m_cwb (args_cons (Call_ (m_bi F (ng_set w) boot_set (m_ct (args_cons (m_local F (by rfl) (args_nil ?_)))))))))));refine call_set_list (knd := strKind PP w) (key := fun i => mkS ((givenW ns).getD i [])) hB.hh (keepsL lG F.keep) (fun i v hv => ?_) (by rw [List.size_toArray, hgn]; show _ < 4096; exact Nat.lt_of_le_of_lt (Nat.succ_le_succ hg9) (by decide)) fun s' S X => ?_
  ·obtain ⟨x, t, hx, rfl⟩ := strsAre_get hj (by simpa using hv);refine ⟨?_, rfl⟩;rw [List.getElem?_map] at hx;cases hg : (givenW ns)[i]? with
   | none => rw [hg] at hx; cases hx
   | some z =>
    rw [hg] at hx;have : mkS z = x := Option.some.inj hx
    show (x == mkS ((givenW ns).getD i [])) = true;rw [List.getD_eq_getElem?_getD, hg, ← this];simp
  ·have hnd : (addN [] (fun i => mkS ((givenW ns).getD i [])) gv.toArray.size).Nodup := by obtain ⟨_, _, _, _, _, _, _, _, _, h, _⟩ := X; exact h
   have hln := addN_len [] (fun i => mkS ((givenW ns).getD i [])) gv.toArray.size;have F := F.grow S;have hF1 := F;refine args_nil (sorted_set_str hB.hh X (by rw [List.size_toArray, hgn] at hln; simp only [List.length_nil] at hln; rw [List.size_toArray, hgn]; exact Nat.lt_of_le_of_lt (Nat.le_trans hln (Nat.le_of_eq (Nat.zero_add _))) (Nat.lt_of_le_of_lt hg9 (by decide))) fun s2 B out ss S2 lB hBs i3 hp hs => ?_);have F := F.grow S2;have W3 : Words (givenW ns) (ss.map txt) := words_of (n := gv.toArray.size) (by rw [List.size_toArray, hgn]) (fun i hi => by
    rw [List.size_toArray, hgn] at hi;rw [List.getD_eq_getElem?_getD];obtain ⟨z, hz⟩ : ∃ z, (givenW ns)[i]? = some z := ⟨_, List.getElem?_eq_getElem hi⟩;rw [hz]; rfl) hp hs hnd
   have e3 : (ss.map txt).map mkS = ss := by
    rw [List.map_map]
    conv => rhs; rw [← List.map_id ss]
    exact List.map_congr_left fun x _ => mkS_txt x
   have hBn := (hF1.none_of hBs).2.1;refine (F.rebase) _ fun b3 F k3 kn3 => ?_;have l3 : b3.IsList B out := movL lB fun o e => kn3 _ _ hBn e;refine m_store F fun s F => ?_;exact h sE b3 s _ D gv B out (ss.map txt) ⟨N, by exact hm, keepsL (keepsL (keepsL hl k9) k2) k3, hi, hlen, by rfl, keepsL lG k3, hj, by rfl, l3, by rw [e3]; exact i3, W3⟩ F
end
end Mine
end
section
open PySem PySem.W PySem.Calls PyProof.Rows PySem.Spec
namespace Mine
section
variable {w : World} {mg mb : Str -> Option Value} {L : Addr} {sE s s0 : Shared} {H : List (Addr × Obj)} {b : Heap} {m : Str -> Option Value}
variable {A0 : Around} {E : Value -> Shared -> Prop} {fa : Addr} {cd : Value} {Q : Flow -> Shared -> Prop}
theorem lawFrs {W : Addr -> Prop} (hst : A0.frames = some []) (F : Fx w mg mb L sE W H b s m) : Frs (A0.deeper (lawEnv L fa cd)) [lawEnv L fa cd] s.heap :=
 F.frs (env := lawEnv L fa cd) ⟨hst, fun _ h => nomatch h⟩ (fun a ha => nomatch ha) (fun h => nomatch (show ScopeKind.function = ScopeKind.module from h)) rfl
theorem lawFra : fra [lawEnv L fa cd] = [L] := rfl
structure LJ2 (w : World) (L : Addr) (s0 sE : Shared) (b : Heap) (m : Str -> Option Value) (ns : List Int) (aS : Addr) (vs : List Value) (aG : Addr) (gv : List Value) (aW : Addr) (wv : Array Value) (W : List (List Nat)) (c : DC) (R : RG) : Prop extends LJ1 w L s0 sE b m ns aS vs aG gv aW wv W where
 m4 : m "machine" = some (.ref c.x.m)
 D : DFAAt w b c
 rows : c.rows = encR (rowsOf R)
 fin : c.fin = finOf R
 fr : FinR W R
 ol : s0.heap.get? c.x.Ol = none
theorem LJ1.abc {ns : List Int} {aS : Addr} {vs : List Value} {aG : Addr} {gv : List Value} {aW : Addr} {wv : Array Value} {W : List (List Nat)} (J : LJ1 w L s0 sE b m ns aS vs aG gv aW wv W) : (W.map List.length).sum < 900 := by
 have h1 := sum_le J.ws.len;have h2 := J.ws.n;exact ar54 h1 h2
theorem law1b {ns : List Int} {aS : Addr} {vs : List Value} {aG : Addr} {gv : List Value} {aW : Addr} {wv : Array Value} {W : List (List Nat)} (hA : Rm A0 61) (hst : A0.frames = some []) (J : LJ1 w L s0 sE b m ns aS vs aG gv aW wv W) (F : Fx w mg mb L sE W0 H b s m) (hH : ∀ p ∈ H, Hid p.2)
  (h : ∀ sE' b' s' m' c R, LJ2 w L s0 sE' b' m' ns aS vs aG gv aW wv W c R -> c.out = [] -> Fx w mg mb L sE' W0 H b' s' m' -> wpAny (model PP w) (A0.deeper (lawEnv L fa cd)) (execs (lawBody.drop 3) (lawEnv L fa cd)) Q E s') :
  wpAny (model PP w) (A0.deeper (lawEnv L fa cd)) (execs (lawBody.drop 2) (lawEnv L fa cd)) Q E s := by
 have hB : Rm (A0.deeper (lawEnv L fa cd)) 60 := hA.deeper _;refine wpAny_execs_cons (wpAny_Assign_Name (Call_ (m_glob F (gl_strings_dfa w) (m_cw (by rfl) (args_cons (m_local F (by exact J.m3) (args_nil ⟨F.g.X, ?_⟩)))))));refine strings_dfa_spec (q := b) F.g hB (lawFrs hst F) F.keep (fun a ha => ?_) J.l3 (wordsAre_of J.i3) J.ws.abc J.abc (fun _ s1 s' q' c R sh S hq' hqf' kq' D hr hf ho hR hfr => ?_) fun hn => absurd J.ws.asc hn
 ·rw [lawFra] at ha;rw [List.mem_singleton.mp ha]; exact F.noL
 ·have F0 := F;refine (F.shiftL (s' := s1) sh) _ fun sE' shE F => ?_;have F := F.grow S;refine (F.absorb hH hq' (hqf' L (by rw [lawFra]; simp)) D) _ fun b' F k' D' => ?_;have hOl : s0.heap.get? c.x.Ol = none := by
   cases e : s0.heap.get? c.x.Ol with
   | none => rfl
   | some o =>
    have h1 := hfr c.x.Ol (by simp [DC.addrs]);obtain ⟨o', e'⟩ := F0.tot.live _ _ ((J.anc.heap _).trans e);rw [h1] at e'; cases e'
  refine m_store F fun s F => ?_;exact h sE' b' s _ c R ⟨⟨J.anc.shift shE, by exact J.m1, keepsL J.l1 k', J.i1, J.len, by exact J.m2, keepsL J.l2 k', J.i2, by exact J.m3, keepsL J.l3 k', J.i3, J.ws⟩, by rfl, D', hr, hf, hR, hOl⟩ ho F
theorem LJ2.mono {sE' : Shared} {b' : Heap} {m' : Str -> Option Value} {ns : List Int} {aS : Addr} {vs : List Value} {aG : Addr} {gv : List Value} {aW : Addr} {wv : Array Value} {W : List (List Nat)} {c : DC} {R : RG} (J : LJ2 w L s0 sE b m ns aS vs aG gv aW wv W c R)
  (N : Anc s0 sE') (k : Kp b b') (h1 : m' "script" = m "script" := by rfl) (h2 : m' "given" = m "given" := by rfl) (h3 : m' "words" = m "words" := by rfl) (h4 : m' "machine" = m "machine" := by rfl) : LJ2 w L s0 sE' b' m' ns aS vs aG gv aW wv W c R :=
 ⟨⟨N, h1.trans J.m1, keepsL J.l1 k, J.i1, J.len, h2.trans J.m2, keepsL J.l2 k, J.i2, h3.trans J.m3, keepsL J.l3 k, J.i3, J.ws⟩, h4.trans J.m4, J.D.keeps k, J.rows, J.fin, J.fr, J.ol⟩
end
end Mine
end
section
open PySem PySem.W PySem.Calls PyProof.Rows PySem.Spec
namespace Mine
theorem FinR.wf {W : List (List Nat)} {R : RG} (h : FinR W R) : WF R := by
 rcases h with ⟨_, rfl⟩ | h
 ·trivial
 ·exact h.2.1
theorem FinR.lang0 {W : List (List Nat)} {R : RG} (h : FinR W R) : lang R 0 = W := by
 rcases h with ⟨rfl, rfl⟩ | h
 ·rfl
 ·exact h.2.2.2.1
theorem FinR.zero {W : List (List Nat)} {R : RG} (h : FinR W R) : (R = [] ∧ W = []) ∨ ((0 : Int) ∈ ids R ∧ W ≠ []) := by
 rcases h with ⟨rfl, rfl⟩ | ⟨h1, _, ⟨k, r, rfl⟩, _⟩
 ·exact .inl ⟨rfl, rfl⟩
 ·exact .inr ⟨by simp [ids], h1⟩
theorem FinR.len {W : List (List Nat)} {R : RG} (h : FinR W R) : R.length <= 1000 := by
 rcases h with ⟨_, rfl⟩ | h
 ·simp
 ·exact h.2.2.2.2.2.1
section
variable {w : World} {mg mb : Str -> Option Value} {L : Addr} {sE s s0 : Shared} {H : List (Addr × Obj)} {b : Heap} {m : Str -> Option Value}
variable {A0 : Around} {E : Value -> Shared -> Prop} {fa : Addr} {cd : Value} {Q : Flow -> Shared -> Prop}
theorem LJ1.okW {ns : List Int} {aS : Addr} {vs : List Value} {aG : Addr} {gv : List Value} {aW : Addr} {wv : Array Value} {W : List (List Nat)} (J : LJ1 w L s0 sE b m ns aS vs aG gv aW wv W) : ∀ x ∈ W.map mkS, PyData.strOk x = true := fun x hx => by
 obtain ⟨y, hy, rfl⟩ := List.mem_map.mp hx;exact strOk_mkS fun c hc => by have := J.ws.abc y hy c hc; exact ar4 this
theorem givenW_abc {ns : List Int} : ∀ wd ∈ givenW ns, ∀ c ∈ wd, 97 <= c ∧ c <= 99 := fun x hx => by
 obtain ⟨z, _, rfl⟩ := List.mem_map.mp hx; exact lawWord_abc z
theorem givenW_sum {ns : List Int} : ((givenW ns).map List.length).sum < 900 := by
 have h1 := sum_le (W := givenW ns) (k := 4) fun x hx => by obtain ⟨z, _, rfl⟩ := List.mem_map.mp hx; exact (lawWord_len z).2
 have : (givenW ns).length <= 9 := by unfold givenW; rw [List.length_map, List.length_take]; lia
 exact ar54 h1 this
theorem refusedF {ws : Addr} {vals : Array Value} {W : List (List Nat)} {Q : Value -> Shared -> Prop} (hA : Rm A0 61) (hst : A0.frames = some []) (F : Fx w mg mb L sE W0 H b s m) (hl : b.IsList ws vals) (hv : WordsAre vals W) (hW : ∀ wd ∈ W, ∀ c ∈ wd, 97 <= c ∧ c <= 99) (hsz : (W.map List.length).sum < 900)
  (hyes : AscW [] W -> ∀ sE' s', Shift [] sE sE' -> Fx w mg mb L sE' W0 H b s' m -> Q (.bool false) s') (hno : ¬ AscW [] W -> ∀ sE' s', Shift [] sE sE' -> Fx w mg mb L sE' W0 H b s' m -> Q (.bool true) s') :
  wpAny (model PP w) (A0.deeper (lawEnv L fa cd)) (call (.ref 443) [.ref ws]) Q E s := by
 have hB : Rm (A0.deeper (lawEnv L fa cd)) 60 := hA.deeper _;have both : ∀ s1 s', Shift [L] s s1 -> Stp W0 s1 s' -> ∃ sE', Shift [] sE sE' ∧ Fx w mg mb L sE' W0 H b s' m := fun s1 s' sh S => by
  refine (F.shiftL sh) _ fun sE' shE F => ?_;exact ⟨sE', shE, F.grow S⟩
 refine law_refused_spec (q := b) F.g hB (lawFrs hst F) F.keep (fun a ha => by rw [lawFra] at ha; rw [List.mem_singleton.mp ha]; exact F.noL) hl hv hW hsz (fun h s1 s' sh S => ?_) fun h s1 s' sh S => ?_
 ·obtain ⟨sE', shE, F⟩ := both s1 s' sh S; exact hyes h sE' s' shE F
 ·obtain ⟨sE', shE, F⟩ := both s1 s' sh S; exact hno h sE' s' shE F
theorem law2 {ns : List Int} {aS : Addr} {vs : List Value} {aG : Addr} {gv : List Value} {aW : Addr} {wv : Array Value} {W : List (List Nat)} {c : DC} {R : RG} (hA : Rm A0 61) (hst : A0.frames = some []) (J : LJ2 w L s0 sE b m ns aS vs aG gv aW wv W c R) (F : Fx w mg mb L sE W0 H b s m) (hH : ∀ p ∈ H, Hid p.2)
  (h : ∀ sE' b' s', LJ2 w L s0 sE' b' m ns aS vs aG gv aW wv W c R -> Fx w mg mb L sE' W0 H b' s' m -> wpAny (model PP w) (A0.deeper (lawEnv L fa cd)) (execs (lawBody.drop 4) (lawEnv L fa cd)) Q E s') :
  wpAny (model PP w) (A0.deeper (lawEnv L fa cd)) (execs (lawBody.drop 3) (lawEnv L fa cd)) Q E s := by
 have hB : Rm (A0.deeper (lawEnv L fa cd)) 60 := hA.deeper _;refine wpAny_execs_cons (wpAny_If (isTrue_or (wpAny_isTrue_Compare1 (Call_ (m_bi F (ng_list w) boot_list (m_ct (args_cons (MethodCall_ (m_local F (by exact J.m4) (o_meth F (mt_generate_all w) J.D.obj (m_cw0 (by rfl) F.g.X ?_)))))))))));refine wpAny_mono (list_generate (k := 4) F.g (hB.le (by decide)) (J.D.keeps F.keep) J.rows J.fr.wf J.fin (J.fr.zero.symm.imp (·.1) (·.1)) (fun y hy => J.ws.len y (by rw [← J.fr.lang0]; exact hy)) (by decide) (by rw [J.fr.lang0]; have := J.ws.n; exact ar252 this) fun s' S C acc n P hC eS hS hSC loC hacc => ?_) (fun v s₁ h₁ => args_nil h₁) ee;have hSn := (F.none_of hS).2.1;have hgens := F.tot.gens;have F := F.past P hC;have N : Anc s0 { sE with gens := s'.gens } := ⟨J.anc.heap, J.anc.os, P.bare (by rw [hgens]; exact J.anc.gens)⟩;refine (F.rebase) _ fun b1 F k1 kn1 => ?_;have J := J.mono N k1;have lS : b1.IsList S acc := ⟨_, kn1 _ _ hSn eS, rfl, _, rfl⟩;rw [J.fr.lang0] at hacc;refine m_local F (by exact J.m3) (m_neSame F hB lS J.l3 hacc J.i3 J.okW (wpAny_truthy_bool ?_));refine ifF rfl ?_;refine isTrue_or (wpAny_isTrue_Compare1 (Call_ (m_glob F (gl_law_refused w) (m_cw (by rfl) (args_cons (m_local F (by exact J.m2) (args_nil ⟨F.g.X, ?_⟩)))))));refine refusedF hA hst F J.l2 (wordsAre_of J.i2) givenW_abc givenW_sum (fun hy sE' s' sh F => ?_) fun hn sE' s' sh F => ?_
 ·refine Call_ (m_glob F (gl_law_ascend w) (m_cw (by rfl) (args_cons (m_local F (by exact J.m2) (args_nil ⟨F.g.X, ?_⟩)))));refine law_ascend_spec F.g hB (keepsL J.l2 F.keep) (wordsAre_of J.i2) (fun _ s2 S2 => eq_bool (wpAny_truthy_bool ?_)) fun hn => absurd hy hn;refine ifF (show (false == true) = false from rfl) ?_;refine isTrue_or_nil ?_;refine ifF rfl ?_;exact wpAny_execs_nil (h sE' b1 s2 (J.mono (J.anc.shift sh) ee) (F.grow S2))
 ·refine Call_ (m_glob F (gl_law_ascend w) (m_cw (by rfl) (args_cons (m_local F (by exact J.m2) (args_nil ⟨F.g.X, ?_⟩)))));refine law_ascend_spec F.g hB (keepsL J.l2 F.keep) (wordsAre_of J.i2) (fun hy => absurd hy hn) fun _ s2 S2 => eq_bool (wpAny_truthy_bool ?_);refine ifF (show (true == false) = false from rfl) ?_;refine isTrue_or_nil ?_;refine ifF rfl ?_;exact wpAny_execs_nil (h sE' b1 s2 (J.mono (J.anc.shift sh) ee) (F.grow S2))
end
end Mine
end
section
open PySem PySem.W PySem.Calls PyProof.Rows PySem.Spec
namespace Mine
theorem ascW_dup : ∀ {W : List (List Nat)} {u : List Nat}, W ≠ [] -> ¬ AscW u (W ++ W.drop (W.length - 1))
 | [v], u, _ => fun h => absurd h.2.1 (List.lt_irrefl v)
 | v :: x :: r, u, _ => fun h => by
  have h2 : AscW v ((x :: r) ++ (x :: r).drop ((x :: r).length - 1)) := by
   have := h.2
   simpa using this
  exact ascW_dup (by simp) h2
section
variable {w : World} {mg mb : Str -> Option Value} {L : Addr} {sE s s0 : Shared} {H : List (Addr × Obj)} {b : Heap} {m : Str -> Option Value}
variable {A0 : Around} {E : Value -> Shared -> Prop} {fa : Addr} {cd : Value} {Q : Flow -> Shared -> Prop}
theorem m_list1 {L : Addr} {sE s : Shared} {W : Addr -> Prop} {H : List (Addr × Obj)} {A : Around} {env : Env} {e : PySem.Expr} {pos : Pos} {Q : Value -> Shared -> Prop} (h : wpAny (model PP w) A (eval e env) (fun v s₁ => ∃ b m, Fx w mg mb L sE W H b s₁ m ∧ ∀ s' b' a, Fx w mg mb L sE W H b' s' m -> Kp b b' -> b'.get? a = some (listO [v] 0) -> 456 <= a -> sE.heap.get? a = none -> b.get? a = none -> Q (.ref a) s') E s)
  (he : starEach [e] env = (false, eval e env) :: starEach [] env := by rfl) :
  wpAny (model PP w) A (eval (.List [e] pos) env) Q E s := by
 refine wpAny_List (args_cons (he := he) (wpAny_mono h (fun v s₁ h₁ => ?_) ee));obtain ⟨b, m, F, hQ⟩ := h₁;exact args_nil ⟨by rw [sizeLine_eq]; show 1 <= _; exact ar21, F.allocB (Q := fun a s' => Q (.ref a) s') rfl hQ⟩
theorem law3 {ns : List Int} {aS : Addr} {vs : List Value} {aG : Addr} {gv : List Value} {aW : Addr} {wv : Array Value} {W : List (List Nat)} {c : DC} {R : RG} (hA : Rm A0 61) (hst : A0.frames = some []) (J : LJ2 w L s0 sE b m ns aS vs aG gv aW wv W c R) (F : Fx w mg mb L sE W0 H b s m) (hH : ∀ p ∈ H, Hid p.2)
  (h : ∀ sE' b' s', LJ2 w L s0 sE' b' m ns aS vs aG gv aW wv W c R -> Fx w mg mb L sE' W0 H b' s' m -> wpAny (model PP w) (A0.deeper (lawEnv L fa cd)) (execs (lawBody.drop 5) (lawEnv L fa cd)) Q E s') :
  wpAny (model PP w) (A0.deeper (lawEnv L fa cd)) (execs (lawBody.drop 4) (lawEnv L fa cd)) Q E s := by
 have hB : Rm (A0.deeper (lawEnv L fa cd)) 60 := hA.deeper _;have hwn : wv.toList.length = W.length := by rw [J.i3.length, List.length_map]
 have hw9 := J.ws.n;have hsum := J.abc;have hsum' := sum_le J.ws.len;refine wpAny_execs_cons (wpAny_If (isTrue_or (isTrue_not (isTrue_plain (Call_ (m_glob F (gl_law_refused w) (m_cw (by rfl) ?_))) (by rfl)))));refine args_cons (wpAny_BinOp (m_list1 (m_cstr F fun s t F _ => ⟨b, m, F, fun s b1 a1 F k1 e1 lo1 sn1 bn1 => m_local F (by exact J.m3) (m_addL (vs := [.str _ t]) (ws := wv.toList) F ⟨_, e1, rfl, _, rfl⟩ (by simpa using keepsL J.l3 k1) (fun s b2 a2 F k2 e2 lo2 sn2 bn2 => args_nil ⟨F.g.X, ?_⟩) (by rw [hwn, sizeLine_eq]; show 1 + _ <= _; exact Nat.le_trans (Nat.add_le_add_left hw9 1) (by decide)))⟩)));have J1 := J.mono J.anc fun a o e => k2 a o (k1 a o e);have l2 : b2.IsList a2 ([Value.str "" t] ++ wv.toList).toArray := ⟨_, e2, rfl, _, rfl⟩;have i2 : StrsAre ([Value.str "" t] ++ wv.toList).toArray.toList ((([] : List Nat) :: W).map mkS) := .cons _ _ J.i3;refine refusedF hA hst F l2 (wordsAre_of i2) (fun wd hw => by
  rcases List.mem_cons.mp hw with rfl | hw
  ·exact fun c hc => nomatch hc
  ·exact J.ws.abc wd hw) (by rw [List.map_cons, List.sum_cons]; simpa using hsum) (fun hy => absurd hy.1 (List.lt_irrefl _)) fun _ sE1 s1 sh1 F => wpAny_truthy_bool ?_
 refine ifF (show (!true) = false from rfl) ?_;have J2 := J1.mono (J1.anc.shift sh1) ee;refine isTrue_or (isTrue_and (isTrue_not (isTrue_plain (Call_ (m_glob F (gl_law_refused w) (m_cw (by rfl) ?_))) (by rfl))));refine args_cons (wpAny_BinOp (m_local F (by exact J2.m3) (m_lslice (w := w) (mg := mg) (mb := mb) (L := L) (sE := sE1) (W := W0) (H := H) (m_local F (by exact J2.m3) ?_))));rw [evalPart_some];refine wpAny_UnaryOp (m_cint F fun s t3 F _ => neg_int ?_);rw [evalPart_none];refine wpAny_pure ⟨aW, b2, m, wv, some (-((1 : Nat) : Int)), none, rfl, .int _ _, .none, F.tok _, J2.l3, by rw [← Array.length_toList, hwn, sizeLine_eq]; exact ar9 hw9, fun s b3 a3 F k3 e3 lo3 sn3 => ?_⟩;rw [slicePick_last _ _ (Nat.le_refl _)] at e3;have J3 := J2.mono J2.anc k3;have hd : (wv.toList.drop (wv.size - 1)).length <= 9 := by rw [List.length_drop, hwn]; exact Nat.le_trans (Nat.sub_le _ _) hw9
 have l3 : b3.IsList a3 (wv.toList.drop (wv.size - 1)).toArray := ⟨_, e3, rfl, 0, rfl⟩;refine m_addL (vs := wv.toList) (ws := wv.toList.drop (wv.size - 1)) F (by simpa using J3.l3) l3 (fun s b4 a4 F k4 e4 lo4 sn4 bn4 => args_nil ⟨F.g.X, ?_⟩) (by rw [hwn, sizeLine_eq]; exact Nat.le_trans (Nat.add_le_add hw9 hd) (by decide));have J4 := J3.mono J3.anc k4;have l4 : b4.IsList a4 (wv.toList ++ wv.toList.drop (wv.size - 1)).toArray := ⟨_, e4, rfl, _, rfl⟩;have hwz : wv.size = W.length := by rw [← Array.length_toList, hwn]
 have i4 : StrsAre (wv.toList ++ wv.toList.drop (wv.size - 1)).toArray.toList ((W ++ W.drop (W.length - 1)).map mkS) := by
  have := J.i3.append' (J.i3.drop' (W.length - 1));rw [← List.map_drop, ← List.map_append] at this;rw [hwz];exact this
 have hab : ∀ wd ∈ W ++ W.drop (W.length - 1), ∀ c ∈ wd, 97 <= c ∧ c <= 99 := fun wd hw => by
  rcases List.mem_append.mp hw with hw | hw
  ·exact J.ws.abc wd hw
  ·exact J.ws.abc wd (List.mem_of_mem_drop hw)
 have hle : ∀ wd ∈ W ++ W.drop (W.length - 1), wd.length <= 4 := fun wd hw => by
  rcases List.mem_append.mp hw with hw | hw
  ·exact J.ws.len wd hw
  ·exact J.ws.len wd (List.mem_of_mem_drop hw)
 have hs4 : ((W ++ W.drop (W.length - 1)).map List.length).sum < 900 := by
  have := sum_le hle;rw [List.length_append, List.length_drop] at this;exact ar167 hw9 this
 refine refusedF hA hst F l4 (wordsAre_of i4) hab hs4 (fun hy sE4 s4 sh4 F => wpAny_truthy_bool ?_) fun _ sE4 s4 sh4 F => wpAny_truthy_bool ?_
 ·have hW0 : W = [] := by
   rcases Classical.em (W = []) with h0 | h0
   ·exact h0
   ·exact absurd hy (ascW_dup h0)
  have J5 := J4.mono (J4.anc.shift sh4) ee;refine ifT (show (!false) = true from rfl) ?_;refine isTrue_and (wpAny_isTrue_Compare1 (m_local F (by exact J5.m3) (m_list0 F fun s a5 F e5 _ _ _ _ _ => ?_)));refine m_neNil F hB J5.l3 ⟨_, e5, rfl, _, rfl⟩ J5.i3 J.okW (wpAny_truthy_bool ?_);rw [hW0, show (!((([] : List (List Nat)).map mkS).isEmpty)) = false from rfl, if_neg Bool.false_ne_true, if_neg Bool.false_ne_true];refine isTrue_or_nil ?_;refine ifF rfl ?_;exact wpAny_execs_nil (h sE4 b4 s J5 F)
 ·have J5 := J4.mono (J4.anc.shift sh4) ee;refine ifF (show (!true) = false from rfl) (ifF rfl ?_);refine isTrue_or_nil ?_;refine ifF rfl ?_;exact wpAny_execs_nil (h sE4 b4 s4 J5 F)
end
end Mine
end
section
open PySem PySem.W PySem.Calls PyProof.Rows PySem.Spec
namespace Mine
noncomputable def pre1 (wd : List Nat) (k : Nat) : List (List Nat) := (List.range k).map fun j => wd.take j
noncomputable def prefs (W : List (List Nat)) : List (List Nat) := W.flatMap fun wd => pre1 wd (wd.length + 1)
theorem pre1_succ (wd : List Nat) (k : Nat) : pre1 wd (k + 1) = pre1 wd k ++ [wd.take k] := by
 unfold pre1; rw [List.range_succ, List.map_append]; rfl
theorem prefs_take {W : List (List Nat)} {i : Nat} {wd : List Nat} (h : W[i]? = some wd) : prefs (W.take (i + 1)) = prefs (W.take i) ++ pre1 wd (wd.length + 1) := by
 unfold prefs; rw [List.take_add_one, h, List.flatMap_append]; simp
theorem mem_prefs {W : List (List Nat)} {x : List Nat} : x ∈ prefs W ↔ ∃ z, x ++ z ∈ W := by
 unfold prefs pre1;simp only [List.mem_flatMap, List.mem_map, List.mem_range]
 constructor
 ·rintro ⟨wd, hw, k, _, rfl⟩; exact ⟨wd.drop k, by rw [List.take_append_drop]; exact hw⟩
 ·rintro ⟨z, hz⟩; exact ⟨_, hz, x.length, by simp; exact Nat.lt_succ_of_le (Nat.le_add_right _ _), by simp⟩
theorem prefs_len {W : List (List Nat)} (h : ∀ x ∈ W, x.length <= 4) : (prefs W).length <= 5 * W.length := by
 induction W with
 | nil => simp [prefs]
 | cons a r ih =>
  have h1 := h a (by simp);have h2 := ih fun x hx => h x (List.mem_cons_of_mem _ hx);have : prefs (a :: r) = pre1 a (a.length + 1) ++ prefs r := rfl;rw [this, List.length_append, List.length_cons];have : (pre1 a (a.length + 1)).length = a.length + 1 := by unfold pre1; simp
  exact ar88 h1 h2 this
section
variable {w : World} {mg mb : Str -> Option Value} {L : Addr} {sE s s0 : Shared} {H : List (Addr × Obj)} {b : Heap} {m : Str -> Option Value}
variable {A0 : Around} {E : Value -> Shared -> Prop} {fa : Addr} {cd : Value} {Q : Flow -> Shared -> Prop}
theorem compStart2s {A : Around} {R : Result -> Shared -> Prop} {elt t1 i1 t2 i2 : PySem.Expr} {scope : Scope} {pos : Pos} {it acc : Value} {env : Env} {d : Nat} (hd : d < 2) (self : ∀ (Q : Value -> Shared -> Prop) (E : Value -> Shared -> Prop), Q it s -> wpAny (model PP w) A (pyIter it) Q E s)
  (h0 : codeAny (model PP w) A (.compLoop (.ListComp elt [⟨t1, i1, [], 0⟩, ⟨t2, i2, [], 0⟩] scope pos) d it acc env) R s) :
  codeAny (model PP w) A (.compStart (.ListComp elt [⟨t1, i1, [], 0⟩, ⟨t2, i2, [], 0⟩] scope pos) d it acc env) R s := compStart2 hd h0 (self _ _ h0)
theorem law4 {ns : List Int} {aS : Addr} {vs : List Value} {aG : Addr} {gv : List Value} {aW : Addr} {wv : Array Value} {W : List (List Nat)} {c : DC} {R : RG} (hA : Rm A0 61) (J : LJ2 w L s0 sE b m ns aS vs aG gv aW wv W c R) (F : Fx w mg mb L sE W0 H b s m) (hH : ∀ p ∈ H, Hid p.2)
  (h : ∀ b' s' a ks, LJ2 w L s0 sE b' (upd m "inner" (.ref a)) ns aS vs aG gv aW wv W c R -> Fx w mg mb L sE W0 H b' s' (upd m "inner" (.ref a)) -> SetX (strKind PP w) b' a ks -> sE.heap.get? a = none -> ks.length <= 45 -> (∀ x, x ∈ ks ↔ x ∈ (prefs W).map mkS) -> wpAny (model PP w) (A0.deeper (lawEnv L fa cd)) (execs (lawBody.drop 6) (lawEnv L fa cd)) Q E s') :
  wpAny (model PP w) (A0.deeper (lawEnv L fa cd)) (execs (lawBody.drop 5) (lawEnv L fa cd)) Q E s := by
 have hB : Rm (A0.deeper (lawEnv L fa cd)) 60 := hA.deeper _;have hwn : wv.toList.length = W.length := by rw [J.i3.length, List.length_map]
 have hwz : wv.size = W.length := by rw [← Array.length_toList, hwn]
 have hw9 := J.ws.n;refine wpAny_execs_cons (wpAny_Assign_Name (Call_ (m_bi F (ng_set w) boot_set (m_ct (args_cons ?_)))));refine m_ListComp2 (w := w) (mg := mg) (mb := mb) (L := L) (sE := sE) (W := W0) (H := H) (m := m) hB.hh (fun i ys => StrsAre ys ((prefs (W.take i)).map mkS)) .nil (by rfl) (by decide) rfl (by decide) (by rfl) (by rfl) ?_;refine m_local F (by exact J.m3) (wpAny_pyIter_list (keepsL J.l3 F.keep) ?_);have F1 := F.push (o := { cls := .type "list_iterator", data := .fields #[.ref aW, .int 0 0] }) rfl;have hIH : ∀ p ∈ H, p.1 ≠ s.heap.objs.size := fun p hp q => absurd (Heap.lt_size (F.hid p hp).1) (by rw [q]; exact Nat.lt_irrefl _);generalize s.heap.objs.size = I at F1 hIH ⊢;refine ⟨I, _, b, _, _, _, _, rfl, F1, hIH, csrc_list (items := wv) (by rw [hwz, sizeLine_eq]; exact ar9 hw9), J.l3, ?_, ?_⟩
 ·rintro i val s C D oI oC mC k ys E' hlt hv hj hn hmC ap F
  obtain ⟨x, tz, hz, rfl⟩ := strsAre_get J.i3 (by simpa using hv);obtain ⟨wd, hwd, rfl⟩ : ∃ wd, W[i]? = some wd ∧ mkS wd = x := by
   rw [List.getElem?_map] at hz;cases e : W[i]? with
   | none => rw [e] at hz; cases hz
   | some wd => rw [e] at hz; exact ⟨wd, rfl, Option.some.inj hz⟩
  have hwm := List.mem_of_getElem? hwd;have hl4 := J.ws.len wd hwm;refine Call_ (m_bi F (ng_range w) boot_range (m_ct ?_));refine args_cons (wpAny_BinOp (Call_ (m_bi F (ng_len w) boot_len (m_cwb ?_))));refine args_cons (m_nameC (C := C) F ⟨oC, by simp, hn⟩ hmC (args_nil (m_lenS F (ar34 hl4) fun s t1 F _ => m_cint F fun s t2 F _ => m_add F fun s t3 F _ => args_nil (call_range_1 ?_))));have F2 := F.grow (s' := { s with heap := s.heap.push { cls := .type "range", data := .fields #[.int 0 s.toks, .int ((wd.length : Int) + 1) t3, .int 1 (s.toks + 1)] }, toks := s.toks + 1 + 1 }) (.of fun _ _ e => Heap.get?_push_of_some _ e);have hs : Builtin.Range.rangeSize 0 ((wd.length : Int) + 1) 1 = ((wd.length + 1 : Nat) : Int) := by unfold Builtin.Range.rangeSize; simp <;> lia
  refine wpAny_pyIter_range (a := 0) (b := (wd.length : Int) + 1) (c := 1) (t := s.toks) (u := t3) (v := s.toks + 1) (Heap.get?_push_size _ rfl) (by unfold Builtin.Range.small; rw [hs]; simp [Builtin.Range.rangeFitsLong]; exact ar261 hl4) ?_;rw [hs];have F3 := F2.push (o := { cls := .type "range_iterator", data := .fields #[rawInt 0, rawInt ((wd.length + 1 : Nat) : Int), rawInt 1] }) rfl;intro R' hR';have neI : ∀ p ∈ (I, oI) :: (C, oC) :: (D, listO ys k) :: H, p.1 ≠ (s.heap.push { cls := .type "range", data := .fields #[.int 0 s.toks, .int ((wd.length : Int) + 1) t3, .int 1 (s.toks + 1)] }).objs.size := fun p hp q => absurd (Heap.lt_size (F2.hid p hp).1) (by rw [q]; exact Nat.lt_irrefl _);have hpl := prefs_len (W := W.take i) fun x hx => J.ws.len x (List.mem_of_mem_take hx);have hti : (W.take i).length <= 9 := by rw [List.length_take]; lia
  generalize hI2 : (s.heap.push { cls := .type "range", data := .fields #[.int 0 s.toks, .int ((wd.length : Int) + 1) t3, .int 1 (s.toks + 1)] }).objs.size = I2 at F3 neI ⊢;refine compStart2s (by decide) (fun Q E hq => wpAny_pyIter_rangeiter (x := 0) (left := ((wd.length + 1 : Nat) : Int)) (step := 1) (F3.hid _ List.mem_cons_self).1 hq) ?_;refine comp_in (x := "word") (xval := .str (mkS wd) tz) (Iter.range (n := wd.length + 1)) hB.hh (fun j ys => j <= wd.length + 1 ∧ StrsAre ys ((prefs (W.take i) ++ pre1 wd j).map mkS)) (fun j ys hj => ?_) trivial F3 ap ⟨(neI (I, oI) (by simp)).symm, (neI (C, oC) (by simp)).symm, (neI (D, listO ys k) (by simp)).symm, fun p hp => neI p (List.mem_cons_of_mem _ (List.mem_cons_of_mem _ (List.mem_cons_of_mem _ hp)))⟩ ?_ hn hmC (by decide) ⟨Nat.zero_le _, by simpa [pre1] using hj⟩ ?_ ?_
  ·rw [hj.2.length, List.length_map, List.length_append, sizeLine_eq];unfold pre1;rw [List.length_map, List.length_range]
   lia
  ·simp
  ·rintro j val s o2 oC oD mC ys E' hlt ⟨tj, rfl⟩ ⟨hj1, hj⟩ hn hmw hmk F
   refine m_to (p := ((j : Nat) : Int)) (y := wd.take j) (sl_to (ar57 hlt)) (by rw [List.length_take, sizeLine_eq]; lia) (m_nameC (C := C) F ⟨oC, by simp, hn⟩ hmw ⟨_, rfl, m_nameC (C := C) F ⟨oC, by simp, hn⟩ hmk ⟨_, b, m, rfl, F, fun s t F => ⟨F, (hlt), ?_⟩⟩⟩);rw [pre1_succ, ← List.append_assoc, List.map_append];exact strsAre_snoc hj _ _
  ·rintro s oC mC k ys ⟨_, hj⟩ hn F
   exact hR' s oC mC k ys (by rw [prefs_take hwd]; exact hj) hn F
 ·intro s b2 D k ys hj F k2 eD loD snD bnD;rw [hwz, List.take_of_length_le (Nat.le_refl _)] at hj;have lD : b2.IsList D ys.toArray := ⟨_, eD, rfl, _, rfl⟩;have hyn : ys.length = (prefs W).length := by rw [hj.length, List.length_map]
  have hpl := prefs_len J.ws.len;refine args_nil (call_set_list (knd := strKind PP w) (key := fun i => mkS ((prefs W).getD i [])) hB.hh (keepsL lD F.keep) (fun i v hv => ?_) (by rw [List.size_toArray, hyn]; show _ < 4096; exact Nat.lt_of_le_of_lt (Nat.succ_le_succ (Nat.le_trans hpl (Nat.mul_le_mul_left 5 hw9))) (by decide)) fun s' S X => ?_)
  ·obtain ⟨x, t, hx, rfl⟩ := strsAre_get hj (by simpa using hv);refine ⟨?_, rfl⟩;rw [List.getElem?_map] at hx;cases hg : (prefs W)[i]? with
   | none => rw [hg] at hx; cases hx
   | some z =>
    rw [hg] at hx;have : mkS z = x := Option.some.inj hx
    show (x == mkS ((prefs W).getD i [])) = true;rw [List.getD_eq_getElem?_getD, hg, ← this];simp
  ·have hln := addN_len [] (fun i => mkS ((prefs W).getD i [])) ys.toArray.size;have hysz : ys.toArray.size = (prefs W).length := by rw [List.size_toArray, hyn]
   rw [hysz] at hln X;simp only [List.length_nil] at hln;have hn1 := F.none_of (Nat.le_refl s.heap.objs.size);have F := F.grow S;refine (F.rebase) _ fun b3 F k3 kn3 => ?_;have X3 : SetX (strKind PP w) b3 s.heap.objs.size (addN [] (fun i => mkS ((prefs W).getD i [])) (prefs W).length) := X.keep fun o e => kn3 _ _ hn1.2.1 e;have sn := hn1.2.2.1;generalize s.heap.objs.size = a at X3 sn ⊢;refine m_store F fun s F => ?_;refine h b3 s a _ (J.mono J.anc fun z o e => k3 z o (k2 z o e)) F X3 sn (ar107 hw9 hpl hln) fun x => ?_;rw [mem_addN, List.mem_map]
   constructor
   ·rintro (h0 | ⟨j, hj, rfl⟩)
    ·cases h0
    ·refine ⟨(prefs W).getD j [], ?_, rfl⟩;rw [List.getD_eq_getElem?_getD, List.getElem?_eq_getElem hj];exact List.getElem_mem hj
   ·rintro ⟨z, hz, rfl⟩
    obtain ⟨j, hj⟩ := List.getElem?_of_mem hz;exact .inr ⟨j, (List.getElem?_eq_some_iff.mp hj).1, by rw [List.getD_eq_getElem?_getD, hj]; rfl⟩
end
end Mine
end
section
open PySem PySem.W PySem.Calls PyProof.Rows PySem.Spec
namespace Mine
noncomputable abbrev knK (w : World) : HeapKind PP w (List Str) := tupleKind (strKind PP w)
section
variable {w : World} {mg mb : Str -> Option Value} {L : Addr} {sE s s0 : Shared} {H : List (Addr × Obj)} {b : Heap} {m : Str -> Option Value}
variable {A0 : Around} {E : Value -> Shared -> Prop} {fa : Addr} {cd : Value} {Q : Flow -> Shared -> Prop}
structure LJ3 (w : World) (L : Addr) (s0 sE : Shared) (b : Heap) (m : Str -> Option Value) (ns : List Int) (aS : Addr) (vs : List Value) (aG : Addr) (gv : List Value) (aW : Addr) (wv : Array Value) (W : List (List Nat)) (c : DC) (R : RG)
  (aI : Addr) (ks : List Str) (kn : Addr) (xs : List (List Str × Addr × Value)) (aT : Addr) (sv : List Value) (kT : Nat) (qs : List Int) : Prop extends LJ2 w L s0 sE b m ns aS vs aG gv aW wv W c R where
 m5 : m "inner" = some (.ref aI)
 X : SetX (strKind PP w) b aI ks
 hks : ∀ x, x ∈ ks ↔ x ∈ (prefs W).map mkS
 m6 : m "known" = some (.ref kn)
 K : b.DictOfH (knK w) kn xs
 k0 : s0.heap.get? kn = none
 klo : 456 <= kn
 m7 : m "states" = some (.ref aT)
 T : b.get? aT = some (listO sv kT)
 t0 : s0.heap.get? aT = none
 tlo : 456 <= aT
 pair : Paired (fun q (x : List Str × Addr × Value) => x.1 = (lang R q).map mkS ∧ ∃ t, x.2.2 = .int q t) qs xs
 iq : IntsAre sv qs
 sub : ∀ q ∈ qs, q ∈ ids R
 nd : qs.Nodup
 apart : ∀ a ∈ [aS, aG, aW, aI] ++ c.addrs, a ≠ kn ∧ a ≠ aT
 kT' : kn ≠ aT
 out : c.out = []
theorem law5 {ns : List Int} {aS : Addr} {vs : List Value} {aG : Addr} {gv : List Value} {aW : Addr} {wv : Array Value} {W : List (List Nat)} {c : DC} {R : RG} {aI : Addr} {ks : List Str} (hA : Rm A0 61) (J : LJ2 w L s0 sE b m ns aS vs aG gv aW wv W c R) (F : Fx w mg mb L sE W0 H b s m) (hH : ∀ p ∈ H, Hid p.2)
  (m5 : m "inner" = some (.ref aI)) (X : SetX (strKind PP w) b aI ks) (hlen : ks.length <= 45) (hks : ∀ x, x ∈ ks ↔ x ∈ (prefs W).map mkS) (hout : c.out = [])
  (h : ∀ b' s' m' aB bv ss kn aT kT, LJ3 w L s0 sE b' m' ns aS vs aG gv aW wv W c R aI ks kn [] aT [] kT [] -> aB ≠ aT -> aB ≠ kn -> m' "begins" = some (.ref aB) -> b'.IsList aB bv -> StrsAre bv.toList ss -> (∀ x, x ∈ ss ↔ x ∈ (prefs W).map mkS) -> ss.length <= 45 -> Fx w mg mb L sE W0 H b' s' m' -> wpAny (model PP w) (A0.deeper (lawEnv L fa cd)) (execs (lawBody.drop 9) (lawEnv L fa cd)) Q E s') :
  wpAny (model PP w) (A0.deeper (lawEnv L fa cd)) (execs (lawBody.drop 6) (lawEnv L fa cd)) Q E s := by
 have hB : Rm (A0.deeper (lawEnv L fa cd)) 60 := hA.deeper _;refine wpAny_execs_cons (wpAny_Assign_Name (Call_ (m_bi F (ng_sorted w) boot_sorted (m_cwb (args_cons (m_local F (by exact m5) (args_nil ?_)))))));refine sorted_set_str hB.hh (X.keep fun o e => F.keep _ _ e) (ar69 hlen) fun s2 aB bv ss S2 lB hBs i3 hp hs => ?_;have hBn := F.none_of hBs;have F := F.grow S2;refine (F.rebase) _ fun b1 F k1 kn1 => ?_;have lB1 : b1.IsList aB bv := movL lB fun o e => kn1 _ _ hBn.2.1 e;refine m_store F fun s F => ?_;show wpAny _ _ (execs _ _) _ _ _;have hF1 := F;refine wpAny_execs_cons (wpAny_Assign_Name (m_dict0 F fun s kn F ek bk hkn lok snk _ => ?_));refine (F.rebase) _ fun b2 F k2 kn2 => ?_;have ek2 := kn2 _ _ hkn ek;refine m_store F fun s F => ?_;show wpAny _ _ (execs _ _) _ _ _;have hF2 := F;refine wpAny_execs_cons (wpAny_Assign_Name (m_list0 F fun s aT F eT bT hT lT snT _ => ?_));refine (F.rebase) _ fun b3 F k3 kn3 => ?_;have eT3 := kn3 _ _ hT eT;refine m_store F fun s F => ?_;have kk : Kp b b3 := fun a o e => k3 _ _ (k2 _ _ (k1 _ _ e));have z0 : ∀ {a : Addr} {s : Shared}, s.heap.get? a = none -> (∀ a o, sE.heap.get? a = some o -> ∃ o', s.heap.get? a = some o') -> s0.heap.get? a = none := fun {a s} e hh => by
  cases q : s0.heap.get? a with
  | none => rfl
  | some o => obtain ⟨o', e'⟩ := hh a o ((J.anc.heap a).trans q); rw [e] at e'; cases e'
 have ex : ∀ a ∈ [aS, aG, aW, aI] ++ c.addrs, ∃ o, b.get? a = some o := fun a ha => by
  rcases List.mem_append.mp ha with ha | ha
  ·simp only [List.mem_cons, List.not_mem_nil, or_false] at ha;rcases ha with rfl | rfl | rfl | rfl
   ·obtain ⟨o, e, _⟩ := J.l1; exact ⟨o, e⟩
   ·obtain ⟨o, e, _⟩ := J.l2; exact ⟨o, e⟩
   ·obtain ⟨o, e, _⟩ := J.l3; exact ⟨o, e⟩
   ·obtain ⟨o, es, ep, t, e, _⟩ := X; exact ⟨o, e⟩
  ·exact (J.D.there a ha).ex
 have ap : ∀ a ∈ [aS, aG, aW, aI] ++ c.addrs, a ≠ kn ∧ a ≠ aT := fun a ha => by
  obtain ⟨o, e⟩ := ex a ha;refine ⟨fun q => ?_, fun q => ?_⟩
  ·have := k1 _ _ e; rw [q, bk] at this; cases this
  ·have := k2 _ _ (k1 _ _ e); rw [q, bT] at this; cases this
 have apB : aB ≠ aT ∧ aB ≠ kn := by
  obtain ⟨o, e, _⟩ := lB1;refine ⟨fun q => ?_, fun q => ?_⟩
  ·have := k2 _ _ e; rw [q, bT] at this; cases this
  ·rw [q, bk] at e; cases e
 have apK : kn ≠ aT := fun q => by rw [q, bT] at ek2; cases ek2
 refine h b3 s _ aB bv ss kn aT 0 ⟨J.mono J.anc kk, by exact m5, X.keep fun o e => kk _ _ e, hks, by rfl, ⟨_, #[], 0, k3 _ _ ek2, ⟨rfl, rfl, rfl⟩, rfl, rfl, (fun _ hx => nomatch hx), List.nodup_nil⟩, z0 snk fun a o e => hF1.tot.live a o e, lok, by rfl, eT3, z0 snT fun a o e => hF2.tot.live a o e, lT, .nil, .nil, (fun _ hq => nomatch hq), List.nodup_nil, ap, apK, hout⟩ apB.1 apB.2 (by rfl) (keepsL (keepsL lB1 k2) k3) i3 (fun x => (hp.mem_iff).trans (hks x)) (by rw [hp.length_eq]; exact hlen) F
end
end Mine
end
section
open PySem PySem.W PySem.Calls PyProof.Rows PySem.Spec
namespace Mine
theorem sl_any {x : List Nat} {p : Nat} : PySem.StrLaws.sliceText (mkS x) none (some (p : Int)) = mkS (x.take p) := by
 by_cases h : p <= x.length
 ·exact sl_to h
 ·have e : PySem.StrLaws.sliceText (mkS x) none (some (p : Int)) = PySem.StrLaws.sliceText (mkS x) none (some (x.length : Int)) := by
   have hl : (mkS x).length = x.length := mkS_len x;have a1 : min (p : Int) (x.length : Int) = x.length := by lia
   have a2 : ¬ ((p : Int) < 0) := ar8;have a3 : ¬ ((x.length : Int) < 0) := ar8;unfold PySem.StrLaws.sliceText;have : PySem.Builtin.Str.strSliceIndices none (some (p : Int)) 1 (mkS x).length = PySem.Builtin.Str.strSliceIndices none (some (x.length : Int)) 1 (mkS x).length := by
    rw [hl];simp [PySem.Builtin.Str.strSliceIndices, a1, a2, a3]
   rw [this]
  rw [e, sl_to (Nat.le_refl _), List.take_of_length_le (Nat.le_refl _), List.take_of_length_le (ar49 h)]
noncomputable def lawFor : List Stmt := match lawBody.drop 9 with | .For _ _ b .. :: _ => b | _ => []
noncomputable def endsF (bg : List Nat) (W : List (List Nat)) : List (List Nat) := W.filterMap fun x => if x.take bg.length = bg then some (x.drop bg.length) else none
theorem itemsAre_str {w : World} {vs : List Value} {ss : List Str} (h : StrsAre vs ss) : ItemsAre (strKind PP w) ss vs := by
 induction h with
 | nil => exact .nil
 | cons y t r ih => exact .cons (by show (y == y) = true; simp) ih
section
variable {w : World} {mg mb : Str -> Option Value} {L : Addr} {sE s s0 : Shared} {H : List (Addr × Obj)} {b : Heap} {m : Str -> Option Value}
variable {A0 : Around} {E : Value -> Shared -> Prop} {fa : Addr} {cd : Value} {Q : Flow -> Shared -> Prop}
theorem for1 {ns : List Int} {aS : Addr} {vs : List Value} {aG : Addr} {gv : List Value} {aW : Addr} {wv : Array Value} {W : List (List Nat)} {bg : List Nat} {tb : Tok} {oK : Obj} (hA : Rm A0 61) (J : LJ1 w L s0 sE b m ns aS vs aG gv aW wv W) (F : Fx w mg mb L sE W0 H b s m)
  (hK : (L + 1, oK) ∈ H) (hd : oK.data = .cell (some (.str (mkS bg) tb))) (hbg : bg.length <= 4)
  (h : ∀ b' s' aE ev, Fx w mg mb L sE W0 H b' s' (upd m "ends" (.ref aE)) -> Kp b b' -> b'.get? aE = some { cls := .type "tuple", data := .seq ev } -> StrsAre ev.toList ((endsF bg W).map mkS) -> wpAny (model PP w) (A0.deeper (lawEnv L fa cd)) (execs (lawFor.drop 1) (lawEnv L fa cd)) Q E s') :
  wpAny (model PP w) (A0.deeper (lawEnv L fa cd)) (execs lawFor (lawEnv L fa cd)) Q E s := by
 have hB : Rm (A0.deeper (lawEnv L fa cd)) 60 := hA.deeper _;have hwn : wv.toList.length = W.length := by rw [J.i3.length, List.length_map]
 have hwz : wv.size = W.length := by rw [← Array.length_toList, hwn]
 have hw9 := J.ws.n;refine wpAny_execs_cons (wpAny_Assign_Name (Call_ (m_bi F (ng_tuple w) boot_tuple (m_ct (args_cons ?_)))));refine m_ListComp (w := w) (mg := mg) (mb := mb) (L := L) (sE := sE) (W := W0) (H := H) (m := m) (cl := [("begin", L + 1)]) hB.hh (fun i ys => StrsAre ys ((endsF bg (W.take i)).map mkS)) .nil (by rfl) (by decide) rfl (by decide) (by rfl) ?_;refine m_local F (by exact J.m3) (wpAny_pyIter_list (keepsL J.l3 F.keep) ?_);have F1 := F.push (o := { cls := .type "list_iterator", data := .fields #[.ref aW, .int 0 0] }) rfl;have hIH : ∀ p ∈ H, p.1 ≠ s.heap.objs.size := fun p hp q => absurd (Heap.lt_size (F.hid p hp).1) (by rw [q]; exact Nat.lt_irrefl _);generalize s.heap.objs.size = I at F1 hIH ⊢;refine ⟨I, _, b, _, _, _, _, rfl, F1, hIH, csrc_list (items := wv) (by rw [hwz, sizeLine_eq]; exact ar9 hw9), J.l3, ?_, ?_⟩
 ·rintro i val s C D oI oC oD mC ys E' hlt hv hj hn hmC F
  obtain ⟨x, tz, hz, rfl⟩ := strsAre_get J.i3 (by simpa using hv);obtain ⟨wd, hwd, rfl⟩ : ∃ wd, W[i]? = some wd ∧ mkS wd = x := by
   rw [List.getElem?_map] at hz;cases e : W[i]? with
   | none => rw [e] at hz; cases hz
   | some wd => rw [e] at hz; exact ⟨wd, rfl, Option.some.inj hz⟩
  have hl4 := J.ws.len wd (List.mem_of_getElem? hwd);have hKm : ∀ {oI oC oD : Obj} {I : Addr}, (L + 1, oK) ∈ (I, oI) :: (C, oC) :: (D, oD) :: H := fun {_ _ _ _} => List.mem_cons_of_mem _ (List.mem_cons_of_mem _ (List.mem_cons_of_mem _ hK));have hstep : endsF bg (W.take (i + 1)) = endsF bg (W.take i) ++ (if wd.take bg.length = bg then [wd.drop bg.length] else []) := by
   unfold endsF;rw [List.take_add_one, hwd, List.filterMap_append]
   congr 1
   show List.filterMap _ [wd] = _
   by_cases hq : wd.take bg.length = bg <;> simp [hq]
  refine wpAny_tests_one (wpAny_isTrue_Compare1 ?_);refine m_to (w := w) (mg := mg) (mb := mb) (L := L) (sE := sE) (W := W0) (H := (I, oI) :: (C, oC) :: (D, oD) :: H) (p := ((bg.length : Nat) : Int)) (y := wd.take bg.length) sl_any (by rw [List.length_take, sizeLine_eq]; lia) (m_nameC (C := C) F ⟨oC, by simp, hn⟩ hmC ⟨tz, rfl, ?_⟩);refine Call_ (m_bi F (ng_len w) boot_len (m_cwb (args_cons (m_nameK (K := L + 1) F ⟨oK, hKm, hd⟩ (args_nil (m_lenS F (ar34 hbg) fun s t F _ => ⟨_, b, m, rfl, F, fun s t F => ?_⟩))))));refine m_nameK (K := L + 1) F ⟨oK, hKm, hd⟩ (eq_str (wpAny_truthy_bool ?_))
  by_cases hq : wd.take bg.length = bg
  ·rw [hq, show (mkS bg == mkS bg) = true by simp, if_pos rfl];have hle : bg.length <= wd.length := by
    have := congrArg List.length hq;rw [List.length_take] at this; lia
   refine m_from (w := w) (mg := mg) (mb := mb) (L := L) (sE := sE) (W := W0) (H := (I, oI) :: (C, oC) :: (D, oD) :: H) (p := bg.length) hle (by rw [sizeLine_eq]; exact ar70 hl4) (m_nameC (C := C) F ⟨oC, by simp, hn⟩ hmC ⟨tz, rfl, ?_⟩);refine Call_ (m_bi F (ng_len w) boot_len (m_cwb (args_cons (m_nameK (K := L + 1) F ⟨oK, hKm, hd⟩ (args_nil (m_lenS F (ar34 hbg) fun s t F _ => ⟨_, b, m, rfl, F, fun s t F => ⟨F, ?_⟩⟩))))));rw [hstep, if_pos hq, List.map_append];exact strsAre_snoc hj _ _
  ·have hne : (mkS (wd.take bg.length) == mkS bg) = false := by
    rw [beq_eq_false_iff_ne];intro e;have := congrArg txt e;rw [txt_mkS, txt_mkS] at this;exact hq this
   rw [hne, if_neg Bool.false_ne_true];refine ⟨F, ?_⟩;rw [hstep, if_neg hq, List.append_nil];exact hj
 ·intro s b2 D k ys hj F k2 eD loD snD bnD;rw [hwz, List.take_of_length_le (Nat.le_refl _)] at hj;have lD : b2.IsList D ys.toArray := ⟨_, eD, rfl, _, rfl⟩;have hyn : ys.length <= 9 := by
   rw [hj.length, List.length_map];exact Nat.le_trans (List.length_filterMap_le _ _) hw9
  refine args_nil (call_tuple_list (keepsL lD F.keep) (fun h1 hk1 => ?_) (by rw [List.size_toArray, sizeLine_eq]; exact ar9 hyn));have F := F.grow (s' := { s with heap := h1 }) (.of hk1);refine F.allocB (o := { cls := .type "tuple", data := .seq ys.toArray }) (Q := fun a s' => wpAny (model PP w) (A0.deeper (lawEnv L fa cd)) (storeName (lawEnv L fa cd) "ends" (.ref a)) _ E s') rfl fun s b3 aE F k3 e3 lo3 sn3 bn3 => m_store F fun s F => ?_;exact h b3 s aE ys.toArray F (fun a o e => k3 _ _ (k2 _ _ e)) e3 hj
end
end Mine
end
section
open PySem PySem.W PySem.Calls PyProof.Rows PySem.Spec
namespace Mine
theorem mkS_inj {a c : List (List Nat)} (h : a.map mkS = c.map mkS) : a = c := by
 have := congrArg (List.map txt) h;rw [List.map_map, List.map_map] at this;have e : txt ∘ mkS = id := by funext x; exact txt_mkS x
 rwa [e, List.map_id, List.map_id] at this
section
variable {w : World} {mg mb : Str -> Option Value} {L : Addr} {sE s s0 : Shared} {H : List (Addr × Obj)} {b b' : Heap} {m m' : Str -> Option Value}
variable {A0 : Around} {E : Value -> Shared -> Prop} {fa : Addr} {cd : Value} {Q : Flow -> Shared -> Prop}
variable {ns : List Int} {aS : Addr} {vs : List Value} {aG : Addr} {gv : List Value} {aW : Addr} {wv : Array Value} {W : List (List Nat)} {c : DC} {R : RG} {aI : Addr} {ks : List Str} {kn : Addr} {xs : List (List Str × Addr × Value)} {aT : Addr} {sv : List Value} {kT : Nat} {qs : List Int}
theorem key_keep {h h' : Heap} {k : List Str} {a : Addr} (x : (knK w).is h k a) (kt : ∀ z o, o.cls = .type "tuple" -> h.get? z = some o -> h'.get? z = some o) : (knK w).is h' k a := by
 obtain ⟨o, it, n, e, hc, r⟩ := x;exact ⟨o, it, n, kt _ _ hc e, hc, r⟩
theorem kn_keep {h h' : Heap} {S : Addr} (x : h.DictOfH (knK w) S xs) (k : ∀ o, h.get? S = some o -> h'.get? S = some o) (kt : ∀ z o, o.cls = .type "tuple" -> h.get? z = some o -> h'.get? z = some o) : h'.DictOfH (knK w) S xs := by
 obtain ⟨o, es, ep, e, a, b, c, d, f⟩ := x;exact ⟨o, es, ep, k _ e, a, b, c, fun y hy => key_keep (d y hy) kt, f⟩
theorem kn_more {h h' h2 : Heap} {S : Addr} {k : List Str} {a : Addr} {v : Value} (x : h'.DictOfH (knK w) S (xs ++ [(k, a, v)])) (e : ∀ o, h'.get? S = some o -> h2.get? S = some o) (old : h.DictOfH (knK w) S xs) (ka : (knK w).is h k a)
  (kt : ∀ z o, o.cls = .type "tuple" -> h.get? z = some o -> h2.get? z = some o) : h2.DictOfH (knK w) S (xs ++ [(k, a, v)]) := by
 obtain ⟨o, es, ep, eo, a1, b1, c1, d1, f1⟩ := x;obtain ⟨_, _, _, _, _, _, _, d2, _⟩ := old;refine ⟨o, es, ep, e _ eo, a1, b1, c1, fun y hy => ?_, f1⟩;rcases List.mem_append.mp hy with hy | hy
 ·exact key_keep (d2 y hy) kt
 ·rw [List.mem_singleton] at hy; subst hy; exact key_keep ka kt
theorem LJ3.grow (J : LJ3 w L s0 sE b m ns aS vs aG gv aW wv W c R aI ks kn xs aT sv kT qs) (k : Kp b b')
  (h1 : m' "script" = m "script" := by rfl) (h2 : m' "given" = m "given" := by rfl) (h3 : m' "words" = m "words" := by rfl) (h4 : m' "machine" = m "machine" := by rfl) (h5 : m' "inner" = m "inner" := by rfl) (h6 : m' "known" = m "known" := by rfl) (h7 : m' "states" = m "states" := by rfl) :
  LJ3 w L s0 sE b' m' ns aS vs aG gv aW wv W c R aI ks kn xs aT sv kT qs :=
 ⟨J.toLJ2.mono J.anc k h1 h2 h3 h4, h5.trans J.m5, J.X.keep fun o e => k _ _ e, J.hks, h6.trans J.m6, kn_keep J.K (fun o e => k _ _ e) (fun z o _ e => k _ _ e), J.k0, J.klo, h7.trans J.m7, k _ _ J.T, J.t0, J.tlo, J.pair, J.iq, J.sub, J.nd, J.apart, J.kT', J.out⟩
theorem LJ3.more {xs' : List (List Str × Addr × Value)} {sv' : List Value} {kT' : Nat} {qs' : List Int} (J : LJ3 w L s0 sE b m ns aS vs aG gv aW wv W c R aI ks kn xs aT sv kT qs) (k : ∀ a o, a ≠ kn -> a ≠ aT -> b.get? a = some o -> b'.get? a = some o)
  (K : b'.DictOfH (knK w) kn xs') (T : b'.get? aT = some (listO sv' kT')) (pair : Paired (fun q (x : List Str × Addr × Value) => x.1 = (lang R q).map mkS ∧ ∃ t, x.2.2 = .int q t) qs' xs') (iq : IntsAre sv' qs') (sub : ∀ q ∈ qs', q ∈ ids R) (nd : qs'.Nodup) :
  LJ3 w L s0 sE b' m ns aS vs aG gv aW wv W c R aI ks kn xs' aT sv' kT' qs' := by
 have kl : ∀ a ∈ [aS, aG, aW, aI] ++ c.addrs, ∀ o, b.get? a = some o -> b'.get? a = some o := fun a ha o e => k a o (J.apart a ha).1 (J.apart a ha).2 e;have lst : ∀ {a : Addr} {it : Array Value}, a ∈ [aS, aG, aW, aI] ++ c.addrs -> b.IsList a it -> b'.IsList a it := fun ha x => movL x fun o e => kl _ ha o e;exact ⟨⟨⟨J.anc, J.m1, lst (by simp) J.l1, J.i1, J.len, J.m2, lst (by simp) J.l2, J.i2, J.m3, lst (by simp) J.l3, J.i3, J.ws⟩, J.m4, J.D.other J.out (fun a ha o e => kl a (List.mem_append_right _ ha) o e), J.rows, J.fin, J.fr, J.ol⟩, J.m5, J.X.keep fun o e => kl aI (by simp) o e, J.hks, J.m6, K, J.k0, J.klo, J.m7, T, J.t0, J.tlo, pair, iq, sub, nd, J.apart, J.kT', J.out⟩
theorem known_at {k : List Str} {d : Int} (inj : ∀ i ∈ ids R, ∀ j ∈ ids R, lang R i = lang R j -> i = j) (hk : k = (lang R d).map mkS) (hd : d ∈ ids R) {qs : List Int} {xs : List (List Str × Addr × Value)} (pr : Paired (fun q (x : List Str × Addr × Value) => x.1 = (lang R q).map mkS ∧ ∃ t, x.2.2 = .int q t) qs xs) : (∀ q ∈ qs, q ∈ ids R) ->
  (atKey xs k = none -> d ∉ qs) ∧ ∀ p, atKey xs k = some p -> d ∈ qs ∧ ∃ t, p.2 = .int d t := by
 induction pr with
 | nil => exact fun _ => ⟨(fun _ => by simp), (fun p h => by cases h)⟩
 | @cons q x qs xs hqx r ih =>
  intro hs;obtain ⟨h1, t, h2⟩ := hqx;obtain ⟨i1, i2⟩ := ih fun q hq => hs q (List.mem_cons_of_mem _ hq);have e : atKey (x :: xs) k = if x.1 = k then some x.2 else atKey xs k := by
   unfold atKey;rw [List.find?_cons]
   by_cases hq : x.1 = k <;> simp [hq]
  rw [e]
  by_cases hq : x.1 = k
  ·rw [if_pos hq];have hqd : q = d := inj q (hs q (by simp)) d hd (mkS_inj (by rw [← h1, ← hk]; exact hq));refine ⟨(fun h => by cases h), fun p hp => ?_⟩;cases hp;exact ⟨by simp [hqd], t, by rw [h2, hqd]⟩
  ·rw [if_neg hq];refine ⟨fun h => ?_, fun p hp => ?_⟩
   ·intro hm;rcases List.mem_cons.mp hm with rfl | hm
    ·exact hq (h1.trans hk.symm)
    ·exact i1 h hm
   ·exact ⟨List.mem_cons_of_mem _ (i2 p hp).1, (i2 p hp).2⟩
theorem ends_endsF (s : List Nat) (W : List (List Nat)) : ends s W = endsF s W := ends_eq s W
theorem intsAre_snoc {vs : List Value} {ss : List Int} (h : IntsAre vs ss) (x : Int) (t : Tok) : IntsAre (vs ++ [Value.int x t]) (ss ++ [x]) := by
 induction h with
 | nil => exact .cons x t .nil
 | cons y t' r ih => exact .cons y t' ih
theorem intsAre_len {vs : List Value} {ss : List Int} (h : IntsAre vs ss) : vs.length = ss.length := h.length
theorem gm_dgetH {A : Around} {pl : Sem Bool} {d : Addr} {Q : Value × List Value -> Shared -> Prop} (hd : s.heap.DictOfH (knK w) d xs) (h : Q (.builtin "dict.get", [.ref d]) s) :
  wpAny (model PP w) A (getMethod (.ref d) "get" pl) Q E s := getMethod_builtin hd.typeIs PySem.F.plainAttrs_dict PySem.F.slot_dict_get PySem.F.type_dict_get (dictOfH_noDict hd) h
theorem for2 {bg : List Nat} {tb : Tok} {oK : Obj} {d : Int} {aE : Addr} {ev : Array Value} (hA : Rm A0 61) (J : LJ3 w L s0 sE b m ns aS vs aG gv aW wv W c R aI ks kn xs aT sv kT qs) (F : Fx w mg mb L sE W0 H b s m)
  (hK : (L + 1, oK) ∈ H) (hd : oK.data = .cell (some (.str (mkS bg) tb))) (hrun : runR R 0 bg = some d) (hbg : ∀ c ∈ bg, c < 128) (hS : FinS W R) (hRn : (ids R).length <= 1000)
  (m8 : m "ends" = some (.ref aE)) (e8 : b.get? aE = some { cls := .type "tuple", data := .seq ev }) (i8 : StrsAre ev.toList ((endsF bg W).map mkS))
  (h : ∀ b' s' m' xs' sv' kT' qs' td, LJ3 w L s0 sE b' m' ns aS vs aG gv aW wv W c R aI ks kn xs' aT sv' kT' qs' -> Fx w mg mb L sE W0 H b' s' m' -> m' "state" = some (.int d td) -> (∀ q ∈ qs, q ∈ qs') -> d ∈ qs' -> (∀ a o, a ≠ kn -> a ≠ aT -> b.get? a = some o -> b'.get? a = some o) -> wpAny (model PP w) (A0.deeper (lawEnv L fa cd)) (execs (lawFor.drop 4) (lawEnv L fa cd)) Q E s') :
  wpAny (model PP w) (A0.deeper (lawEnv L fa cd)) (execs (lawFor.drop 1) (lawEnv L fa cd)) Q E s := by
 have hB : Rm (A0.deeper (lawEnv L fa cd)) 60 := hA.deeper _;obtain ⟨hdi, hlang⟩ := hS.run bg d hrun;rw [ends_endsF] at hlang;have hall : (mkS bg).cps.all (· < 128) = true := by
  rw [← Array.all_toList];exact List.all_eq_true.mpr fun c hc => by simpa using hbg c (by simpa [mkS] using hc)
 refine wpAny_execs_cons (wpAny_Assign_Name (Call_ (m_glob F (gl_law_state w) (m_cw (by rfl) (args_cons (m_local F (by exact J.m4) (args_cons (m_nameK (K := L + 1) F ⟨oK, hK, hd⟩ (args_nil ⟨F.g.X, ?_⟩)))))))));refine law_state_spec (q := d) F.g hB (J.D.keeps F.keep) hall (by rw [DC.run_eq J.rows J.fr.wf, mkS_cps]; exact hrun) fun s2 td S2 => m_store (F.grow S2) fun s F => ?_;show wpAny _ _ (execs _ _) _ _ _;have hlf : ∀ x, x ∈ endsF bg W ↔ x ∈ lang R d := fun x => by rw [hlang]
 have hu : (knK w).room (Around.in1 (A0.deeper (lawEnv L fa cd))) := by
  have := hB.un
  show (A0.deeper (lawEnv L fa cd)).units + 1 < cLine;exact Nat.lt_of_le_of_lt (Nat.add_le_add_left (by decide) _) this
 have ikey : ∀ {h : Heap}, (Kp b h) -> (knK w).is h ((lang R d).map mkS) aE := fun k => ⟨_, _, _, k _ _ e8, rfl, rfl, by rw [hlang]; exact itemsAre_str i8⟩;have KN : ∀ {s : Shared} {m : Str -> Option Value}, Fx w mg mb L sE W0 H b s m -> s.heap.DictOfH (knK w) kn xs := fun F => kn_keep J.K (fun o e => F.keep _ _ e) fun z o _ e => F.keep _ _ e;have hat := known_at hS.inj rfl hdi J.pair J.sub;have hget : ∃ t, ((atKey xs ((lang R d).map mkS)).map (·.2)).getD (.int d td) = .int d t := by
  cases hq : atKey xs ((lang R d).map mkS) with
  | none => exact ⟨td, rfl⟩
  | some p => exact (hat.2 p hq).2
 obtain ⟨tg, hget⟩ := hget;refine wpAny_execs_cons (wpAny_If (isTrue_or (wpAny_isTrue_Compare1 (MethodCall_ (m_local F (by exact J.m6) (gm_dgetH (KN F) (m_cwb ?_)))))));refine args_cons (m_local F (by exact m8) (args_cons (m_local F (by rfl) (args_nil ?_))));refine call_meetsIn PySem.F.slot_dict_get (KN F).typeIs PySem.F.entry_dict_get (PySem.F.args_dict_get_3 _ _ _) (meetsH_dict_get_default (knK w) kn aE (sysM J.klo) _) ⟨hu, _, xs, ikey F.keep, KN F, ?_⟩;rw [hget];have F := F.tok (s.toks + (knK w).draws ((lang R d).map mkS));refine m_local F (by rfl) (ne_int (wpAny_truthy_bool ?_));refine ifF (show (d != d) = false by simp) ?_;refine isTrue_or (wpAny_isTrue_Compare1 (MethodCall_ (m_local F (by exact J.m4) (o_meth F (mt_is_final w) J.D.obj (m_cw (by rfl) (args_cons (m_local F (by rfl) (args_nil ⟨F.g.X, ?_⟩))))))));refine is_final_spec (q := some d) F.g hB (J.D.keeps F.keep) (oi_int w d td) fun s6 S6 => ?_;have F := F.grow S6;refine wpAny_Compare1 (m_cstr F fun s t F _ => m_local F (by exact m8) (in_tuple_strs ⟨_, F.keep _ _ e8, rfl, _, rfl⟩ i8 (ne_bool (wpAny_truthy_bool ?_))));have hfin : (c.finO (some d) != ((endsF bg W).map mkS).any (· == "")) = false := by
  have h1 : c.finO (some d) = finOf R d := by show c.fin d = _; rw [J.fin]
  have h2 := hS.fin d hdi;rw [← hlang, h1];cases hf : finOf R d with
  | true =>
   have := h2.mp hf;have hany : ((lang R d).map mkS).any (· == "") = true := List.any_eq_true.mpr ⟨mkS [], List.mem_map.mpr ⟨[], this, rfl⟩, by decide⟩;rw [hany]; rfl
  | false =>
   have hany : ((lang R d).map mkS).any (· == "") = false := by
    rw [List.any_eq_false];intro x hx hq;obtain ⟨y, hy, rfl⟩ := List.mem_map.mp hx;have e1 : mkS y = "" := by simpa using hq
    have e2 : y = [] := by rw [← txt_mkS y, e1]; rfl
    rw [e2] at hy;have := h2.mpr hy;rw [hf] at this; cases this
   rw [hany]; rfl
 rw [hfin, if_neg Bool.false_ne_true];refine isTrue_or_nil ?_;refine ifF rfl ?_;refine wpAny_execs_nil (wpAny_execs_cons (wpAny_If (wpAny_isTrue_Compare1 (m_local F (by exact m8) (m_local F (by exact J.m6) (wpAny_notIn_heap (knd := knK w) hu (ikey F.keep) (sysM J.klo) (KN F) (wpAny_truthy_bool ?_)))))));have F := F.tok (s.toks + (knK w).draws ((lang R d).map mkS));cases hq : atKey xs ((lang R d).map mkS) with
 | some p =>
  refine ifF (show (!(some p : Option (Addr × Value)).isSome) = false from rfl) ?_;exact wpAny_execs_nil (h b _ _ xs sv kT qs td (J.grow ee) F (by rfl) (fun q hq => hq) (hat.2 p hq).1 fun a o _ _ e => e)
 | none =>
  refine ifT (show (!(none : Option (Addr × Value)).isSome) = true from rfl) ?_;have hdn := hat.1 hq;have hxl : xs.length <= 1000 := by
   have h1 : qs.length = xs.length := J.pair.length;have h2 := sub_len J.nd J.sub;exact ar108 hRn h1 h2
  refine wpAny_execs_cons (wpAny_Assign_Subscript (m_local F (by rfl) (m_local F (by exact J.m6) (m_local F (by exact m8) (wpAny_setItem_heap (knd := knK w) hu (ikey F.keep) (KN F) (fun h' hm' hs' => ?_) (by rw [sizeLine_eq]; exact ar19 hxl))))));rw [storedH_new hq] at hm';refine (dobH hm') _ fun oK2 eK2 _ => ?_;refine (dobH J.K) _ fun oK0 eK0 hex0 => ?_;have hnH := F.neH eK0;refine (F.one (W := W0) hs' ⟨_, eK2⟩ J.klo (F.neH eK0) (fun o e => by rw [J.anc.heap, J.k0] at e; cases e) (t := s.toks + (knK w).draws ((lang R d).map mkS) + (knK w).draws ((lang R d).map mkS)) (d := s.drawn)) _ fun b2 F k2 kn2 => ?_;have eT2 := k2 _ _ (Ne.symm J.kT') J.T;have kt2 : ∀ z o, o.cls = .type "tuple" -> b.get? z = some o -> b2.get? z = some o := fun z o hc e => k2 _ _ (fun q => by rw [q, eK0] at e; cases e; rw [hex0.1] at hc; exact absurd hc (by simp)) e;have K2 : b2.DictOfH (knK w) kn (xs ++ [((lang R d).map mkS, aE, .int d td)]) := kn_more hm' (fun o e => kn2 _ _ hnH e) J.K (ikey ee) kt2;refine wpAny_execs_cons (wpAny_Expr (MethodCall_ (m_local F (by exact J.m7) (gm_list (F.keep _ _ eT2) PySem.F.slot_list_append PySem.F.type_list_append (m_cwb ?_)))) (by rfl) (by rfl));refine args_cons (m_local F (by rfl) (args_nil ?_));refine m_append F eT2 J.tlo (fun o e => by rw [J.anc.heap, J.t0] at e; cases e) (by rw [intsAre_len J.iq, J.pair.length, sizeLine_eq]; exact ar19 hxl) fun s b3 F k3 e3 => ?_;have kt3 : ∀ z o, o.cls = .type "tuple" -> b2.get? z = some o -> b3.get? z = some o := fun z o hc e => k3 _ _ (fun q => by rw [q, eT2] at e; cases e; exact absurd hc (by simp)) e;have K3 : b3.DictOfH (knK w) kn (xs ++ [((lang R d).map mkS, aE, .int d td)]) := kn_keep K2 (fun o e => k3 _ _ J.kT' e) kt3;have J1 : LJ3 w L s0 sE b (upd m "state" (.int d td)) ns aS vs aG gv aW wv W c R aI ks kn xs aT sv kT qs := J.grow ee;have kk : ∀ a o, a ≠ kn -> a ≠ aT -> b.get? a = some o -> b3.get? a = some o := fun a o h1 h2 e => k3 _ _ h2 (k2 _ _ h1 e);have J3 := J1.more (qs' := qs ++ [d]) kk K3 e3 (J.pair.snoc ⟨rfl, td, rfl⟩) (intsAre_snoc J.iq d td) (fun q hq => by
   rcases List.mem_append.mp hq with hq | hq
   ·exact J.sub q hq
   ·rw [List.mem_singleton.mp hq]; exact hdi) (List.nodup_append.mpr ⟨J.nd, by simp, fun x hx y hy => by rw [List.mem_singleton.mp hy]; rintro rfl; exact hdn hx⟩)
  exact wpAny_execs_nil (h b3 _ _ _ _ _ _ td J3 F (by rfl) (fun q hq => List.mem_append_left _ hq) (by simp) kk)
end
end Mine
end
section
open PySem PySem.W PySem.Calls PyProof.Rows PySem.Spec
namespace Mine
section
variable {w : World} {mg mb : Str -> Option Value} {L : Addr} {sE s s0 : Shared} {H : List (Addr × Obj)} {b b' : Heap} {m m' : Str -> Option Value}
variable {A0 : Around} {E : Value -> Shared -> Prop} {fa : Addr} {cd : Value} {Q : Flow -> Shared -> Prop}
variable {ns : List Int} {aS : Addr} {vs : List Value} {aG : Addr} {gv : List Value} {aW : Addr} {wv : Array Value} {W : List (List Nat)} {c : DC} {R : RG} {aI : Addr} {ks : List Str} {kn : Addr} {xs : List (List Str × Addr × Value)} {aT : Addr} {sv : List Value} {kT : Nat} {qs : List Int}
theorem for4 {bg : List Nat} {tb td : Tok} {oK : Obj} {d : Int} (hA : Rm A0 61) (J : LJ3 w L s0 sE b m ns aS vs aG gv aW wv W c R aI ks kn xs aT sv kT qs) (F : Fx w mg mb L sE W0 H b s m)
  (hK : (L + 1, oK) ∈ H) (hd : oK.data = .cell (some (.str (mkS bg) tb))) (hrun : runR R 0 bg = some d) (hbl : bg.length <= 4) (hS : FinS W R) (hms : m "state" = some (.int d td))
  (h : ∀ s' m', LJ3 w L s0 sE b m' ns aS vs aG gv aW wv W c R aI ks kn xs aT sv kT qs -> Fx w mg mb L sE W0 H b s' m' -> Q .next s') :
  wpAny (model PP w) (A0.deeper (lawEnv L fa cd)) (execs (lawFor.drop 4) (lawEnv L fa cd)) Q E s := by
 have hB : Rm (A0.deeper (lawEnv L fa cd)) 60 := hA.deeper _;refine wpAny_execs_cons (wpAny_For (m_cstr F fun s t F _ => ?_));refine for_str (x := "abcd") hB.hh (by decide +kernel) (fun i b1 m1 => b1 = b ∧ LJ3 w L s0 sE b m1 ns aS vs aG gv aW wv W c R aI ks kn xs aT sv kT qs ∧ m1 "state" = some (.int d td)) F ⟨rfl, J, hms⟩ ?_ ?_ rfl rfl (by rfl)
 ·rintro i ch u s b1 m1 H' hH hch ⟨rfl, J, hms⟩ F
  have hK' := hH _ hK;have J : LJ3 w L s0 sE b1 (upd m1 "sign" (.str ⟨#[ch]⟩ u)) ns aS vs aG gv aW wv W c R aI ks kn xs aT sv kT qs := J.grow ee;have hin : (toR (arcsOf R d) ch = none) ↔ mkS (bg ++ [ch]) ∉ ks := by
   rw [J.hks];have h1 : runR R 0 (bg ++ [ch]) = toR (arcsOf R d) ch := by
    rw [runR_append, hrun]
    show (toR (arcsOf R d) ch).bind _ = _;cases toR (arcsOf R d) ch <;> rfl
   have h2 := hS.some_iff (bg ++ [ch]);rw [h1] at h2;have h3 : mkS (bg ++ [ch]) ∈ (prefs W).map mkS ↔ ∃ z, bg ++ [ch] ++ z ∈ W := by
    rw [List.mem_map, ← mem_prefs]
    constructor
    ·rintro ⟨y, hy, e⟩
     have := congrArg txt e;rw [txt_mkS, txt_mkS] at this;rw [← this]; exact hy
    ·intro hy; exact ⟨_, hy, rfl⟩
   rw [h3, ← h2];cases toR (arcsOf R d) ch <;> simp
  have hsnoc : mkS bg ++ (⟨#[ch]⟩ : Str) = mkS (bg ++ [ch]) := by
   show (⟨_⟩ : Str) = ⟨_⟩
   congr 1
   simp [mkS]
  refine wpAny_execs_cons (wpAny_If (wpAny_isTrue_Compare1 (wpAny_Compare1 (MethodCall_ (m_local F (by exact J.m4) (o_meth F (mt_next_state w) J.D.obj (m_cw (by rfl) (args_cons (m_local F (by exact hms) (args_cons (m_local F (by rfl) (args_nil ⟨F.g.X, ?_⟩))))))))))));have hnx : c.next d ⟨#[ch]⟩ = toR (arcsOf R d) ch := DC.next_eq J.rows J.fr.wf d ch;refine next_state_spec F.g hB (J.D.keeps F.keep) (fun s' q t7 S7 hn => ?_) fun s' S7 hn => ?_
  ·rw [hnx] at hn;have F := F.grow S7;refine m_cnone (wpAny_is_plain rfl (wpAny_Compare1 (wpAny_BinOp (m_nameK (K := L + 1) F ⟨oK, hK', hd⟩ (m_local F (by rfl) (add_str (fun t8 tk => ?_) (by rw [mkS_len]; show bg.length + 1 <= _; rw [sizeLine_eq]; exact ar35 hbl)))))));have F := F.tok tk;rw [hsnoc];refine m_local F (by exact J.m5) (wpAny_notInSet_of (knd := strKind PP w) (k := mkS (bg ++ [ch])) (by show (_ == _) = true; simp) rfl (J.X.setOf.keep F.keep) (ne_bool (wpAny_truthy_bool ?_)));have hmem : mkS (bg ++ [ch]) ∈ ks := by
    rcases Classical.em (mkS (bg ++ [ch]) ∈ ks) with h | h
    ·exact h
    ·rw [hin.mpr h] at hn; cases hn
   refine ifF (show (((Value.int q t7 == Value.none) : Bool) != (!decide (mkS (bg ++ [ch]) ∈ ks))) = false by rw [decide_eq_true hmem]; rfl) ?_;exact wpAny_execs_nil (wpAny_execs_nil ⟨b1, _, F.tok (tk + 1), rfl, J, by exact hms⟩)
  ·rw [hnx] at hn;have F := F.grow S7;refine m_cnone (wpAny_is_plain rfl (wpAny_Compare1 (wpAny_BinOp (m_nameK (K := L + 1) F ⟨oK, hK', hd⟩ (m_local F (by rfl) (add_str (fun t8 tk => ?_) (by rw [mkS_len]; show bg.length + 1 <= _; rw [sizeLine_eq]; exact ar35 hbl)))))));have F := F.tok tk;rw [hsnoc];refine m_local F (by exact J.m5) (wpAny_notInSet_of (knd := strKind PP w) (k := mkS (bg ++ [ch])) (by show (_ == _) = true; simp) rfl (J.X.setOf.keep F.keep) (ne_bool (wpAny_truthy_bool ?_)));have hmem : mkS (bg ++ [ch]) ∉ ks := hin.mp hn;refine ifF (show (((Value.none == Value.none) : Bool) != (!decide (mkS (bg ++ [ch]) ∈ ks))) = false by rw [decide_eq_false hmem]; rfl) ?_;exact wpAny_execs_nil (wpAny_execs_nil ⟨b1, _, F.tok (tk + 1), rfl, J, by exact hms⟩)
 ·rintro s b1 m1 ⟨rfl, J, hms⟩ F
  exact wpAny_execs_nil (wpAny_execs_nil (h s m1 J F))
end
end Mine
end
section
open PySem PySem.W PySem.Calls PyProof.Rows PySem.Spec
namespace Mine
section
variable {w : World} {mg mb : Str -> Option Value} {L : Addr} {sE s s0 : Shared} {H : List (Addr × Obj)} {b b' : Heap} {m m' : Str -> Option Value}
variable {A0 : Around} {E : Value -> Shared -> Prop} {fa : Addr} {cd : Value} {Q : Flow -> Shared -> Prop}
variable {ns : List Int} {aS : Addr} {vs : List Value} {aG : Addr} {gv : List Value} {aW : Addr} {wv : Array Value} {W : List (List Nat)} {c : DC} {R : RG} {aI : Addr} {ks : List Str} {kn : Addr} {xs : List (List Str × Addr × Value)} {aT : Addr} {sv : List Value} {kT : Nat} {qs : List Int}
theorem law6 {aB : Addr} {bv : Array Value} {ss : List Str} {k1 k2 : Obj} (hA : Rm A0 61) (J : LJ3 w L s0 sE b m ns aS vs aG gv aW wv W c R aI ks kn [] aT [] kT []) (hTB : aB ≠ aT) (hKB : aB ≠ kn) (mB : m "begins" = some (.ref aB)) (lB : b.IsList aB bv) (iB : StrsAre bv.toList ss) (hss : ∀ x, x ∈ ss ↔ x ∈ (prefs W).map mkS) (hsl : ss.length <= 45)
  (F : Fx w mg mb L sE W0 [(L + 1 + 1, k2), (L + 1, k1)] b s m) (hk1 : ∃ v, k1.data = .cell v)
  (h : ∀ b' s' m' xs sv kT qs k1', (∃ v, k1'.data = .cell v) -> LJ3 w L s0 sE b' m' ns aS vs aG gv aW wv W c R aI ks kn xs aT sv kT qs -> (∀ i ∈ ids R, i ∈ qs) -> Fx w mg mb L sE W0 [(L + 1 + 1, k2), (L + 1, k1')] b' s' m' -> wpAny (model PP w) (A0.deeper (lawEnv L fa cd)) (execs (lawBody.drop 10) (lawEnv L fa cd)) Q E s') :
  wpAny (model PP w) (A0.deeper (lawEnv L fa cd)) (execs (lawBody.drop 9) (lawEnv L fa cd)) Q E s := by
 have hB : Rm (A0.deeper (lawEnv L fa cd)) 60 := hA.deeper _;refine wpAny_execs_cons (wpAny_For (m_local F (by exact mB) (wpAny_pyIter_list (keepsL lB F.keep) ?_)));have F1 := F.push (o := { cls := .type "list_iterator", data := .fields #[.ref aB, .int 0 0] }) rfl;have hIH : ∀ p ∈ [(L + 1 + 1, k2), (L + 1, k1)], p.1 ≠ s.heap.objs.size := fun p hp q => absurd (Heap.lt_size (F.hid p hp).1) (by rw [q]; exact Nat.lt_irrefl _);generalize s.heap.objs.size = I at F1 hIH ⊢;have F1 := F1.fewer (H' := (I, _) :: (L + 1, k1) :: [(L + 1 + 1, k2)]) fun p hp => perm3e hp;refine for_genC (Iter.list (items := bv)) hB.hh (fun i sE' b' m' => sE' = sE ∧ b'.IsList aB bv ∧ ∃ xs sv kT qs, LJ3 w L s0 sE b' m' ns aS vs aG gv aW wv W c R aI ks kn xs aT sv kT qs ∧ ∀ j x, j < i -> ss[j]? = some x -> ∀ d, runR R 0 (txt x) = some d -> d ∈ qs) (fun i _ b m h => h.2.1) F1 (fun p hp => ?_) (fun p hp => ?_) ?_ ⟨rfl, rfl⟩ hk1 ⟨rfl, lB, _, _, _, _, J, fun j x hj => absurd hj (Nat.not_lt_zero _)⟩ ?_ ?_ (by rfl) rfl (by rfl)
 ·rw [List.mem_singleton.mp hp]; exact hIH _ (by simp)
 ·rw [List.mem_singleton.mp hp]; exact Nat.ne_of_gt (Nat.lt_succ_self _)
 ·exact hIH (L + 1, k1) (by simp)
 ·intro i val s sE' b m o oK hlt hv hJ hoK _ F9;refine gQ fun Qb Eb hQb hEb => ?_;obtain ⟨rfl, lB, xs, sv, kT, qs, J, hdone⟩ := hJ;obtain ⟨x, tb, hx, rfl⟩ := strsAre_get iB (by simpa using hv);obtain ⟨bg, hbg, rfl⟩ : ∃ bg, bg ∈ prefs W ∧ mkS bg = x := by
   have := (hss x).mp (List.mem_of_getElem? hx);obtain ⟨y, hy, e⟩ := List.mem_map.mp this;exact ⟨y, hy, e⟩
  obtain ⟨z, hz⟩ := mem_prefs.mp hbg;have hW : W ≠ [] := fun e => by rw [e] at hz; cases hz
  have hS := J.fr.states hW;obtain ⟨d, hrun⟩ := (hS.some_iff bg).mpr ⟨z, hz⟩;have hbl : bg.length <= 4 := by have := J.ws.len _ hz; rw [List.length_append] at this; exact Nat.le_of_add_right_le this
  have hbc : ∀ c ∈ bg, c < 128 := fun c hc => by have := J.ws.abc _ hz c (List.mem_append_left _ hc); exact ar4 this
  have hmK : ∀ {o : Obj}, (L + 1, oK) ∈ (I, o) :: (L + 1, oK) :: [(L + 1 + 1, k2)] := fun {_} => by simp
  have hRl : (ids R).length <= 1000 := by unfold ids; rw [List.length_map]; exact J.fr.len
  refine for1 (bg := bg) hA J.toLJ1 F9 hmK hoK hbl fun b1 s1 aE ev F kk e8 i8 => ?_;have J1 := J.grow (m' := upd m "ends" (.ref aE)) kk;refine for2 hA J1 F hmK hoK hrun hbc hS hRl (by rfl) e8 i8 fun b2 s2 m2 xs' sv' kT' qs' td J2 F hms hsub hd hk2 => ?_;refine for4 hA J2 F hmK hoK hrun hbl hS hms fun s3 m3 J3 F => hQb _ _ ⟨sE', b2, m3, F, rfl, ?_, xs', sv', kT', qs', J3, fun j x hj hx' d' hr' => ?_⟩
  ·obtain ⟨o, e, r⟩ := keepsL lB kk; exact ⟨o, hk2 _ _ hKB hTB e, r⟩
  ·rcases Nat.lt_succ_iff_lt_or_eq.mp hj with hj | rfl
   ·exact hsub _ (hdone j x hj hx' d' hr')
   ·rw [hx] at hx';cases hx';rw [txt_mkS, hrun] at hr';cases hr';exact hd
 ·rintro s sE' b m oK ⟨rfl, lB, xs, sv, kT, qs, J, hdone⟩ hcell F
  refine wpAny_execs_nil (h b s m xs sv kT qs oK hcell J (fun i hi => ?_) (F.fewer fun p hp => (List.Perm.swap _ _ _).mem_iff.mp hp));rcases J.fr.zero with ⟨hR, _⟩ | ⟨_, hW⟩
  ·rw [hR] at hi; cases hi
  ·have hS := J.fr.states hW;obtain ⟨z, hz⟩ := J.fr.reach i hi;obtain ⟨y, hy⟩ := List.exists_mem_of_ne_nil _ (hS.live i hi);rw [(hS.run z i hz).2, ends_prefix] at hy;obtain ⟨j, hj⟩ := List.getElem?_of_mem ((hss (mkS z)).mpr (List.mem_map.mpr ⟨z, mem_prefs.mpr ⟨y, hy⟩, rfl⟩));have hjl : j < bv.size := by
    have := (List.getElem?_eq_some_iff.mp hj).1;rw [← iB.length, Array.length_toList] at this; exact this
   exact hdone j _ hjl hj i (by rw [txt_mkS]; exact hz)
end
end Mine
end
section
open PySem PySem.W PySem.Calls PyProof.Rows PySem.Spec
namespace Mine
theorem mem_rowsOf {R : RG} {q : Int} {a : List (Nat × Int)} : (q, a) ∈ rowsOf R ↔ a ≠ [] ∧ ∃ f, ((a, f), q) ∈ R := by
 unfold rowsOf;rw [List.mem_filterMap]
 constructor
 ·rintro ⟨⟨⟨a', f⟩, q'⟩, hm, h⟩
  by_cases h0 : a' = []
  ·simp [h0] at h
  ·simp only [h0, if_false, Option.some.injEq, Prod.mk.injEq] at h;obtain ⟨rfl, rfl⟩ := h;exact ⟨h0, f, by simpa using hm⟩
 ·rintro ⟨h0, f, hm⟩
  exact ⟨((a, f), q), by simpa using hm, by simp [h0]⟩
theorem tra_row {c : DC} {R : RG} (hr : c.rows = encR (rowsOf R)) : (∀ r ∈ c.tra, ∃ a, (r.1, a) ∈ rowsOf R ∧ keyOf r.2.2 = enc a) ∧ ∀ q a, (q, a) ∈ rowsOf R -> ∃ r ∈ c.tra, r.1 = q ∧ keyOf r.2.2 = enc a := by
 unfold DC.rows encR at hr
 constructor
 ·intro r hm;have : (r.1, keyOf r.2.2) ∈ (rowsOf R).map fun x => (x.1, enc x.2) := by rw [← hr]; exact List.mem_map.mpr ⟨r, hm, rfl⟩
  obtain ⟨⟨q, a⟩, hx, e⟩ := List.mem_map.mp this;simp only [Prod.mk.injEq] at e;exact ⟨a, by rw [← e.1]; exact hx, e.2.symm⟩
 ·intro q a hm;have : (q, enc a) ∈ c.tra.map fun x => (x.1, keyOf x.2.2) := by rw [hr]; exact List.mem_map.mpr ⟨(q, a), hm, rfl⟩
  obtain ⟨r, hx, e⟩ := List.mem_map.mp this;simp only [Prod.mk.injEq] at e;exact ⟨r, hx, e.1, e.2⟩
theorem key_targets {arcs : List (Str × Int × Tok)} {a : List (Nat × Int)} (h : keyOf arcs = enc a) (x : Int) : (∃ y ∈ arcs, y.2.1 = x) ↔ ∃ z ∈ a, z.2 = x := by
 have : arcs.map (fun y => y.2.1) = a.map (·.2) := by
  have := congrArg (List.map Prod.snd) h;unfold keyOf enc at this;rw [List.map_map, List.map_map] at this;exact this
 constructor
 ·rintro ⟨y, hy, rfl⟩
  have h1 : y.2.1 ∈ arcs.map (fun y => y.2.1) := List.mem_map.mpr ⟨y, hy, rfl⟩;rw [this] at h1;obtain ⟨z, hz, e⟩ := List.mem_map.mp h1;exact ⟨z, hz, e⟩
 ·rintro ⟨z, hz, rfl⟩
  have h1 : z.2 ∈ a.map (·.2) := List.mem_map.mpr ⟨z, hz, rfl⟩;rw [← this] at h1;obtain ⟨y, hy, e⟩ := List.mem_map.mp h1;exact ⟨y, hy, e⟩
theorem states_iff {c : DC} {W : List (List Nat)} {R : RG} (hr : c.rows = encR (rowsOf R)) (h : FinR W R) (hne : ∀ x ∈ W, x ≠ []) (x : Int) : ((∃ r ∈ c.tra, r.1 = x) ∨ ∃ r ∈ c.tra, ∃ y ∈ r.2.2, y.2.1 = x) ↔ x ∈ ids R := by
 obtain ⟨t1, t2⟩ := tra_row hr;have hw := h.wf
 constructor
 ·rintro (⟨r, hm, rfl⟩ | ⟨r, hm, hy⟩)
  ·obtain ⟨a, ha, _⟩ := t1 r hm;obtain ⟨_, f, hf⟩ := mem_rowsOf.mp ha;exact List.mem_map.mpr ⟨_, hf, rfl⟩
  ·obtain ⟨a, ha, hk⟩ := t1 r hm;obtain ⟨_, f, hf⟩ := mem_rowsOf.mp ha;obtain ⟨z, hz, rfl⟩ := (key_targets hk x).mp hy;have := (arcs_asc hw r.1).2.2 z (by rw [arcsOf_mem hw hf]; exact hz);exact this.1
 ·intro hx;rcases h with ⟨_, rfl⟩ | ⟨hW, _, ⟨k, r, hR⟩, hl, ht, _, _⟩
  ·cases hx
  ·by_cases h0 : x = 0
   ·subst h0;obtain ⟨⟨a, f⟩, hm⟩ : ∃ k, (k, (0 : Int)) ∈ R := ⟨k, by rw [hR]; simp⟩;have ha : a ≠ [] := by
     intro e;obtain ⟨e1, _⟩ := lang_mem hw hm;rw [hl, e] at e1;obtain ⟨y, hy⟩ := List.exists_mem_of_ne_nil _ hW;have := hne y hy;rw [e1] at hy;unfold own at hy;simp at hy;exact this hy.2
    obtain ⟨r, hr, e, _⟩ := t2 0 a (mem_rowsOf.mpr ⟨ha, f, hm⟩);exact .inl ⟨r, hr, e⟩
   ·obtain ⟨⟨⟨a, f⟩, q⟩, hm, hi⟩ := ht x hx h0;obtain ⟨z, hz, e⟩ := List.mem_map.mp hi;obtain ⟨r, hr, _, hk⟩ := t2 q a (mem_rowsOf.mpr ⟨(fun e => by rw [e] at hz; cases hz), f, hm⟩);exact .inr ⟨r, hr, (key_targets hk x).mpr ⟨z, hz, e⟩⟩
theorem ids_len {W : List (List Nat)} {R : RG} (h : FinR W R) : (ids R).length <= (prefs W).length := by
 rcases h.zero with ⟨hR, _⟩ | ⟨_, hW⟩
 ·rw [hR]; simp [ids]
 ·have hS := h.states hW;have h1 : ∀ i ∈ ids R, i ∈ (prefs W).filterMap (runR R 0) := fun i hi => by
   obtain ⟨z, hz⟩ := h.reach i hi;obtain ⟨y, hy⟩ := List.exists_mem_of_ne_nil _ (hS.live i hi);rw [(hS.run z i hz).2, ends_prefix] at hy;exact List.mem_filterMap.mpr ⟨z, mem_prefs.mpr ⟨y, hy⟩, hz⟩
  exact Nat.le_trans (sub_len h.wf.ids_nodup h1) (List.length_filterMap_le _ _)
theorem tra_len {c : DC} {R : RG} (hr : c.rows = encR (rowsOf R)) (hw : WF R) : c.tra.length <= (ids R).length ∧ ∀ r ∈ c.tra, r.2.2.length <= 3 := by
 constructor
 ·have := congrArg List.length hr;unfold DC.rows encR at this;rw [List.length_map, List.length_map] at this;rw [this];unfold rowsOf ids;rw [List.length_map];exact Nat.le_trans (List.length_filterMap_le _ _) (by rw [List.length_reverse]; exact Nat.le_refl _)
 ·intro r hm;obtain ⟨a, ha, hk⟩ := (tra_row hr).1 r hm;obtain ⟨_, f, hf⟩ := mem_rowsOf.mp ha;have := (arcs_asc hw r.1).2.1;rw [arcsOf_mem hw hf] at this;have h2 := congrArg List.length hk;unfold keyOf enc at h2;rw [List.length_map, List.length_map] at h2;exact le_of_eq_of_le h2 this
section
variable {w : World} {A : Around} {E : Value -> Shared -> Prop} {s : Shared}
theorem len_knH {d : Addr} {xs : List (List Str × Addr × Value)} {Q : Value -> Shared -> Prop} (hd : (d == sysModules) = false) (hm : s.heap.DictOfH (knK w) d xs) (hfit : xs.length <= 1000)
  (h : ∀ t tk, Q (.int xs.length t) { s with toks := tk }) : wpAny (model PP w) A (call (.builtin "len") [.ref d]) Q E s := by
 refine Calls.call_function_entry kind_len plain_len entry_len (args_len1 _) ?_;obtain ⟨o, es, ep, ho, hc, hdat, he, hk, hn⟩ := id hm;have hes : es.size = xs.length := size_of_entries he;unfold Builtin.«len»;refine wpAny_bind (m := oneArg "len" _) (wpAny_pure ?_);refine wpAny_bind (m := callSpecial? (.ref d) (Str.ofString "__len__")) (wpAny_callSpecial?_slot (name := Str.ofString "__len__") hm.typeIs PySem.F.slot_dict_len
  (wpAny_call_entry PySem.F.slot_dict_len hm.typeIs PySem.F.entry_dict_len ?_ (PySem.F.args_dict_len_1 _)))
 show wpAny _ _ (dictSize d >>= _) _ _ s;unfold dictSize;refine wpAny_bind (wpAny_bind (wpAny_dictEntries ho hdat (wpAny_pure ?_)));show wpAny _ _ (Builtin.Dict.pendingCount d >>= _) _ _ s;refine wpAny_bind (wpAny_pendingCount_other hd ?_);refine wpAny_ret_mkInt ?_;rw [show ((es.size : Int) + ((0 : Nat) : Int)) = (xs.length : Int) by rw [hes]; simp];show wpAny _ _ _ _ _ { s with toks := s.toks + 1 };refine wpAny_bind (wpAny_holding (wpAny_pure ?_));refine wpAny_bind (wpAny_letGo ?_);show wpAny _ _ (if ((xs.length : Nat) : Int) < 0 then _ else _) _ _ _;rw [if_neg (ar8)];show wpAny _ _ (if ((xs.length : Nat) : Int) ≥ 2 ^ 63 then _ else _) _ _ _;rw [if_neg (by lia)];exact wpAny_bind (wpAny_mkInt (wpAny_pure ⟨_, rfl, h _ _⟩))
end
end Mine
end
section
open PySem PySem.W PySem.Calls PyProof.Rows PySem.Spec
namespace Mine
section
variable {w : World} {mg mb : Str -> Option Value} {L : Addr} {sE s s0 : Shared} {H : List (Addr × Obj)} {b b' : Heap} {m m' : Str -> Option Value}
variable {A0 : Around} {E : Value -> Shared -> Prop} {fa : Addr} {cd : Value} {Q : Flow -> Shared -> Prop}
variable {ns : List Int} {aS : Addr} {vs : List Value} {aG : Addr} {gv : List Value} {aW : Addr} {wv : Array Value} {W : List (List Nat)} {c : DC} {R : RG} {aI : Addr} {ks : List Str} {kn : Addr} {xs : List (List Str × Addr × Value)} {aT : Addr} {sv : List Value} {kT : Nat} {qs : List Int}
theorem intItem_is {w : World} {vs : List Value} {ss : List Int} (h : IntsAre vs ss) {i : Nat} {v : Value} (hv : vs[i]? = some v) : (intKind PP w).is (ss.getD i 0) v = true ∧ v.scannable = true := by
 obtain ⟨x, t, hx, rfl⟩ := intsAre_get h hv;refine ⟨?_, rfl⟩;rw [List.getD_eq_getElem?_getD, hx]
 show (x == x) = true;simp
theorem law7 (hA : Rm A0 61) (J : LJ3 w L s0 sE b m ns aS vs aG gv aW wv W c R aI ks kn xs aT sv kT qs) (hall : ∀ i ∈ ids R, i ∈ qs) (F : Fx w mg mb L sE W0 H b s m)
  (h : ∀ b' s', LJ2 w L s0 sE b' m ns aS vs aG gv aW wv W c R -> Fx w mg mb L sE W0 H b' s' m -> wpAny (model PP w) (A0.deeper (lawEnv L fa cd)) (execs (lawBody.drop 11) (lawEnv L fa cd)) Q E s') :
  wpAny (model PP w) (A0.deeper (lawEnv L fa cd)) (execs (lawBody.drop 10) (lawEnv L fa cd)) Q E s := by
 have hB : Rm (A0.deeper (lawEnv L fa cd)) 60 := hA.deeper _;have hil := ids_len J.fr;have hpl := prefs_len J.ws.len;have hw9 := J.ws.n;have hperm : qs.Perm (ids R) := perm_of_mem J.nd J.fr.wf.ids_nodup fun x => ⟨J.sub x, hall x⟩;have hqn : qs.length <= 45 := by rw [hperm.length_eq]; exact Nat.le_trans hil (Nat.le_trans hpl (Nat.mul_le_mul_left 5 hw9))
 have hsvn : sv.length = qs.length := intsAre_len J.iq;have hxn : xs.length = qs.length := (J.pair.length).symm;have lT : b.IsList aT sv.toArray := ⟨_, J.T, rfl, _, rfl⟩;refine wpAny_execs_cons (wpAny_If (isTrue_or (wpAny_isTrue_Compare1 (Call_ (m_bi F (ng_len w) boot_len (m_cwb (args_cons (Call_ (m_bi F (ng_set w) boot_set (m_ct (args_cons (m_local F (by exact J.m7) (args_nil ?_)))))))))))));refine call_set_list (knd := intKind PP w) (key := fun i => qs.getD i 0) hB.hh (keepsL lT F.keep) (fun i v hv => intItem_is J.iq (by simpa using hv)) (by rw [List.size_toArray, hsvn]; show _ < 4096; exact Nat.lt_of_le_of_lt (Nat.succ_le_succ hqn) (by decide)) fun s1 S1 X => ?_;have hsz : sv.toArray.size = qs.length := by rw [List.size_toArray, hsvn]
 rw [hsz] at X;have hnd : (addN [] (fun i => qs.getD i 0) qs.length).Nodup := by obtain ⟨_, _, _, _, _, _, _, _, _, h, _⟩ := X; exact h
 have hlen : (addN [] (fun i => qs.getD i 0) qs.length).length = qs.length := by
  refine (perm_of_mem hnd J.nd fun x => ?_).length_eq;rw [mem_addN]
  constructor
  ·rintro (h0 | ⟨j, hj, rfl⟩)
   ·cases h0
   ·rw [List.getD_eq_getElem?_getD, List.getElem?_eq_getElem hj]; exact List.getElem_mem hj
  ·intro hx;obtain ⟨j, hj⟩ := List.getElem?_of_mem hx;exact .inr ⟨j, (List.getElem?_eq_some_iff.mp hj).1, by rw [List.getD_eq_getElem?_getD, hj]; rfl⟩
 have F := F.grow S1;refine args_nil (len_x X fun t tk => ?_);have F := F.tok tk;rw [hlen];have KN : ∀ {s : Shared}, Fx w mg mb L sE W0 H b s m -> s.heap.DictOfH (knK w) kn xs := fun F => kn_keep J.K (fun o e => F.keep _ _ e) fun z o _ e => F.keep _ _ e;refine Call_ (m_bi F (ng_len w) boot_len (m_cwb (args_cons (m_local F (by exact J.m6) (args_nil (len_knH (sysM J.klo) (KN F) (ar170 hqn hxn) fun t2 tk2 => ?_))))));have F := F.tok tk2;refine ne_int (wpAny_truthy_bool ?_);rw [hxn, show ((qs.length : Int) != (qs.length : Int)) = false by simp, if_neg Bool.false_ne_true];refine isTrue_or (wpAny_isTrue_Compare1 (Call_ (m_bi F (ng_sorted w) boot_sorted (m_cwb (args_cons (MethodCall_ (m_local F (by exact J.m4) (o_meth F (mt_all_states w) J.D.obj (m_cw0 (by rfl) F.g.X ?_)))))))));have htl := tra_len J.rows J.fr.wf;refine all_states_spec F.g hB (J.D.keeps F.keep) (by lia) htl.2 fun s3 S ks3 S3 X3 _ _ hk3 => ?_;have hk3' : ∀ x, x ∈ ks3 ↔ x ∈ ids R := fun x => (hk3 x).trans (states_iff J.rows J.fr J.ws.ne x);have hnd3 : ks3.Nodup := by obtain ⟨_, _, _, _, _, _, _, _, _, h, _⟩ := X3; exact h
 have hp3 : ks3.Perm (ids R) := perm_of_mem hnd3 J.fr.wf.ids_nodup hk3';have F := F.grow S3;refine args_nil (sorted_set_int hB.hh X3 (by rw [hp3.length_eq]; exact Nat.lt_of_le_of_lt (Nat.le_trans hil (Nat.le_trans hpl (Nat.mul_le_mul_left 5 hw9))) (by decide)) fun s4 B out ns4 S4 lB hBs i4 hp4 hs4 => ?_);have hBn := F.none_of hBs;have F := F.grow S4;refine (F.rebase) _ fun b1 F k1 kn1 => ?_;have lB1 : b1.IsList B out := movL lB fun o e => kn1 _ _ hBn.2.1 e;refine Call_ (m_bi F (ng_sorted w) boot_sorted (m_cwb (args_cons (m_local F (by exact J.m7) (args_nil ?_)))));have lT1 : s4.heap.IsList aT sv.toArray := keepsL (keepsL lT k1) F.keep;refine sorted_coll_ints (collect_list lT1 ?_ (by rw [hsvn, sizeLine_eq]; exact ar256 hqn));refine ⟨by rw [hsvn]; exact ar69 hqn, qs, J.iq, fun out5 ns5 i5 hp5 hs5 h2 hk2 l5 => ?_⟩;have old : Kp s4.heap h2 := fun a o e => hk2 _ _ ((Heap.SameBut.update (s4.heap.push (seqObj "list" #[] 0)) s4.heap.objs.size (Obj.mapSeq (· ++ sv.toArray))).extBut _ _ (Nat.ne_of_lt (Heap.lt_size e)) (Heap.get?_push_of_some _ e));have hge : s4.heap.objs.size <= ((s4.heap.push (seqObj "list" #[] 0)).update s4.heap.objs.size (Obj.mapSeq (· ++ sv.toArray))).objs.size := by
  have h1 := (Heap.SameBut.update (s4.heap.push (seqObj "list" #[] 0)) s4.heap.objs.size (Obj.mapSeq (· ++ sv.toArray))).1;rw [h1, Heap.size_push]; exact Nat.le_succ _
 have hBn5 := F.none_of hge;have F5 := F.grow (s' := { s4 with heap := h2 }) (.of old);refine (F5.rebase) _ fun b2 F k2 kn2 => ?_;have l5' : b2.IsList _ out5 := movL l5 fun o e => kn2 _ _ hBn5.2.1 e;have heq : ns4 = ns5 := sorted_eq_int hs4 hs5 ((hp4.trans hp3).trans (hperm.symm.trans hp5.symm));subst heq;refine m_neSameI F hB (keepsL lB1 k2) l5' i4 i5 (wpAny_truthy_bool ?_);refine ifF rfl ?_;refine isTrue_or_nil ?_;refine ifF rfl ?_;exact wpAny_execs_nil (h b2 _ (J.toLJ2.mono J.anc fun a o e => k2 _ _ (k1 _ _ e)) F)
end
end Mine
end
section
open PySem PySem.W PySem.Calls PyProof.Rows PySem.Spec
namespace Mine
theorem lang_out : ∀ {R : RG} {q : Int}, q ∉ ids R -> lang R q = []
 | [], q, _ => rfl
 | ((a, f), i) :: r, q, h => by
  have h1 : q ≠ i := fun e => h (by simp [ids, e]);have h2 : q ∉ ids r := fun e => h (by unfold ids at e ⊢; simp [e])
  show (if q = i then _ else _) = _;rw [if_neg h1]; exact lang_out h2
theorem hgt_le {W : List (List Nat)} {R : RG} (h : FinR W R) (hl : ∀ x ∈ W, x.length <= 4) (q : Int) : hgt R q <= 50 := by
 unfold hgt;refine max_le _ _ fun x hx => ?_;obtain ⟨y, hy, rfl⟩ := List.mem_map.mp hx
 by_cases hq : q ∈ ids R
 ·rcases h.zero with ⟨hR, _⟩ | ⟨_, hW⟩
  ·rw [hR] at hq; cases hq
  ·have hS := h.states hW;obtain ⟨z, hz⟩ := h.reach q hq;rw [(hS.run z q hz).2, ends_prefix] at hy;have := hl _ hy;rw [List.length_append] at this;exact Nat.le_trans (Nat.le_trans (Nat.le_add_left _ _) this) (by decide)
 ·rw [lang_out hq] at hy; cases hy
theorem next_head {W : List (List Nat)} {R : RG} (h : FinR W R) (t : List Nat) : (if (runR R 0 t).any (finOf R) then [t] else []) ++ (stackOf R 0 [] t).flatMap (cand R) = W.filter fun x => geW x t := by
 rcases h.zero with ⟨hR, hW⟩ | ⟨h0, hW⟩
 ·subst hR hW;have h1 : (runR [] 0 t).any (finOf []) = false := by
   cases runR [] 0 t <;> rfl
  rw [h1, if_neg Bool.false_ne_true, List.nil_append, List.filter_nil];have : ∀ e : SE, cand [] e = [] := fun e => rfl;rw [List.flatMap_eq_nil_iff];exact fun e _ => this e
 ·have := from_text h.wf t (q := 0) [] h0;rw [h.lang0] at this
  simpa using this.symm
theorem accept_iff {W : List (List Nat)} {R : RG} (h : FinR W R) (t : List Nat) : (runR R 0 t).any (finOf R) = decide (t ∈ W) := by
 rcases h.zero with ⟨hR, hW⟩ | ⟨h0, hW⟩
 ·subst hR hW;have h1 : (runR [] 0 t).any (finOf []) = false := by
   cases runR [] 0 t <;> rfl
  rw [h1]; simp
 ·have hS := h.states hW;cases hr : runR R 0 t with
  | none =>
   have h1 : t ∉ W := fun hm => by
    have := (ends_prefix t W []).mpr (by simpa using hm);rw [hS.stop t hr] at this; cases this
   simp [h1]
  | some d =>
   obtain ⟨hd, hl⟩ := hS.run t d hr;have h2 := hS.fin d hd;rw [hl, ends_prefix, List.append_nil] at h2;show finOf R d = _
   by_cases hm : t ∈ W
   ·rw [h2.mpr hm]; simp [hm]
   ·cases hf : finOf R d with
    | true => exact absurd (h2.mp hf) hm
    | false => simp [hm]
theorem FinR.nz {W : List (List Nat)} {R : RG} (h : FinR W R) (q : Int) (c : Nat) : toR (arcsOf R q) c ≠ some 0 := by
 rcases h with ⟨_, rfl⟩ | ⟨_, hw, ⟨k, r, hR⟩, _⟩
 ·intro e; cases e
 ·exact no_zero hw hR q c
theorem any_mkS {W : List (List Nat)} {t : List Nat} : (W.map mkS).any (· == mkS t) = decide (t ∈ W) := by
 by_cases h : t ∈ W
 ·rw [decide_eq_true h];exact List.any_eq_true.mpr ⟨mkS t, List.mem_map.mpr ⟨t, h, rfl⟩, by simp⟩
 ·rw [decide_eq_false h, List.any_eq_false];intro x hx hq;obtain ⟨y, hy, rfl⟩ := List.mem_map.mp hx;have e : mkS y = mkS t := by simpa using hq
  have := congrArg txt e;rw [txt_mkS, txt_mkS] at this;exact h (this ▸ hy)
end Mine
end
section
open PySem PySem.W PySem.Calls PyProof.Rows PySem.Spec
namespace Mine
theorem next_nz {c : DC} {R : RG} (hr : c.rows = encR (rowsOf R)) (w : WF R) (nz : ∀ q c, toR (arcsOf R q) c ≠ some 0) (q : Int) (l : Str) : c.next q l ≠ some 0 := by
 intro h;obtain ⟨h1, h2⟩ := DC.look_eq hr w q;unfold DC.next at h;cases hl : c.look q with
 | none => rw [hl] at h; cases h
 | some x =>
  rw [hl] at h;have hi : ((keyOf x.2).find? fun y => decide (y.1 = l)).map (·.2) = some 0 := by rw [← intAt_keyOf]; exact h
  have hk := h2 x hl;have : (l, (0 : Int)) ∈ keyOf x.2 := by
   obtain ⟨y, hy, e⟩ := Option.map_eq_some_iff.mp hi;have e1 := List.find?_some hy;simp at e1;have := List.mem_of_find?_eq_some hy;rw [show y = (l, 0) from Prod.ext e1 e] at this;exact this
  rw [hk] at this;obtain ⟨z, hz, e⟩ := List.mem_map.mp this;simp only [Prod.mk.injEq] at e;obtain ⟨_, e⟩ := e;obtain ⟨ch, d⟩ := z;have e : d = 0 := e;subst e;exact nz q ch (toR_mem (arcs_asc w q).1 hz)
noncomputable def lawK : List Stmt := match lawBody.drop 11 with | .For _ _ b .. :: _ => b | _ => []
noncomputable def lawIn : List Stmt := match lawK.drop 1 with | .For _ _ b .. :: _ => b | _ => []
section
variable {w : World} {mg mb : Str -> Option Value} {L : Addr} {sE s s0 : Shared} {H : List (Addr × Obj)} {b b' : Heap} {m m' : Str -> Option Value}
variable {A0 : Around} {E : Value -> Shared -> Prop} {fa : Addr} {cd : Value} {Q : Flow -> Shared -> Prop}
variable {ns : List Int} {aS : Addr} {vs : List Value} {aG : Addr} {gv : List Value} {aW : Addr} {wv : Array Value} {W : List (List Nat)} {c : DC} {R : RG}
theorem LJ2.next {sE' : Shared} {c' : DC} (J : LJ2 w L s0 sE b m ns aS vs aG gv aW wv W c R) (N : Anc s0 sE') (k : KpD c.x.Ol b b') (D' : DFAAt w b' c') (hx : c'.x = c.x) (ht : c'.tra = c.tra) (hf : c'.fin = c.fin) :
  LJ2 w L s0 sE' b' m ns aS vs aG gv aW wv W c' R := by
 have nl : ∀ {a : Addr} {it : Array Value}, b.IsList a it -> b'.IsList a it := fun {a it} x => by
  obtain ⟨o, e, hc, r⟩ := x;refine ⟨o, k a o (fun q => ?_) e, hc, r⟩;refine (dob J.D.Ol) _ fun o2 e2 hx2 => ?_;rw [← q, e] at e2; cases e2;rw [hx2.1] at hc; exact absurd hc (by simp)
 exact ⟨⟨N, J.m1, nl J.l1, J.i1, J.len, J.m2, nl J.l2, J.i2, J.m3, nl J.l3, J.i3, J.ws⟩, by rw [hx]; exact J.m4, D', by rw [DC.rows, ht]; exact J.rows, by rw [hf]; exact J.fin, J.fr, by rw [hx]; exact J.ol⟩
theorem m_list1S {L : Addr} {s : Shared} {W : Addr -> Prop} {H : List (Addr × Obj)} {A : Around} {env : Env} {e : PySem.Expr} {pos : Pos} {Q : Value -> Shared -> Prop} (h : wpAny (model PP w) A (eval e env) (fun v s₁ => ∃ sE b m, Fx w mg mb L sE W H b s₁ m ∧ ∀ s' b' a, Fx w mg mb L sE W H b' s' m -> Kp b b' -> b'.get? a = some (listO [v] 0) -> Q (.ref a) s') E s)
  (he : starEach [e] env = (false, eval e env) :: starEach [] env := by rfl) :
  wpAny (model PP w) A (eval (.List [e] pos) env) Q E s := by
 refine wpAny_List (args_cons (he := he) (wpAny_mono h (fun v s₁ h₁ => ?_) ee));obtain ⟨sE, b, m, F, hQ⟩ := h₁;exact args_nil ⟨by rw [sizeLine_eq]; show 1 <= _; exact ar21, F.allocB (Q := fun a s' => Q (.ref a) s') rfl fun s' b' a F k e _ _ _ => hQ s' b' a F k e⟩
theorem inner1 {tx : List Nat} {to : Tok} {oK : Obj} (hA : Rm A0 61) (hst : A0.frames = some []) (J : LJ2 w L s0 sE b m ns aS vs aG gv aW wv W c R) (hO : OutOk R c) (F : Fx w mg mb L sE W0 H b s m) (hH : ∀ p ∈ H, Hid p.2)
  (hK : (L + 1 + 1, oK) ∈ H) (hd : oK.data = .cell (some (.str (mkS tx) to))) (hcx : ∀ c ∈ tx, c < 128) (hlx : tx.length <= 10)
  (h : ∀ sE' b' s' m' c', LJ2 w L s0 sE' b' m' ns aS vs aG gv aW wv W c' R -> OutOk R c' -> c'.x = c.x -> Fx w mg mb L sE' W0 H b' s' m' -> KpD c.x.Ol b b' -> Q .next s') :
  wpAny (model PP w) (A0.deeper (lawEnv L fa cd)) (execs lawIn (lawEnv L fa cd)) Q E s := by
 have hB : Rm (A0.deeper (lawEnv L fa cd)) 60 := hA.deeper _;have hwn : wv.toList.length = W.length := by rw [J.i3.length, List.length_map]
 have hwz : wv.size = W.length := by rw [← Array.length_toList, hwn]
 have hw9 := J.ws.n;refine wpAny_execs_cons (wpAny_Assign_Name (m_lslice (w := w) (mg := mg) (mb := mb) (L := L) (sE := sE) (W := W0) (H := H) ?_));refine m_ListComp (w := w) (mg := mg) (mb := mb) (L := L) (sE := sE) (W := W0) (H := H) (m := m) (cl := [("other", L + 1 + 1)]) hB.hh (fun i ys => StrsAre ys (((W.take i).filter fun x => geW x tx).map mkS)) .nil (by rfl) (by decide) rfl (by decide) (by rfl) ?_;refine m_local F (by exact J.m3) (wpAny_pyIter_list (keepsL J.l3 F.keep) ?_);have F1 := F.push (o := { cls := .type "list_iterator", data := .fields #[.ref aW, .int 0 0] }) rfl;have hIH : ∀ p ∈ H, p.1 ≠ s.heap.objs.size := fun p hp q => absurd (Heap.lt_size (F.hid p hp).1) (by rw [q]; exact Nat.lt_irrefl _);generalize s.heap.objs.size = I at F1 hIH ⊢;refine ⟨I, _, b, _, _, _, _, rfl, F1, hIH, csrc_list (items := wv) (by rw [hwz, sizeLine_eq]; exact ar9 hw9), J.l3, ?_, ?_⟩
 ·rintro i val s C D oI oC oD mC ys E' hlt hv hj hn hmC F
  obtain ⟨x, tz, hz, rfl⟩ := strsAre_get J.i3 (by simpa using hv);obtain ⟨wd, hwd, rfl⟩ : ∃ wd, W[i]? = some wd ∧ mkS wd = x := by
   rw [List.getElem?_map] at hz;cases e : W[i]? with
   | none => rw [e] at hz; cases hz
   | some wd => rw [e] at hz; exact ⟨wd, rfl, Option.some.inj hz⟩
  have hKm : ∀ {oI oC oD : Obj} {I : Addr}, (L + 1 + 1, oK) ∈ (I, oI) :: (C, oC) :: (D, oD) :: H := fun {_ _ _ _} => List.mem_cons_of_mem _ (List.mem_cons_of_mem _ (List.mem_cons_of_mem _ hK));have hstep : (W.take (i + 1)).filter (fun x => geW x tx) = (W.take i).filter (fun x => geW x tx) ++ (if geW wd tx then [wd] else []) := by
   rw [List.take_add_one, hwd, List.filter_append]
   congr 1
   cases hg : geW wd tx <;> simp [hg]
  refine wpAny_tests_one (wpAny_isTrue_Compare1 (m_nameC (C := C) F ⟨oC, by simp, hn⟩ hmC (m_nameK (K := L + 1 + 1) F ⟨oK, hKm, hd⟩ (PySem.P.ge_str (wpAny_truthy_bool ?_)))));have hge : (!decide ((mkS wd).cps.toList < (mkS tx).cps.toList)) = geW wd tx := by rw [mkS_cps, mkS_cps]; rfl
  rw [hge];cases hg : geW wd tx with
  | true =>
   refine ifT rfl ?_;refine m_nameC (C := C) F ⟨oC, by simp, hn⟩ hmC ⟨F, ?_⟩;rw [hstep, hg, if_pos rfl, List.map_append];exact strsAre_snoc hj _ _
  | false =>
   refine ifF rfl ?_;refine ⟨F, ?_⟩;rw [hstep, hg, if_neg Bool.false_ne_true, List.append_nil];exact hj
 ·intro s b2 D k ys hj F k2 eD loD snD bnD;rw [hwz, List.take_of_length_le (Nat.le_refl _)] at hj;have lD : b2.IsList D ys.toArray := ⟨_, eD, rfl, _, rfl⟩;rw [evalPart_none];refine wpAny_pure ?_;rw [evalPart_some];have hyn : ys.length <= 9 := by rw [hj.length, List.length_map]; exact Nat.le_trans (List.length_filter_le _ _) hw9
  refine m_cint F fun s t F _ => ⟨D, b2, m, ys.toArray, none, some 1, rfl, .none, .int _ _, F, lD, by rw [List.size_toArray, sizeLine_eq]; exact ar9 hyn, fun s b3 aL F k3 e3 lo3 sn3 => m_store F fun s F => ?_⟩;rw [show (1 : Int) = ((1 : Nat) : Int) from rfl, slicePick_upto'] at e3;have iL : StrsAre (ys.take 1) (((W.filter fun x => geW x tx).map mkS).take 1) := hj.take' 1;show wpAny _ _ (execs _ _) _ _ _;have lL : b3.IsList aL (ys.take 1).toArray := ⟨_, e3, rfl, 0, rfl⟩;have J := J.mono (m' := upd m "least" (.ref aL)) J.anc fun a o e => k3 _ _ (k2 _ _ e);have hall : (mkS tx).cps.all (· < 128) = true := by
   rw [← Array.all_toList];exact List.all_eq_true.mpr fun c hc => by simpa using hcx c (by simpa [mkS] using hc)
  refine wpAny_execs_cons (wpAny_If (isTrue_or (wpAny_isTrue_Compare1 (MethodCall_ (m_local F (by exact J.m4) (o_meth F (mt_accept w) J.D.obj (m_cw (by rfl) (args_cons (m_nameK (K := L + 1 + 1) F ⟨oK, hK, hd⟩ (args_nil ⟨F.g.X, ?_⟩))))))))));refine accept_spec F.g hB (J.D.keeps F.keep) hall (next_nz J.rows J.fr.wf J.fr.nz) fun s4 S4 => ?_;have F := F.grow S4;refine wpAny_Compare1 (m_nameK (K := L + 1 + 1) F ⟨oK, hK, hd⟩ (m_local F (by exact J.m3) (in_list_strs (by simpa using keepsL J.l3 F.keep) J.i3 (ne_bool (wpAny_truthy_bool ?_)))));have hacc : (c.finO (c.run 0 (mkS tx).cps.toList) != (W.map mkS).any (· == mkS tx)) = false := by
   have h1 : c.finO (c.run 0 (mkS tx).cps.toList) = (runR R 0 tx).any (finOf R) := by
    rw [DC.run_eq J.rows J.fr.wf, mkS_cps];cases runR R 0 tx with
    | none => rfl
    | some d => show c.fin d = finOf R d; rw [J.fin]
   rw [h1, accept_iff J.fr, any_mkS]; simp
  rw [hacc, if_neg Bool.false_ne_true];refine (dob J.D.Ol) _ fun oOl eOl hexOl => ?_;refine isTrue_or (wpAny_isTrue_Compare1 (m_list1S (w := w) (mg := mg) (mb := mb) (L := L) (W := W0) (H := H) (MethodCall_ (m_local F (by exact J.m4) (o_meth F (mt_next_valid w) J.D.obj (m_cw (by rfl) (args_cons (m_nameK (K := L + 1 + 1) F ⟨oK, hK, hd⟩ (args_nil ⟨F.g.X, ?_⟩)))))))));refine next_valid_spec (q := b3) F.g hB (lawFrs hst F) F.keep (fun z hz => by rw [lawFra] at hz; rw [List.mem_singleton.mp hz]; exact F.noL) J.D J.rows J.fr.wf J.fin hO (J.fr.zero.imp (·.1) (·.1)) J.fr.nz J.fr.len hcx hlx (hgt_le J.fr J.ws.len) fun s5 s6 q' c' v' sh S6 hq' hqf' kq' D' hx ht hf hO' hres => ?_;rw [next_head J.fr] at hres;refine (F.shiftL (s' := s5) sh) _ fun sE' shE F => ?_;have hOlL : ¬ (L = c.x.Ol) := fun q => by rw [← q, F.noL] at eOl; cases eOl
  have hOlH : ∀ p ∈ H, ¬ (p.1 = c.x.Ol) := fun p hp q => by have := (F.hid p hp).2.1; rw [q, eOl] at this; cases this
  have N' := J.anc.shift shE;refine (F.changeF (fr := []) (W' := (· = c.x.Ol)) (fun a ha => nomatch ha) S6 hOlL hOlH (fun a o ha e => by rw [ha, N'.heap, J.ol] at e; cases e)) _ fun b4 F _ k4 kn4 => ?_;have D4 : DFAAt w b4 c' := D'.keepsH fun z o ez hn => kn4 z o (F.notH hH hq' (hqf' L (by rw [lawFra]; simp)) ez hn) (by simp) (hq' z o ez);have hc'x := hx;have J := J.next N' (fun z o hz e => k4 z o hz e) D4 hx ht hf;have lL4 : b4.IsList aL (ys.take 1).toArray := by
   obtain ⟨o, eo, hc, r⟩ := lL;refine ⟨o, k4 aL o (fun q => ?_) eo, hc, r⟩;rw [q, eOl] at eo; cases eo;rw [hexOl.1] at hc; exact absurd hc (by simp)
  have kk : KpD c.x.Ol b b4 := fun z o hz e => k4 z o hz (k3 _ _ (k2 _ _ e));refine ⟨sE', b4, _, F, fun s7 b5 a5 F k5 e5 => ?_⟩;have J := J.mono (m' := upd m "least" (.ref aL)) J.anc k5;have lL5 := keepsL lL4 k5;have tl : (ys.take 1).toArray.size <= 1 := by rw [List.size_toArray, List.length_take]; lia
  refine BoolOp_or (m_local F (by rfl) (wpAny_truthy_list (keepsL lL5 F.keep) (by lia) ?_));have F := F.tok (s7.toks + 1 + 1);cases hfl : W.filter (fun x => geW x tx) with
  | nil =>
   rw [hfl] at hres hj iL;have hv : v' = .none := hres;subst hv;have hys : ys = [] := by cases hj; rfl
   subst hys;refine ifF (show (!(([] : List Value).take 1).toArray.isEmpty) = false from rfl) ?_;refine BoolOp_one (m_list1S (m_cnone ⟨sE', b5, _, F, fun s8 b6 a6 F k6 e6 => ?_⟩));have sh1 : SeqAt.shaped (.list [.none]) = true := by decide
   refine ne_dataH (readsL (ds := [.none]) (as := []) (keepsL (keepsL ⟨_, e5, rfl, _, rfl⟩ k6) F.keep) (.cons (as := []) .none .nil)) (readsL (ds := [.none]) (as := []) (keepsL ⟨_, e6, rfl, _, rfl⟩ F.keep) (.cons (as := []) .none .nil)) sh1 sh1 hB.u64 (wpAny_truthy_bool ?_);rw [SeqAt.eqv_refl _ (SeqAt.canLay_of_shaped sh1), show (!true) = false from rfl, if_neg Bool.false_ne_true];refine isTrue_or_nil ?_;refine ifF rfl ?_;exact wpAny_execs_nil (wpAny_execs_nil (h sE' b6 _ _ c' (J.mono J.anc k6) hO' hc'x F fun z o hz e => k6 _ _ (k5 _ _ (kk z o hz e))))
  | cons x r =>
   rw [hfl] at hres hj iL;obtain ⟨tv, rfl⟩ := (show ∃ t, v' = .str (mkS x) t from hres);obtain ⟨y0, yr, hys⟩ : ∃ y0 yr, ys = y0 :: yr := by cases hj; exact ⟨_, _, rfl⟩
   have hxm : x ∈ W := (List.mem_filter.mp (show x ∈ W.filter (fun x => geW x tx) from by rw [hfl]; simp)).1;refine ifT (show (!(ys.take 1).toArray.isEmpty) = true by rw [hys]; rfl) ?_;refine m_neSame (ss := [mkS x]) F hB ⟨_, e5, rfl, _, rfl⟩ lL5 (.cons _ tv .nil) iL (fun z hz => by
    rw [List.mem_singleton.mp hz]; exact strOk_mkS fun c hc => by have := J.ws.abc x hxm c hc; exact ar4 this) (wpAny_truthy_bool ?_)
   refine ifF rfl ?_;refine isTrue_or_nil ?_;refine ifF rfl ?_;exact wpAny_execs_nil (wpAny_execs_nil (h sE' b5 _ _ c' J hO' hc'x F fun z o hz e => k5 _ _ (kk z o hz e)))
end
end Mine
end
section
open PySem PySem.W PySem.Calls PyProof.Rows PySem.Spec
namespace Mine
section
variable {w : World} {mg mb : Str -> Option Value} {L : Addr} {sE s s0 : Shared} {H : List (Addr × Obj)} {b b' : Heap} {m m' : Str -> Option Value}
variable {A0 A : Around} {E : Value -> Shared -> Prop} {fa : Addr} {cd : Value} {Q : Flow -> Shared -> Prop} {env : Env}
variable {ns : List Int} {aS : Addr} {vs : List Value} {aG : Addr} {gv : List Value} {aW : Addr} {wv : Array Value} {W : List (List Nat)} {c : DC} {R : RG}
theorem for_genK {W : Addr -> Prop} {R : Result -> Shared -> Prop} {v : Str} {px : Pos} {body orelse : List Stmt} {I K : Addr} {o0 oK0 : Obj} {PK : Obj -> Prop} {It : Nat -> Obj -> Prop} {n : Nat} {P : Nat -> Value -> Prop} {Src : Heap -> Prop} (T : Iter w I It n P Src) (hh : A.handled = none)
  (J : Nat -> Shared -> Heap -> (Str -> Option Value) -> Prop) (hS : ∀ i sE b m, J i sE b m -> Src b) (F : Fx w mg mb L sE W ((I, o0) :: (K, oK0) :: H) b s m) (hI : ∀ p ∈ H, p.1 ≠ I) (hIK : K ≠ I) (h0 : It 0 o0) (hK0 : PK oK0) (j0 : J 0 sE b m)
  (step : ∀ i val s sE b m (o oK : Obj), It (i + 1) o -> PK oK -> i < n -> P i val -> J i sE b m -> Fx w mg mb L sE W ((I, o) :: (K, oK) :: H) b s (upd m v val) ->
   wpAny (model PP w) A (execs body env) (fun f s' => match f with
    | .next | .cont => ∃ sE' b' m' oK', Fx w mg mb L sE' W ((I, o) :: (K, oK') :: H) b' s' m' ∧ PK oK' ∧ J (i + 1) sE' b' m'
    | .brk => R (.ok .next) s'
    | .ret u => R (.ok (.ret u)) s') (notedBy (model PP w) A env fun e s' => R (.error e) s') s)
  (fin : ∀ s sE b m oK, J n sE b m -> Fx w mg mb L sE W ((K, oK) :: H) b s m -> wpAny (model PP w) A (execs orelse env) (fun f s' => R (.ok f) s') (notedBy (model PP w) A env fun e s' => R (.error e) s') s)
  (hL : env.locals = L := by rfl) (hk : env.scope.kind = .function := by rfl) (hl : env.kindOf v = some .local := by rfl) :
  codeAny (model PP w) A (.forLoop (.Name v px) (.ref I) body orelse env) R s := by
 refine codeAny_forLoop (LpK w mg mb L W H I K It PK J n) ?_ n (fun _ kk => kk 0 sE b m o0 oK0 F h0 hK0 j0 (Nat.zero_le _) rfl);intro N s hLp;refine hLp _ fun i sE b m o oK F hi hpk hj hin eq12 => ?_;subst eq12;have h1 := F.hid _ (List.mem_cons_self);have src : Src s.heap := T.keep _ _ (hS _ _ _ _ hj) F.keep;have hI' : ∀ p ∈ (K, oK) :: H, p.1 ≠ I := fun p hp => by
  rcases List.mem_cons.mp hp with rfl | hp
  ·exact hIK
  ·exact hI p hp
 by_cases hlt : i < n
 ·refine T.item A i s _ _ o hh hlt h1.1 hi src fun val h' tk o' hp he hi' hk' => ?_;have F' : Fx w mg mb L sE W ((I, o') :: (K, oK) :: H) b { s with heap := h', toks := tk } m := F.turn hI' he hk' rfl rfl;refine wpAny_assign_Name (m_store F' (fun s F => ?_) hL hk hl);refine wpAny_mono (step i val s sE b m o' oK hi' hpk hlt hp hj F) (fun f s' hf => ?_) ee;cases f with
  | next => obtain ⟨sE', b', m', oK', F', hpk', hj'⟩ := hf; exact ⟨n - (i + 1), (ar1 hlt), fun _ kk => kk (i + 1) sE' b' m' o' oK' F' hi' hpk' hj' hlt rfl⟩
  | cont => obtain ⟨sE', b', m', oK', F', hpk', hj'⟩ := hf; exact ⟨n - (i + 1), (ar1 hlt), fun _ kk => kk (i + 1) sE' b' m' o' oK' F' hi' hpk' hj' hlt rfl⟩
  | brk => exact hf
  | ret u => exact hf
 ·have e : i = n := (ar2 hin hlt);subst e;exact T.done A s _ _ o hh h1.1 hi src fun h' tk hk' => fin _ sE b m oK hj (F.over hI' hk' rfl rfl)
theorem sum_any {l : Addr} {items : Array Value} {zs : List Int} {Q : Value -> Shared -> Prop} (hh : A.handled = none) (hl : s.heap.IsList l items) (hi : IntsAre items.toList zs)
  (h : ∀ s' z t, Stp W0 s s' -> Q (.int z t) s') : wpAny (model PP w) A (call (.builtin "sum") [.ref l]) Q E s := by
 have ha := hi.allInts;obtain ⟨xs, he⟩ := ha.items;have he : items = intItems xs := by rw [← he]
 rw [he] at hl;exact sum_intListG hh hl fun h' tk t' hk => h _ _ _ (.of hk)
theorem mulOk {z : Int} {k : Nat} (h : k < 3) : IntMulOk z ((k : Int) + 1) := by
 refine .of_right ?_;cases k with
 | zero => decide
 | succ k =>
  cases k with
  | zero => decide
  | succ k =>
   cases k with
   | zero => decide
   | succ k => exact absurd h (by omega)
end
end Mine
end
section
open PySem PySem.W PySem.Calls PyProof.Rows PySem.Spec
namespace Mine
section
variable {w : World} {mg mb : Str -> Option Value} {L : Addr} {sE s s0 : Shared} {H : List (Addr × Obj)} {b b' : Heap} {m m' : Str -> Option Value}
variable {A0 : Around} {E : Value -> Shared -> Prop} {fa : Addr} {cd : Value} {Q : Flow -> Shared -> Prop}
variable {ns : List Int} {aS : Addr} {vs : List Value} {aG : Addr} {gv : List Value} {aW : Addr} {wv : Array Value} {W : List (List Nat)} {c : DC} {R : RG}
theorem ktext {k : Nat} {tk : Tok} (hA : Rm A0 61) (hk3 : k < 3) (J : LJ2 w L s0 sE b m ns aS vs aG gv aW wv W c R) (hmk : m "k" = some (.int (k : Nat) tk)) (F : Fx w mg mb L sE W0 H b s m)
  (h : ∀ b' s' n t, LJ2 w L s0 sE b' (upd m "text" (.str (mkS (lawWord n)) t)) ns aS vs aG gv aW wv W c R -> Fx w mg mb L sE W0 H b' s' (upd m "text" (.str (mkS (lawWord n)) t)) -> Kp b b' -> wpAny (model PP w) (A0.deeper (lawEnv L fa cd)) (execs (lawK.drop 1) (lawEnv L fa cd)) Q E s') :
  wpAny (model PP w) (A0.deeper (lawEnv L fa cd)) (execs lawK (lawEnv L fa cd)) Q E s := by
 have hB : Rm (A0.deeper (lawEnv L fa cd)) 60 := hA.deeper _;have hvl : vs.length = ns.length := J.i1.length;have hl63 := J.len;refine wpAny_execs_cons (wpAny_Assign_Name (Call_ (m_glob F (gl_law_word w) (m_cw (by rfl) ?_))));refine args_cons (wpAny_BinOp (wpAny_BinOp (Call_ (m_bi F (ng_sum w) boot_sum (m_cwb ?_)))));refine args_cons (m_lslice (w := w) (mg := mg) (mb := mb) (L := L) (sE := sE) (W := W0) (H := H) (m_local F (by exact J.m1) ?_));rw [evalPart_some, evalPart_some];refine m_cint F fun s t F _ => wpAny_BinOp (m_cint F fun s t2 F _ => m_local F (by exact hmk) (m_add F fun s t3 F _ => ?_));refine ⟨aS, b, m, vs.toArray, some 9, some (10 + (k : Nat)), rfl, .int _ _, .int _ _, F, J.l1, by rw [List.size_toArray, hvl, sizeLine_eq]; exact ar68 hl63, fun s b1 a1 F k1 e1 lo1 sn1 => ?_⟩;have l1 : b1.IsList a1 (slicePick vs.toArray (some 9) (some (10 + (k : Nat))) none) := ⟨_, e1, rfl, 0, by simp⟩;refine args_nil (sum_any hB.hh (keepsL l1 F.keep) (J.i1.pick _ _ _) fun s2 z tz S2 => ?_);have F := F.grow S2;refine wpAny_BinOp (m_local F (by exact hmk) (m_cint F fun s t4 F _ => m_add F fun s t5 F _ => P.mul_int ?_ (mulOk hk3)));have F := F.tok (s.toks + 1);refine m_local F (by exact hmk) (m_add F fun s t6 F _ => args_nil ⟨F.g.X, ?_⟩);refine law_word_spec F.g hB fun s3 t7 S3 => m_store (F.grow S3) fun s F => ?_;exact h b1 s _ t7 (J.mono J.anc k1) F k1
noncomputable def TxtOk (vals : List Value) : Prop := ∀ (i : Nat) (v : Value), vals[i]? = some v -> ∃ x t, v = .str (mkS x) t ∧ (∀ c ∈ x, c < 128) ∧ x.length <= 10
theorem ktuple {n : Int} {tt : Tok} {I : Addr} {oI k1 k2 : Obj} (hA : Rm A0 61) (hst : A0.frames = some []) (J : LJ2 w L s0 sE b m ns aS vs aG gv aW wv W c R) (hO : OutOk R c) (hmt : m "text" = some (.str (mkS (lawWord n)) tt)) (F : Fx w mg mb L sE W0 ((I, oI) :: (L + 1 + 1, k2) :: [(L + 1, k1)]) b s m)
  (hoI : Hid oI) (hk1 : Hid k1) (hk2 : ∃ v, k2.data = .cell v) (hI1 : I ≠ L + 1) (hI2 : I ≠ L + 1 + 1)
  (h : ∀ sE' b' s' m' c' k2', (∃ v, k2'.data = .cell v) -> LJ2 w L s0 sE' b' m' ns aS vs aG gv aW wv W c' R -> OutOk R c' -> c'.x = c.x -> Fx w mg mb L sE' W0 ((I, oI) :: (L + 1 + 1, k2') :: [(L + 1, k1)]) b' s' m' -> Q .next s') :
  wpAny (model PP w) (A0.deeper (lawEnv L fa cd)) (execs (lawK.drop 1) (lawEnv L fa cd)) Q E s := by
 have hB : Rm (A0.deeper (lawEnv L fa cd)) 60 := hA.deeper _;have hl1 := (lawWord_len n).1;have hl4 := (lawWord_len n).2;have habc := lawWord_abc n;refine wpAny_execs_cons (wpAny_For (wpAny_Tuple ?_));refine args_cons (m_local F (by exact hmt) (args_cons (m_from (w := w) (mg := mg) (mb := mb) (L := L) (sE := sE) (W := W0) (H := (I, oI) :: (L + 1 + 1, k2) :: [(L + 1, k1)]) (p := 1) hl1 (by rw [sizeLine_eq]; exact ar70 hl4) (m_local F (by exact hmt) ⟨tt, rfl, m_cint F fun s t2 F _ => ⟨t2, b, m, rfl, F, fun s t3 F => ?_⟩⟩))));refine args_cons (wpAny_BinOp (m_local F (by exact hmt) (m_cstr F fun s t4 F _ => add_str (fun t5 tk => args_nil ⟨by rw [sizeLine_eq]; show 3 <= _; exact ar20, ?_⟩) (by rw [mkS_len, sizeLine_eq]; show _ + 1 <= _; exact ar35 hl4))));have F := F.tok tk;have hsn : mkS (lawWord n) ++ "c" = mkS (lawWord n ++ [99]) := by
  show (⟨_⟩ : Str) = ⟨_⟩
  congr 1
  have hc : (Str.ofString "c").cps = #[99] := by decide +kernel
  rw [hc];simp [mkS]
 rw [hsn];have hok : TxtOk [.str (mkS (lawWord n)) tt, .str (mkS ((lawWord n).drop 1)) t3, .str (mkS (lawWord n ++ [99])) t5] := fun i v hv => by
  match i, hv with
  | 0, hv => cases hv; exact ⟨_, _, rfl, fun c hc => by have := habc c hc; exact ar4 this, (ar258 hl4)⟩
  | 1, hv => cases hv; exact ⟨_, _, rfl, fun c hc => by have := habc c (List.mem_of_mem_drop hc); exact ar4 this, by rw [List.length_drop]; exact Nat.le_trans (Nat.le_trans (Nat.sub_le _ _) hl4) (by decide)⟩
  | 2, hv => cases hv; exact ⟨_, _, rfl, fun c hc => by
    rcases List.mem_append.mp hc with hc | hc
    ·have := habc c hc; exact ar4 this
    ·rw [List.mem_singleton.mp hc]; decide, by rw [List.length_append, List.length_singleton]; exact ar260 hl4⟩
 show wpAny _ _ (pyIter _) _ _ { s with toks := tk, heap := s.heap.push (tupO [.str (mkS (lawWord n)) tt, .str (mkS ((lawWord n).drop 1)) t3, .str (mkS (lawWord n ++ [99])) t5]) };generalize ([.str (mkS (lawWord n)) tt, .str (mkS ((lawWord n).drop 1)) t3, .str (mkS (lawWord n ++ [99])) t5] : List Value) = vals at hok ⊢;have hn := F.none_of (Nat.le_refl s.heap.objs.size);have F2 := F.grow (s' := { s with toks := tk, heap := s.heap.push (tupO vals) }) (.of fun _ _ e => Heap.get?_push_of_some _ e);refine (F2.rebase) _ fun b2 F kb kn2 => ?_;have eP : b2.get? s.heap.objs.size = some (tupO vals) := kn2 _ _ hn.2.1 (Heap.get?_push_size _ rfl);generalize s.heap.objs.size = aP at eP ⊢;have J := J.mono (m' := m) J.anc kb;have lP : b2.IsTuple aP vals.toArray := ⟨_, eP, rfl, _, rfl⟩;generalize hsg : ({ s with toks := tk, heap := s.heap.push (tupO vals) } : Shared) = sg at F ⊢;refine wpAny_pyIter_tuple (by obtain ⟨o, e, r⟩ := lP; exact ⟨o, F.keep _ _ e, r⟩) ?_;have F1 := F.push (o := { cls := .type "tuple_iterator", data := .fields #[.ref aP, .int 0 0] }) rfl;have hIH : ∀ p ∈ (I, oI) :: (L + 1 + 1, k2) :: [(L + 1, k1)], p.1 ≠ sg.heap.objs.size := fun p hp q => absurd (Heap.lt_size (F.hid p hp).1) (by rw [q]; exact Nat.lt_irrefl _);generalize sg.heap.objs.size = I2 at F1 hIH ⊢;have F1 := F1.fewer (H' := (I2, _) :: (L + 1 + 1, k2) :: [(I, oI), (L + 1, k1)]) fun p hp => perm3e hp;refine for_genC (Iter.tuple (items := vals.toArray)) hB.hh (fun i sE' b' m' => b'.get? aP = some (tupO vals) ∧ ∃ c', LJ2 w L s0 sE' b' m' ns aS vs aG gv aW wv W c' R ∧ OutOk R c' ∧ c'.x = c.x) (fun i _ b m h => ⟨_, h.1, rfl, _, rfl⟩) F1 (fun p hp => ?_) (fun p hp => ?_) ?_ ⟨rfl, rfl⟩ hk2 ⟨eP, c, J, hO, rfl⟩ ?_ ?_ (by rfl) rfl (by rfl)
 ·simp only [List.mem_cons, List.not_mem_nil, or_false] at hp;rcases hp with rfl | rfl
  ·exact hIH (I, oI) (by simp)
  ·exact hIH (L + 1, k1) (by simp)
 ·simp only [List.mem_cons, List.not_mem_nil, or_false] at hp;rcases hp with rfl | rfl
  ·exact hI2
  ·exact Nat.ne_of_lt (Nat.lt_succ_self _)
 ·exact hIH (L + 1 + 1, k2) (by simp)
 ·intro i val s sE b m o oK hlt hv hJ hoK hit F;refine gQ fun Qb Eb hQb hEb => ?_;obtain ⟨eP, c', J, hO, hcx⟩ := hJ;obtain ⟨tx, tt, rfl, hcx1, hlx⟩ := hok i val (by simpa using hv);refine inner1 hA hst J hO F (fun p hp => ?_) (oK := oK) (by simp) hoK hcx1 hlx fun sE' b' s' m' c'' J' hO' hx' F' kk => hQb _ _ ⟨sE', b', m', F', kk _ _ (fun q => ?_) eP, c'', J', hO', hx'.trans hcx⟩
  ·simp only [List.mem_cons, List.not_mem_nil, or_false] at hp;rcases hp with rfl | rfl | rfl | rfl
   ·exact .inr (.inr (.inl hit.1))
   ·exact .inl ⟨_, hoK⟩
   ·exact hoI
   ·exact hk1
  ·refine (dob J.D.Ol) _ fun o2 e2 hx2 => ?_;rw [← q, eP] at e2; cases e2;exact absurd hx2.1 (by simp)
 ·rintro s sE b m oK ⟨_, c', J, hO, hcx⟩ hcell F
  exact wpAny_execs_nil (wpAny_execs_nil (h sE b s m c' oK hcell J hO hcx (F.fewer fun p hp => (List.Perm.swap _ _ _).mem_iff.mp hp)))
end
end Mine
end
section
open PySem PySem.W PySem.Calls PyProof.Rows PySem.Spec
namespace Mine
section
variable {w : World} {mg mb : Str -> Option Value} {L : Addr} {sE s s0 : Shared} {H : List (Addr × Obj)} {b b' : Heap} {m m' : Str -> Option Value}
variable {A0 : Around} {E : Value -> Shared -> Prop} {fa : Addr} {cd : Value} {Q : Flow -> Shared -> Prop}
variable {ns : List Int} {aS : Addr} {vs : List Value} {aG : Addr} {gv : List Value} {aW : Addr} {wv : Array Value} {W : List (List Nat)} {c : DC} {R : RG}
theorem law8 {k1 k2 : Obj} (hA : Rm A0 61) (hst : A0.frames = some []) (J : LJ2 w L s0 sE b m ns aS vs aG gv aW wv W c R) (hO : OutOk R c) (F : Fx w mg mb L sE W0 [(L + 1 + 1, k2), (L + 1, k1)] b s m) (hk1 : Hid k1) (hk2 : ∃ v, k2.data = .cell v) (hL0 : s0.heap.get? L = none)
  (h : ∀ s', Done s0 s' -> Q (.ret (.bool true)) s') :
  wpAny (model PP w) (A0.deeper (lawEnv L fa cd)) (execs (lawBody.drop 11) (lawEnv L fa cd)) Q E s := by
 have hB : Rm (A0.deeper (lawEnv L fa cd)) 60 := hA.deeper _;refine wpAny_execs_cons (wpAny_For (Call_ (m_bi F (ng_range w) boot_range (m_ct (args_cons (m_cint F fun s t3 F _ => args_nil (call_range_1 ?_)))))));have F2 := F.grow (s' := { s with heap := s.heap.push { cls := .type "range", data := .fields #[.int 0 s.toks, .int 3 t3, .int 1 (s.toks + 1)] }, toks := s.toks + 1 + 1 }) (.of fun _ _ e => Heap.get?_push_of_some _ e);have hs : Builtin.Range.rangeSize 0 3 1 = ((3 : Nat) : Int) := by decide
 refine wpAny_pyIter_range (a := 0) (b := 3) (c := 1) (t := s.toks) (u := t3) (v := s.toks + 1) (Heap.get?_push_size _ rfl) (by decide) ?_;rw [hs];have F3 := F2.push (o := { cls := .type "range_iterator", data := .fields #[rawInt 0, rawInt ((3 : Nat) : Int), rawInt 1] }) rfl;have hIH : ∀ p ∈ [(L + 1 + 1, k2), (L + 1, k1)], p.1 ≠ (s.heap.push { cls := .type "range", data := .fields #[.int 0 s.toks, .int 3 t3, .int 1 (s.toks + 1)] }).objs.size := fun p hp q => absurd (Heap.lt_size (F2.hid p hp).1) (by rw [q]; exact Nat.lt_irrefl _);generalize (s.heap.push { cls := .type "range", data := .fields #[.int 0 s.toks, .int 3 t3, .int 1 (s.toks + 1)] }).objs.size = I at F3 hIH ⊢;refine for_genK (PK := fun o => ∃ v, o.data = .cell v) (Iter.range (n := 3)) hB.hh (fun i sE' b' m' => ∃ c', LJ2 w L s0 sE' b' m' ns aS vs aG gv aW wv W c' R ∧ OutOk R c' ∧ c'.x = c.x) (fun _ _ _ _ _ => trivial) F3 (fun p hp => hIH p (List.mem_cons_of_mem _ hp)) (hIH (L + 1 + 1, k2) (by simp)) (by simp) hk2 ⟨c, J, hO, rfl⟩ ?_ ?_ rfl rfl (by rfl)
 ·intro i val s sE b m o oK hit hoK hlt hval hJ F;refine gQ fun Qb Eb hQb hEb => ?_;obtain ⟨tk, rfl⟩ := hval;obtain ⟨c', J, hO, hcx⟩ := hJ;have J := J.mono (m' := upd m "k" (.int (i : Nat) tk)) J.anc ee;refine ktext hA hlt J (by rfl) F fun b1 s1 n t J F kk => ?_;refine ktuple hA hst J hO (by rfl) F (by rw [hit]; exact .inr (.inr (.inr (.inl rfl)))) hk1 hoK (Ne.symm (hIH (L + 1, k1) (by simp))) (Ne.symm (hIH (L + 1 + 1, k2) (by simp))) fun sE' b' s' m' c'' k2' hk2' J' hO' hx' F' => hQb _ _ ⟨sE', b', m', k2', F', hk2', c'', J', hO', hx'.trans hcx⟩
 ·rintro s sE b m oK ⟨c', J, hO, hcx⟩ F
  refine wpAny_execs_nil ?_;show wpAny _ _ (execs _ _) _ _ _;refine wpAny_execs_cons (wpAny_Return_some (m_cbool ?_));exact h s (J.anc.done hL0 F)
theorem law_walk {k1 k2 : Obj} (hA : Rm A0 61) (hst : A0.frames = some []) (F : Fx w mg mb L sE W0 [(L + 1 + 1, k2), (L + 1, k1)] b s m) (hk1 : ∃ v, k1.data = .cell v) (hk2 : ∃ v, k2.data = .cell v) (N : Anc s0 sE) (hL0 : s0.heap.get? L = none)
  (hm : m "script" = some (.ref aS)) (hl : b.IsList aS vs.toArray) (hi : IntsAre vs ns) (hlen : ns.length <= 63)
  (h : ∀ s', Done s0 s' -> Q (.ret (.bool true)) s') :
  wpAny (model PP w) (A0.deeper (lawEnv L fa cd)) (execs lawBody (lawEnv L fa cd)) Q E s := by
 have hH : ∀ {k1 k2 : Obj}, (∃ v, k1.data = .cell v) -> (∃ v, k2.data = .cell v) -> ∀ p ∈ [(L + 1 + 1, k2), (L + 1, k1)], Hid p.2 := fun h1 h2 p hp => by
  simp only [List.mem_cons, List.not_mem_nil, or_false] at hp;rcases hp with rfl | rfl
  ·exact .inl h2
  ·exact .inl h1
 refine law1a hA F (hH hk1 hk2) N hm hl hi hlen fun sE b s m aG gv aW wv W J F => ?_;refine law1b hA hst J F (hH hk1 hk2) fun sE b s m c R J hout F => ?_;refine law2 hA hst J F (hH hk1 hk2) fun sE b s J F => ?_;refine law3 hA hst J F (hH hk1 hk2) fun sE b s J F => ?_;refine law4 hA J F (hH hk1 hk2) fun b s a ks J F X _ hkn hks => ?_;refine law5 hA J F (hH hk1 hk2) (by rfl) X hkn hks hout fun b s m aB bv ss kn aT kT J hTB hKB mB lB iB hss hsl F => ?_;refine law6 hA J hTB hKB mB lB iB hss hsl F hk1 fun b s m xs sv kT qs k1' hk1' J hall F => ?_;refine law7 hA J hall F fun b s J' F => ?_;refine law8 hA hst J' ⟨fun x hx => ?_, fun x hx => ?_⟩ F (.inl hk1') hk2 hL0 h
 ·rw [hout] at hx; cases hx
 ·rw [hout] at hx; cases hx
end
end Mine
end
section
open PySem PySem.W PySem.Calls PyProof.Rows PySem.Spec
namespace Mine
theorem law_fin {w : World} {p : Program} {loose : List Str} {mean : ExcName -> Option Value} {mg mb : Str -> Option Value} {s₁ : Shared} {h₁ : Heap} {tk : Nat} {mm : Str -> Option Value} {a fa : Addr} {cd : Value} {o1 o2 : Obj} {vs : List Value} {ns : List Int} {E : Value -> Shared -> Prop} {Q : Flow -> Shared -> Prop}
  (KX : (KK w).In s₁.heap) (T : Top p loose mean mg mb s₁.heap) (F : Fr s₁.heap s₁.heap.objs.size h₁ mm) (hm : mm "script" = some (.ref a)) (N : News s₁.heap s₁.heap.objs.size h₁ [(s₁.heap.objs.size + 1 + 1, o2), (s₁.heap.objs.size + 1, o1)]) (d1 : ∃ v, o1.data = .cell v) (d2 : ∃ v, o2.data = .cell v)
  (hL : s₁.heap.IsList a vs.toArray) (hI : IntsAre vs ns) (hlen : ¬ ((63 : Nat) : Int) < (ns.length : Int)) (hg : s₁.gens = #[]) (hq : ∀ s', Done s₁ s' -> Q (.ret (.bool true)) s') :
  wpAny (model PP w) (callerA.deeper (lawEnv s₁.heap.objs.size fa cd)) (execs lawBody (lawEnv s₁.heap.objs.size fa cd)) Q E { s₁ with heap := h₁, toks := tk } := by
 have T1 := T.keeps F.keep;have g1 : G w mg mb h₁ := ⟨KX.keeps F.keep, T1.g, T1.b, T1.nolimit, T.builtins⟩;have g0 : G w mg mb s₁.heap := ⟨KX, T.g, T.b, T.nolimit, T.builtins⟩;have hsz : 456 <= s₁.heap.objs.size := g0.size;have F0 : Fx w mg mb s₁.heap.objs.size s₁ W0 [(s₁.heap.objs.size + 1 + 1, o2), (s₁.heap.objs.size + 1, o1)] s₁.heap { s₁ with heap := h₁, toks := tk } mm := by
  refine ⟨g1, hsz, F.ns, .of F.keep, F.keep, Heap.get?_size_none _, fun p hp => ?_⟩;obtain ⟨e, hne, hno⟩ := N p hp;refine ⟨e, hno, hne, hno, ?_⟩;simp only [List.mem_cons, List.not_mem_nil, or_false] at hp;rcases hp with rfl | rfl
  ·exact Nat.le_trans hsz (Nat.le_trans (Nat.le_succ _) (Nat.le_succ _))
  ·exact Nat.le_trans hsz (Nat.le_succ _)
 have hA : Rm callerA 61 := ⟨rfl, by show 1 + claimMargin + 61 < recursionLimit; decide, by show 4 + 8 * 61 < cLine; decide⟩;exact law_walk hA rfl F0 d1 d2 ⟨fun _ => rfl, rfl, fun x hx => by rw [hg] at hx; simp at hx⟩ (Heap.get?_size_none _) hm hL hI (Int.ofNat_le.mp (Int.not_lt.mp hlen)) hq
end Mine
end
section
open PySem PySem.W PySem.Calls PyProof.Rows PySem.Spec
theorem Mine.law_post (args : List WData) : PySem.Challenge.rw_ky0010_01.row.claim.post args (.bool true) args = true := by
 first
  | exact postW_of (by wrow_shape) (by wtm_val) rfl
  | exact postW_of (by rfl) (w_eq_bool (w_res rfl) w_lit) rfl
end
section
open PySem PySem.W PyProof.Rows PySem.Calls PySem.Spec
theorem Mine.ws : OpenLaw.wellSaid PySem.Challenge.rw_ky0010_01 = true := by
 rw [PySem.W.Fast.te9446332074065402090]
 kernel_rfl
theorem Mine.ck : (chainsOk Mine.vw && opensWell PySem.Challenge.rw_ky0010_01.row.prog && (frees PySem.Challenge.rw_ky0010_01.row.toRowW && PySem.Challenge.rw_ky0010_01.row.within.isEmpty)) = true := by kernel_rfl
theorem Mine.tw : PySem.Challenge.rw_ky0010_01.row.prog.tablesWhole = true := by kernel_rfl
set_option maxHeartbeats 8000000 in
theorem PySem.Challenge.cw_ky0010_01_holds : PySem.Challenge.rw_ky0010_01.Holds := by
 refine holds_law Mine.ws fun said => ?_;refine holds_open (q := Mine.vw) (loose := Mine.lw) (Xt := fun s => xlAt Mine.vw [] s && recOk PySem.Challenge.rw_ky0010_01.row.records s) (XP := XL Mine.vw []) (Yf := Hook.obs Mine.kH) (Ya := Hook.val Mine.kH) (YP := Hook.says Mine.kH) (N := 4400) Mine.left (Hook.of Mine.kH) (Hook.keeps Mine.kH) (fun s e => xl_of s (Bool.and_eq_true_iff.mp e).1) XL.keeps (by rfl) (by rfl) (by rfl) (fun s e => recFacts_of (Bool.and_eq_true_iff.mp e).2) (by rfl) said Mine.ck ⟨rfl, rfl, rfl, rfl, rfl, Mine.tw⟩ ?hw ?hc
 case hw => w_witness2
 case hc =>
  intro w s₀ s₁ mg mb G Y fa o pm cd doc dV kV ho hd hcd hD hmg hg args vals as hpre hlay hrd hwl hlo;have KX := kIn_of Y;have X := (Ground.X G).1;have V := (Ground.X G).2;refine Ground.open G ?_;intro T B D TE TW
  try (refine guard_noD D (by decide +kernel) ?_; clear D)
  obtain ⟨_, _, M⟩ := bmod_of_top T;have TA := at_of_top T
  try (obtain ⟨_, _, he, B0⟩ := based_of_top T rfl hmg ho hd; have he' : cd = _ := he; subst he'; clear he)
  clear hmg
  wrow_args hpre hlay hrd hwl hlo
  all_goals (
   first | refine callC_kw (enter_call ?_) | refine enter_call ?_ | refine callC_kw (enter_callW ?_) | refine enter_callW ?_ | w_how
   w_top on
   have K0 := below_caller (Top.heap T)
   w_call any ho hd hcd hD T F
   clear hd TA
   k_drop
   skip)
  rename News _ _ _ _ => N0
  rename IntsAre _ _ => hI0
  rename Heap.IsList _ _ _ => hL0
  rename ¬ _ < _ => hlen0
  refine Mine.law_fin (E := _) KX T F (by rfl) N0 ⟨_, by assumption⟩ ⟨_, by assumption⟩ hL0 hI0 hlen0 hg fun s' D' => ?_;exact ⟨.inl ⟨.bool true, .bool true, [], rfl, fun cls => by rfl, .bool true, Mine.law_post _, fun _ => ⟨List.nodup_nil, fun a ha => nomatch ha⟩⟩, OldK.of_keep D'.keep, D'.os, D'.gens⟩
end
