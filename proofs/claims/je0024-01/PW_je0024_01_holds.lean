import PyProof.Rows.All
import Wide.All
import OpenK.AllK
import Wide.FinOn
import PySem.Challenge.RW_je0024_01
open PySem PySem.W PyProof.Rows PySem.Calls PySem.Spec
set_option Elab.async false
set_option linter.all false
set_option maxRecDepth 100000
set_option maxHeartbeats 8000000
set_option compiler.extract_closed false
namespace Mine
-- Kx
section
noncomputable abbrev Pg : Program := PySem.Challenge.rw_je0024_01.row.prog
noncomputable def fdA : Stmt → Arguments
  | .FunctionDef _ a _ _ _ _ _ _ _ _ => a
  | _ => ⟨[], [], none, [], [], none, []⟩
noncomputable def fdB : Stmt → List Stmt
  | .FunctionDef _ _ b _ _ _ _ _ _ _ => b
  | .ClassDef _ _ _ b _ _ _ _ _ _ _ => b
  | _ => []
noncomputable def fdS : Stmt → Scope
  | .FunctionDef _ _ _ _ _ _ s _ _ _ => s
  | _ => default
noncomputable def nth : Nat → List Stmt → Stmt
  | _, [] => default
  | 0, a :: _ => a
  | n + 1, _ :: r => nth n r
noncomputable abbrev tp (i : Nat) : Stmt := nth i Pg.main.body
noncomputable abbrev fnO (s : Stmt) (name qual : Str) (dV kV doc pm : Value) (an : Option Addr) (cdv ct oc : Value) (od : Option Addr) (sl : Array (Option Value)) : Obj :=
  ⟨oc, od, .func (fnOf name qual (fdA s) (fdB s) (fdS s) dV kV doc pm an cdv ct), sl⟩
noncomputable abbrev kE (P : Params) (k : Str) (t : Nat) (v : Value) : DictEntry := { hash := PyData.keyHash P k, key := .str k t, val := v }
noncomputable abbrev fO (c : String) (l : List Value) : Obj := { cls := .type c, data := .fields l.toArray }
/-- the objects that the walk reads -/
noncomputable def Kh (P : Params) : Frag :=
  (nat_lit 3, { cls := .type "dict", data := .dict #[kE P "__name__" 165 (.str "law_je0024_01" 546), kE P "__doc__" 166 (.none), kE P "__package__" 167 (.none), kE P "__loader__" 168 (.builtin "__main__.__loader__#opaque"), kE P "__spec__" 169 (.none), kE P "__annotations__" 170 (.ref 6), kE P "__builtins__" 171 (.ref 4), kE P "__file__" 173 (.str "/claim/cut.py" 172), kE P "__cached__" 174 (.none), kE P "_wall" 193 (.ref 21), kE P "Nonterminal" 255 (.ref 66), kE P "_key" 262 (.ref 77), kE P "Production" 343 (.ref 141), kE P "Tree" 500 (.ref 269), kE P "_child_names" 509 (.ref 280), kE P "_same" 517 (.ref 287), kE P "chomsky_normal_form" 529 (.ref 293), kE P "un_chomsky_normal_form" 538 (.ref 299), kE P "collapse_unary" 545 (.ref 305), kE P "_law_tape" 553 (.ref 310), kE P "_law_take" 563 (.ref 317), kE P "_law_node" 574 (.ref 324), kE P "_law_built" 580 (.ref 329), kE P "_law_plain" 586 (.ref 334), kE P "_law_joined" 592 (.ref 339), kE P "_law_binary" 598 (.ref 344), kE P "law" 604 (.ref 349)] 27 }) ::
  (nat_lit 153, { cls := .type "tuple", data := .seq #[.none] }) ::
  (nat_lit 159, fO "code" [.str "__init__" 358, .str "Tree.__init__" 359, .str "/claim/cut.py" 360, .int 56 0, .int 3 0, .int 0 0, .int 0 0, .int 3 0, .ref 154, .bool true, .int 181 0, .ref 155, .none, .ref 156, .ref 157, .ref 158, .int 364 0, .int 56 0, .str "/claim/cut.py" 365]) ::
  (nat_lit 160, fnO (nth 0 (fdB (tp 6))) "__init__" "Tree.__init__" (.ref 153) .none .none (.str "nltk.tree.tree" 344) (none) (.ref 159) .none (.type "function") (none) (#[])) ::
  (nat_lit 166, fO "code" [.str "__eq__" 367, .str "Tree.__eq__" 368, .str "/claim/cut.py" 369, .int 65 0, .int 2 0, .int 0 0, .int 0 0, .int 3 0, .ref 161, .bool true, .int 181 0, .ref 162, .none, .ref 163, .ref 164, .ref 165, .int 372 0, .int 65 0, .str "/claim/cut.py" 373]) ::
  (nat_lit 167, fnO (nth 1 (fdB (tp 6))) "__eq__" "Tree.__eq__" .none .none .none (.str "nltk.tree.tree" 344) (none) (.ref 166) .none (.type "function") (none) (#[])) ::
  (nat_lit 173, fO "code" [.str "__len__" 375, .str "Tree.__len__" 376, .str "/claim/cut.py" 377, .int 68 0, .int 1 0, .int 0 0, .int 0 0, .int 3 0, .ref 168, .bool true, .int 181 0, .ref 169, .none, .ref 170, .ref 171, .ref 172, .int 379 0, .int 68 0, .str "/claim/cut.py" 380]) ::
  (nat_lit 174, fnO (nth 2 (fdB (tp 6))) "__len__" "Tree.__len__" .none .none .none (.str "nltk.tree.tree" 344) (none) (.ref 173) .none (.type "function") (none) (#[])) ::
  (nat_lit 180, fO "code" [.str "__getitem__" 382, .str "Tree.__getitem__" 383, .str "/claim/cut.py" 384, .int 71 0, .int 2 0, .int 0 0, .int 0 0, .int 3 0, .ref 175, .bool true, .int 181 0, .ref 176, .none, .ref 177, .ref 178, .ref 179, .int 387 0, .int 71 0, .str "/claim/cut.py" 388]) ::
  (nat_lit 181, fnO (nth 3 (fdB (tp 6))) "__getitem__" "Tree.__getitem__" .none .none .none (.str "nltk.tree.tree" 344) (none) (.ref 180) .none (.type "function") (none) (#[])) ::
  (nat_lit 194, fO "code" [.str "label" 399, .str "Tree.label" 400, .str "/claim/cut.py" 401, .int 97 0, .int 1 0, .int 0 0, .int 0 0, .int 3 0, .ref 189, .bool true, .int 181 0, .ref 190, .none, .ref 191, .ref 192, .ref 193, .int 403 0, .int 97 0, .str "/claim/cut.py" 404]) ::
  (nat_lit 195, fnO (nth 5 (fdB (tp 6))) "label" "Tree.label" .none .none .none (.str "nltk.tree.tree" 344) (none) (.ref 194) .none (.type "function") (none) (#[])) ::
  (nat_lit 201, fO "code" [.str "set_label" 406, .str "Tree.set_label" 407, .str "/claim/cut.py" 408, .int 100 0, .int 2 0, .int 0 0, .int 0 0, .int 3 0, .ref 196, .bool true, .int 181 0, .ref 197, .none, .ref 198, .ref 199, .ref 200, .int 411 0, .int 100 0, .str "/claim/cut.py" 412]) ::
  (nat_lit 202, fnO (nth 6 (fdB (tp 6))) "set_label" "Tree.set_label" .none .none .none (.str "nltk.tree.tree" 344) (none) (.ref 201) .none (.type "function") (none) (#[])) ::
  (nat_lit 208, fO "code" [.str "leaves" 414, .str "Tree.leaves" 415, .str "/claim/cut.py" 416, .int 103 0, .int 1 0, .int 0 0, .int 0 0, .int 3 0, .ref 203, .bool true, .int 181 0, .ref 204, .none, .ref 205, .ref 206, .ref 207, .int 420 0, .int 103 0, .str "/claim/cut.py" 421]) ::
  (nat_lit 209, fnO (nth 7 (fdB (tp 6))) "leaves" "Tree.leaves" .none .none .none (.str "nltk.tree.tree" 344) (none) (.ref 208) .none (.type "function") (none) (#[])) ::
  (nat_lit 237, fO "code" [.str "subtrees" 448, .str "Tree.subtrees" 449, .str "/claim/cut.py" 450, .int 127 0, .int 1 0, .int 0 0, .int 0 0, .int 35 0, .ref 232, .bool true, .int 181 0, .ref 233, .none, .ref 234, .ref 235, .ref 236, .int 454 0, .int 127 0, .str "/claim/cut.py" 455]) ::
  (nat_lit 238, fnO (nth 11 (fdB (tp 6))) "subtrees" "Tree.subtrees" .none .none .none (.str "nltk.tree.tree" 344) (none) (.ref 237) .none (.type "function") (none) (#[])) ::
  (nat_lit 267, { cls := .type "tuple", data := .seq #[.str "_children" 490, .str "_label" 491] }) ::
  (nat_lit 268, { cls := .type "dict", data := .dict #[kE P "__module__" 353 (.str "nltk.tree.tree" 344), kE P "__firstlineno__" 357 (.int 54 356), kE P "__init__" 366 (.ref 160), kE P "__eq__" 374 (.ref 167), kE P "__len__" 381 (.ref 174), kE P "__getitem__" 389 (.ref 181), kE P "__setitem__" 398 (.ref 188), kE P "label" 405 (.ref 195), kE P "set_label" 413 (.ref 202), kE P "leaves" 422 (.ref 209), kE P "flatten" 429 (.ref 216), kE P "height" 438 (.ref 223), kE P "treepositions" 447 (.ref 231), kE P "subtrees" 456 (.ref 238), kE P "productions" 465 (.ref 245), kE P "pos" 472 (.ref 252), kE P "leaf_treeposition" 480 (.ref 259), kE P "treeposition_spanning_leaves" 489 (.ref 266), kE P "__static_attributes__" 492 (.ref 267), kE P "__dict__" 494 (.ref 270), kE P "__weakref__" 496 (.ref 271), kE P "__doc__" 497 (.none), kE P "__hash__" 498 (.none)] 5 }) ::
  (nat_lit 269, { cls := .type "type", data := .cls { name := "Tree", bases := [.type "object"], mro := [.ref 269, .type "object"], ns := 268, qualname := "Tree" }, slots := #[none, none, some (.str "Tree" 346), some (.str "Tree" 354), some (.builtin "object.__new__"), some (.bool true)] }) ::
  (nat_lit 270, fO "getset_descriptor" [.str "__dict__" 493, .ref 269, .builtin "function.__dict__", .builtin "function.__dict__#set"]) ::
  (nat_lit 271, fO "getset_descriptor" [.str "__weakref__" 495, .ref 269, .builtin "ExceptionGroup.__weakref__", .none]) ::
  (nat_lit 286, fO "code" [.str "_same" 510, .str "_same" 511, .str "/claim/cut.py" 512, .int 159 0, .int 2 0, .int 0 0, .int 0 0, .int 3 0, .ref 281, .bool true, .int 181 0, .ref 282, .none, .ref 283, .ref 284, .ref 285, .int 515 0, .int 159 0, .str "/claim/cut.py" 516]) ::
  (nat_lit 287, fnO (tp 8) "_same" "_same" .none .none .none (.str "nltk.tree.tree" 344) (none) (.ref 286) .none (.type "function") (none) (#[])) ::
  (nat_lit 288, { cls := .type "tuple", data := .seq #[.str "right" 520, .none, .int 0 521, .str "|" 522, .str "^" 523] }) ::
  (nat_lit 292, fO "code" [.str "chomsky_normal_form" 524, .str "chomsky_normal_form" 525, .str "/claim/cut.py" 526, .int 164 0, .int 6 0, .int 0 0, .int 0 0, .int 3 0, .ref 289, .bool true, .int 181 0, .ref 290, .none, .none, .none, .ref 291, .int 527 0, .int 164 0, .str "/claim/cut.py" 528]) ::
  (nat_lit 293, fnO (tp 10) "chomsky_normal_form" "chomsky_normal_form" (.ref 288) .none .none (.str "nltk.tree.transforms" 518) (none) (.ref 292) .none (.type "function") (none) (#[])) ::
  (nat_lit 294, { cls := .type "tuple", data := .seq #[.bool true, .str "|" 530, .str "^" 531, .str "+" 532] }) ::
  (nat_lit 298, fO "code" [.str "un_chomsky_normal_form" 533, .str "un_chomsky_normal_form" 534, .str "/claim/cut.py" 535, .int 196 0, .int 5 0, .int 0 0, .int 0 0, .int 3 0, .ref 295, .bool true, .int 181 0, .ref 296, .none, .none, .none, .ref 297, .int 536 0, .int 196 0, .str "/claim/cut.py" 537]) ::
  (nat_lit 299, fnO (tp 11) "un_chomsky_normal_form" "un_chomsky_normal_form" (.ref 294) .none .none (.str "nltk.tree.transforms" 518) (none) (.ref 298) .none (.type "function") (none) (#[])) ::
  (nat_lit 300, { cls := .type "tuple", data := .seq #[.bool false, .bool false, .str "+" 539] }) ::
  (nat_lit 304, fO "code" [.str "collapse_unary" 540, .str "collapse_unary" 541, .str "/claim/cut.py" 542, .int 222 0, .int 4 0, .int 0 0, .int 0 0, .int 3 0, .ref 301, .bool true, .int 181 0, .ref 302, .none, .none, .none, .ref 303, .int 543 0, .int 222 0, .str "/claim/cut.py" 544]) ::
  (nat_lit 305, fnO (tp 12) "collapse_unary" "collapse_unary" (.ref 300) .none .none (.str "nltk.tree.transforms" 518) (none) (.ref 304) .none (.type "function") (none) (#[])) ::
  (nat_lit 309, fO "code" [.str "_law_tape" 548, .str "_law_tape" 549, .str "/claim/cut.py" 550, .int 238 0, .int 1 0, .int 0 0, .int 0 0, .int 3 0, .ref 306, .bool true, .int 181 0, .ref 307, .none, .none, .none, .ref 308, .int 551 0, .int 238 0, .str "/claim/cut.py" 552]) ::
  (nat_lit 310, fnO (tp 14) "_law_tape" "_law_tape" .none .none .none (.str "law_je0024_01" 546) (none) (.ref 309) .none (.type "function") (none) (#[])) ::
  (nat_lit 316, fO "code" [.str "_law_take" 554, .str "_law_take" 555, .str "/claim/cut.py" 556, .int 240 0, .int 2 0, .int 0 0, .int 0 0, .int 3 0, .ref 311, .bool true, .int 181 0, .ref 312, .none, .ref 313, .ref 314, .ref 315, .int 561 0, .int 240 0, .str "/claim/cut.py" 562]) ::
  (nat_lit 317, fnO (tp 15) "_law_take" "_law_take" .none .none .none (.str "law_je0024_01" 546) (none) (.ref 316) .none (.type "function") (none) (#[])) ::
  (nat_lit 323, fO "code" [.str "_law_node" 564, .str "_law_node" 565, .str "/claim/cut.py" 566, .int 245 0, .int 3 0, .int 0 0, .int 0 0, .int 3 0, .ref 318, .bool true, .int 181 0, .ref 319, .none, .ref 320, .ref 321, .ref 322, .int 572 0, .int 245 0, .str "/claim/cut.py" 573]) ::
  (nat_lit 324, fnO (tp 16) "_law_node" "_law_node" .none .none .none (.str "law_je0024_01" 546) (none) (.ref 323) .none (.type "function") (none) (#[])) ::
  (nat_lit 328, fO "code" [.str "_law_built" 575, .str "_law_built" 576, .str "/claim/cut.py" 577, .int 254 0, .int 1 0, .int 0 0, .int 0 0, .int 3 0, .ref 325, .bool true, .int 181 0, .ref 326, .none, .none, .none, .ref 327, .int 578 0, .int 254 0, .str "/claim/cut.py" 579]) ::
  (nat_lit 329, fnO (tp 17) "_law_built" "_law_built" .none .none .none (.str "law_je0024_01" 546) (none) (.ref 328) .none (.type "function") (none) (#[])) ::
  (nat_lit 333, fO "code" [.str "_law_plain" 581, .str "_law_plain" 582, .str "/claim/cut.py" 583, .int 258 0, .int 1 0, .int 0 0, .int 0 0, .int 3 0, .ref 330, .bool true, .int 181 0, .ref 331, .none, .none, .none, .ref 332, .int 584 0, .int 258 0, .str "/claim/cut.py" 585]) ::
  (nat_lit 334, fnO (tp 18) "_law_plain" "_law_plain" .none .none .none (.str "law_je0024_01" 546) (none) (.ref 333) .none (.type "function") (none) (#[])) ::
  (nat_lit 338, fO "code" [.str "_law_joined" 587, .str "_law_joined" 588, .str "/claim/cut.py" 589, .int 262 0, .int 3 0, .int 0 0, .int 0 0, .int 3 0, .ref 335, .bool true, .int 181 0, .ref 336, .none, .none, .none, .ref 337, .int 590 0, .int 262 0, .str "/claim/cut.py" 591]) ::
  (nat_lit 339, fnO (tp 19) "_law_joined" "_law_joined" .none .none .none (.str "law_je0024_01" 546) (none) (.ref 338) .none (.type "function") (none) (#[])) ::
  (nat_lit 343, fO "code" [.str "_law_binary" 593, .str "_law_binary" 594, .str "/claim/cut.py" 595, .int 269 0, .int 6 0, .int 0 0, .int 0 0, .int 3 0, .ref 340, .bool true, .int 181 0, .ref 341, .none, .none, .none, .ref 342, .int 596 0, .int 269 0, .str "/claim/cut.py" 597]) ::
  (nat_lit 344, fnO (tp 20) "_law_binary" "_law_binary" .none .none .none (.str "law_je0024_01" 546) (none) (.ref 343) .none (.type "function") (none) (#[])) ::
  (nat_lit 348, fO "code" [.str "law" 599, .str "law" 600, .str "/claim/cut.py" 601, .int 292 0, .int 1 0, .int 0 0, .int 0 0, .int 3 0, .ref 345, .bool true, .int 181 0, .ref 346, .none, .none, .none, .ref 347, .int 602 0, .int 292 0, .str "/claim/cut.py" 603]) ::
  (nat_lit 349, fnO (tp 21) "law" "law" .none .none .none (.str "law_je0024_01" 546) (none) (.ref 348) .none (.type "function") (none) (#[])) :: []
noncomputable def Vw : Program := view Pg [0, 2, 3, 4, 6, 7, 8, 14, 15, 16, 17, 18, 19, 20, 21]
end
-- Ea
section
theorem ea_AAAAAAA {P0 P1 P2 P3 P4 P5 P6 P7 : Prop} {G : Prop} (h : P0 ∧ P1 ∧ P2 ∧ P3 ∧ P4 ∧ P5 ∧ P6 ∧ P7) (k : P0 → P1 → P2 → P3 → P4 → P5 → P6 → P7 → G) : G := k h.1 h.2.1 h.2.2.1 h.2.2.2.1 h.2.2.2.2.1 h.2.2.2.2.2.1 h.2.2.2.2.2.2.1 h.2.2.2.2.2.2.2
theorem ea_AAAAAAAAA {P0 P1 P2 P3 P4 P5 P6 P7 P8 P9 : Prop} {G : Prop} (h : P0 ∧ P1 ∧ P2 ∧ P3 ∧ P4 ∧ P5 ∧ P6 ∧ P7 ∧ P8 ∧ P9) (k : P0 → P1 → P2 → P3 → P4 → P5 → P6 → P7 → P8 → P9 → G) : G := k h.1 h.2.1 h.2.2.1 h.2.2.2.1 h.2.2.2.2.1 h.2.2.2.2.2.1 h.2.2.2.2.2.2.1 h.2.2.2.2.2.2.2.1 h.2.2.2.2.2.2.2.2.1 h.2.2.2.2.2.2.2.2.2
theorem ea_EEEEEEEEEE {α0 α1 α2 α3 α4 α5 α6 α7 α8 α9 : Sort _} {P0 : α0 → α1 → α2 → α3 → α4 → α5 → α6 → α7 → α8 → α9 → Prop} {G : Prop} (h : ∃ x0, ∃ x1, ∃ x2, ∃ x3, ∃ x4, ∃ x5, ∃ x6, ∃ x7, ∃ x8, ∃ x9, P0 x0 x1 x2 x3 x4 x5 x6 x7 x8 x9) (k : ∀ x0, ∀ x1, ∀ x2, ∀ x3, ∀ x4, ∀ x5, ∀ x6, ∀ x7, ∀ x8, ∀ x9, P0 x0 x1 x2 x3 x4 x5 x6 x7 x8 x9 → G) : G := h.elim fun x0 h0 => h0.elim fun x1 h1 => h1.elim fun x2 h2 => h2.elim fun x3 h3 => h3.elim fun x4 h4 => h4.elim fun x5 h5 => h5.elim fun x6 h6 => h6.elim fun x7 h7 => h7.elim fun x8 h8 => h8.elim fun x9 h9 => k x0 x1 x2 x3 x4 x5 x6 x7 x8 x9 h9
theorem ea_AAAAAAAAAA {P0 P1 P2 P3 P4 P5 P6 P7 P8 P9 P10 : Prop} {G : Prop} (h : P0 ∧ P1 ∧ P2 ∧ P3 ∧ P4 ∧ P5 ∧ P6 ∧ P7 ∧ P8 ∧ P9 ∧ P10) (k : P0 → P1 → P2 → P3 → P4 → P5 → P6 → P7 → P8 → P9 → P10 → G) : G := k h.1 h.2.1 h.2.2.1 h.2.2.2.1 h.2.2.2.2.1 h.2.2.2.2.2.1 h.2.2.2.2.2.2.1 h.2.2.2.2.2.2.2.1 h.2.2.2.2.2.2.2.2.1 h.2.2.2.2.2.2.2.2.2.1 h.2.2.2.2.2.2.2.2.2.2
theorem ea_EEEEEEEEEEEE {α0 α1 α2 α3 α4 α5 α6 α7 α8 α9 α10 α11 : Sort _} {P0 : α0 → α1 → α2 → α3 → α4 → α5 → α6 → α7 → α8 → α9 → α10 → α11 → Prop} {G : Prop} (h : ∃ x0, ∃ x1, ∃ x2, ∃ x3, ∃ x4, ∃ x5, ∃ x6, ∃ x7, ∃ x8, ∃ x9, ∃ x10, ∃ x11, P0 x0 x1 x2 x3 x4 x5 x6 x7 x8 x9 x10 x11) (k : ∀ x0, ∀ x1, ∀ x2, ∀ x3, ∀ x4, ∀ x5, ∀ x6, ∀ x7, ∀ x8, ∀ x9, ∀ x10, ∀ x11, P0 x0 x1 x2 x3 x4 x5 x6 x7 x8 x9 x10 x11 → G) : G := h.elim fun x0 h0 => h0.elim fun x1 h1 => h1.elim fun x2 h2 => h2.elim fun x3 h3 => h3.elim fun x4 h4 => h4.elim fun x5 h5 => h5.elim fun x6 h6 => h6.elim fun x7 h7 => h7.elim fun x8 h8 => h8.elim fun x9 h9 => h9.elim fun x10 h10 => h10.elim fun x11 h11 => k x0 x1 x2 x3 x4 x5 x6 x7 x8 x9 x10 x11 h11
theorem ea_AAAAAAAAAAAA {P0 P1 P2 P3 P4 P5 P6 P7 P8 P9 P10 P11 P12 : Prop} {G : Prop} (h : P0 ∧ P1 ∧ P2 ∧ P3 ∧ P4 ∧ P5 ∧ P6 ∧ P7 ∧ P8 ∧ P9 ∧ P10 ∧ P11 ∧ P12) (k : P0 → P1 → P2 → P3 → P4 → P5 → P6 → P7 → P8 → P9 → P10 → P11 → P12 → G) : G := k h.1 h.2.1 h.2.2.1 h.2.2.2.1 h.2.2.2.2.1 h.2.2.2.2.2.1 h.2.2.2.2.2.2.1 h.2.2.2.2.2.2.2.1 h.2.2.2.2.2.2.2.2.1 h.2.2.2.2.2.2.2.2.2.1 h.2.2.2.2.2.2.2.2.2.2.1 h.2.2.2.2.2.2.2.2.2.2.2.1 h.2.2.2.2.2.2.2.2.2.2.2.2
theorem ea_AAAAAAAAAAAAAAA {P0 P1 P2 P3 P4 P5 P6 P7 P8 P9 P10 P11 P12 P13 P14 P15 : Prop} {G : Prop} (h : P0 ∧ P1 ∧ P2 ∧ P3 ∧ P4 ∧ P5 ∧ P6 ∧ P7 ∧ P8 ∧ P9 ∧ P10 ∧ P11 ∧ P12 ∧ P13 ∧ P14 ∧ P15) (k : P0 → P1 → P2 → P3 → P4 → P5 → P6 → P7 → P8 → P9 → P10 → P11 → P12 → P13 → P14 → P15 → G) : G := k h.1 h.2.1 h.2.2.1 h.2.2.2.1 h.2.2.2.2.1 h.2.2.2.2.2.1 h.2.2.2.2.2.2.1 h.2.2.2.2.2.2.2.1 h.2.2.2.2.2.2.2.2.1 h.2.2.2.2.2.2.2.2.2.1 h.2.2.2.2.2.2.2.2.2.2.1 h.2.2.2.2.2.2.2.2.2.2.2.1 h.2.2.2.2.2.2.2.2.2.2.2.2.1 h.2.2.2.2.2.2.2.2.2.2.2.2.2.1 h.2.2.2.2.2.2.2.2.2.2.2.2.2.2.1 h.2.2.2.2.2.2.2.2.2.2.2.2.2.2.2
theorem ea_AA {P0 P1 P2 : Prop} {G : Prop} (h : P0 ∧ P1 ∧ P2) (k : P0 → P1 → P2 → G) : G := k h.1 h.2.1 h.2.2
theorem ea_AE {α0 : Sort _} {P0 : Prop} {P1 : α0 → Prop} {G : Prop} (h : P0 ∧ ∃ x0, P1 x0) (k : P0 → ∀ x0, P1 x0 → G) : G := h.2.elim fun x0 h0 => k h.1 x0 h0
theorem ea_EA {α0 : Sort _} {P0 P1 : α0 → Prop} {G : Prop} (h : ∃ x0, P0 x0 ∧ P1 x0) (k : ∀ x0, P0 x0 → P1 x0 → G) : G := h.elim fun x0 h0 => k x0 h0.1 h0.2
theorem ea_EE {α0 α1 : Sort _} {P0 : α0 → α1 → Prop} {G : Prop} (h : ∃ x0, ∃ x1, P0 x0 x1) (k : ∀ x0, ∀ x1, P0 x0 x1 → G) : G := h.elim fun x0 h0 => h0.elim fun x1 h1 => k x0 x1 h1
theorem ea_AAA {P0 P1 P2 P3 : Prop} {G : Prop} (h : P0 ∧ P1 ∧ P2 ∧ P3) (k : P0 → P1 → P2 → P3 → G) : G := k h.1 h.2.1 h.2.2.1 h.2.2.2
theorem ea_AAE {α0 : Sort _} {P0 P1 : Prop} {P2 : α0 → Prop} {G : Prop} (h : P0 ∧ P1 ∧ ∃ x0, P2 x0) (k : P0 → P1 → ∀ x0, P2 x0 → G) : G := h.2.2.elim fun x0 h0 => k h.1 h.2.1 x0 h0
theorem ea_AEA {α0 : Sort _} {P0 : Prop} {P1 P2 : α0 → Prop} {G : Prop} (h : P0 ∧ ∃ x0, P1 x0 ∧ P2 x0) (k : P0 → ∀ x0, P1 x0 → P2 x0 → G) : G := h.2.elim fun x0 h0 => k h.1 x0 h0.1 h0.2
theorem ea_AEE {α0 α1 : Sort _} {P0 : Prop} {P1 : α0 → α1 → Prop} {G : Prop} (h : P0 ∧ ∃ x0, ∃ x1, P1 x0 x1) (k : P0 → ∀ x0, ∀ x1, P1 x0 x1 → G) : G := h.2.elim fun x0 h0 => h0.elim fun x1 h1 => k h.1 x0 x1 h1
theorem ea_EAA {α0 : Sort _} {P0 P1 P2 : α0 → Prop} {G : Prop} (h : ∃ x0, P0 x0 ∧ P1 x0 ∧ P2 x0) (k : ∀ x0, P0 x0 → P1 x0 → P2 x0 → G) : G := h.elim fun x0 h0 => k x0 h0.1 h0.2.1 h0.2.2
theorem ea_EEA {α0 α1 : Sort _} {P0 P1 : α0 → α1 → Prop} {G : Prop} (h : ∃ x0, ∃ x1, P0 x0 x1 ∧ P1 x0 x1) (k : ∀ x0, ∀ x1, P0 x0 x1 → P1 x0 x1 → G) : G := h.elim fun x0 h0 => h0.elim fun x1 h1 => k x0 x1 h1.1 h1.2
theorem ea_EEE {α0 α1 α2 : Sort _} {P0 : α0 → α1 → α2 → Prop} {G : Prop} (h : ∃ x0, ∃ x1, ∃ x2, P0 x0 x1 x2) (k : ∀ x0, ∀ x1, ∀ x2, P0 x0 x1 x2 → G) : G := h.elim fun x0 h0 => h0.elim fun x1 h1 => h1.elim fun x2 h2 => k x0 x1 x2 h2
theorem ea_AAAA {P0 P1 P2 P3 P4 : Prop} {G : Prop} (h : P0 ∧ P1 ∧ P2 ∧ P3 ∧ P4) (k : P0 → P1 → P2 → P3 → P4 → G) : G := k h.1 h.2.1 h.2.2.1 h.2.2.2.1 h.2.2.2.2
theorem ea_AAAE {α0 : Sort _} {P0 P1 P2 : Prop} {P3 : α0 → Prop} {G : Prop} (h : P0 ∧ P1 ∧ P2 ∧ ∃ x0, P3 x0) (k : P0 → P1 → P2 → ∀ x0, P3 x0 → G) : G := h.2.2.2.elim fun x0 h0 => k h.1 h.2.1 h.2.2.1 x0 h0
theorem ea_AAEA {α0 : Sort _} {P0 P1 : Prop} {P2 P3 : α0 → Prop} {G : Prop} (h : P0 ∧ P1 ∧ ∃ x0, P2 x0 ∧ P3 x0) (k : P0 → P1 → ∀ x0, P2 x0 → P3 x0 → G) : G := h.2.2.elim fun x0 h0 => k h.1 h.2.1 x0 h0.1 h0.2
theorem ea_AEEE {α0 α1 α2 : Sort _} {P0 : Prop} {P1 : α0 → α1 → α2 → Prop} {G : Prop} (h : P0 ∧ ∃ x0, ∃ x1, ∃ x2, P1 x0 x1 x2) (k : P0 → ∀ x0, ∀ x1, ∀ x2, P1 x0 x1 x2 → G) : G := h.2.elim fun x0 h0 => h0.elim fun x1 h1 => h1.elim fun x2 h2 => k h.1 x0 x1 x2 h2
theorem ea_EAAA {α0 : Sort _} {P0 P1 P2 P3 : α0 → Prop} {G : Prop} (h : ∃ x0, P0 x0 ∧ P1 x0 ∧ P2 x0 ∧ P3 x0) (k : ∀ x0, P0 x0 → P1 x0 → P2 x0 → P3 x0 → G) : G := h.elim fun x0 h0 => k x0 h0.1 h0.2.1 h0.2.2.1 h0.2.2.2
theorem ea_EAEA {α0 α1 : Sort _} {P0 : α0 → Prop} {P1 P2 : α0 → α1 → Prop} {G : Prop} (h : ∃ x0, P0 x0 ∧ ∃ x1, P1 x0 x1 ∧ P2 x0 x1) (k : ∀ x0, P0 x0 → ∀ x1, P1 x0 x1 → P2 x0 x1 → G) : G := h.elim fun x0 h0 => h0.2.elim fun x1 h1 => k x0 h0.1 x1 h1.1 h1.2
theorem ea_EEAA {α0 α1 : Sort _} {P0 P1 P2 : α0 → α1 → Prop} {G : Prop} (h : ∃ x0, ∃ x1, P0 x0 x1 ∧ P1 x0 x1 ∧ P2 x0 x1) (k : ∀ x0, ∀ x1, P0 x0 x1 → P1 x0 x1 → P2 x0 x1 → G) : G := h.elim fun x0 h0 => h0.elim fun x1 h1 => k x0 x1 h1.1 h1.2.1 h1.2.2
theorem ea_EEEA {α0 α1 α2 : Sort _} {P0 P1 : α0 → α1 → α2 → Prop} {G : Prop} (h : ∃ x0, ∃ x1, ∃ x2, P0 x0 x1 x2 ∧ P1 x0 x1 x2) (k : ∀ x0, ∀ x1, ∀ x2, P0 x0 x1 x2 → P1 x0 x1 x2 → G) : G := h.elim fun x0 h0 => h0.elim fun x1 h1 => h1.elim fun x2 h2 => k x0 x1 x2 h2.1 h2.2
theorem ea_AAAAA {P0 P1 P2 P3 P4 P5 : Prop} {G : Prop} (h : P0 ∧ P1 ∧ P2 ∧ P3 ∧ P4 ∧ P5) (k : P0 → P1 → P2 → P3 → P4 → P5 → G) : G := k h.1 h.2.1 h.2.2.1 h.2.2.2.1 h.2.2.2.2.1 h.2.2.2.2.2
theorem ea_AAAEA {α0 : Sort _} {P0 P1 P2 : Prop} {P3 P4 : α0 → Prop} {G : Prop} (h : P0 ∧ P1 ∧ P2 ∧ ∃ x0, P3 x0 ∧ P4 x0) (k : P0 → P1 → P2 → ∀ x0, P3 x0 → P4 x0 → G) : G := h.2.2.2.elim fun x0 h0 => k h.1 h.2.1 h.2.2.1 x0 h0.1 h0.2
theorem ea_AAEEE {α0 α1 α2 : Sort _} {P0 P1 : Prop} {P2 : α0 → α1 → α2 → Prop} {G : Prop} (h : P0 ∧ P1 ∧ ∃ x0, ∃ x1, ∃ x2, P2 x0 x1 x2) (k : P0 → P1 → ∀ x0, ∀ x1, ∀ x2, P2 x0 x1 x2 → G) : G := h.2.2.elim fun x0 h0 => h0.elim fun x1 h1 => h1.elim fun x2 h2 => k h.1 h.2.1 x0 x1 x2 h2
theorem ea_AEAAA {α0 : Sort _} {P0 : Prop} {P1 P2 P3 P4 : α0 → Prop} {G : Prop} (h : P0 ∧ ∃ x0, P1 x0 ∧ P2 x0 ∧ P3 x0 ∧ P4 x0) (k : P0 → ∀ x0, P1 x0 → P2 x0 → P3 x0 → P4 x0 → G) : G := h.2.elim fun x0 h0 => k h.1 x0 h0.1 h0.2.1 h0.2.2.1 h0.2.2.2
theorem ea_AEEEA {α0 α1 α2 : Sort _} {P0 : Prop} {P1 P2 : α0 → α1 → α2 → Prop} {G : Prop} (h : P0 ∧ ∃ x0, ∃ x1, ∃ x2, P1 x0 x1 x2 ∧ P2 x0 x1 x2) (k : P0 → ∀ x0, ∀ x1, ∀ x2, P1 x0 x1 x2 → P2 x0 x1 x2 → G) : G := h.2.elim fun x0 h0 => h0.elim fun x1 h1 => h1.elim fun x2 h2 => k h.1 x0 x1 x2 h2.1 h2.2
theorem ea_EEAAA {α0 α1 : Sort _} {P0 P1 P2 P3 : α0 → α1 → Prop} {G : Prop} (h : ∃ x0, ∃ x1, P0 x0 x1 ∧ P1 x0 x1 ∧ P2 x0 x1 ∧ P3 x0 x1) (k : ∀ x0, ∀ x1, P0 x0 x1 → P1 x0 x1 → P2 x0 x1 → P3 x0 x1 → G) : G := h.elim fun x0 h0 => h0.elim fun x1 h1 => k x0 x1 h1.1 h1.2.1 h1.2.2.1 h1.2.2.2
theorem ea_EEEEA {α0 α1 α2 α3 : Sort _} {P0 P1 : α0 → α1 → α2 → α3 → Prop} {G : Prop} (h : ∃ x0, ∃ x1, ∃ x2, ∃ x3, P0 x0 x1 x2 x3 ∧ P1 x0 x1 x2 x3) (k : ∀ x0, ∀ x1, ∀ x2, ∀ x3, P0 x0 x1 x2 x3 → P1 x0 x1 x2 x3 → G) : G := h.elim fun x0 h0 => h0.elim fun x1 h1 => h1.elim fun x2 h2 => h2.elim fun x3 h3 => k x0 x1 x2 x3 h3.1 h3.2
theorem ea_EEEEE {α0 α1 α2 α3 α4 : Sort _} {P0 : α0 → α1 → α2 → α3 → α4 → Prop} {G : Prop} (h : ∃ x0, ∃ x1, ∃ x2, ∃ x3, ∃ x4, P0 x0 x1 x2 x3 x4) (k : ∀ x0, ∀ x1, ∀ x2, ∀ x3, ∀ x4, P0 x0 x1 x2 x3 x4 → G) : G := h.elim fun x0 h0 => h0.elim fun x1 h1 => h1.elim fun x2 h2 => h2.elim fun x3 h3 => h3.elim fun x4 h4 => k x0 x1 x2 x3 x4 h4
theorem ea_AAAAAA {P0 P1 P2 P3 P4 P5 P6 : Prop} {G : Prop} (h : P0 ∧ P1 ∧ P2 ∧ P3 ∧ P4 ∧ P5 ∧ P6) (k : P0 → P1 → P2 → P3 → P4 → P5 → P6 → G) : G := k h.1 h.2.1 h.2.2.1 h.2.2.2.1 h.2.2.2.2.1 h.2.2.2.2.2.1 h.2.2.2.2.2.2
theorem ea_AAAEAA {α0 : Sort _} {P0 P1 P2 : Prop} {P3 P4 P5 : α0 → Prop} {G : Prop} (h : P0 ∧ P1 ∧ P2 ∧ ∃ x0, P3 x0 ∧ P4 x0 ∧ P5 x0) (k : P0 → P1 → P2 → ∀ x0, P3 x0 → P4 x0 → P5 x0 → G) : G := h.2.2.2.elim fun x0 h0 => k h.1 h.2.1 h.2.2.1 x0 h0.1 h0.2.1 h0.2.2
theorem ea_AAAEEA {α0 α1 : Sort _} {P0 P1 P2 : Prop} {P3 P4 : α0 → α1 → Prop} {G : Prop} (h : P0 ∧ P1 ∧ P2 ∧ ∃ x0, ∃ x1, P3 x0 x1 ∧ P4 x0 x1) (k : P0 → P1 → P2 → ∀ x0, ∀ x1, P3 x0 x1 → P4 x0 x1 → G) : G := h.2.2.2.elim fun x0 h0 => h0.elim fun x1 h1 => k h.1 h.2.1 h.2.2.1 x0 x1 h1.1 h1.2
theorem ea_EAAAAA {α0 : Sort _} {P0 P1 P2 P3 P4 P5 : α0 → Prop} {G : Prop} (h : ∃ x0, P0 x0 ∧ P1 x0 ∧ P2 x0 ∧ P3 x0 ∧ P4 x0 ∧ P5 x0) (k : ∀ x0, P0 x0 → P1 x0 → P2 x0 → P3 x0 → P4 x0 → P5 x0 → G) : G := h.elim fun x0 h0 => k x0 h0.1 h0.2.1 h0.2.2.1 h0.2.2.2.1 h0.2.2.2.2.1 h0.2.2.2.2.2
theorem ea_EEAAAA {α0 α1 : Sort _} {P0 P1 P2 P3 P4 : α0 → α1 → Prop} {G : Prop} (h : ∃ x0, ∃ x1, P0 x0 x1 ∧ P1 x0 x1 ∧ P2 x0 x1 ∧ P3 x0 x1 ∧ P4 x0 x1) (k : ∀ x0, ∀ x1, P0 x0 x1 → P1 x0 x1 → P2 x0 x1 → P3 x0 x1 → P4 x0 x1 → G) : G := h.elim fun x0 h0 => h0.elim fun x1 h1 => k x0 x1 h1.1 h1.2.1 h1.2.2.1 h1.2.2.2.1 h1.2.2.2.2
theorem ea_EEEAAA {α0 α1 α2 : Sort _} {P0 P1 P2 P3 : α0 → α1 → α2 → Prop} {G : Prop} (h : ∃ x0, ∃ x1, ∃ x2, P0 x0 x1 x2 ∧ P1 x0 x1 x2 ∧ P2 x0 x1 x2 ∧ P3 x0 x1 x2) (k : ∀ x0, ∀ x1, ∀ x2, P0 x0 x1 x2 → P1 x0 x1 x2 → P2 x0 x1 x2 → P3 x0 x1 x2 → G) : G := h.elim fun x0 h0 => h0.elim fun x1 h1 => h1.elim fun x2 h2 => k x0 x1 x2 h2.1 h2.2.1 h2.2.2.1 h2.2.2.2
theorem ea_EEEEAA {α0 α1 α2 α3 : Sort _} {P0 P1 P2 : α0 → α1 → α2 → α3 → Prop} {G : Prop} (h : ∃ x0, ∃ x1, ∃ x2, ∃ x3, P0 x0 x1 x2 x3 ∧ P1 x0 x1 x2 x3 ∧ P2 x0 x1 x2 x3) (k : ∀ x0, ∀ x1, ∀ x2, ∀ x3, P0 x0 x1 x2 x3 → P1 x0 x1 x2 x3 → P2 x0 x1 x2 x3 → G) : G := h.elim fun x0 h0 => h0.elim fun x1 h1 => h1.elim fun x2 h2 => h2.elim fun x3 h3 => k x0 x1 x2 x3 h3.1 h3.2.1 h3.2.2
theorem ea_EEEEEE {α0 α1 α2 α3 α4 α5 : Sort _} {P0 : α0 → α1 → α2 → α3 → α4 → α5 → Prop} {G : Prop} (h : ∃ x0, ∃ x1, ∃ x2, ∃ x3, ∃ x4, ∃ x5, P0 x0 x1 x2 x3 x4 x5) (k : ∀ x0, ∀ x1, ∀ x2, ∀ x3, ∀ x4, ∀ x5, P0 x0 x1 x2 x3 x4 x5 → G) : G := h.elim fun x0 h0 => h0.elim fun x1 h1 => h1.elim fun x2 h2 => h2.elim fun x3 h3 => h3.elim fun x4 h4 => h4.elim fun x5 h5 => k x0 x1 x2 x3 x4 x5 h5
theorem ea_AAAAAAE {α0 : Sort _} {P0 P1 P2 P3 P4 P5 : Prop} {P6 : α0 → Prop} {G : Prop} (h : P0 ∧ P1 ∧ P2 ∧ P3 ∧ P4 ∧ P5 ∧ ∃ x0, P6 x0) (k : P0 → P1 → P2 → P3 → P4 → P5 → ∀ x0, P6 x0 → G) : G := h.2.2.2.2.2.2.elim fun x0 h0 => k h.1 h.2.1 h.2.2.1 h.2.2.2.1 h.2.2.2.2.1 h.2.2.2.2.2.1 x0 h0
theorem ea_AAEEEAA {α0 α1 α2 : Sort _} {P0 P1 : Prop} {P2 P3 P4 : α0 → α1 → α2 → Prop} {G : Prop} (h : P0 ∧ P1 ∧ ∃ x0, ∃ x1, ∃ x2, P2 x0 x1 x2 ∧ P3 x0 x1 x2 ∧ P4 x0 x1 x2) (k : P0 → P1 → ∀ x0, ∀ x1, ∀ x2, P2 x0 x1 x2 → P3 x0 x1 x2 → P4 x0 x1 x2 → G) : G := h.2.2.elim fun x0 h0 => h0.elim fun x1 h1 => h1.elim fun x2 h2 => k h.1 h.2.1 x0 x1 x2 h2.1 h2.2.1 h2.2.2
theorem ea_EEAAAAA {α0 α1 : Sort _} {P0 P1 P2 P3 P4 P5 : α0 → α1 → Prop} {G : Prop} (h : ∃ x0, ∃ x1, P0 x0 x1 ∧ P1 x0 x1 ∧ P2 x0 x1 ∧ P3 x0 x1 ∧ P4 x0 x1 ∧ P5 x0 x1) (k : ∀ x0, ∀ x1, P0 x0 x1 → P1 x0 x1 → P2 x0 x1 → P3 x0 x1 → P4 x0 x1 → P5 x0 x1 → G) : G := h.elim fun x0 h0 => h0.elim fun x1 h1 => k x0 x1 h1.1 h1.2.1 h1.2.2.1 h1.2.2.2.1 h1.2.2.2.2.1 h1.2.2.2.2.2
theorem ea_EEAEAAA {α0 α1 α2 : Sort _} {P0 : α0 → α1 → Prop} {P1 P2 P3 P4 : α0 → α1 → α2 → Prop} {G : Prop} (h : ∃ x0, ∃ x1, P0 x0 x1 ∧ ∃ x2, P1 x0 x1 x2 ∧ P2 x0 x1 x2 ∧ P3 x0 x1 x2 ∧ P4 x0 x1 x2) (k : ∀ x0, ∀ x1, P0 x0 x1 → ∀ x2, P1 x0 x1 x2 → P2 x0 x1 x2 → P3 x0 x1 x2 → P4 x0 x1 x2 → G) : G := h.elim fun x0 h0 => h0.elim fun x1 h1 => h1.2.elim fun x2 h2 => k x0 x1 h1.1 x2 h2.1 h2.2.1 h2.2.2.1 h2.2.2.2
theorem ea_EEEEAAA {α0 α1 α2 α3 : Sort _} {P0 P1 P2 P3 : α0 → α1 → α2 → α3 → Prop} {G : Prop} (h : ∃ x0, ∃ x1, ∃ x2, ∃ x3, P0 x0 x1 x2 x3 ∧ P1 x0 x1 x2 x3 ∧ P2 x0 x1 x2 x3 ∧ P3 x0 x1 x2 x3) (k : ∀ x0, ∀ x1, ∀ x2, ∀ x3, P0 x0 x1 x2 x3 → P1 x0 x1 x2 x3 → P2 x0 x1 x2 x3 → P3 x0 x1 x2 x3 → G) : G := h.elim fun x0 h0 => h0.elim fun x1 h1 => h1.elim fun x2 h2 => h2.elim fun x3 h3 => k x0 x1 x2 x3 h3.1 h3.2.1 h3.2.2.1 h3.2.2.2
theorem ea_EEEEEAA {α0 α1 α2 α3 α4 : Sort _} {P0 P1 P2 : α0 → α1 → α2 → α3 → α4 → Prop} {G : Prop} (h : ∃ x0, ∃ x1, ∃ x2, ∃ x3, ∃ x4, P0 x0 x1 x2 x3 x4 ∧ P1 x0 x1 x2 x3 x4 ∧ P2 x0 x1 x2 x3 x4) (k : ∀ x0, ∀ x1, ∀ x2, ∀ x3, ∀ x4, P0 x0 x1 x2 x3 x4 → P1 x0 x1 x2 x3 x4 → P2 x0 x1 x2 x3 x4 → G) : G := h.elim fun x0 h0 => h0.elim fun x1 h1 => h1.elim fun x2 h2 => h2.elim fun x3 h3 => h3.elim fun x4 h4 => k x0 x1 x2 x3 x4 h4.1 h4.2.1 h4.2.2
theorem ea_AAEEEEAA {α0 α1 α2 α3 : Sort _} {P0 P1 : Prop} {P2 P3 P4 : α0 → α1 → α2 → α3 → Prop} {G : Prop} (h : P0 ∧ P1 ∧ ∃ x0, ∃ x1, ∃ x2, ∃ x3, P2 x0 x1 x2 x3 ∧ P3 x0 x1 x2 x3 ∧ P4 x0 x1 x2 x3) (k : P0 → P1 → ∀ x0, ∀ x1, ∀ x2, ∀ x3, P2 x0 x1 x2 x3 → P3 x0 x1 x2 x3 → P4 x0 x1 x2 x3 → G) : G := h.2.2.elim fun x0 h0 => h0.elim fun x1 h1 => h1.elim fun x2 h2 => h2.elim fun x3 h3 => k h.1 h.2.1 x0 x1 x2 x3 h3.1 h3.2.1 h3.2.2
theorem ea_AEEEEAAA {α0 α1 α2 α3 : Sort _} {P0 : Prop} {P1 P2 P3 P4 : α0 → α1 → α2 → α3 → Prop} {G : Prop} (h : P0 ∧ ∃ x0, ∃ x1, ∃ x2, ∃ x3, P1 x0 x1 x2 x3 ∧ P2 x0 x1 x2 x3 ∧ P3 x0 x1 x2 x3 ∧ P4 x0 x1 x2 x3) (k : P0 → ∀ x0, ∀ x1, ∀ x2, ∀ x3, P1 x0 x1 x2 x3 → P2 x0 x1 x2 x3 → P3 x0 x1 x2 x3 → P4 x0 x1 x2 x3 → G) : G := h.2.elim fun x0 h0 => h0.elim fun x1 h1 => h1.elim fun x2 h2 => h2.elim fun x3 h3 => k h.1 x0 x1 x2 x3 h3.1 h3.2.1 h3.2.2.1 h3.2.2.2
theorem ea_EAAAAAAA {α0 : Sort _} {P0 P1 P2 P3 P4 P5 P6 P7 : α0 → Prop} {G : Prop} (h : ∃ x0, P0 x0 ∧ P1 x0 ∧ P2 x0 ∧ P3 x0 ∧ P4 x0 ∧ P5 x0 ∧ P6 x0 ∧ P7 x0) (k : ∀ x0, P0 x0 → P1 x0 → P2 x0 → P3 x0 → P4 x0 → P5 x0 → P6 x0 → P7 x0 → G) : G := h.elim fun x0 h0 => k x0 h0.1 h0.2.1 h0.2.2.1 h0.2.2.2.1 h0.2.2.2.2.1 h0.2.2.2.2.2.1 h0.2.2.2.2.2.2.1 h0.2.2.2.2.2.2.2
theorem ea_EAEEEEEE {α0 α1 α2 α3 α4 α5 α6 : Sort _} {P0 : α0 → Prop} {P1 : α0 → α1 → α2 → α3 → α4 → α5 → α6 → Prop} {G : Prop} (h : ∃ x0, P0 x0 ∧ ∃ x1, ∃ x2, ∃ x3, ∃ x4, ∃ x5, ∃ x6, P1 x0 x1 x2 x3 x4 x5 x6) (k : ∀ x0, P0 x0 → ∀ x1, ∀ x2, ∀ x3, ∀ x4, ∀ x5, ∀ x6, P1 x0 x1 x2 x3 x4 x5 x6 → G) : G := h.elim fun x0 h0 => h0.2.elim fun x1 h1 => h1.elim fun x2 h2 => h2.elim fun x3 h3 => h3.elim fun x4 h4 => h4.elim fun x5 h5 => h5.elim fun x6 h6 => k x0 h0.1 x1 x2 x3 x4 x5 x6 h6
theorem ea_EEAAAAAA {α0 α1 : Sort _} {P0 P1 P2 P3 P4 P5 P6 : α0 → α1 → Prop} {G : Prop} (h : ∃ x0, ∃ x1, P0 x0 x1 ∧ P1 x0 x1 ∧ P2 x0 x1 ∧ P3 x0 x1 ∧ P4 x0 x1 ∧ P5 x0 x1 ∧ P6 x0 x1) (k : ∀ x0, ∀ x1, P0 x0 x1 → P1 x0 x1 → P2 x0 x1 → P3 x0 x1 → P4 x0 x1 → P5 x0 x1 → P6 x0 x1 → G) : G := h.elim fun x0 h0 => h0.elim fun x1 h1 => k x0 x1 h1.1 h1.2.1 h1.2.2.1 h1.2.2.2.1 h1.2.2.2.2.1 h1.2.2.2.2.2.1 h1.2.2.2.2.2.2
theorem ea_EEEAAAAA {α0 α1 α2 : Sort _} {P0 P1 P2 P3 P4 P5 : α0 → α1 → α2 → Prop} {G : Prop} (h : ∃ x0, ∃ x1, ∃ x2, P0 x0 x1 x2 ∧ P1 x0 x1 x2 ∧ P2 x0 x1 x2 ∧ P3 x0 x1 x2 ∧ P4 x0 x1 x2 ∧ P5 x0 x1 x2) (k : ∀ x0, ∀ x1, ∀ x2, P0 x0 x1 x2 → P1 x0 x1 x2 → P2 x0 x1 x2 → P3 x0 x1 x2 → P4 x0 x1 x2 → P5 x0 x1 x2 → G) : G := h.elim fun x0 h0 => h0.elim fun x1 h1 => h1.elim fun x2 h2 => k x0 x1 x2 h2.1 h2.2.1 h2.2.2.1 h2.2.2.2.1 h2.2.2.2.2.1 h2.2.2.2.2.2
theorem ea_EEEEAAAA {α0 α1 α2 α3 : Sort _} {P0 P1 P2 P3 P4 : α0 → α1 → α2 → α3 → Prop} {G : Prop} (h : ∃ x0, ∃ x1, ∃ x2, ∃ x3, P0 x0 x1 x2 x3 ∧ P1 x0 x1 x2 x3 ∧ P2 x0 x1 x2 x3 ∧ P3 x0 x1 x2 x3 ∧ P4 x0 x1 x2 x3) (k : ∀ x0, ∀ x1, ∀ x2, ∀ x3, P0 x0 x1 x2 x3 → P1 x0 x1 x2 x3 → P2 x0 x1 x2 x3 → P3 x0 x1 x2 x3 → P4 x0 x1 x2 x3 → G) : G := h.elim fun x0 h0 => h0.elim fun x1 h1 => h1.elim fun x2 h2 => h2.elim fun x3 h3 => k x0 x1 x2 x3 h3.1 h3.2.1 h3.2.2.1 h3.2.2.2.1 h3.2.2.2.2
theorem ea_EEEEEAAA {α0 α1 α2 α3 α4 : Sort _} {P0 P1 P2 P3 : α0 → α1 → α2 → α3 → α4 → Prop} {G : Prop} (h : ∃ x0, ∃ x1, ∃ x2, ∃ x3, ∃ x4, P0 x0 x1 x2 x3 x4 ∧ P1 x0 x1 x2 x3 x4 ∧ P2 x0 x1 x2 x3 x4 ∧ P3 x0 x1 x2 x3 x4) (k : ∀ x0, ∀ x1, ∀ x2, ∀ x3, ∀ x4, P0 x0 x1 x2 x3 x4 → P1 x0 x1 x2 x3 x4 → P2 x0 x1 x2 x3 x4 → P3 x0 x1 x2 x3 x4 → G) : G := h.elim fun x0 h0 => h0.elim fun x1 h1 => h1.elim fun x2 h2 => h2.elim fun x3 h3 => h3.elim fun x4 h4 => k x0 x1 x2 x3 x4 h4.1 h4.2.1 h4.2.2.1 h4.2.2.2
theorem ea_EEEEEAAAA {α0 α1 α2 α3 α4 : Sort _} {P0 P1 P2 P3 P4 : α0 → α1 → α2 → α3 → α4 → Prop} {G : Prop} (h : ∃ x0, ∃ x1, ∃ x2, ∃ x3, ∃ x4, P0 x0 x1 x2 x3 x4 ∧ P1 x0 x1 x2 x3 x4 ∧ P2 x0 x1 x2 x3 x4 ∧ P3 x0 x1 x2 x3 x4 ∧ P4 x0 x1 x2 x3 x4) (k : ∀ x0, ∀ x1, ∀ x2, ∀ x3, ∀ x4, P0 x0 x1 x2 x3 x4 → P1 x0 x1 x2 x3 x4 → P2 x0 x1 x2 x3 x4 → P3 x0 x1 x2 x3 x4 → P4 x0 x1 x2 x3 x4 → G) : G := h.elim fun x0 h0 => h0.elim fun x1 h1 => h1.elim fun x2 h2 => h2.elim fun x3 h3 => h3.elim fun x4 h4 => k x0 x1 x2 x3 x4 h4.1 h4.2.1 h4.2.2.1 h4.2.2.2.1 h4.2.2.2.2
theorem ea_EEEEEEAAA {α0 α1 α2 α3 α4 α5 : Sort _} {P0 P1 P2 P3 : α0 → α1 → α2 → α3 → α4 → α5 → Prop} {G : Prop} (h : ∃ x0, ∃ x1, ∃ x2, ∃ x3, ∃ x4, ∃ x5, P0 x0 x1 x2 x3 x4 x5 ∧ P1 x0 x1 x2 x3 x4 x5 ∧ P2 x0 x1 x2 x3 x4 x5 ∧ P3 x0 x1 x2 x3 x4 x5) (k : ∀ x0, ∀ x1, ∀ x2, ∀ x3, ∀ x4, ∀ x5, P0 x0 x1 x2 x3 x4 x5 → P1 x0 x1 x2 x3 x4 x5 → P2 x0 x1 x2 x3 x4 x5 → P3 x0 x1 x2 x3 x4 x5 → G) : G := h.elim fun x0 h0 => h0.elim fun x1 h1 => h1.elim fun x2 h2 => h2.elim fun x3 h3 => h3.elim fun x4 h4 => h4.elim fun x5 h5 => k x0 x1 x2 x3 x4 x5 h5.1 h5.2.1 h5.2.2.1 h5.2.2.2
theorem ea_AAAAAAAAEE {α0 α1 : Sort _} {P0 P1 P2 P3 P4 P5 P6 P7 : Prop} {P8 : α0 → α1 → Prop} {G : Prop} (h : P0 ∧ P1 ∧ P2 ∧ P3 ∧ P4 ∧ P5 ∧ P6 ∧ P7 ∧ ∃ x0, ∃ x1, P8 x0 x1) (k : P0 → P1 → P2 → P3 → P4 → P5 → P6 → P7 → ∀ x0, ∀ x1, P8 x0 x1 → G) : G := h.2.2.2.2.2.2.2.2.elim fun x0 h0 => h0.elim fun x1 h1 => k h.1 h.2.1 h.2.2.1 h.2.2.2.1 h.2.2.2.2.1 h.2.2.2.2.2.1 h.2.2.2.2.2.2.1 h.2.2.2.2.2.2.2.1 x0 x1 h1
theorem ea_AEEEEEEAAA {α0 α1 α2 α3 α4 α5 : Sort _} {P0 : Prop} {P1 P2 P3 P4 : α0 → α1 → α2 → α3 → α4 → α5 → Prop} {G : Prop} (h : P0 ∧ ∃ x0, ∃ x1, ∃ x2, ∃ x3, ∃ x4, ∃ x5, P1 x0 x1 x2 x3 x4 x5 ∧ P2 x0 x1 x2 x3 x4 x5 ∧ P3 x0 x1 x2 x3 x4 x5 ∧ P4 x0 x1 x2 x3 x4 x5) (k : P0 → ∀ x0, ∀ x1, ∀ x2, ∀ x3, ∀ x4, ∀ x5, P1 x0 x1 x2 x3 x4 x5 → P2 x0 x1 x2 x3 x4 x5 → P3 x0 x1 x2 x3 x4 x5 → P4 x0 x1 x2 x3 x4 x5 → G) : G := h.2.elim fun x0 h0 => h0.elim fun x1 h1 => h1.elim fun x2 h2 => h2.elim fun x3 h3 => h3.elim fun x4 h4 => h4.elim fun x5 h5 => k h.1 x0 x1 x2 x3 x4 x5 h5.1 h5.2.1 h5.2.2.1 h5.2.2.2
theorem ea_AEEEEEEEAA {α0 α1 α2 α3 α4 α5 α6 : Sort _} {P0 : Prop} {P1 P2 P3 : α0 → α1 → α2 → α3 → α4 → α5 → α6 → Prop} {G : Prop} (h : P0 ∧ ∃ x0, ∃ x1, ∃ x2, ∃ x3, ∃ x4, ∃ x5, ∃ x6, P1 x0 x1 x2 x3 x4 x5 x6 ∧ P2 x0 x1 x2 x3 x4 x5 x6 ∧ P3 x0 x1 x2 x3 x4 x5 x6) (k : P0 → ∀ x0, ∀ x1, ∀ x2, ∀ x3, ∀ x4, ∀ x5, ∀ x6, P1 x0 x1 x2 x3 x4 x5 x6 → P2 x0 x1 x2 x3 x4 x5 x6 → P3 x0 x1 x2 x3 x4 x5 x6 → G) : G := h.2.elim fun x0 h0 => h0.elim fun x1 h1 => h1.elim fun x2 h2 => h2.elim fun x3 h3 => h3.elim fun x4 h4 => h4.elim fun x5 h5 => h5.elim fun x6 h6 => k h.1 x0 x1 x2 x3 x4 x5 x6 h6.1 h6.2.1 h6.2.2
theorem ea_EEEEEAAAAA {α0 α1 α2 α3 α4 : Sort _} {P0 P1 P2 P3 P4 P5 : α0 → α1 → α2 → α3 → α4 → Prop} {G : Prop} (h : ∃ x0, ∃ x1, ∃ x2, ∃ x3, ∃ x4, P0 x0 x1 x2 x3 x4 ∧ P1 x0 x1 x2 x3 x4 ∧ P2 x0 x1 x2 x3 x4 ∧ P3 x0 x1 x2 x3 x4 ∧ P4 x0 x1 x2 x3 x4 ∧ P5 x0 x1 x2 x3 x4) (k : ∀ x0, ∀ x1, ∀ x2, ∀ x3, ∀ x4, P0 x0 x1 x2 x3 x4 → P1 x0 x1 x2 x3 x4 → P2 x0 x1 x2 x3 x4 → P3 x0 x1 x2 x3 x4 → P4 x0 x1 x2 x3 x4 → P5 x0 x1 x2 x3 x4 → G) : G := h.elim fun x0 h0 => h0.elim fun x1 h1 => h1.elim fun x2 h2 => h2.elim fun x3 h3 => h3.elim fun x4 h4 => k x0 x1 x2 x3 x4 h4.1 h4.2.1 h4.2.2.1 h4.2.2.2.1 h4.2.2.2.2.1 h4.2.2.2.2.2
theorem ea_EEEAAAAAAAA {α0 α1 α2 : Sort _} {P0 P1 P2 P3 P4 P5 P6 P7 P8 : α0 → α1 → α2 → Prop} {G : Prop} (h : ∃ x0, ∃ x1, ∃ x2, P0 x0 x1 x2 ∧ P1 x0 x1 x2 ∧ P2 x0 x1 x2 ∧ P3 x0 x1 x2 ∧ P4 x0 x1 x2 ∧ P5 x0 x1 x2 ∧ P6 x0 x1 x2 ∧ P7 x0 x1 x2 ∧ P8 x0 x1 x2) (k : ∀ x0, ∀ x1, ∀ x2, P0 x0 x1 x2 → P1 x0 x1 x2 → P2 x0 x1 x2 → P3 x0 x1 x2 → P4 x0 x1 x2 → P5 x0 x1 x2 → P6 x0 x1 x2 → P7 x0 x1 x2 → P8 x0 x1 x2 → G) : G := h.elim fun x0 h0 => h0.elim fun x1 h1 => h1.elim fun x2 h2 => k x0 x1 x2 h2.1 h2.2.1 h2.2.2.1 h2.2.2.2.1 h2.2.2.2.2.1 h2.2.2.2.2.2.1 h2.2.2.2.2.2.2.1 h2.2.2.2.2.2.2.2.1 h2.2.2.2.2.2.2.2.2
theorem ea_EEEEAAAAAAA {α0 α1 α2 α3 : Sort _} {P0 P1 P2 P3 P4 P5 P6 P7 : α0 → α1 → α2 → α3 → Prop} {G : Prop} (h : ∃ x0, ∃ x1, ∃ x2, ∃ x3, P0 x0 x1 x2 x3 ∧ P1 x0 x1 x2 x3 ∧ P2 x0 x1 x2 x3 ∧ P3 x0 x1 x2 x3 ∧ P4 x0 x1 x2 x3 ∧ P5 x0 x1 x2 x3 ∧ P6 x0 x1 x2 x3 ∧ P7 x0 x1 x2 x3) (k : ∀ x0, ∀ x1, ∀ x2, ∀ x3, P0 x0 x1 x2 x3 → P1 x0 x1 x2 x3 → P2 x0 x1 x2 x3 → P3 x0 x1 x2 x3 → P4 x0 x1 x2 x3 → P5 x0 x1 x2 x3 → P6 x0 x1 x2 x3 → P7 x0 x1 x2 x3 → G) : G := h.elim fun x0 h0 => h0.elim fun x1 h1 => h1.elim fun x2 h2 => h2.elim fun x3 h3 => k x0 x1 x2 x3 h3.1 h3.2.1 h3.2.2.1 h3.2.2.2.1 h3.2.2.2.2.1 h3.2.2.2.2.2.1 h3.2.2.2.2.2.2.1 h3.2.2.2.2.2.2.2
theorem ea_EEEEEAAAAAA {α0 α1 α2 α3 α4 : Sort _} {P0 P1 P2 P3 P4 P5 P6 : α0 → α1 → α2 → α3 → α4 → Prop} {G : Prop} (h : ∃ x0, ∃ x1, ∃ x2, ∃ x3, ∃ x4, P0 x0 x1 x2 x3 x4 ∧ P1 x0 x1 x2 x3 x4 ∧ P2 x0 x1 x2 x3 x4 ∧ P3 x0 x1 x2 x3 x4 ∧ P4 x0 x1 x2 x3 x4 ∧ P5 x0 x1 x2 x3 x4 ∧ P6 x0 x1 x2 x3 x4) (k : ∀ x0, ∀ x1, ∀ x2, ∀ x3, ∀ x4, P0 x0 x1 x2 x3 x4 → P1 x0 x1 x2 x3 x4 → P2 x0 x1 x2 x3 x4 → P3 x0 x1 x2 x3 x4 → P4 x0 x1 x2 x3 x4 → P5 x0 x1 x2 x3 x4 → P6 x0 x1 x2 x3 x4 → G) : G := h.elim fun x0 h0 => h0.elim fun x1 h1 => h1.elim fun x2 h2 => h2.elim fun x3 h3 => h3.elim fun x4 h4 => k x0 x1 x2 x3 x4 h4.1 h4.2.1 h4.2.2.1 h4.2.2.2.1 h4.2.2.2.2.1 h4.2.2.2.2.2.1 h4.2.2.2.2.2.2
theorem ea_EEEEEEAAAAA {α0 α1 α2 α3 α4 α5 : Sort _} {P0 P1 P2 P3 P4 P5 : α0 → α1 → α2 → α3 → α4 → α5 → Prop} {G : Prop} (h : ∃ x0, ∃ x1, ∃ x2, ∃ x3, ∃ x4, ∃ x5, P0 x0 x1 x2 x3 x4 x5 ∧ P1 x0 x1 x2 x3 x4 x5 ∧ P2 x0 x1 x2 x3 x4 x5 ∧ P3 x0 x1 x2 x3 x4 x5 ∧ P4 x0 x1 x2 x3 x4 x5 ∧ P5 x0 x1 x2 x3 x4 x5) (k : ∀ x0, ∀ x1, ∀ x2, ∀ x3, ∀ x4, ∀ x5, P0 x0 x1 x2 x3 x4 x5 → P1 x0 x1 x2 x3 x4 x5 → P2 x0 x1 x2 x3 x4 x5 → P3 x0 x1 x2 x3 x4 x5 → P4 x0 x1 x2 x3 x4 x5 → P5 x0 x1 x2 x3 x4 x5 → G) : G := h.elim fun x0 h0 => h0.elim fun x1 h1 => h1.elim fun x2 h2 => h2.elim fun x3 h3 => h3.elim fun x4 h4 => h4.elim fun x5 h5 => k x0 x1 x2 x3 x4 x5 h5.1 h5.2.1 h5.2.2.1 h5.2.2.2.1 h5.2.2.2.2.1 h5.2.2.2.2.2
theorem ea_AAEEEEEAAAAA {α0 α1 α2 α3 α4 : Sort _} {P0 P1 : Prop} {P2 P3 P4 P5 P6 P7 : α0 → α1 → α2 → α3 → α4 → Prop} {G : Prop} (h : P0 ∧ P1 ∧ ∃ x0, ∃ x1, ∃ x2, ∃ x3, ∃ x4, P2 x0 x1 x2 x3 x4 ∧ P3 x0 x1 x2 x3 x4 ∧ P4 x0 x1 x2 x3 x4 ∧ P5 x0 x1 x2 x3 x4 ∧ P6 x0 x1 x2 x3 x4 ∧ P7 x0 x1 x2 x3 x4) (k : P0 → P1 → ∀ x0, ∀ x1, ∀ x2, ∀ x3, ∀ x4, P2 x0 x1 x2 x3 x4 → P3 x0 x1 x2 x3 x4 → P4 x0 x1 x2 x3 x4 → P5 x0 x1 x2 x3 x4 → P6 x0 x1 x2 x3 x4 → P7 x0 x1 x2 x3 x4 → G) : G := h.2.2.elim fun x0 h0 => h0.elim fun x1 h1 => h1.elim fun x2 h2 => h2.elim fun x3 h3 => h3.elim fun x4 h4 => k h.1 h.2.1 x0 x1 x2 x3 x4 h4.1 h4.2.1 h4.2.2.1 h4.2.2.2.1 h4.2.2.2.2.1 h4.2.2.2.2.2
theorem ea_EEEEEEEEEEEEEEEA {α0 α1 α2 α3 α4 α5 α6 α7 α8 α9 α10 α11 α12 α13 α14 : Sort _} {P0 P1 : α0 → α1 → α2 → α3 → α4 → α5 → α6 → α7 → α8 → α9 → α10 → α11 → α12 → α13 → α14 → Prop} {G : Prop} (h : ∃ x0, ∃ x1, ∃ x2, ∃ x3, ∃ x4, ∃ x5, ∃ x6, ∃ x7, ∃ x8, ∃ x9, ∃ x10, ∃ x11, ∃ x12, ∃ x13, ∃ x14, P0 x0 x1 x2 x3 x4 x5 x6 x7 x8 x9 x10 x11 x12 x13 x14 ∧ P1 x0 x1 x2 x3 x4 x5 x6 x7 x8 x9 x10 x11 x12 x13 x14) (k : ∀ x0, ∀ x1, ∀ x2, ∀ x3, ∀ x4, ∀ x5, ∀ x6, ∀ x7, ∀ x8, ∀ x9, ∀ x10, ∀ x11, ∀ x12, ∀ x13, ∀ x14, P0 x0 x1 x2 x3 x4 x5 x6 x7 x8 x9 x10 x11 x12 x13 x14 → P1 x0 x1 x2 x3 x4 x5 x6 x7 x8 x9 x10 x11 x12 x13 x14 → G) : G := h.elim fun x0 h0 => h0.elim fun x1 h1 => h1.elim fun x2 h2 => h2.elim fun x3 h3 => h3.elim fun x4 h4 => h4.elim fun x5 h5 => h5.elim fun x6 h6 => h6.elim fun x7 h7 => h7.elim fun x8 h8 => h8.elim fun x9 h9 => h9.elim fun x10 h10 => h10.elim fun x11 h11 => h11.elim fun x12 h12 => h12.elim fun x13 h13 => h13.elim fun x14 h14 => k x0 x1 x2 x3 x4 x5 x6 x7 x8 x9 x10 x11 x12 x13 x14 h14.1 h14.2
theorem ea_EEAAEEEEEEAAAAAAA {α0 α1 α2 α3 α4 α5 α6 α7 : Sort _} {P0 P1 : α0 → α1 → Prop} {P2 P3 P4 P5 P6 P7 P8 P9 : α0 → α1 → α2 → α3 → α4 → α5 → α6 → α7 → Prop} {G : Prop} (h : ∃ x0, ∃ x1, P0 x0 x1 ∧ P1 x0 x1 ∧ ∃ x2, ∃ x3, ∃ x4, ∃ x5, ∃ x6, ∃ x7, P2 x0 x1 x2 x3 x4 x5 x6 x7 ∧ P3 x0 x1 x2 x3 x4 x5 x6 x7 ∧ P4 x0 x1 x2 x3 x4 x5 x6 x7 ∧ P5 x0 x1 x2 x3 x4 x5 x6 x7 ∧ P6 x0 x1 x2 x3 x4 x5 x6 x7 ∧ P7 x0 x1 x2 x3 x4 x5 x6 x7 ∧ P8 x0 x1 x2 x3 x4 x5 x6 x7 ∧ P9 x0 x1 x2 x3 x4 x5 x6 x7) (k : ∀ x0, ∀ x1, P0 x0 x1 → P1 x0 x1 → ∀ x2, ∀ x3, ∀ x4, ∀ x5, ∀ x6, ∀ x7, P2 x0 x1 x2 x3 x4 x5 x6 x7 → P3 x0 x1 x2 x3 x4 x5 x6 x7 → P4 x0 x1 x2 x3 x4 x5 x6 x7 → P5 x0 x1 x2 x3 x4 x5 x6 x7 → P6 x0 x1 x2 x3 x4 x5 x6 x7 → P7 x0 x1 x2 x3 x4 x5 x6 x7 → P8 x0 x1 x2 x3 x4 x5 x6 x7 → P9 x0 x1 x2 x3 x4 x5 x6 x7 → G) : G := h.elim fun x0 h0 => h0.elim fun x1 h1 => h1.2.2.elim fun x2 h2 => h2.elim fun x3 h3 => h3.elim fun x4 h4 => h4.elim fun x5 h5 => h5.elim fun x6 h6 => h6.elim fun x7 h7 => k x0 x1 h1.1 h1.2.1 x2 x3 x4 x5 x6 x7 h7.1 h7.2.1 h7.2.2.1 h7.2.2.2.1 h7.2.2.2.2.1 h7.2.2.2.2.2.1 h7.2.2.2.2.2.2.1 h7.2.2.2.2.2.2.2
theorem ea_EEAAAAAAAAEEEEEAAA {α0 α1 α2 α3 α4 α5 α6 : Sort _} {P0 P1 P2 P3 P4 P5 P6 P7 : α0 → α1 → Prop} {P8 P9 P10 P11 : α0 → α1 → α2 → α3 → α4 → α5 → α6 → Prop} {G : Prop} (h : ∃ x0, ∃ x1, P0 x0 x1 ∧ P1 x0 x1 ∧ P2 x0 x1 ∧ P3 x0 x1 ∧ P4 x0 x1 ∧ P5 x0 x1 ∧ P6 x0 x1 ∧ P7 x0 x1 ∧ ∃ x2, ∃ x3, ∃ x4, ∃ x5, ∃ x6, P8 x0 x1 x2 x3 x4 x5 x6 ∧ P9 x0 x1 x2 x3 x4 x5 x6 ∧ P10 x0 x1 x2 x3 x4 x5 x6 ∧ P11 x0 x1 x2 x3 x4 x5 x6) (k : ∀ x0, ∀ x1, P0 x0 x1 → P1 x0 x1 → P2 x0 x1 → P3 x0 x1 → P4 x0 x1 → P5 x0 x1 → P6 x0 x1 → P7 x0 x1 → ∀ x2, ∀ x3, ∀ x4, ∀ x5, ∀ x6, P8 x0 x1 x2 x3 x4 x5 x6 → P9 x0 x1 x2 x3 x4 x5 x6 → P10 x0 x1 x2 x3 x4 x5 x6 → P11 x0 x1 x2 x3 x4 x5 x6 → G) : G := h.elim fun x0 h0 => h0.elim fun x1 h1 => h1.2.2.2.2.2.2.2.2.elim fun x2 h2 => h2.elim fun x3 h3 => h3.elim fun x4 h4 => h4.elim fun x5 h5 => h5.elim fun x6 h6 => k x0 x1 h1.1 h1.2.1 h1.2.2.1 h1.2.2.2.1 h1.2.2.2.2.1 h1.2.2.2.2.2.1 h1.2.2.2.2.2.2.1 h1.2.2.2.2.2.2.2.1 x2 x3 x4 x5 x6 h6.1 h6.2.1 h6.2.2.1 h6.2.2.2
theorem ea_EEEEEEAAAAAAAAAAAA {α0 α1 α2 α3 α4 α5 : Sort _} {P0 P1 P2 P3 P4 P5 P6 P7 P8 P9 P10 P11 P12 : α0 → α1 → α2 → α3 → α4 → α5 → Prop} {G : Prop} (h : ∃ x0, ∃ x1, ∃ x2, ∃ x3, ∃ x4, ∃ x5, P0 x0 x1 x2 x3 x4 x5 ∧ P1 x0 x1 x2 x3 x4 x5 ∧ P2 x0 x1 x2 x3 x4 x5 ∧ P3 x0 x1 x2 x3 x4 x5 ∧ P4 x0 x1 x2 x3 x4 x5 ∧ P5 x0 x1 x2 x3 x4 x5 ∧ P6 x0 x1 x2 x3 x4 x5 ∧ P7 x0 x1 x2 x3 x4 x5 ∧ P8 x0 x1 x2 x3 x4 x5 ∧ P9 x0 x1 x2 x3 x4 x5 ∧ P10 x0 x1 x2 x3 x4 x5 ∧ P11 x0 x1 x2 x3 x4 x5 ∧ P12 x0 x1 x2 x3 x4 x5) (k : ∀ x0, ∀ x1, ∀ x2, ∀ x3, ∀ x4, ∀ x5, P0 x0 x1 x2 x3 x4 x5 → P1 x0 x1 x2 x3 x4 x5 → P2 x0 x1 x2 x3 x4 x5 → P3 x0 x1 x2 x3 x4 x5 → P4 x0 x1 x2 x3 x4 x5 → P5 x0 x1 x2 x3 x4 x5 → P6 x0 x1 x2 x3 x4 x5 → P7 x0 x1 x2 x3 x4 x5 → P8 x0 x1 x2 x3 x4 x5 → P9 x0 x1 x2 x3 x4 x5 → P10 x0 x1 x2 x3 x4 x5 → P11 x0 x1 x2 x3 x4 x5 → P12 x0 x1 x2 x3 x4 x5 → G) : G := h.elim fun x0 h0 => h0.elim fun x1 h1 => h1.elim fun x2 h2 => h2.elim fun x3 h3 => h3.elim fun x4 h4 => h4.elim fun x5 h5 => k x0 x1 x2 x3 x4 x5 h5.1 h5.2.1 h5.2.2.1 h5.2.2.2.1 h5.2.2.2.2.1 h5.2.2.2.2.2.1 h5.2.2.2.2.2.2.1 h5.2.2.2.2.2.2.2.1 h5.2.2.2.2.2.2.2.2.1 h5.2.2.2.2.2.2.2.2.2.1 h5.2.2.2.2.2.2.2.2.2.2.1 h5.2.2.2.2.2.2.2.2.2.2.2.1 h5.2.2.2.2.2.2.2.2.2.2.2.2
@[elab_as_elim] theorem gen_x {α : Sort _} {P : α → Prop} (a : α) (h : ∀ x, P x) : P a := h a
@[elab_as_elim] theorem gen_e {α : Sort _} {P : α → Prop} (a : α) (h : ∀ x, a = x → P x) : P a := h a rfl
theorem BoolEl {P : Bool → Prop} (b : Bool) (true : P .true) (false : P .false) : P b := by cases b; exact false; exact true
@[elab_as_elim] theorem Ls3El {α : Type _} {P : List α → Prop} (l : List α) (nil : P []) (two : ∀ a b r, P (a :: b :: r)) (one : ∀ a, P [a]) : P l := by
  cases l with
  | nil => exact nil
  | cons a r => cases r with
    | nil => exact one a
    | cons b r => exact two a b r
@[elab_as_elim] theorem LsEl {α : Type _} {P : List α → Prop} (l : List α) (nil : P []) (cons : ∀ a r, P (a :: r)) : P l := by cases l; exact nil; exact cons _ _
theorem NatEl {P : Nat → Prop} (n : Nat) (zero : P 0) (succ : ∀ n, P (n + 1)) : P n := by cases n; exact zero; exact succ _
theorem bk1 {k a b : Nat} (h : k < a) (e : Nat.ble a b = true) : k < b := Nat.lt_of_lt_of_le h (Nat.le_of_ble_eq_true e)
theorem bk2 {k a b j : Nat} (h : k < a) (e : Nat.ble (a + j) b = true) : k + j < b := bk1 (Nat.add_lt_add_right h j) e
theorem bk3 {k m a b : Nat} (h : k + m < a) (e : Nat.ble a b = true) : k < b := bk1 (Nat.lt_of_le_of_lt (Nat.le_add_right k m) h) e
theorem bk4 {k m a b j : Nat} (h : k + m < a) (e : Nat.ble (a + j) b = true) : k + j < b := bk2 (Nat.lt_of_le_of_lt (Nat.le_add_right k m) h) e
theorem bk5 {k a b i j : Nat} (h : k < a) (e : Nat.ble (a + i + j) b = true) : k + i + j < b := bk2 (Nat.add_lt_add_right h i) e
theorem bk6 {n a b : Nat} (h : n ≤ a) (e : Nat.ble a b = true) : n ≤ b := Nat.le_trans h (Nat.le_of_ble_eq_true e)

theorem bk8 {n a b j : Nat} (h : n ≤ a) (e : Nat.ble (a + j) b = true) : n + j ≤ b := bk6 (Nat.add_le_add_right h j) e
theorem bk9 {n a b : Nat} (h : n ≤ a) (e : Nat.ble (a + 1) b = true) : n < b := Nat.lt_of_lt_of_le (Nat.lt_succ_of_le h) (Nat.le_of_ble_eq_true e)
theorem m0 {α : Type _} {x : α} {l : List α} : x ∈ x :: l := .head _
theorem m1 {α : Type _} {a x : α} {l : List α} : x ∈ a :: x :: l := .tail _ m0
theorem m2 {α : Type _} {a b x : α} {l : List α} : x ∈ a :: b :: x :: l := .tail _ m1
theorem m3 {α : Type _} {a b c x : α} {l : List α} : x ∈ a :: b :: c :: x :: l := .tail _ m2
theorem m4 {α : Type _} {a b c d x : α} {l : List α} : x ∈ a :: b :: c :: d :: x :: l := .tail _ m3
theorem m5 {α : Type _} {a b c d e x : α} {l : List α} : x ∈ a :: b :: c :: d :: e :: x :: l := .tail _ m4
theorem all5 {α : Type _} {P : α → Prop} {a b c d e : α} (ha : P a) (hb : P b) (hc : P c) (hd : P d) (he : P e) : ∀ x ∈ [a, b, c, d, e], P x := by
  simp only [List.forall_mem_cons]
  exact ⟨ha, hb, hc, hd, he, nofun⟩
theorem all4 {α : Type _} {P : α → Prop} {b c d e : α} (hb : P b) (hc : P c) (hd : P d) (he : P e) : ∀ x ∈ [b, c, d, e], P x := by
  simp only [List.forall_mem_cons]
  exact ⟨hb, hc, hd, he, nofun⟩
theorem ia_AE {α0 : Sort _} {P0 : Prop} {P1 : α0 → Prop} (h0 : P0) (x0 : α0) (h1 : P1 x0) : P0 ∧ ∃ x0, P1 x0 := ⟨h0, x0, h1⟩
theorem ia_EA {α0 : Sort _} {P0 : α0 → Prop} {P1 : α0 → Prop} (x0 : α0) (h0 : P0 x0) (h1 : P1 x0) : ∃ x0, P0 x0 ∧ P1 x0 := ⟨x0, h0, h1⟩
theorem ia_EE {α0 α1 : Sort _} {P0 : α0 → α1 → Prop} (x0 : α0) (x1 : α1) (h0 : P0 x0 x1) : ∃ x0, ∃ x1, P0 x0 x1 := ⟨x0, x1, h0⟩
theorem ia_AAE {α0 : Sort _} {P0 : Prop} {P1 : Prop} {P2 : α0 → Prop} (h0 : P0) (h1 : P1) (x0 : α0) (h2 : P2 x0) : P0 ∧ P1 ∧ ∃ x0, P2 x0 := ⟨h0, h1, x0, h2⟩
theorem ia_AEE {α0 α1 : Sort _} {P0 : Prop} {P1 : α0 → α1 → Prop} (h0 : P0) (x0 : α0) (x1 : α1) (h1 : P1 x0 x1) : P0 ∧ ∃ x0, ∃ x1, P1 x0 x1 := ⟨h0, x0, x1, h1⟩
theorem ia_EEA {α0 α1 : Sort _} {P0 : α0 → α1 → Prop} {P1 : α0 → α1 → Prop} (x0 : α0) (x1 : α1) (h0 : P0 x0 x1) (h1 : P1 x0 x1) : ∃ x0, ∃ x1, P0 x0 x1 ∧ P1 x0 x1 := ⟨x0, x1, h0, h1⟩
theorem ia_AAAE {α0 : Sort _} {P0 : Prop} {P1 : Prop} {P2 : Prop} {P3 : α0 → Prop} (h0 : P0) (h1 : P1) (h2 : P2) (x0 : α0) (h3 : P3 x0) : P0 ∧ P1 ∧ P2 ∧ ∃ x0, P3 x0 := ⟨h0, h1, h2, x0, h3⟩
theorem ia_EAAA {α0 : Sort _} {P0 : α0 → Prop} {P1 : α0 → Prop} {P2 : α0 → Prop} {P3 : α0 → Prop} (x0 : α0) (h0 : P0 x0) (h1 : P1 x0) (h2 : P2 x0) (h3 : P3 x0) : ∃ x0, P0 x0 ∧ P1 x0 ∧ P2 x0 ∧ P3 x0 := ⟨x0, h0, h1, h2, h3⟩
theorem ia_EEAA {α0 α1 : Sort _} {P0 : α0 → α1 → Prop} {P1 : α0 → α1 → Prop} {P2 : α0 → α1 → Prop} (x0 : α0) (x1 : α1) (h0 : P0 x0 x1) (h1 : P1 x0 x1) (h2 : P2 x0 x1) : ∃ x0, ∃ x1, P0 x0 x1 ∧ P1 x0 x1 ∧ P2 x0 x1 := ⟨x0, x1, h0, h1, h2⟩
theorem ia_AEAAA {α0 : Sort _} {P0 : Prop} {P1 : α0 → Prop} {P2 : α0 → Prop} {P3 : α0 → Prop} {P4 : α0 → Prop} (h0 : P0) (x0 : α0) (h1 : P1 x0) (h2 : P2 x0) (h3 : P3 x0) (h4 : P4 x0) : P0 ∧ ∃ x0, P1 x0 ∧ P2 x0 ∧ P3 x0 ∧ P4 x0 := ⟨h0, x0, h1, h2, h3, h4⟩
theorem ia_AAAEAA {α0 : Sort _} {P0 : Prop} {P1 : Prop} {P2 : Prop} {P3 : α0 → Prop} {P4 : α0 → Prop} {P5 : α0 → Prop} (h0 : P0) (h1 : P1) (h2 : P2) (x0 : α0) (h3 : P3 x0) (h4 : P4 x0) (h5 : P5 x0) : P0 ∧ P1 ∧ P2 ∧ ∃ x0, P3 x0 ∧ P4 x0 ∧ P5 x0 := ⟨h0, h1, h2, x0, h3, h4, h5⟩
theorem ia_AAAEEA {α0 α1 : Sort _} {P0 : Prop} {P1 : Prop} {P2 : Prop} {P3 : α0 → α1 → Prop} {P4 : α0 → α1 → Prop} (h0 : P0) (h1 : P1) (h2 : P2) (x0 : α0) (x1 : α1) (h3 : P3 x0 x1) (h4 : P4 x0 x1) : P0 ∧ P1 ∧ P2 ∧ ∃ x0, ∃ x1, P3 x0 x1 ∧ P4 x0 x1 := ⟨h0, h1, h2, x0, x1, h3, h4⟩
theorem ia_EAAAAA {α0 : Sort _} {P0 : α0 → Prop} {P1 : α0 → Prop} {P2 : α0 → Prop} {P3 : α0 → Prop} {P4 : α0 → Prop} {P5 : α0 → Prop} (x0 : α0) (h0 : P0 x0) (h1 : P1 x0) (h2 : P2 x0) (h3 : P3 x0) (h4 : P4 x0) (h5 : P5 x0) : ∃ x0, P0 x0 ∧ P1 x0 ∧ P2 x0 ∧ P3 x0 ∧ P4 x0 ∧ P5 x0 := ⟨x0, h0, h1, h2, h3, h4, h5⟩
theorem ia_EEEEAA {α0 α1 α2 α3 : Sort _} {P0 : α0 → α1 → α2 → α3 → Prop} {P1 : α0 → α1 → α2 → α3 → Prop} {P2 : α0 → α1 → α2 → α3 → Prop} (x0 : α0) (x1 : α1) (x2 : α2) (x3 : α3) (h0 : P0 x0 x1 x2 x3) (h1 : P1 x0 x1 x2 x3) (h2 : P2 x0 x1 x2 x3) : ∃ x0, ∃ x1, ∃ x2, ∃ x3, P0 x0 x1 x2 x3 ∧ P1 x0 x1 x2 x3 ∧ P2 x0 x1 x2 x3 := ⟨x0, x1, x2, x3, h0, h1, h2⟩
theorem ia_AAAAAAE {α0 : Sort _} {P0 : Prop} {P1 : Prop} {P2 : Prop} {P3 : Prop} {P4 : Prop} {P5 : Prop} {P6 : α0 → Prop} (h0 : P0) (h1 : P1) (h2 : P2) (h3 : P3) (h4 : P4) (h5 : P5) (x0 : α0) (h6 : P6 x0) : P0 ∧ P1 ∧ P2 ∧ P3 ∧ P4 ∧ P5 ∧ ∃ x0, P6 x0 := ⟨h0, h1, h2, h3, h4, h5, x0, h6⟩
theorem ia_AAEEEAA {α0 α1 α2 : Sort _} {P0 : Prop} {P1 : Prop} {P2 : α0 → α1 → α2 → Prop} {P3 : α0 → α1 → α2 → Prop} {P4 : α0 → α1 → α2 → Prop} (h0 : P0) (h1 : P1) (x0 : α0) (x1 : α1) (x2 : α2) (h2 : P2 x0 x1 x2) (h3 : P3 x0 x1 x2) (h4 : P4 x0 x1 x2) : P0 ∧ P1 ∧ ∃ x0, ∃ x1, ∃ x2, P2 x0 x1 x2 ∧ P3 x0 x1 x2 ∧ P4 x0 x1 x2 := ⟨h0, h1, x0, x1, x2, h2, h3, h4⟩
theorem ia_EEAAAAA {α0 α1 : Sort _} {P0 : α0 → α1 → Prop} {P1 : α0 → α1 → Prop} {P2 : α0 → α1 → Prop} {P3 : α0 → α1 → Prop} {P4 : α0 → α1 → Prop} {P5 : α0 → α1 → Prop} (x0 : α0) (x1 : α1) (h0 : P0 x0 x1) (h1 : P1 x0 x1) (h2 : P2 x0 x1) (h3 : P3 x0 x1) (h4 : P4 x0 x1) (h5 : P5 x0 x1) : ∃ x0, ∃ x1, P0 x0 x1 ∧ P1 x0 x1 ∧ P2 x0 x1 ∧ P3 x0 x1 ∧ P4 x0 x1 ∧ P5 x0 x1 := ⟨x0, x1, h0, h1, h2, h3, h4, h5⟩
theorem ia_EEEEAAA {α0 α1 α2 α3 : Sort _} {P0 : α0 → α1 → α2 → α3 → Prop} {P1 : α0 → α1 → α2 → α3 → Prop} {P2 : α0 → α1 → α2 → α3 → Prop} {P3 : α0 → α1 → α2 → α3 → Prop} (x0 : α0) (x1 : α1) (x2 : α2) (x3 : α3) (h0 : P0 x0 x1 x2 x3) (h1 : P1 x0 x1 x2 x3) (h2 : P2 x0 x1 x2 x3) (h3 : P3 x0 x1 x2 x3) : ∃ x0, ∃ x1, ∃ x2, ∃ x3, P0 x0 x1 x2 x3 ∧ P1 x0 x1 x2 x3 ∧ P2 x0 x1 x2 x3 ∧ P3 x0 x1 x2 x3 := ⟨x0, x1, x2, x3, h0, h1, h2, h3⟩
theorem ia_AAEEEEAA {α0 α1 α2 α3 : Sort _} {P0 : Prop} {P1 : Prop} {P2 : α0 → α1 → α2 → α3 → Prop} {P3 : α0 → α1 → α2 → α3 → Prop} {P4 : α0 → α1 → α2 → α3 → Prop} (h0 : P0) (h1 : P1) (x0 : α0) (x1 : α1) (x2 : α2) (x3 : α3) (h2 : P2 x0 x1 x2 x3) (h3 : P3 x0 x1 x2 x3) (h4 : P4 x0 x1 x2 x3) : P0 ∧ P1 ∧ ∃ x0, ∃ x1, ∃ x2, ∃ x3, P2 x0 x1 x2 x3 ∧ P3 x0 x1 x2 x3 ∧ P4 x0 x1 x2 x3 := ⟨h0, h1, x0, x1, x2, x3, h2, h3, h4⟩
theorem ia_EAAAAAAA {α0 : Sort _} {P0 : α0 → Prop} {P1 : α0 → Prop} {P2 : α0 → Prop} {P3 : α0 → Prop} {P4 : α0 → Prop} {P5 : α0 → Prop} {P6 : α0 → Prop} {P7 : α0 → Prop} (x0 : α0) (h0 : P0 x0) (h1 : P1 x0) (h2 : P2 x0) (h3 : P3 x0) (h4 : P4 x0) (h5 : P5 x0) (h6 : P6 x0) (h7 : P7 x0) : ∃ x0, P0 x0 ∧ P1 x0 ∧ P2 x0 ∧ P3 x0 ∧ P4 x0 ∧ P5 x0 ∧ P6 x0 ∧ P7 x0 := ⟨x0, h0, h1, h2, h3, h4, h5, h6, h7⟩
theorem ia_EEAAAAAA {α0 α1 : Sort _} {P0 : α0 → α1 → Prop} {P1 : α0 → α1 → Prop} {P2 : α0 → α1 → Prop} {P3 : α0 → α1 → Prop} {P4 : α0 → α1 → Prop} {P5 : α0 → α1 → Prop} {P6 : α0 → α1 → Prop} (x0 : α0) (x1 : α1) (h0 : P0 x0 x1) (h1 : P1 x0 x1) (h2 : P2 x0 x1) (h3 : P3 x0 x1) (h4 : P4 x0 x1) (h5 : P5 x0 x1) (h6 : P6 x0 x1) : ∃ x0, ∃ x1, P0 x0 x1 ∧ P1 x0 x1 ∧ P2 x0 x1 ∧ P3 x0 x1 ∧ P4 x0 x1 ∧ P5 x0 x1 ∧ P6 x0 x1 := ⟨x0, x1, h0, h1, h2, h3, h4, h5, h6⟩
theorem ia_EEEAAAAA {α0 α1 α2 : Sort _} {P0 : α0 → α1 → α2 → Prop} {P1 : α0 → α1 → α2 → Prop} {P2 : α0 → α1 → α2 → Prop} {P3 : α0 → α1 → α2 → Prop} {P4 : α0 → α1 → α2 → Prop} {P5 : α0 → α1 → α2 → Prop} (x0 : α0) (x1 : α1) (x2 : α2) (h0 : P0 x0 x1 x2) (h1 : P1 x0 x1 x2) (h2 : P2 x0 x1 x2) (h3 : P3 x0 x1 x2) (h4 : P4 x0 x1 x2) (h5 : P5 x0 x1 x2) : ∃ x0, ∃ x1, ∃ x2, P0 x0 x1 x2 ∧ P1 x0 x1 x2 ∧ P2 x0 x1 x2 ∧ P3 x0 x1 x2 ∧ P4 x0 x1 x2 ∧ P5 x0 x1 x2 := ⟨x0, x1, x2, h0, h1, h2, h3, h4, h5⟩
theorem ia_EEEEAAAA {α0 α1 α2 α3 : Sort _} {P0 : α0 → α1 → α2 → α3 → Prop} {P1 : α0 → α1 → α2 → α3 → Prop} {P2 : α0 → α1 → α2 → α3 → Prop} {P3 : α0 → α1 → α2 → α3 → Prop} {P4 : α0 → α1 → α2 → α3 → Prop} (x0 : α0) (x1 : α1) (x2 : α2) (x3 : α3) (h0 : P0 x0 x1 x2 x3) (h1 : P1 x0 x1 x2 x3) (h2 : P2 x0 x1 x2 x3) (h3 : P3 x0 x1 x2 x3) (h4 : P4 x0 x1 x2 x3) : ∃ x0, ∃ x1, ∃ x2, ∃ x3, P0 x0 x1 x2 x3 ∧ P1 x0 x1 x2 x3 ∧ P2 x0 x1 x2 x3 ∧ P3 x0 x1 x2 x3 ∧ P4 x0 x1 x2 x3 := ⟨x0, x1, x2, x3, h0, h1, h2, h3, h4⟩
theorem ia_EEEEEAAA {α0 α1 α2 α3 α4 : Sort _} {P0 : α0 → α1 → α2 → α3 → α4 → Prop} {P1 : α0 → α1 → α2 → α3 → α4 → Prop} {P2 : α0 → α1 → α2 → α3 → α4 → Prop} {P3 : α0 → α1 → α2 → α3 → α4 → Prop} (x0 : α0) (x1 : α1) (x2 : α2) (x3 : α3) (x4 : α4) (h0 : P0 x0 x1 x2 x3 x4) (h1 : P1 x0 x1 x2 x3 x4) (h2 : P2 x0 x1 x2 x3 x4) (h3 : P3 x0 x1 x2 x3 x4) : ∃ x0, ∃ x1, ∃ x2, ∃ x3, ∃ x4, P0 x0 x1 x2 x3 x4 ∧ P1 x0 x1 x2 x3 x4 ∧ P2 x0 x1 x2 x3 x4 ∧ P3 x0 x1 x2 x3 x4 := ⟨x0, x1, x2, x3, x4, h0, h1, h2, h3⟩
theorem ia_EEEEEEAAA {α0 α1 α2 α3 α4 α5 : Sort _} {P0 : α0 → α1 → α2 → α3 → α4 → α5 → Prop} {P1 : α0 → α1 → α2 → α3 → α4 → α5 → Prop} {P2 : α0 → α1 → α2 → α3 → α4 → α5 → Prop} {P3 : α0 → α1 → α2 → α3 → α4 → α5 → Prop} (x0 : α0) (x1 : α1) (x2 : α2) (x3 : α3) (x4 : α4) (x5 : α5) (h0 : P0 x0 x1 x2 x3 x4 x5) (h1 : P1 x0 x1 x2 x3 x4 x5) (h2 : P2 x0 x1 x2 x3 x4 x5) (h3 : P3 x0 x1 x2 x3 x4 x5) : ∃ x0, ∃ x1, ∃ x2, ∃ x3, ∃ x4, ∃ x5, P0 x0 x1 x2 x3 x4 x5 ∧ P1 x0 x1 x2 x3 x4 x5 ∧ P2 x0 x1 x2 x3 x4 x5 ∧ P3 x0 x1 x2 x3 x4 x5 := ⟨x0, x1, x2, x3, x4, x5, h0, h1, h2, h3⟩
theorem ia_AAAAAAAAEE {α0 α1 : Sort _} {P0 : Prop} {P1 : Prop} {P2 : Prop} {P3 : Prop} {P4 : Prop} {P5 : Prop} {P6 : Prop} {P7 : Prop} {P8 : α0 → α1 → Prop} (h0 : P0) (h1 : P1) (h2 : P2) (h3 : P3) (h4 : P4) (h5 : P5) (h6 : P6) (h7 : P7) (x0 : α0) (x1 : α1) (h8 : P8 x0 x1) : P0 ∧ P1 ∧ P2 ∧ P3 ∧ P4 ∧ P5 ∧ P6 ∧ P7 ∧ ∃ x0, ∃ x1, P8 x0 x1 := ⟨h0, h1, h2, h3, h4, h5, h6, h7, x0, x1, h8⟩
theorem ia_AAEEEEEAAAAA {α0 α1 α2 α3 α4 : Sort _} {P0 : Prop} {P1 : Prop} {P2 : α0 → α1 → α2 → α3 → α4 → Prop} {P3 : α0 → α1 → α2 → α3 → α4 → Prop} {P4 : α0 → α1 → α2 → α3 → α4 → Prop} {P5 : α0 → α1 → α2 → α3 → α4 → Prop} {P6 : α0 → α1 → α2 → α3 → α4 → Prop} {P7 : α0 → α1 → α2 → α3 → α4 → Prop} (h0 : P0) (h1 : P1) (x0 : α0) (x1 : α1) (x2 : α2) (x3 : α3) (x4 : α4) (h2 : P2 x0 x1 x2 x3 x4) (h3 : P3 x0 x1 x2 x3 x4) (h4 : P4 x0 x1 x2 x3 x4) (h5 : P5 x0 x1 x2 x3 x4) (h6 : P6 x0 x1 x2 x3 x4) (h7 : P7 x0 x1 x2 x3 x4) : P0 ∧ P1 ∧ ∃ x0, ∃ x1, ∃ x2, ∃ x3, ∃ x4, P2 x0 x1 x2 x3 x4 ∧ P3 x0 x1 x2 x3 x4 ∧ P4 x0 x1 x2 x3 x4 ∧ P5 x0 x1 x2 x3 x4 ∧ P6 x0 x1 x2 x3 x4 ∧ P7 x0 x1 x2 x3 x4 := ⟨h0, h1, x0, x1, x2, x3, x4, h2, h3, h4, h5, h6, h7⟩
theorem ie3 {α0 α1 α2 : Sort _} {R : α0 → α1 → α2 → Prop} (x0 : α0) (x1 : α1) (x2 : α2) (h : R x0 x1 x2) : ∃ x0 x1 x2, R x0 x1 x2 := ⟨x0, x1, x2, h⟩
theorem ie4 {α0 α1 α2 α3 : Sort _} {R : α0 → α1 → α2 → α3 → Prop} (x0 : α0) (x1 : α1) (x2 : α2) (x3 : α3) (h : R x0 x1 x2 x3) : ∃ x0 x1 x2 x3, R x0 x1 x2 x3 := ⟨x0, x1, x2, x3, h⟩
theorem ie5 {α0 α1 α2 α3 α4 : Sort _} {R : α0 → α1 → α2 → α3 → α4 → Prop} (x0 : α0) (x1 : α1) (x2 : α2) (x3 : α3) (x4 : α4) (h : R x0 x1 x2 x3 x4) : ∃ x0 x1 x2 x3 x4, R x0 x1 x2 x3 x4 := ⟨x0, x1, x2, x3, x4, h⟩
theorem ie6 {α0 α1 α2 α3 α4 α5 : Sort _} {R : α0 → α1 → α2 → α3 → α4 → α5 → Prop} (x0 : α0) (x1 : α1) (x2 : α2) (x3 : α3) (x4 : α4) (x5 : α5) (h : R x0 x1 x2 x3 x4 x5) : ∃ x0 x1 x2 x3 x4 x5, R x0 x1 x2 x3 x4 x5 := ⟨x0, x1, x2, x3, x4, x5, h⟩
end
-- B0
section
noncomputable abbrev KF (w : World) : Frag := Kh w.params
theorem fill_B0 (P : Params) (h : Heap) : (Kh P).In h → PySem.Challenge.rw_je0024_01.Holds → True := by
  k_fill
  intros; trivial


noncomputable abbrev Hp := Addr → Option Obj
noncomputable abbrev Locs := List (Str × Value)
noncomputable def upd (H : Hp) (a : Addr) (o : Obj) : Hp := fun b => if b = a then some o else H b
noncomputable def lst (H : Hp) (n : Nat) : List (Addr × Obj) := (List.range n).filterMap fun a => (H a).map fun o => (a, o)
theorem mem_lst {H : Hp} {n : Nat} {a : Addr} {o : Obj} : (a, o) ∈ lst H n ↔ a < n ∧ H a = some o := by
  simp only [lst, List.mem_filterMap, List.mem_range, Option.map_eq_some_iff]
  constructor
  · intro zz0
    refine ea_EAEA (zz0) ?_
    try clear zz0
    intro b hb c hc e
    cases e
    exact ⟨hb, hc⟩
  · intro zz0
    obtain ⟨hn, h⟩ := zz0
    exact ⟨a, hn, o, h, rfl⟩

structure Fm where
  w : World
  o : OsState
  hb : Heap
  A : Around
  L : Addr
structure St where
  h : Hp
  g : Array GenState

@[elab_as_elim] theorem StElR {P : St → Prop} {g : Array GenState} (X : St) (e : X.g = g) (h : ∀ H, P ⟨H, g⟩) : P X := by
  cases X; cases e; exact h _
noncomputable def Cov (hb : Heap) (L : Addr) (H : Hp) (h : Heap) : Prop := ∀ a o, H a = some o → h.get? a = some o ∧ a ≠ L ∧ hb.get? a = none
structure Sim (f : Fm) (l : Locs) (X : St) (s : Shared) : Prop where
  fr : ∃ m, Fr f.hb f.L s.heap m ∧ ∀ x v, l.lookup x = some v → m x = some v
  cov : Cov f.hb f.L X.h s.heap
  gens : s.gens = X.g
  os : s.os = f.o

structure Ok (f : Fm) (k : Nat) : Prop where
  hh : f.A.handled = none
  dep : f.A.depth ≤ 310 + 2 * k
  uni : f.A.units ≤ 100 + 20 * k
  K : (KF f.w).In f.hb
  T : ∃ p loose mean mg mb, Top p loose mean mg mb f.hb
  low : k ≤ 300

noncomputable def T {α : Type} (f : Fm) (t : Sem α) (l : Locs) (X : St) (Q : α → Locs → St → Prop) : Prop :=
  ∀ s, Sim f l X s → wpAny (model Pg f.w) f.A t (fun v s' => ∃ l' X', Sim f l' X' s' ∧ Q v l' X') (fun _ _ => False) s

theorem cov_news {hb : Heap} {L : Addr} {H : Hp} {h : Heap} (c : Cov hb L H h) (n : Nat) : News hb L h (lst H n) := fun p hp => c p.1 p.2 (mem_lst.mp hp).2
theorem cov_lt {hb : Heap} {L : Addr} {H : Hp} {h : Heap} (c : Cov hb L H h) {a : Addr} {o : Obj} (e : H a = some o) : a < h.objs.size := Heap.lt_size (c a o e).1
theorem cov_of {hb : Heap} {L : Addr} {H : Hp} {h h' : Heap} (c : Cov hb L H h) (N : News hb L h' (lst H h.objs.size)) : Cov hb L H h' := fun a o e => N (a, o) (mem_lst.mpr ⟨cov_lt c e, e⟩)
theorem cov_cons {hb : Heap} {L : Addr} {H : Hp} {h h' : Heap} {x : Addr} {ox : Obj} (c : Cov hb L H h) (N : News hb L h' ((x, ox) :: lst H h.objs.size)) : Cov hb L (upd H x ox) h' := fun a o e => by
  unfold upd at e
  split at e
  · rename_i q; subst q; cases e; exact N _ (.head _)
  · exact N (a, o) (.tail _ (mem_lst.mpr ⟨cov_lt c e, e⟩))
theorem cov_keep {hb : Heap} {L : Addr} {H : Hp} {h h' : Heap} (c : Cov hb L H h) (k : ∀ a o, h.get? a = some o → a ≠ L → h'.get? a = some o) : Cov hb L H h' :=
  fun a o e => ⟨k a o (c a o e).1 (c a o e).2.1, (c a o e).2⟩
theorem cov_upd {hb : Heap} {L : Addr} {H : Hp} {h : Heap} {d : Addr} {o o' : Obj} {u : Obj → Obj} (c : Cov hb L H h) (hd : H d = some o) (e : u o = o') (hf : o'.isFreed = false) : Cov hb L (upd H d o') (h.update d u) := fun a x q => by
  unfold upd at q
  split at q
  · rename_i r; subst r; cases q; exact ⟨by subst e; exact Heap.get?_update_self _ (c _ _ hd).1 hf, (c _ _ hd).2⟩
  · rename_i r; exact ⟨(Heap.get?_update_ne _ _ _ _ r).trans (c a x q).1, (c a x q).2⟩
theorem fr_upd {hb : Heap} {L : Addr} {H : Hp} {h : Heap} {m : Str → Option Value} {d : Addr} {o : Obj} {u : Obj → Obj} (F : Fr hb L h m) (c : Cov hb L H h) (hd : H d = some o) : Fr hb L (h.update d u) m := by
  refine ea_EEEA (F.ns) ?_
  intro oL es ep hL r
  have D := c d o hd
  refine ⟨⟨oL, es, ep, (Heap.get?_update_ne _ _ _ _ (Ne.symm D.2.1)).trans hL, r⟩, fun b x q => (Heap.get?_update_ne _ _ _ _ fun z => ?_).trans (F.keep b x q), F.above⟩
  have := D.2.2; rw [← z, q] at this; cases this

noncomputable def retOf (fl : Flow) : Value := match fl with | .ret v => v | _ => .none

/-- what is still to be done with a value: continuations with names, so that a walk's terms stay small -/
noncomputable abbrev KNext (Q : Flow → Locs → St → Prop) : Unit → Locs → St → Prop := fun _ => Q .next
noncomputable abbrev KRet (Q : Flow → Locs → St → Prop) : Value → Locs → St → Prop := fun v => Q (.ret v)
noncomputable abbrev KExpr (Q : Flow → Locs → St → Prop) : Value → Locs → St → Prop := fun v l X => v = .none ∧ Q .next l X
noncomputable abbrev KStore (f : Fm) (env : Env) (x : Str) (Q : Flow → Locs → St → Prop) : Value → Locs → St → Prop := fun v l X => T f (storeName env x v) l X (KNext Q)
noncomputable abbrev KAttr2 (f : Fm) (attr : Str) (v : Value) (Q : Flow → Locs → St → Prop) : Value → Locs → St → Prop := fun ov l X => T f (setAttr ov attr v) l X (KNext Q)
noncomputable abbrev KAttr (f : Fm) (env : Env) (o : Expr) (attr : Str) (Q : Flow → Locs → St → Prop) : Value → Locs → St → Prop := fun v l X => T f (eval o env) l X (KAttr2 f attr v Q)
noncomputable abbrev KSub3 (f : Fm) (ov v : Value) (Q : Flow → Locs → St → Prop) : Value → Locs → St → Prop := fun iv l X => T f (setItem ov iv v) l X (KNext Q)
noncomputable abbrev KSub2 (f : Fm) (env : Env) (i : Expr) (v : Value) (Q : Flow → Locs → St → Prop) : Value → Locs → St → Prop := fun ov l X => T f (eval i env) l X (KSub3 f ov v Q)
noncomputable abbrev KSub (f : Fm) (env : Env) (o i : Expr) (Q : Flow → Locs → St → Prop) : Value → Locs → St → Prop := fun v l X => T f (eval o env) l X (KSub2 f env i v Q)
noncomputable abbrev KIf (f : Fm) (env : Env) (body orelse : List Stmt) (Q : Flow → Locs → St → Prop) : Bool → Locs → St → Prop := fun b l X => if b then T f (execs body env) l X Q else T f (execs orelse env) l X Q
noncomputable abbrev KIfE (f : Fm) (env : Env) (body orelse : Expr) (Q : Value → Locs → St → Prop) : Bool → Locs → St → Prop := fun b l X => if b then T f (eval body env) l X Q else T f (eval orelse env) l X Q
noncomputable abbrev KBin2 (f : Fm) (op : Operator) (v : Value) (Q : Value → Locs → St → Prop) : Value → Locs → St → Prop := fun u l X => T f (binaryOp op v u) l X Q
noncomputable abbrev KBin (f : Fm) (env : Env) (b : Expr) (op : Operator) (Q : Value → Locs → St → Prop) : Value → Locs → St → Prop := fun v l X => T f (eval b env) l X (KBin2 f op v Q)
noncomputable abbrev KUn (f : Fm) (op : UnaryOp) (Q : Value → Locs → St → Prop) : Value → Locs → St → Prop := fun v l X => T f (unaryOp op v) l X Q
noncomputable abbrev KCmp2 (f : Fm) (op : CmpOp) (v : Value) (Q : Value → Locs → St → Prop) : Value → Locs → St → Prop := fun u l X => T f (compareOp op v u) l X Q
noncomputable abbrev KCmp (f : Fm) (env : Env) (b : Expr) (op : CmpOp) (Q : Value → Locs → St → Prop) : Value → Locs → St → Prop := fun v l X => T f (eval b env) l X (KCmp2 f op v Q)
noncomputable abbrev KTru (f : Fm) (Q : Bool → Locs → St → Prop) : Value → Locs → St → Prop := fun c l X => T f (truthy c) l X Q
noncomputable abbrev KNot (Q : Bool → Locs → St → Prop) : Bool → Locs → St → Prop := fun b => Q (!b)
noncomputable abbrev KNotV (Q : Value → Locs → St → Prop) : Bool → Locs → St → Prop := fun b => Q (.bool (!b))
noncomputable abbrev KAll (f : Fm) (env : Env) (rest : List Expr) (Q : Bool → Locs → St → Prop) : Bool → Locs → St → Prop := fun b l X => if b then T f (allTrue .And rest env) l X Q else Q false l X
noncomputable abbrev KAny (f : Fm) (env : Env) (rest : List Expr) (Q : Bool → Locs → St → Prop) : Bool → Locs → St → Prop := fun b l X => if b then Q true l X else T f (allTrue .Or rest env) l X Q
noncomputable abbrev KCons (v : Value) (Q : List Value → Locs → St → Prop) : List Value → Locs → St → Prop := fun vs => Q (v :: vs)
noncomputable abbrev KItem (f : Fm) (pos : Pos) (env : Env) (rest : List Expr) (Q : List Value → Locs → St → Prop) : Value → Locs → St → Prop := fun v l X => T f (spliced (backTo pos (starEach rest env))) l X (KCons v Q)
noncomputable abbrev KAnd2 (f : Fm) (env : Env) (v : Value) (y : Expr) (Q : Value → Locs → St → Prop) : Bool → Locs → St → Prop := fun t l X => if t then T f (eval y env) l X Q else Q v l X
noncomputable abbrev KAnd (f : Fm) (env : Env) (y : Expr) (Q : Value → Locs → St → Prop) : Value → Locs → St → Prop := fun v l X => T f (truthy v) l X (KAnd2 f env v y Q)
noncomputable abbrev KOr2 (f : Fm) (env : Env) (v : Value) (y : Expr) (Q : Value → Locs → St → Prop) : Bool → Locs → St → Prop := fun t l X => if t then Q v l X else T f (eval y env) l X Q
noncomputable abbrev KOr (f : Fm) (env : Env) (y : Expr) (Q : Value → Locs → St → Prop) : Value → Locs → St → Prop := fun v l X => T f (truthy v) l X (KOr2 f env v y Q)
noncomputable abbrev KC (f : Fm) (fv : Value) (Q : Value → Locs → St → Prop) : List Value → Locs → St → Prop := fun vs l X => T f (call fv vs) l X Q
noncomputable abbrev KC1 (f : Fm) (fv w : Value) (Q : Value → Locs → St → Prop) : List Value → Locs → St → Prop := fun vs l X => T f (call fv (w :: vs)) l X Q
noncomputable abbrev KCall (f : Fm) (env : Env) (pos : Pos) (args : List Expr) (Q : Value → Locs → St → Prop) : Value → Locs → St → Prop := fun fv l X => T f (callWith pos fv [] (backTo pos (starEach args env)) []) l X Q
noncomputable abbrev KMeth2 (f : Fm) (env : Env) (pos : Pos) (args : List Expr) (Q : Value → Locs → St → Prop) : Value × List Value → Locs → St → Prop := fun fx l X => T f (callWith pos fx.1 fx.2 (backTo pos (starEach args env)) []) l X Q
noncomputable abbrev KMeth (f : Fm) (env : Env) (pos : Pos) (args : List Expr) (name : Str) (pl : Sem Bool) (Q : Value → Locs → St → Prop) : Value → Locs → St → Prop := fun ov l X => T f (getMethod ov name pl) l X (KMeth2 f env pos args Q)
noncomputable abbrev KGet (f : Fm) (attr : Str) (Q : Value → Locs → St → Prop) : Value → Locs → St → Prop := fun o l X => T f (getAttr o attr true) l X Q
noncomputable abbrev KSubs2 (f : Fm) (value slice : Expr) (o : Value) (Q : Value → Locs → St → Prop) : Value → Locs → St → Prop := fun i l X => T f (subscriptTail value slice o i) l X Q
noncomputable abbrev KSubs (f : Fm) (env : Env) (value slice : Expr) (Q : Value → Locs → St → Prop) : Value → Locs → St → Prop := fun o l X => T f (eval slice env) l X (KSubs2 f value slice o Q)
noncomputable abbrev KBody (l : Locs) (Q : Value → Locs → St → Prop) : Flow → Locs → St → Prop := fun fl _ X => Q (retOf fl) l X

section
variable {α β : Type} {f : Fm} {l : Locs} {X : St}
theorem T_mono {t : Sem α} {Q Q' : α → Locs → St → Prop} (h : T f t l X Q) (k : ∀ v l X, Q v l X → Q' v l X) : T f t l X Q' :=
  fun s hs => wpAny_mono (h s hs) (fun _ _ z => z.imp fun _ z => z.imp fun _ z => ⟨z.1, k _ _ _ z.2⟩) fun _ _ e => e
theorem T_bind {t : Sem α} {g : α → Sem β} {Q : β → Locs → St → Prop} (h : T f t l X (fun v l' X' => T f (g v) l' X' Q)) : T f (t >>= g) l X Q :=
  fun s hs => wpAny_bind (wpAny_mono (h s hs) (fun _ s' z => z.elim fun _ z => z.elim fun _ z => z.2 s' z.1) fun _ _ e => e)
theorem T_pure {a : α} {Q : α → Locs → St → Prop} (h : Q a l X) : T f (pure a) l X Q := fun _ hs => wpAny_pure ⟨l, X, hs, h⟩
noncomputable def Sub (l' l : Locs) : Prop := ∀ x v, l'.lookup x = some v → l.lookup x = some v
theorem Sub.refl (l : Locs) : Sub l l := fun _ _ h => h
theorem Sub.nil (l : Locs) : Sub [] l := fun _ _ h => by cases h
theorem Sub.cons {l' l : Locs} {x : Str} {v : Value} (h : l.lookup x = some v) (k : Sub l' l) : Sub ((x, v) :: l') l := fun y u e => by
  rw [List.lookup_cons] at e
  split at e
  · rename_i q; cases e; rw [beq_iff_eq.mp q]; exact h
  · exact k y u e
theorem Sim.sub {l' : Locs} {s : Shared} (h : Sim f l X s) (k : Sub l' l) : Sim f l' X s :=
  ⟨h.fr.imp fun _ z => ⟨z.1, fun x v q => z.2 x v (k x v q)⟩, h.cov, h.gens, h.os⟩
theorem T_sub {t : Sem α} {l' : Locs} {Q : α → Locs → St → Prop} (k : Sub l' l) (h : T f t l' X Q) : T f t l X Q := fun s hs => h s (hs.sub k)
/-- how a rule of the library is taken -/
theorem T_of {t : Sem α} {Q : α → Locs → St → Prop} (h : ∀ s m, Sim f l X s → Fr f.hb f.L s.heap m → (∀ x v, l.lookup x = some v → m x = some v) → wpAny (model Pg f.w) f.A t (fun v s' => ∃ l' X', Sim f l' X' s' ∧ Q v l' X') (fun _ _ => False) s) : T f t l X Q :=
  fun s hs => hs.fr.elim fun m z => h s m hs z.1 z.2
theorem Sim.step {s : Shared} {X' : St} {h' : Heap} {tk : Nat} {m : Str → Option Value} (hs : Sim f l X s) (F : Fr f.hb f.L h' m) (e : ∀ x v, l.lookup x = some v → m x = some v) (c : Cov f.hb f.L X'.h h') (hg : X'.g = X.g) : Sim f l X' { s with heap := h', toks := tk } :=
  ⟨⟨m, F, e⟩, c, hs.gens.trans hg.symm, hs.os⟩
theorem Sim.toks {s : Shared} {tk : Nat} (hs : Sim f l X s) : Sim f l X { s with toks := tk } := ⟨hs.fr, hs.cov, hs.gens, hs.os⟩
end
end
-- B1
section
section
variable {α β : Type} {f : Fm} {l : Locs} {X : St} {env : Env}
theorem T.use {t : Sem α} {Q : α → Locs → St → Prop} {R : α → Shared → Prop} {s : Shared} (h : T f t l X Q) (hs : Sim f l X s) (k : ∀ v l' X' s', Sim f l' X' s' → Q v l' X' → R v s') :
    wpAny (model Pg f.w) f.A t R (fun _ _ => False) s := wpAny_mono (h s hs) (fun v s' z => z.elim fun l' z => z.elim fun X' z => k v l' X' s' z.1 z.2) fun _ _ e => e
theorem T.useE {t : Sem α} {Q : α → Locs → St → Prop} {R : α → Shared → Prop} {E : Value → Shared → Prop} {s : Shared} (h : T f t l X Q) (hs : Sim f l X s) (k : ∀ v l' X' s', Sim f l' X' s' → Q v l' X' → R v s') :
    wpAny (model Pg f.w) f.A t R E s := wpAny_mono (h.use hs k) (fun _ _ z => z) fun _ _ e => e.elim
noncomputable abbrev TF (f : Fm) (l : Locs) (X : St) (t : Sem Flow) (Q : Flow → Locs → St → Prop) := T f t l X Q

theorem T_execs_nil {Q : Flow → Locs → St → Prop} (h : Q .next l X) : T f (execs [] env) l X Q := fun _ hs => wpAny_execs_nil ⟨l, X, hs, h⟩
/-- what stands behind a statement -/
noncomputable def Then (f : Fm) (rest : List Stmt) (env : Env) (Q : Flow → Locs → St → Prop) : Flow → Locs → St → Prop := fun fl l X => match fl with
  | .next => T f (execs rest env) l X Q
  | fl => Q fl l X
theorem T_execs_cons {st : Stmt} {rest : List Stmt} {Q : Flow → Locs → St → Prop} (h : T f (exec st env) l X (Then f rest env Q)) : T f (execs (st :: rest) env) l X Q :=
  fun _ hs => wpAny_execs_cons (h.use hs fun v l' X' s' a b => by
    cases v
    · exact b s' a
    all_goals exact ⟨l', X', a, b⟩)
theorem T_return {e : Expr} {pos : Pos} {Q : Flow → Locs → St → Prop} (h : T f (eval e env) l X (KRet Q)) : T f (exec (.Return (some e) pos) env) l X Q :=
  fun _ hs => wpAny_Return_some (h.use hs fun _ l' X' _ a b => ⟨l', X', a, b⟩)
theorem T_expr {e : Expr} {pos : Pos} {Q : Flow → Locs → St → Prop} (h : T f (eval e env) l X (KExpr Q)) (hi : interactive env = false) (hs : swapsWith e none pos.line env = pure false) : T f (exec (.Expr e pos) env) l X Q :=
  fun _ hs' => wpAny_Expr (h.use hs' fun v l' X' _ a b => by obtain ⟨rfl, b⟩ := b; exact ⟨l', X', a, b⟩) hi hs
theorem T_assign_name {x : Str} {pos' pos : Pos} {value : Expr} {Q : Flow → Locs → St → Prop} (h : T f (eval value env) l X (KStore f env x Q))
    (hs : swapsWith value (some (.Name x pos')) pos.line env = pure false) : T f (exec (.Assign [.Name x pos'] value pos) env) l X Q :=
  fun _ hs' => wpAny_Assign_Name (h.use hs' fun v l' X' s' a b => b s' a) hs
theorem T_assign_attr {o : Expr} {attr : Str} {pos' pos : Pos} {value : Expr} {Q : Flow → Locs → St → Prop} (h : T f (eval value env) l X (KAttr f env o attr Q))
    (hs : swapsWith value (some (.Attribute o attr pos')) pos.line env = pure false) : T f (exec (.Assign [.Attribute o attr pos'] value pos) env) l X Q :=
  fun _ hs' => plainObj_wpAny_Assign_Attribute (h.use hs' fun v l' X' s' a b => b.use a fun v l' X' s' a b => b s' a) hs
theorem T_assign_sub {o i : Expr} {pos' pos : Pos} {value : Expr} {Q : Flow → Locs → St → Prop} (h : T f (eval value env) l X (KSub f env o i Q))
    (hs : swapsWith value (some (.Subscript o i pos')) pos.line env = pure false) : T f (exec (.Assign [.Subscript o i pos'] value pos) env) l X Q :=
  fun _ hs' => wpAny_Assign_Subscript (h.use hs' fun v l' X' s' a b => b.use a fun v l' X' s' a b => b.use a fun v l' X' s' a b => b s' a) hs
theorem T_if {test : Expr} {body orelse : List Stmt} {pos : Pos} {Q : Flow → Locs → St → Prop} (h : T f (isTrue test env (eval test env)) l X (KIf f env body orelse Q)) :
    T f (exec (.If test body orelse pos) env) l X Q :=
  fun _ hs => wpAny_If (h.use hs fun b l' X' s' a h' => by cases b <;> exact h' s' a)
theorem T_name {x : Str} {pos : Pos} {Q : Value → Locs → St → Prop} {v : Value} (hv : l.lookup x = some v) (h : Q v l X) (hk : env.scope.kind = .function) (hx : env.kindOf x = some .local) (hL : env.locals = f.L)
    (hd : (x == ("__debug__" : Str)) = false) : T f (eval (.Name x pos) env) l X Q :=
  T_of fun s m hs F e => wpAny_Name (wpAny_loadName_local hk hx (hL ▸ F.ns) (e _ _ hv) ⟨l, X, hs, h⟩) hd
theorem T_int {i : Int} {k : Nat} {pos : Pos} {Q : Value → Locs → St → Prop} (h : ∀ t, Q (.int i t) l X) : T f (eval (.Constant (.int i) k pos) env) l X Q :=
  fun _ hs => wpAny_Constant_int ⟨l, X, hs.toks, h _⟩
theorem T_str {x : Str} {k : Nat} {pos : Pos} {Q : Value → Locs → St → Prop} (h : ∀ t, Q (.str x t) l X) : T f (eval (.Constant (.str x) k pos) env) l X Q :=
  fun _ hs => wpAny_Constant_str ⟨l, X, hs.toks, h _⟩
theorem T_none {k : Nat} {pos : Pos} {Q : Value → Locs → St → Prop} (h : Q .none l X) : T f (eval (.Constant .none k pos) env) l X Q := fun _ hs => wpAny_Constant_none ⟨l, X, hs, h⟩
theorem T_bool {b : Bool} {k : Nat} {pos : Pos} {Q : Value → Locs → St → Prop} (h : Q (.bool b) l X) : T f (eval (.Constant (.bool b) k pos) env) l X Q := fun _ hs => wpAny_Constant_bool ⟨l, X, hs, h⟩
theorem T_binop {a b : Expr} {op : Operator} {pos : Pos} {Q : Value → Locs → St → Prop} (h : T f (eval a env) l X (KBin f env b op Q)) : T f (eval (.BinOp a op b pos) env) l X Q :=
  fun _ hs => wpAny_BinOp (h.use hs fun v l' X' s' a b => b.use a fun v l' X' s' a b => b s' a)
theorem T_unop {op : UnaryOp} {x : Expr} {pos : Pos} {Q : Value → Locs → St → Prop} (h : T f (eval x env) l X (KUn f op Q)) : T f (eval (.UnaryOp op x pos) env) l X Q :=
  fun _ hs => wpAny_UnaryOp (h.use hs fun v l' X' s' a b => b s' a)
theorem T_ifexp {test body orelse : Expr} {pos : Pos} {Q : Value → Locs → St → Prop} (h : T f (isTrue test env (eval test env)) l X (KIfE f env body orelse Q)) :
    T f (eval (.IfExp test body orelse pos) env) l X Q := fun _ hs => wpAny_IfExp (h.use hs fun b l' X' s' a h' => by cases b <;> exact h' s' a)
theorem T_cmp {a b : Expr} {op : CmpOp} {pos : Pos} {Q : Value → Locs → St → Prop} (h : T f (eval a env) l X (KCmp f env b op Q)) (hm : behindInMarks op b = false) : T f (eval (.Compare a [op] [b] pos) env) l X Q :=
  fun _ hs => wpAny_Compare1 (h.use hs fun v l' X' s' a b => b.use a fun v l' X' s' a b => b s' a) hm
theorem T_truthy_bool {b : Bool} {Q : Bool → Locs → St → Prop} (h : Q b l X) : T f (truthy (.bool b)) l X Q := fun _ hs => wpAny_truthy_bool ⟨l, X, hs, h⟩
theorem T_t_cmp {a b : Expr} {op : CmpOp} {pos : Pos} {whole : Sem Value} {Q : Bool → Locs → St → Prop} (h : T f (eval a env) l X (KCmp f env b op (KTru f Q))) (hm : behindInMarks op b = false) : T f (isTrue (.Compare a [op] [b] pos) env whole) l X Q :=
  fun _ hs => wpAny_isTrue_Compare1 (h.use hs fun v l' X' s' a b => b.use a fun v l' X' s' a b => b.use a fun v l' X' s' a b => b s' a) hm
theorem T_t_not {x : Expr} {pos : Pos} {whole : Sem Value} {Q : Bool → Locs → St → Prop} (h : T f (isTrue x env (eval x env)) l X (KNot Q)) : T f (isTrue (.UnaryOp .Not x pos) env whole) l X Q :=
  fun _ hs => wpAny_isTrue_Not (h.use hs fun b l' X' s' a h' => ⟨l', X', a, h'⟩)
theorem T_t_bool {op : BoolOp} {values : List Expr} {pos : Pos} {whole : Sem Value} {Q : Bool → Locs → St → Prop} (h : T f (allTrue op values env) l X Q) : T f (isTrue (.BoolOp op values pos) env whole) l X Q :=
  fun s hs => wpAny_isTrue_BoolOp (h s hs)
theorem T_t_value {e : Expr} {whole : Sem Value} {Q : Bool → Locs → St → Prop} (h : T f whole l X (KTru f Q)) (he : isTrue e env whole = (do let v ← whole; standAt e.pos; holding [v] (truthy v))) : T f (isTrue e env whole) l X Q :=
  fun _ hs => wpAny_isTrue_value (h.use hs fun v l' X' s' a b => b s' a) he
theorem T_and_nil {Q : Bool → Locs → St → Prop} (h : Q true l X) : T f (allTrue .And [] env) l X Q := fun _ hs => wpAny_allTrue_And_nil ⟨l, X, hs, h⟩
theorem T_or_nil {Q : Bool → Locs → St → Prop} (h : Q false l X) : T f (allTrue .Or [] env) l X Q := fun _ hs => wpAny_allTrue_Or_nil ⟨l, X, hs, h⟩
theorem T_and_cons {x : Expr} {rest : List Expr} {Q : Bool → Locs → St → Prop} (h : T f (isTrue x env (eval x env)) l X (KAll f env rest Q)) : T f (allTrue .And (x :: rest) env) l X Q :=
  fun _ hs => wpAny_allTrue_And_cons (h.use hs fun b l' X' s' a h' => by cases b; exact ⟨l', X', a, h'⟩; exact h' s' a)
theorem T_or_cons {x : Expr} {rest : List Expr} {Q : Bool → Locs → St → Prop} (h : T f (isTrue x env (eval x env)) l X (KAny f env rest Q)) : T f (allTrue .Or (x :: rest) env) l X Q :=
  fun _ hs => wpAny_allTrue_Or_cons (h.use hs fun b l' X' s' a h' => by cases b; exact h' s' a; exact ⟨l', X', a, h'⟩)
theorem T_not {v : Value} {Q : Value → Locs → St → Prop} (h : T f (truthy v) l X (KNotV Q)) : T f (unaryOp .Not v) l X Q :=
  fun _ hs => not_value (h.use hs fun b l' X' s' a h' => ⟨l', X', a, h'⟩)
theorem T_items_nil {pos : Pos} {Q : List Value → Locs → St → Prop} (h : Q [] l X) : T f (spliced (backTo pos (starEach [] env))) l X Q := fun _ hs => wpAny_items_nil ⟨l, X, hs, h⟩
theorem T_items_cons {pos : Pos} {e : Expr} {rest : List Expr} {Q : List Value → Locs → St → Prop} (h : T f (eval e env) l X (KItem f pos env rest Q))
    (he : starEach (e :: rest) env = (false, eval e env) :: starEach rest env) : T f (spliced (backTo pos (starEach (e :: rest) env))) l X Q :=
  fun _ hs => wpAny_items_cons (h.use hs fun v l' X' s' a b => b.use a fun vs l' X' s' a b => ⟨l', X', a, b⟩) he
noncomputable abbrev tupOf (its : Array Value) (n : Nat) : Obj := { cls := .type "tuple", data := .seq its n }
/-- a new object -/
theorem Sim.push {s : Shared} {o : Obj} (hs : Sim f l X s) (hf : o.isFreed = false) (hn : X.h s.heap.objs.size = none) : Sim f l ⟨upd X.h s.heap.objs.size o, X.g⟩ { s with heap := s.heap.push o } := by
  refine ea_EA (hs.fr) ?_
  intro m F e
  exact ⟨⟨m, F.push o, e⟩, cov_cons hs.cov (News.push F (cov_news hs.cov _) o hf), hs.gens, hs.os⟩
theorem Sim.fresh {s : Shared} (hs : Sim f l X s) : X.h s.heap.objs.size = none := by
  cases e : X.h s.heap.objs.size with
  | none => rfl
  | some o => exact absurd (cov_lt hs.cov e) (Nat.lt_irrefl _)
noncomputable abbrev KList (Q : Value → Locs → St → Prop) : List Value → Locs → St → Prop := fun vs l1 X1 => vs.length ≤ sizeLine ∧ ∀ a, X1.h a = none → Q (.ref a) l1 ⟨upd X1.h a (listOf vs.toArray 0), X1.g⟩
noncomputable abbrev KTup (Q : Value → Locs → St → Prop) : List Value → Locs → St → Prop := fun vs l1 X1 => vs.length ≤ sizeLine ∧ ∀ a, X1.h a = none → Q (.ref a) l1 ⟨upd X1.h a (tupOf vs.toArray 0), X1.g⟩
theorem inL {Q : Value → Locs → St → Prop} {vs : List Value} (hz : Nat.ble vs.length 16777216 = true) (h : ∀ a, X.h a = none → Q (.ref a) l ⟨upd X.h a (listOf vs.toArray 0), X.g⟩) : KList Q vs l X := ⟨Nat.le_of_ble_eq_true hz, h⟩
theorem inT {Q : Value → Locs → St → Prop} {vs : List Value} (hz : Nat.ble vs.length 16777216 = true) (h : ∀ a, X.h a = none → Q (.ref a) l ⟨upd X.h a (tupOf vs.toArray 0), X.g⟩) : KTup Q vs l X := ⟨Nat.le_of_ble_eq_true hz, h⟩
theorem lsz {α : Type _} {vs : List α} (hz : Nat.ble vs.length 16777216 = true) : vs.length ≤ sizeLine := Nat.le_of_ble_eq_true hz
theorem T_list {elts : List Expr} {pos : Pos} {Q : Value → Locs → St → Prop} (h : T f (spliced (backTo pos (starEach elts env))) l X (KList Q)) :
    T f (eval (.List elts pos) env) l X Q := fun _ hs => wpAny_List (h.use hs fun vs l' X' s' a b => ⟨b.1, l', _, a.push (o := listOf vs.toArray 0) rfl a.fresh, b.2 _ a.fresh⟩)
theorem T_tuple {elts : List Expr} {k : Nat} {pos : Pos} {Q : Value → Locs → St → Prop} (h : T f (spliced (backTo pos (starEach elts env))) l X (KTup Q)) :
    T f (eval (.Tuple elts k pos) env) l X Q := fun _ hs => wpAny_Tuple (h.use hs fun vs l' X' s' a b => ⟨b.1, l', _, a.push (o := tupOf vs.toArray 0) rfl a.fresh, b.2 _ a.fresh⟩)
theorem T_and2 {x y : Expr} {pos : Pos} {Q : Value → Locs → St → Prop} (h : T f (eval x env) l X (KAnd f env y Q)) : T f (eval (.BoolOp .And [x, y] pos) env) l X Q :=
  fun _ hs => wpAny_And2 (h.use hs fun v l' X' s' a b => b.use a fun t l' X' s' a b => by cases t; exact ⟨l', X', a, b⟩; exact b s' a)
theorem T_or2 {x y : Expr} {pos : Pos} {Q : Value → Locs → St → Prop} (h : T f (eval x env) l X (KOr f env y Q)) : T f (eval (.BoolOp .Or [x, y] pos) env) l X Q :=
  fun _ hs => wpAny_Or2 (h.use hs fun v l' X' s' a b => b.use a fun t l' X' s' a b => by cases t; exact b s' a; exact ⟨l', X', a, b⟩)
theorem T_storeName {x : Str} {v : Value} {Q : Unit → Locs → St → Prop} (h : Q () ((x, v) :: l) X) (hk : env.scope.kind = .function) (hx : env.kindOf x = some .local) (hL : env.locals = f.L) :
    T f (storeName env x v) l X Q := T_of fun s m hs F e => wpAny_storeName_local hx (hL ▸ F.ns) (fun h' hn hs' => ⟨_, X, ⟨⟨_, F.set (hL ▸ hn) (hL ▸ hs'), fun y u q => by
      rw [List.lookup_cons] at q
      split at q
      · rename_i r; cases q; rw [if_pos (beq_iff_eq.mp r)]
      · rename_i r; rw [if_neg (by simpa using r)]; exact e _ _ q⟩, cov_of hs.cov ((cov_news hs.cov _).set (hL ▸ hs')), hs.gens, hs.os⟩, h⟩) (by rw [hk]; rfl)
end
end
-- B2
section
noncomputable def Le (H H' : Hp) : Prop := ∀ a o, H a = some o → H' a = some o
theorem Le.refl (H : Hp) : Le H H := fun _ _ h => h
theorem Le.trans {H H' H'' : Hp} (a : Le H H') (b : Le H' H'') : Le H H'' := fun x o h => b x o (a x o h)
theorem Le.upd {H : Hp} {a : Addr} {o : Obj} (h : H a = none) : Le H (upd H a o) := fun b x e => by
  unfold Mine.upd; split
  · rename_i q; rw [q, h] at e; cases e
  · exact e
@[simp] theorem upd_self (H : Hp) (a : Addr) (o : Obj) : upd H a o a = some o := by simp [upd]
theorem upd_ne {H : Hp} {a b : Addr} {o : Obj} (h : b ≠ a) : upd H a o b = H b := by simp [upd, h]

noncomputable abbrev Fm.sub (f : Fm) (hb : Heap) (A : Around) (L : Addr) : Fm := { f with hb := hb, A := A, L := L }
section
variable {f : Fm} {l : Locs} {X : St}
theorem ground {s : Shared} (hs : Sim f l X s) : ∃ g : Heap, f.hb.StaysIn g ∧ g.objs.size = s.heap.objs.size ∧ (∀ b o, g.get? b = some o → s.heap.get? b = some o) ∧ (∀ a o, X.h a = some o → g.get? a = none) ∧
    (∀ b o, s.heap.get? b = some o → X.h b = none → g.get? b = some o) ∧
    (∀ A' L' l' X' s', Sim (f.sub g A' L') l' X' s' → Sim f l X' s') := by
  refine ea_EA (hs.fr) ?_
  intro m F e
  have N := cov_news hs.cov s.heap.objs.size
  have mem : ∀ a o, X.h a = some o → a ∈ (lst X.h s.heap.objs.size).map (·.1) := fun a o q => List.mem_map.mpr ⟨(a, o), mem_lst.mpr ⟨cov_lt hs.cov q, q⟩, rfl⟩
  have nm : ∀ b o, f.hb.get? b = some o → b ∉ (lst X.h s.heap.objs.size).map (·.1) := fun b o e q => by
    refine ea_EA (List.mem_map.mp q) ?_
    intro p hp zq26
    obtain rfl := zq26
    rw [(N p hp).2.2] at e; cases e
  have st : f.hb.StaysIn (hideAll s.heap ((lst X.h s.heap.objs.size).map (·.1))) := fun b o e => hideAll_get _ (F.keep b o e) (nm b o e)
  refine ea_EEEAAA (F.ns) ?_
  intro oL es ep hL hLd hLk hLf
  have nL : f.L ∉ (lst X.h s.heap.objs.size).map (·.1) := fun q => by
    refine ea_EA (List.mem_map.mp q) ?_
    intro p hp e
    exact (N p hp).2.1 e
  have hLg := hideAll_get _ hL nL
  refine ia_EAAAAA _ st (hideAll_size _ _) (fun b o => of_hideAll _) (fun a o q => hideAll_none _ (mem a o q)) (fun b o q n => hideAll_get _ q fun r => ?_) (fun A' L' l' X' s' h => ?_)
  · refine ea_EA (List.mem_map.mp r) ?_
    intro p hp zq27
    obtain rfl := zq27
    rw [(mem_lst.mp hp).2] at n; cases n
  · refine ea_EA (h.fr) ?_
    intro m' F' _
    refine ⟨⟨m, ⟨⟨oL, es, ep, F'.keep _ _ hLg, hLd, hLk, hLf⟩, fun b o q => F'.keep _ _ (st b o q), F.above⟩, e⟩, fun a o q => ?_, h.gens, h.os⟩
    refine ea_AA (h.cov a o q) ?_
    intro c1 c2 c3
    refine ⟨c1, fun z => ?_, ?_⟩
    · rw [z] at c3; exact absurd (c3.symm.trans hLg) (by simp)
    · cases z : f.hb.get? a with
      | none => rfl
      | some o' => rw [show (f.sub (hideAll s.heap ((lst X.h s.heap.objs.size).map (·.1))) A' L').hb.get? a = some o' from st a o' z] at c3; cases c3

theorem Ok.K_in {k : Nat} (O : Ok f k) {s : Shared} (hs : Sim f l X s) : (Kh f.w.params).In s.heap := by
  obtain ⟨m, F, _⟩ := hs.fr; exact Frag.In.keeps O.K F.keep
theorem Ok.room {k : Nat} (O : Ok f k) : f.A.depth < recursionLimit := by have := O.dep; have := O.low; unfold recursionLimit; lia
theorem Ok.units {k : Nat} (O : Ok f k) : f.A.units < cLine := by have := O.uni; have := O.low; unfold cLine; lia
theorem Ok.sub {k j : Nat} (O : Ok f k) {g : Heap} {A' : Around} {L' : Addr} (st : f.hb.StaysIn g) (h1 : A'.handled = f.A.handled) (h2 : A'.depth ≤ f.A.depth + 2 * j) (h3 : A'.units ≤ f.A.units + 20 * j) (hk : k + j ≤ 300) : Ok (f.sub g A' L') (k + j) where
  hh := h1.trans O.hh
  dep := by have := O.dep; show A'.depth ≤ _; lia
  uni := by have := O.uni; show A'.units ≤ _; lia
  K := Frag.In.keeps O.K st
  T := O.T.imp fun _ z => z.imp fun _ z => z.imp fun _ z => z.imp fun _ z => z.imp fun _ t => t.keeps st
  low := hk
theorem Ok.mono {k j : Nat} (O : Ok f k) (h : k ≤ j) (hj : j ≤ 300) : Ok f j := ⟨O.hh, by have := O.dep; lia, by have := O.uni; lia, O.K, O.T, hj⟩

/-- a code's triple -/
noncomputable def C (f : Fm) (c : Code) (l : Locs) (X : St) (Q : Value → Locs → St → Prop) : Prop :=
  ∀ s, Sim f l X s → codeAny (model Pg f.w) f.A c (fun r s' => match r with | .ok (.ret v) => ∃ l' X', Sim f l' X' s' ∧ Q v l' X' | _ => False) s
theorem T_ofC {fv : Value} {args : List Value} {Q : Value → Locs → St → Prop} (h : C f (.call fv ⟨args, []⟩) l X Q) : T f (call fv args) l X Q := fun s hs =>
  wpAny_call (codeAny_mono (h s hs) fun r s' z => by
    rcases r with e | fl
    · exact z.elim
    · cases fl <;> first | exact z | exact z.elim)
theorem C_call {k : Nat} (O : Ok f k) (hk : k < 300) {name qual : Str} {params : Arguments} {body : List Stmt} {scope : Scope} {dV kV doc pm cdv ct oc : Value} {an od : Option Addr} {osl : Array (Option Value)} {fa : Addr} {args : List Value} {binds : Locs} {Q : Value → Locs → St → Prop}
    (ho : (Kh f.w.params).lookup fa = some ⟨oc, od, .func (fnOf name qual params body scope dV kV doc pm an cdv ct), osl⟩) (hcd : codeIn (Kh f.w.params) cdv qual = true)
    (hbind : ∀ s, (Kh f.w.params).In s.heap → BindsTo s (fnOf name qual params body scope dV kV doc pm an cdv ct) ⟨args, []⟩ binds) (hloc : ∀ y ∈ binds, scope.names.lookup y.1 = some .local)
    (hco : scope.isCoroutine = false) (hgen : scope.isGenerator = false) (hkf : scope.kind = .function) (hcell : ∀ x ∈ scope.names, x.2 ≠ .cell)
    (h : ∀ g A' L', Ok (f.sub g A' L') (k + 1) → T (f.sub g A' L') (execs body (envX qual scope L' fa cdv [])) binds.reverse X (KBody l Q)) :
    C f (.call (.ref fa) ⟨args, []⟩) l X Q := fun s hs => by
  refine ea_EAAAAA (ground hs) ?_
  intro g st gsz gin gnone _ back
  refine ea_EA (hs.fr) ?_
  intro m F e
  have KX := O.K_in hs
  refine ea_EEEEE (O.T) ?_
  intro _ _ _ _ _ T
  refine (codeAny_call_def (fd := fnOf name qual params body scope dV kV doc pm an cdv ct) (body := body) (binds := binds) O.room (KX _ _ ho) rfl (T.nolimit.keeps F.keep) (codeRec_of KX hcd) rfl (hbind s KX) hcell hloc (fun h₁ hns hk₁ => ?_) hco hgen hkf)
  have O' : Ok (f.sub g (f.A.deeper (callEnv (fnOf name qual params body scope dV kV doc pm an cdv ct) s.heap.objs.size fa)) s.heap.objs.size) (k + 1) := O.sub st rfl (by show f.A.depth + 1 ≤ _; lia) (by show f.A.units + 3 ≤ _; lia) hk
  have S' : Sim (f.sub g (f.A.deeper (callEnv (fnOf name qual params body scope dV kV doc pm an cdv ct) s.heap.objs.size fa)) s.heap.objs.size) binds.reverse X { s with heap := h₁, toks := s.toks + binds.length } :=
    ⟨⟨_, ⟨hns, fun b o q => hk₁ b o (gin b o q), Nat.le_of_eq gsz⟩, fun _ _ q => q⟩, fun a o q => ⟨hk₁ a o (hs.cov a o q).1, Nat.ne_of_lt (cov_lt hs.cov q), gnone a o q⟩, hs.gens, hs.os⟩
  exact wpAny_mono (h g _ _ O' _ S') (fun fl s' z => z.elim fun l' z => z.elim fun X' z => ⟨l, X', back _ _ _ _ _ z.1, by cases fl <;> exact z.2⟩) fun _ _ z => z.elim
/-- a function's frame, its address last: what is closed stays shared -/
noncomputable abbrev envY (qual : Str) (scope : Scope) (fa : Addr) (cdv : Value) (L : Addr) : Env := envX qual scope L fa cdv []
noncomputable abbrev envZ (qual : Str) (scope : Scope) (fa : Addr) (cdv : Value) (L : Addr) : Env := envX qual scope L fa cdv (cellsFrom (L + 1) scope.names [])
theorem C_callL {k : Nat} (O : Ok f k) (hk : k < 300) {name qual : Str} {p1 p2 p4 : List Arg} {p3 p6 : Option Arg} {p5 : List (Option PySem.Expr)} {p7 : List PySem.Expr} {st0 : Stmt} {rest0 : List Stmt} {s1 : ScopeKind} {s2 : List (Str × NameKind)} {s3 s4 : Bool} {s5 : List (Str × Const)} {dV kV doc pm cdv ct oc : Value} {an od : Option Addr} {osl : Array (Option Value)} {fa : Addr} {args : List Value} {binds : Locs} {Q : Value → Locs → St → Prop}
    (ho : (Kh f.w.params).lookup fa = some ⟨oc, od, .func (fnOf name qual (Arguments.mk p1 p2 p3 p4 p5 p6 p7) (st0 :: rest0) (Scope.mk s1 s2 s3 s4 s5) dV kV doc pm an cdv ct), osl⟩) (hcd : codeIn (Kh f.w.params) cdv qual = true)
    (hbind : ∀ s, (Kh f.w.params).In s.heap → BindsTo s (fnOf name qual (Arguments.mk p1 p2 p3 p4 p5 p6 p7) (st0 :: rest0) (Scope.mk s1 s2 s3 s4 s5) dV kV doc pm an cdv ct) ⟨args, []⟩ binds) (hloc : ∀ y ∈ binds, (Scope.mk s1 s2 s3 s4 s5).names.lookup y.1 = some .local)
    (hco : (Scope.mk s1 s2 s3 s4 s5).isCoroutine = false) (hgen : (Scope.mk s1 s2 s3 s4 s5).isGenerator = false) (hkf : (Scope.mk s1 s2 s3 s4 s5).kind = .function) (hcell : ∀ x ∈ (Scope.mk s1 s2 s3 s4 s5).names, x.2 ≠ .cell)
    (h : ∀ f', Ok f' (k + 1) → T f' (execs (st0 :: rest0) (envY qual (Scope.mk s1 s2 s3 s4 s5) fa cdv f'.L)) binds.reverse X (KBody l Q)) :
    C f (.call (.ref fa) ⟨args, []⟩) l X Q := C_call O hk ho hcd hbind hloc hco hgen hkf hcell fun _ _ _ O' => h _ O'

theorem T_callC {k : Nat} (O : Ok f k) (hk : k < 300) {name qual : Str} {params : Arguments} {body : List Stmt} {scope : Scope} {dV kV doc pm cdv ct oc : Value} {an od : Option Addr} {osl : Array (Option Value)} {fa : Addr} {args : List Value} {binds l₀ : Locs} {Q : Value → Locs → St → Prop}
    (ho : (Kh f.w.params).lookup fa = some ⟨oc, od, .func (fnOf name qual params body scope dV kV doc pm an cdv ct), osl⟩) (hcd : codeIn (Kh f.w.params) cdv qual = true)
    (hbind : ∀ s, (Kh f.w.params).In s.heap → BindsTo s (fnOf name qual params body scope dV kV doc pm an cdv ct) ⟨args, []⟩ binds)
    (hkind : (binds.all fun y => scope.names.lookup y.1 == some .local || scope.names.lookup y.1 == some .cell) = true)
    (hnd : ((cellsFrom 0 scope.names []).map (·.1)).Nodup)
    (hl : ∀ L' x v, l₀.lookup x = some v → bindL (envX qual scope L' fa cdv (cellsFrom (L' + 1) scope.names [])).kindOf binds (fun _ => none) x = some v)
    (hco : scope.isCoroutine = false) (hgen : scope.isGenerator = false) (hkf : scope.kind = .function)
    (h : ∀ g A' L' H', Ok (f.sub g A' L') (k + 1) → Le X.h H' → (∀ n c, (n, c) ∈ cellsFrom (L' + 1) scope.names [] → X.h c = none ∧ ∃ o, H' c = some o ∧ o.data = .cell (bindC (envX qual scope L' fa cdv (cellsFrom (L' + 1) scope.names [])).kindOf binds (fun _ => none) n)) →
      T (f.sub g A' L') (execs body (envX qual scope L' fa cdv (cellsFrom (L' + 1) scope.names []))) l₀ ⟨H', X.g⟩ (KBody l Q)) :
    T f (call (.ref fa) args) l X Q := fun s hs => by
  refine ea_EAAAAA (ground hs) ?_
  intro g st gsz gin gnone _ back
  refine ea_EA (hs.fr) ?_
  intro m F e
  have KX := O.K_in hs
  refine ea_EEEEE (O.T) ?_
  intro _ _ _ _ _ T
  refine wpAny_call (codeAny_call_function (fd := fnOf name qual params body scope dV kV doc pm an cdv ct) (body := body) O.room (KX _ _ ho) rfl hco hgen rfl (codeRec_of KX hcd) (hbind s KX _ _ _ _ ?_))
  refine wpAny_newFunctionEnv_cells hkf (kindsX hkind _) fun env' he s' x => ?_
  subst he
  refine ⟨(T.nolimit.keeps F.keep).keeps x.toInCall.keep, codeAny_func ?_⟩
  refine ea_EEA (x.done) ?_
  intro h₁ tk zq28 _
  obtain rfl := zq28
  have hk₁ := x.toInCall.keep
  have cell : ∀ n c, (n, c) ∈ cellsFrom (s.heap.objs.size + 1) scope.names [] → h₁.IsCell c (bindC (envX qual scope s.heap.objs.size fa cdv (cellsFrom (s.heap.objs.size + 1) scope.names [])).kindOf binds (fun _ => none) n) ∧ s.heap.objs.size < c :=
    fun n c hm => ⟨x.cell n c (lookup_of_mem_nodup (cellsFrom_names scope.names 0 (s.heap.objs.size + 1) [] [] rfl ▸ hnd) hm), x.above n c hm⟩
  let env' := callEnvC (fnOf name qual params body scope dV kV doc pm an cdv ct) s.heap.objs.size fa
  let H' : Hp := fun a => if a ∈ (cellsFrom (s.heap.objs.size + 1) scope.names []).map (·.2) then h₁.get? a else X.h a
  have above : ∀ a, a ∈ (cellsFrom (s.heap.objs.size + 1) scope.names []).map (·.2) → s.heap.objs.size < a := fun a hm => by
    refine ea_EA (List.mem_map.mp hm) ?_
    intro p hp zq29
    obtain rfl := zq29
    exact (cell p.1 p.2 hp).2
  have le : Le X.h H' := fun a o q => by
    simp only [H']; rw [if_neg fun hm => Nat.lt_asymm (above a hm) (cov_lt hs.cov q)]; exact q
  have O' : Ok (f.sub g (f.A.deeper env') s.heap.objs.size) (k + 1) := O.sub st rfl (by show f.A.depth + 1 ≤ _; omega) (by show f.A.units + 3 ≤ _; omega) hk
  have S' : Sim (f.sub g (f.A.deeper env') s.heap.objs.size) l₀ ⟨H', X.g⟩ { s with heap := h₁, toks := tk } := by
    refine ⟨⟨_, ⟨x.toInCall.ns, fun b o q => hk₁ b o (gin b o q), Nat.le_of_eq gsz⟩, fun y v q => hl _ y v q⟩, fun a o q => ?_, hs.gens, hs.os⟩
    simp only [H'] at q
    split at q
    · rename_i hm
      have := above a hm
      refine ⟨q, Nat.ne_of_gt this, ?_⟩
      cases z : g.get? a with
      | none => rfl
      | some o' => exact absurd (gsz ▸ Heap.lt_size z) (Nat.lt_asymm this)
    · exact ⟨hk₁ a o (hs.cov a o q).1, Nat.ne_of_lt (cov_lt hs.cov q), gnone a o q⟩
  refine wpAny_mono (h g _ _ H' O' le (fun n c hm => ⟨?_, ?_⟩) _ S') (fun fl s' z => z.elim fun l' z => z.elim fun X' z => ⟨l, X', back _ _ _ _ _ z.1, by cases fl <;> exact z.2⟩) fun _ _ z => z.elim
  · cases z : X.h c with
    | none => rfl
    | some o' => exact absurd (cov_lt hs.cov z) (Nat.lt_asymm (cell n c hm).2)
  · refine ea_EA ((cell n c hm).1) ?_
    intro o ho hd
    exact ia_EA o (by simp only [H']; rw [if_pos (List.mem_map.mpr ⟨_, hm, rfl⟩)]; exact ho) hd
theorem T_callCL {k : Nat} (O : Ok f k) (hk : k < 300) {name qual : Str} {p1 p2 p4 : List Arg} {p3 p6 : Option Arg} {p5 : List (Option PySem.Expr)} {p7 : List PySem.Expr} {st0 : Stmt} {rest0 : List Stmt} {s1 : ScopeKind} {s2 : List (Str × NameKind)} {s3 s4 : Bool} {s5 : List (Str × Const)} {dV kV doc pm cdv ct oc : Value} {an od : Option Addr} {osl : Array (Option Value)} {fa : Addr} {args : List Value} {binds l₀ : Locs} {Q : Value → Locs → St → Prop}
    (ho : (Kh f.w.params).lookup fa = some ⟨oc, od, .func (fnOf name qual (Arguments.mk p1 p2 p3 p4 p5 p6 p7) (st0 :: rest0) (Scope.mk s1 s2 s3 s4 s5) dV kV doc pm an cdv ct), osl⟩) (hcd : codeIn (Kh f.w.params) cdv qual = true)
    (hbind : ∀ s, (Kh f.w.params).In s.heap → BindsTo s (fnOf name qual (Arguments.mk p1 p2 p3 p4 p5 p6 p7) (st0 :: rest0) (Scope.mk s1 s2 s3 s4 s5) dV kV doc pm an cdv ct) ⟨args, []⟩ binds)
    (hkind : (binds.all fun y => (Scope.mk s1 s2 s3 s4 s5).names.lookup y.1 == some .local || (Scope.mk s1 s2 s3 s4 s5).names.lookup y.1 == some .cell) = true)
    (hnd : ((cellsFrom 0 (Scope.mk s1 s2 s3 s4 s5).names []).map (·.1)).Nodup)
    (hl : ∀ L' x v, l₀.lookup x = some v → bindL (envX qual (Scope.mk s1 s2 s3 s4 s5) L' fa cdv (cellsFrom (L' + 1) (Scope.mk s1 s2 s3 s4 s5).names [])).kindOf binds (fun _ => none) x = some v)
    (hco : (Scope.mk s1 s2 s3 s4 s5).isCoroutine = false) (hgen : (Scope.mk s1 s2 s3 s4 s5).isGenerator = false) (hkf : (Scope.mk s1 s2 s3 s4 s5).kind = .function)
    (h : ∀ (f' : Fm) H', Ok f' (k + 1) → Le X.h H' → (∀ n c, (n, c) ∈ cellsFrom (f'.L + 1) (Scope.mk s1 s2 s3 s4 s5).names [] → X.h c = none ∧ ∃ o, H' c = some o ∧ o.data = .cell (bindC (envX qual (Scope.mk s1 s2 s3 s4 s5) f'.L fa cdv (cellsFrom (f'.L + 1) (Scope.mk s1 s2 s3 s4 s5).names [])).kindOf binds (fun _ => none) n)) →
      T f' (execs (st0 :: rest0) (envZ qual (Scope.mk s1 s2 s3 s4 s5) fa cdv f'.L)) l₀ ⟨H', X.g⟩ (KBody l Q)) :
    T f (call (.ref fa) args) l X Q := T_callC O hk ho hcd hbind hkind hnd hl hco hgen hkf fun _ _ _ H' O' => h _ H' O'
end
end
-- B3
section
section
variable {f : Fm} {l : Locs} {X : St} {env : Env} {k : Nat}
theorem T_global (O : Ok f k) {x : Str} {pos : Pos} {Q : Value → Locs → St → Prop} {v : Value} (e : nsIn (Kh f.w.params) mainGlobals x = some (some v)) (h : Q v l X)
    (hk : env.scope.kind = .function) (hx : env.kindOf x = some .globalImplicit) (hg : env.globals = mainGlobals) (hd : (x == ("__debug__" : Str)) = false) : T f (eval (.Name x pos) env) l X Q :=
  T_of fun s m hs F _ => by
    refine ea_EEEEE (O.T) ?_
    intro _ _ _ mg _ T
    exact Name_function_global hk hx (loadGlobal_global (by rw [hg]; exact T.g.keeps F.keep) (mg_of O.K T.g e) ⟨l, X, hs, h⟩) hd
theorem T_builtin (O : Ok f k) {x : Str} {pos : Pos} {Q : Value → Locs → St → Prop} {v : Value} (e : nsIn (Kh f.w.params) mainGlobals x = some none) (hv : bootBuiltins x = some v) (h : Q v l X)
    (hn : x ≠ "__name__") (hk : env.scope.kind = .function) (hx : env.kindOf x = some .globalImplicit) (hg : env.globals = mainGlobals) (hb : env.builtins = builtinsNs) (hd : (x == ("__debug__" : Str)) = false) : T f (eval (.Name x pos) env) l X Q :=
  T_of fun s m hs F _ => by
    refine ea_EEEEE (O.T) ?_
    intro _ _ _ mg _ T
    exact Name_function_global hk hx (loadGlobal_builtin (by rw [hg]; exact T.g.keeps F.keep) (mg_none_of O.K T.g e) (by rw [hb]; exact T.b.keeps F.keep) ((T.builtins x hn).trans hv) ⟨l, X, hs, h⟩) hd
theorem T_cell {x : Str} {pos : Pos} {Q : Value → Locs → St → Prop} {v : Value} {c : Addr} {o : Obj} (hc : env.cells.lookup x = some c) (ho : X.h c = some o) (hv : o.data = .cell (some v)) (h : Q v l X)
    (hk : env.scope.kind = .function) (hx : env.kindOf x = some .cell) (hd : (x == ("__debug__" : Str)) = false) : T f (eval (.Name x pos) env) l X Q :=
  fun s hs => wpAny_Name (wpAny_loadName_cell hk hx hc ⟨o, (hs.cov _ _ ho).1, hv⟩ ⟨l, X, hs, h⟩) hd
theorem T_free {x : Str} {pos : Pos} {Q : Value → Locs → St → Prop} {v : Value} {c : Addr} {o : Obj} (hc : env.cells.lookup x = some c) (ho : X.h c = some o) (hv : o.data = .cell (some v)) (h : Q v l X)
    (hk : env.scope.kind = .function) (hx : env.kindOf x = some .free) (hn : (x == ("__classdict__" : Str)) = false) (hd : (x == ("__debug__" : Str)) = false) : T f (eval (.Name x pos) env) l X Q :=
  fun s hs => wpAny_Name (wpAny_loadName_free hk hx hc ⟨o, (hs.cov _ _ ho).1, hv⟩ ⟨l, X, hs, h⟩ hn) hd
/-- an object changed in place -/
theorem Sim.sameBut {s : Shared} {d : Addr} {o o' : Obj} {h' : Heap} {tk : Nat} (hs : Sim f l X s) (hd : X.h d = some o) (sb : Heap.SameBut d s.heap h') (ho : h'.get? d = some o') : Sim f l ⟨upd X.h d o', X.g⟩ { s with heap := h', toks := tk } := by
  refine ea_EA (hs.fr) ?_
  intro m F e
  have D := hs.cov d o hd
  refine ea_EEEA (F.ns) ?_
  intro oL es ep hL r
  refine ⟨⟨m, ⟨⟨oL, es, ep, (sb.2 _ (Ne.symm D.2.1)).trans hL, r⟩, fun b x q => (sb.2 b fun z => ?_).trans (F.keep b x q), F.above⟩, e⟩, fun a x q => ?_, hs.gens, hs.os⟩
  · have := D.2.2; rw [← z, q] at this; cases this
  · dsimp only [upd] at q
    split at q
    · rename_i z; subst z; cases q; exact ⟨ho, D.2⟩
    · rename_i z; exact ⟨(sb.2 a z).trans (hs.cov a x q).1, (hs.cov a x q).2⟩
theorem T_storeCell {x : Str} {v : Value} {Q : Unit → Locs → St → Prop} {c : Addr} {o : Obj} {v₀ : Option Value} (hc : env.cells.lookup x = some c) (ho : X.h c = some o) (hv : o.data = .cell v₀) (h : ∀ o' : Obj, o'.data = .cell (some v) → Q () l ⟨upd X.h c o', X.g⟩)
    (hk : env.scope.kind = .function) (hx : env.kindOf x = some .cell) : T f (storeName env x v) l X Q :=
  fun s hs => wpAny_storeName_cell hk hx hc ⟨o, (hs.cov _ _ ho).1, hv⟩ fun h' hi sb => by
    refine ea_EA (hi) ?_
    try clear hi
    intro o' q r
    exact ⟨l, _, hs.sameBut (tk := s.toks) ho sb q, h o' r⟩
theorem T_Call {func : Expr} {args : List Expr} {pos : Pos} {Q : Value → Locs → St → Prop} (h : T f (eval func env) l X (KCall f env pos args Q))
    (he : eval (.Call func args [] pos) env = (do callWith pos (← eval func env) [] (backTo pos (starEach args env)) (backToKw pos (keywordEach [] env)))) : T f (eval (.Call func args [] pos) env) l X Q :=
  fun _ hs => Call_ (h.use hs fun v l' X' s' a b => b s' a) he
theorem T_Method {o : Expr} {name : Str} {apos pos : Pos} {args : List Expr} {pl : Sem Bool} {Q : Value → Locs → St → Prop} (h : T f (eval o env) l X (KMeth f env pos args name pl Q))
    (he : eval (.Call (.Attribute o name apos) args [] pos) env = (do
      let ov ← eval o env
      standAt apos.atName
      let (f, first) ← holding [ov] (getMethod ov name pl)
      callWith pos f first (backTo pos (starEach args env)) [])) : T f (eval (.Call (.Attribute o name apos) args [] pos) env) l X Q :=
  fun _ hs => MethodCall_ (h.use hs fun v l' X' s' a b => b.use a fun v l' X' s' a b => b s' a) he
theorem callWith_pure {M : Model} {A : Around} {E : Value → Shared → Prop} {s : Shared} {pos : Pos} {fv : Value} {first : List Value} {Q : Value → Shared → Prop} (hm : ∀ a, fv ≠ .ref a) {e : Expr} {rest : List Expr}
    (h : wpAny M A (spliced (backTo pos (starEach (e :: rest) env))) (fun vs s₁ => wpAny M A (call fv (first ++ vs)) Q E s₁) E s)
    (he : starEach (e :: rest) env = (false, eval e env) :: starEach rest env) (hplain : (backTo pos (starEach rest env)).any (·.1) = false) :
    wpAny M A (callWith pos fv first (backTo pos (starEach (e :: rest) env)) []) Q E s := by
  rw [he] at h ⊢
  refine callWith_of (P := fun _ => True) (by show ((false || (backTo pos (starEach rest env)).any (·.1)) || false) = false; rw [hplain]; rfl) (fun h _ => ⟨.machine, .inr (.inl rfl), ?_⟩) (evalArgs_plain (wpAny_mono h (fun vs s₁ h₁ => ⟨trivial, h₁⟩) fun _ _ x => x))
  cases fv <;> first | exact Looks.of_pure rfl | exact absurd rfl (hm _)
theorem callWith_pure0 {M : Model} {A : Around} {E : Value → Shared → Prop} {s : Shared} {pos : Pos} {fv : Value} {first : List Value} {Q : Value → Shared → Prop} (hm : ∀ a, fv ≠ .ref a) 
    (h : wpAny M A (call fv (first ++ [])) Q E s) : wpAny M A (callWith pos fv first (backTo pos (starEach [] env)) []) Q E s := by
  refine callWith_of (P := fun _ => True) rfl (fun h _ => ⟨.machine, .inr (.inl rfl), ?_⟩) (evalArgs_nil3 ⟨trivial, h⟩)
  cases fv <;> first | exact Looks.of_pure rfl | exact absurd rfl (hm _)
/-- the arguments, then the call -/
theorem T_withK (O : Ok f k) {pos : Pos} {a : Addr} {first : List Value} {e : Expr} {rest : List Expr} {Q : Value → Locs → St → Prop} (hk : keepIn (Kh f.w.params) (.ref a) = true)
    (h : T f (spliced (backTo pos (starEach (e :: rest) env))) l X (fun vs l1 X1 => T f (call (.ref a) (first ++ vs)) l1 X1 Q)) (he : starEach (e :: rest) env = (false, eval e env) :: starEach rest env) (hplain : (backTo pos (starEach rest env)).any (·.1) = false) :
    T f (callWith pos (.ref a) first (backTo pos (starEach (e :: rest) env)) []) l X Q := fun s hs => callWith_K (h₀ := f.hb) O.K hk (h.use hs fun vs l' X' s' a b => ⟨O.K_in a, b s' a⟩) he hplain
theorem T_withK0 (O : Ok f k) {pos : Pos} {a : Addr} {first : List Value} {Q : Value → Locs → St → Prop} (hk : keepIn (Kh f.w.params) (.ref a) = true)
    (h : T f (call (.ref a) (first ++ [])) l X Q) : T f (callWith pos (.ref a) first (backTo pos (starEach [] env)) []) l X Q := fun s hs => callWith_K0 (O.K_in hs) hk (h s hs)
theorem T_withB {pos : Pos} {id : String} {first : List Value} {e : Expr} {rest : List Expr} {Q : Value → Locs → St → Prop} 
    (h : T f (spliced (backTo pos (starEach (e :: rest) env))) l X (fun vs l1 X1 => T f (call (.builtin id) (first ++ vs)) l1 X1 Q)) (he : starEach (e :: rest) env = (false, eval e env) :: starEach rest env) (hplain : (backTo pos (starEach rest env)).any (·.1) = false) :
    T f (callWith pos (.builtin id) first (backTo pos (starEach (e :: rest) env)) []) l X Q := fun s hs => callWith_pure (by intro a; exact nofun) (h.use hs fun vs l' X' s' a b => b s' a) he hplain
theorem T_withB0 {pos : Pos} {id : String} {first : List Value} {Q : Value → Locs → St → Prop} (h : T f (call (.builtin id) (first ++ [])) l X Q) : T f (callWith pos (.builtin id) first (backTo pos (starEach [] env)) []) l X Q :=
  fun s hs => callWith_pure0 (by intro a; exact nofun) (h s hs)
theorem T_withT {pos : Pos} {id : String} {first : List Value} {e : Expr} {rest : List Expr} {Q : Value → Locs → St → Prop} 
    (h : T f (spliced (backTo pos (starEach (e :: rest) env))) l X (fun vs l1 X1 => T f (call (.type id) (first ++ vs)) l1 X1 Q)) (he : starEach (e :: rest) env = (false, eval e env) :: starEach rest env) (hplain : (backTo pos (starEach rest env)).any (·.1) = false) :
    T f (callWith pos (.type id) first (backTo pos (starEach (e :: rest) env)) []) l X Q := fun s hs => callWith_pure (by intro a; exact nofun) (h.use hs fun vs l' X' s' a b => b s' a) he hplain

/-- a Tree's own parts -/
noncomputable abbrev fldE (hsh : Int) (t : Tok) (name : Str) (v : Value) : DictEntry := ⟨hsh, .str name t, v⟩
theorem inst_at {s : Shared} (hs : Sim f l X s) {x C dx : Addr} {es : List DictEntry} {n : Nat} (hx : X.h x = some (instObj C dx)) (hd : X.h dx = some (dictOf es n)) : InstAt s.heap x (instObj C dx) C (some (dictOf es n)) :=
  ⟨(hs.cov _ _ hx).1, rfl, rfl, (hs.cov _ _ hd).1⟩
theorem T_attr {value : Expr} {attr : Str} {pos : Pos} {Q : Value → Locs → St → Prop} (h : T f (eval value env) l X (KGet f attr Q))
    (he : eval (.Attribute value attr pos) env = (do
      let o ← eval value env
      standAt pos.atName
      let r ← holding [o] (getAttr o attr true)
      letTemporaryGo value o r
      pure r)) : T f (eval (.Attribute value attr pos) env) l X Q :=
  fun _ hs => Attribute_any_ (h.use hs fun v l' X' s' a b => b s' a) he
theorem T_getOwn (O : Ok f k) {x C dx : Addr} {es : List DictEntry} {n : Nat} {name : Str} {v : Value} {attr : Option Value} {expr : Bool} {Q : Value → Locs → St → Prop} (hx : X.h x = some (instObj C dx)) (hdx : X.h dx = some (dictOf es n))
    (hg : plainGet (Kh f.w.params) C name = true) (hh : hasDictIn (Kh f.w.params) C = true) (ha : findIn (Kh f.w.params) (.ref C) name = some attr) (hn : noGet (Kh f.w.params) attr = true) (hl : getL name es = some (some v)) (hv : handedIn v = true) (h : Q v l X) : T f (getAttr (.ref x) name expr) l X Q :=
  T_of fun s m hs F _ => get_own F O.K (inst_at hs hx hdx) hg hh ha hn hl hv ⟨l, X, hs.toks, h⟩
theorem T_getMethod (O : Ok f k) {x C dx fa : Addr} {es : List DictEntry} {n : Nat} {name : Str} {pl : Sem Bool} {Q : Value × List Value → Locs → St → Prop} (hx : X.h x = some (instObj C dx)) (hdx : X.h dx = some (dictOf es n))
    (hg : plainGet (Kh f.w.params) C name = true) (hf : findIn (Kh f.w.params) (.ref C) name = some (some (.ref fa))) (ht : isFn (Kh f.w.params) (.ref fa) = true) (hl : getL name es = some none) (h : Q (.ref fa, [.ref x]) l X) : T f (getMethod (.ref x) name pl) l X Q :=
  T_of fun s m hs F _ => method_inst F O.K (inst_at hs hx hdx) hg hf ht hl ⟨l, X, hs, h⟩
theorem T_listMethod {D : Addr} {its : Array Value} {n : Nat} {name : Str} {id : String} {pl : Sem Bool} {Q : Value × List Value → Locs → St → Prop} (hD : X.h D = some (listOf its n)) (slot : Slot "list" name id) (hty : typeOf (.builtin id) = pure (.type "method_descriptor"))
    (h : Q (.builtin id, [.ref D]) l X) : T f (getMethod (.ref D) name pl) l X Q :=
  fun s hs => getMethod_builtin ⟨_, (hs.cov _ _ hD).1, rfl⟩ PySem.F.plainAttrs_list slot hty (fun a e => by cases e; exact ⟨_, (hs.cov _ _ hD).1, rfl⟩) ⟨l, X, hs, h⟩
theorem T_strMethod {x : Str} {t : Tok} {name : Str} {id : String} {pl : Sem Bool} {Q : Value × List Value → Locs → St → Prop} (slot : Slot "str" name id) (hty : typeOf (.builtin id) = pure (.type "method_descriptor"))
    (h : Q (.builtin id, [.str x t]) l X) : T f (getMethod (.str x t) name pl) l X Q :=
  fun s hs => getMethod_builtin (typeIs_str _ _ _) PySem.F.plainAttrs_str slot hty (fun a e => nomatch e) ⟨l, X, hs, h⟩

theorem upd_lst {H : Hp} {d : Addr} {o o' : Obj} (hd : H d = some o) : ∀ (ns : List Nat), ns.Nodup → d ∈ ns → Upd d o o' (ns.filterMap fun a => (H a).map fun x => (a, x)) (ns.filterMap fun a => (upd H d o' a).map fun x => (a, x))
  | a :: r, nd, hm => by
    have off : ∀ r : List Nat, d ∉ r → (r.filterMap fun a => (upd H d o' a).map fun x => (a, x)) = r.filterMap fun a => (H a).map fun x => (a, x) := fun r hr => by
      induction r with
      | nil => rfl
      | cons b r ih =>
        have e1 : upd H d o' b = H b := upd_ne fun e => hr (e ▸ List.mem_cons_self)
        have e2 := ih fun m => hr (List.mem_cons_of_mem _ m)
        simp only [List.filterMap_cons, e1, e2]
    rw [List.nodup_cons] at nd
    by_cases q : a = d
    · subst q
      rw [List.filterMap_cons_some (b := (a, o)) (by rw [hd]; rfl), List.filterMap_cons_some (b := (a, o')) (by rw [upd_self]; rfl), off r nd.1]
      refine .head fun p hp => ?_
      refine ea_EA (List.mem_filterMap.mp hp) ?_
      intro b hb e
      refine ea_EA (Option.map_eq_some_iff.mp e) ?_
      intro y _ zq48
      obtain rfl := zq48
      exact fun z => nd.1 (z ▸ hb)
    · have ih := upd_lst (o' := o') hd r nd.2 ((List.mem_cons.mp hm).resolve_left (Ne.symm q))
      cases ha : H a with
      | none => rw [List.filterMap_cons_none (by rw [ha]; rfl), List.filterMap_cons_none (by rw [upd_ne q, ha]; rfl)]; exact ih
      | some y => rw [List.filterMap_cons_some (b := (a, y)) (by rw [ha]; rfl), List.filterMap_cons_some (b := (a, y)) (by rw [upd_ne q, ha]; rfl)]; exact .tail q ih
theorem Upd_lst {H : Hp} {d n : Nat} {o o' : Obj} (hd : H d = some o) (hn : d < n) : Upd d o o' (lst H n) (lst (upd H d o') n) := upd_lst hd _ List.nodup_range (List.mem_range.mpr hn)
theorem cov_of' {hb : Heap} {L : Addr} {H' : Hp} {n : Nat} {h' : Heap} (N : News hb L h' (lst H' n)) (k : ∀ a o, H' a = some o → a < n) : Cov hb L H' h' := fun a o e => N (a, o) (mem_lst.mpr ⟨k a o e, e⟩)

theorem T_setAttr (O : Ok f k) {x C dx : Addr} {es es' : List DictEntry} {n n' : Nat} {name : Str} {v : Value} {Q : Unit → Locs → St → Prop} (hx : X.h x = some (instObj C dx)) (hdx : X.h dx = some (dictOf es n))
    (hs : findIn (Kh f.w.params) (.ref C) "__setattr__" = some (some (.builtin "object.__setattr__"))) (hp : plainOver (Kh f.w.params) C = true) (ht : takerIn (Kh f.w.params) C name = some none) (hh : hasDictIn (Kh f.w.params) C = true) (hl : (getL name es).isSome = true) (hz : es.length ≤ 900)
    (h : ∀ hsh t, Q () l ⟨upd X.h dx (dictOf (putL name hsh (.str name t) v es) (putN name es n)), X.g⟩) : T f (setAttr (.ref x) name v) l X Q :=
  T_of fun s m hS F e => by
    refine set_dict (m := m) (news := lst X.h s.heap.objs.size) F O.K (cov_news hS.cov _) (inst_at hS hx hdx) rfl hs hp ht hh hl rfl (Upd_lst hdx (cov_lt hS.cov hdx)) ?_ fun h' F' N' => ⟨l, ⟨upd X.h dx (dictOf (putL name (PyData.keyHash f.w.params name) (.str name (s.toks + 1)) v es) (putN name es n)), X.g⟩, hS.step F' e (cov_of' N' fun a o q => ?_) rfl, h _ _⟩
    · have : ∀ (es : List DictEntry) (hsh : Int) (key : Value), (putL name hsh key v es).length ≤ es.length + 1 := by
        intro es hsh key
        induction es with
        | nil => exact Nat.le_refl _
        | cons y r ih => unfold putL; split <;> simp only [List.length_cons] <;> lia
      exact Nat.le_trans (this _ _ _) (by exact bk8 (by assumption) rfl)
    · dsimp only [upd] at q
      split at q
      · rename_i z; subst z; exact cov_lt hS.cov hdx
      · exact cov_lt hS.cov q

theorem T_new (O : Ok f k) (hk : k < 300) {Ca fI : Addr} {pos : List Value} {Q : Value → Locs → St → Prop} (hm : makesIn (Kh f.w.params) Ca = true) (hi : findIn (Kh f.w.params) (.ref Ca) "__init__" = some (some (.ref fI))) (hf : isFn (Kh f.w.params) (.ref fI) = true)
    (hu : (Code.builtin "type.__call__" ⟨.ref Ca :: pos, []⟩).weight ≤ 2) (hu2 : (Code.builtin "type.__call__" ⟨.ref Ca :: pos, []⟩).cUnits ≤ 20) (hc : (Code.builtin "type.__call__" ⟨.ref Ca :: pos, []⟩).envs = [])
    (h : ∀ A' x dx, Ok (f.sub f.hb A' f.L) (k + 1) → X.h x = none → X.h dx = none → x ≠ dx → C (f.sub f.hb A' f.L) (.call (.ref fI) ⟨.ref x :: pos, []⟩) l ⟨upd (upd X.h dx (dictOf [] 0)) x (instObj Ca dx), X.g⟩ (fun v l' X' => v = .none ∧ Q (.ref x) l' X')) :
    T f (call (.ref Ca) pos) l X Q := T_of fun s m hs F e => by
  refine call_cls F O.K (cov_news hs.cov s.heap.objs.size) hm hi hf fun x dx h' F' N' l1 l2 => ?_
  have O' : Ok (f.sub f.hb (f.A.under (.builtin "type.__call__" ⟨.ref Ca :: pos, []⟩)) f.L) (k + 1) := O.sub (fun _ _ e => e) rfl (by show f.A.depth + _ ≤ _; lia) (by show f.A.units + _ ≤ _; lia) hk
  have nx : X.h x = none := by
    cases q : X.h x with
    | none => rfl
    | some o => exact absurd (l1 (x, o) (mem_lst.mpr ⟨cov_lt hs.cov q, q⟩)) (Nat.lt_asymm l2)
  have nd : X.h dx = none := by
    cases q : X.h dx with
    | none => rfl
    | some o => exact absurd (l1 (dx, o) (mem_lst.mpr ⟨cov_lt hs.cov q, q⟩)) (Nat.lt_irrefl _)
  have S' : Sim (f.sub f.hb (f.A.under (.builtin "type.__call__" ⟨.ref Ca :: pos, []⟩)) f.L) l ⟨upd (upd X.h dx (dictOf [] 0)) x (instObj Ca dx), X.g⟩ { s with heap := h' } := by
    refine ⟨⟨m, F', e⟩, fun a o q => ?_, hs.gens, hs.os⟩
    dsimp only [upd] at q
    split at q
    · rename_i z; subst z; cases q; exact N' _ (.head _)
    · split at q
      · rename_i z; subst z; cases q; exact N' _ (.tail _ (.head _))
      · exact N' (a, o) (.tail _ (.tail _ (mem_lst.mpr ⟨cov_lt hs.cov q, q⟩)))
  refine codeAny_mono (h _ x dx O' nx nd (Ne.symm (Nat.ne_of_lt l2)) _ S') fun r s' z => ?_
  rcases r with er | fl
  · exact z.elim
  · cases fl <;> first | exact z.elim | skip
    refine ea_EEAA (z) ?_
    try clear z
    intro l' X' S zq49 q
    obtain rfl := zq49
    exact ⟨rfl, l', X', ⟨S.fr, S.cov, S.gens, S.os⟩, q⟩
end
end
-- B4
section
section
variable {f : Fm} {l : Locs} {X : St} {env : Env} {k : Nat} {a b : Int} {t u : Tok}
theorem T_add {Q : Value → Locs → St → Prop} (h : ∀ t', Q (.int (a + b) t') l X) : T f (binaryOp .Add (.int a t) (.int b u)) l X Q := fun s hs => add_int ⟨l, X, hs.toks, h _⟩
theorem T_minus {Q : Value → Locs → St → Prop} (h : ∀ t', Q (.int (a - b) t') l X) : T f (binaryOp .Sub (.int a t) (.int b u)) l X Q := fun s hs => sub_int ⟨l, X, hs.toks, h _⟩
theorem T_mul {Q : Value → Locs → St → Prop} (hm : IntMulOk a b) (h : ∀ t', Q (.int (a * b) t') l X) : T f (binaryOp .Mult (.int a t) (.int b u)) l X Q := fun s hs => mul_int ⟨l, X, hs.toks, h _⟩ hm
theorem T_mod {Q : Value → Locs → St → Prop} (hb : b ≠ 0) (h : ∀ t', Q (.int (a.fmod b) t') l X) : T f (binaryOp .Mod (.int a t) (.int b u)) l X Q := fun s hs => mod_int hb ⟨l, X, hs.toks, h _⟩
theorem T_fdiv {Q : Value → Locs → St → Prop} (hb : b ≠ 0) (hp : Builtin.divisionGoesByPylong a b = false) (h : ∀ t', Q (.int (a.fdiv b) t') l X) : T f (binaryOp .FloorDiv (.int a t) (.int b u)) l X Q := fun s hs => floordiv_int hb ⟨l, X, hs.toks, h _⟩ (.inl hp)
theorem T_lt {Q : Value → Locs → St → Prop} (h : Q (.bool (decide (a < b))) l X) : T f (compareOp .Lt (.int a t) (.int b u)) l X Q := fun s hs => lt_int ⟨l, X, hs, h⟩
theorem T_gt {Q : Value → Locs → St → Prop} (h : Q (.bool (decide (b < a))) l X) : T f (compareOp .Gt (.int a t) (.int b u)) l X Q := fun s hs => gt_int ⟨l, X, hs, h⟩
theorem T_ge {Q : Value → Locs → St → Prop} (h : Q (.bool (decide (b ≤ a))) l X) : T f (compareOp .GtE (.int a t) (.int b u)) l X Q := fun s hs => ge_int ⟨l, X, hs, h⟩
theorem T_eq {Q : Value → Locs → St → Prop} (h : Q (.bool (a == b)) l X) : T f (compareOp .Eq (.int a t) (.int b u)) l X Q := fun s hs => eq_int ⟨l, X, hs, h⟩
theorem T_ne {Q : Value → Locs → St → Prop} (h : Q (.bool (a != b)) l X) : T f (compareOp .NotEq (.int a t) (.int b u)) l X Q := fun s hs => ne_int ⟨l, X, hs, h⟩
theorem T_neg {Q : Value → Locs → St → Prop} (h : ∀ t', Q (.int (-a) t') l X) : T f (unaryOp .USub (.int a t)) l X Q := fun s hs => neg_int ⟨l, X, hs.toks, h _⟩
theorem T_isNone {v : Value} {Q : Value → Locs → St → Prop} (h : Q (.bool (v == .none)) l X) : T f (compareOp .Is v .none) l X Q := fun s hs => is_none ⟨l, X, hs, h⟩
theorem T_cat {x y : Str} {Q : Value → Locs → St → Prop} (hz : x.length + y.length ≤ sizeLine) (h : ∀ t', Q (.str (x ++ y) t') l X) : T f (binaryOp .Add (.str x t) (.str y u)) l X Q := fun s hs => PyProof.Rows.add_str (fun t' tk => ⟨l, X, hs.toks, h _⟩) hz
theorem T_eqStr {x y : Str} {Q : Value → Locs → St → Prop} (h : Q (.bool (x == y)) l X) : T f (compareOp .Eq (.str x t) (.str y u)) l X Q := fun s hs => PyProof.Rows.eq_str ⟨l, X, hs, h⟩
theorem T_neStr {x y : Str} {Q : Value → Locs → St → Prop} (h : Q (.bool (x != y)) l X) : T f (compareOp .NotEq (.str x t) (.str y u)) l X Q := fun s hs => PyProof.Rows.ne_str ⟨l, X, hs, h⟩
theorem T_find {x y : Str} {Q : Value → Locs → St → Prop} (h : ∀ t', Q (.int (Txt.find x y) t') l X) : T f (call (.builtin "str.find") [.str x t, .str y u]) l X Q := fun s hs => SC.find ⟨l, X, hs.toks, h _⟩
theorem isList_at {s : Shared} (hs : Sim f l X s) {D : Addr} {its : Array Value} {n : Nat} (hD : X.h D = some (listOf its n)) : s.heap.IsList D its := ⟨_, (hs.cov _ _ hD).1, rfl, n, rfl⟩
theorem isTup_at {s : Shared} (hs : Sim f l X s) {D : Addr} {its : Array Value} {n : Nat} (hD : X.h D = some (tupOf its n)) : IsTup s.heap D its := ⟨_, (hs.cov _ _ hD).1, rfl, n, rfl⟩
theorem T_join {x : Str} {D : Addr} {n : Nat} {ls : List (Str × Tok)} {Q : Value → Locs → St → Prop} (hD : X.h D = some (listOf (strValues ls).toArray n)) (hj : JoinOk x (ls.map (·.1)) = true) (h : ∀ t', Q (.str (Txt.join x (ls.map (·.1))) t') l X) :
    T f (call (.builtin "str.join") [.str x t, .ref D]) l X Q := fun s hs => SC.join (isList_at hs hD) rfl hj fun t' k => ⟨l, X, hs.toks, h _⟩
/-- an object whose place is changed by an update -/
theorem Sim.update {s : Shared} {d : Addr} {o o' : Obj} {fn : Obj → Obj} {tk : Nat} (hs : Sim f l X s) (hd : X.h d = some o) (e : fn o = o') (hf : o'.isFreed = false) : Sim f l ⟨upd X.h d o', X.g⟩ { s with heap := s.heap.update d fn, toks := tk } := by
  refine ea_EA (hs.fr) ?_
  intro m F q
  exact ⟨⟨m, fr_upd F hs.cov hd, q⟩, cov_upd hs.cov hd e hf, hs.gens, hs.os⟩
theorem T_append {D : Addr} {vs : List Value} {n : Nat} {x : Value} {Q : Value → Locs → St → Prop} (hD : X.h D = some (listOf vs.toArray n)) (hz : vs.length ≤ sizeLine) (h : ∀ n', Q .none l ⟨upd X.h D (listOf (vs ++ [x]).toArray n'), X.g⟩) :
    T f (call (.builtin "list.append") [.ref D, x]) l X Q := fun s hs => append_at (hs.cov _ _ hD).1 (fun h' sb ho => ⟨l, _, hs.sameBut (tk := s.toks) hD sb ho, by rw [List.push_toArray]; exact h _⟩) (by simpa using hz)
theorem mapSeq_listOf (g : Array Value → Array Value) (its : Array Value) (n : Nat) : Obj.mapSeq g (listOf its n) = listOf (g its) (if (g its).size == its.size then n else n + 1) := rfl
theorem T_pop {D : Addr} {vs : List Value} {n : Nat} {y : Value} {Q : Value → Locs → St → Prop} (hD : X.h D = some (listOf (vs ++ [y]).toArray n)) (hz : vs.length < sizeLine) (h : ∀ n', Q y l ⟨upd X.h D (listOf vs.toArray n'), X.g⟩) :
    T f (call (.builtin "list.pop") [.ref D]) l X Q := fun s hs => by
  have hy : (vs ++ [y]).toArray[(vs ++ [y]).toArray.size - 1]? = some y := by simp
  have hz' : (vs ++ [y]).toArray.size ≤ sizeLine := by simp; exact bk1 (by assumption) rfl
  refine call_meets PySem.F.slot_list_pop ⟨_, (hs.cov _ _ hD).1, rfl⟩ PySem.F.entry_list_pop (PySem.F.args_list_pop_1 _) (MeetsSeq.list_pop_last D _ n y hy hz') ⟨(hs.cov _ _ hD).1, ⟨l, _, hs.update (tk := s.toks) hD (mapSeq_listOf _ _ _) rfl, ?_⟩⟩
  have e : ((vs ++ [y]).toArray.eraseIdxIfInBounds ((vs ++ [y]).toArray.size - 1)) = vs.toArray := by
    simp [List.eraseIdx_append_of_length_le]
  rw [e]
  exact h _
theorem T_pop0 {D : Addr} {vs : List Value} {n : Nat} {y : Value} {Q : Value → Locs → St → Prop} (hD : X.h D = some (listOf (y :: vs).toArray n)) (hz : vs.length < sizeLine) (h : ∀ n', Q y l ⟨upd X.h D (listOf vs.toArray n'), X.g⟩) :
    T f (call (.builtin "list.pop") [.ref D, .int 0 t]) l X Q := fun s hs => by
  have hk : seqIndex? 0 (y :: vs).toArray.size = some 0 := by simp [seqIndex?]
  have hz' : (y :: vs).toArray.size ≤ sizeLine := by simp; exact bk1 (by assumption) rfl
  refine call_meets PySem.F.slot_list_pop ⟨_, (hs.cov _ _ hD).1, rfl⟩ PySem.F.entry_list_pop (PySem.F.args_list_pop_2 _ _) (MeetsSeq.list_pop_at D _ n 0 t 0 y (by decide) hk rfl hz') ⟨(hs.cov _ _ hD).1, ⟨l, _, hs.update (tk := s.toks) hD (mapSeq_listOf _ _ _) rfl, ?_⟩⟩
  have e : ((y :: vs).toArray.eraseIdxIfInBounds 0) = vs.toArray := by simp
  rw [e]
  exact h _
theorem T_extend {D b : Addr} {vs ws : List Value} {n n2 : Nat} {Q : Value → Locs → St → Prop} (hD : X.h D = some (listOf vs.toArray n)) (hb : X.h b = some (listOf ws.toArray n2)) (hz : vs.length + ws.length ≤ sizeLine) (h : ∀ n', Q .none l ⟨upd X.h D (listOf (vs ++ ws).toArray n'), X.g⟩) :
    T f (call (.builtin "list.extend") [.ref D, .ref b]) l X Q := fun s hs => by
  have hz' : vs.toArray.size + ws.toArray.size ≤ sizeLine := by simpa using hz
  refine call_meets PySem.F.slot_list_extend ⟨_, (hs.cov _ _ hD).1, rfl⟩ PySem.F.entry_list_extend (PySem.F.args_list_extend_2 _ _) (AutoSeq1.list_extend_list_list_0 D _ n b _ n2 (extend_door hz') (Nat.le_trans (Nat.le_add_right _ _) hz')) ⟨(hs.cov _ _ hD).1, (hs.cov _ _ hb).1, ⟨l, _, hs.update hD (mapSeq_listOf _ _ _) rfl, ?_⟩⟩
  have e : vs.toArray ++ ws.toArray = (vs ++ ws).toArray := by simp
  rw [e]
  exact h _
theorem T_listAdd {D b : Addr} {vs ws : List Value} {n n2 : Nat} {Q : Value → Locs → St → Prop} (hD : X.h D = some (listOf vs.toArray n)) (hb : X.h b = some (listOf ws.toArray n2)) (hz : vs.length + ws.length ≤ sizeLine) (h : ∀ a, X.h a = none → Q (.ref a) l ⟨upd X.h a (listOf (vs ++ ws).toArray 0), X.g⟩) :
    T f (binaryOp .Add (.ref D) (.ref b)) l X Q := fun s hs => by
  have hz' : vs.toArray.size + ws.toArray.size ≤ sizeLine := by simpa using hz
  refine concat_meets (T := "list") ⟨_, (hs.cov _ _ hD).1, rfl⟩ ⟨_, (hs.cov _ _ hb).1, rfl⟩ noFill_list_add seq_list_add PySem.F.slot_list_add PySem.F.entry_list_add (PySem.F.args_list_add_2 _ _) (AutoSeq1.list___add___list_list_0 D _ n b _ n2 hz') ⟨(hs.cov _ _ hD).1, (hs.cov _ _ hb).1, ?_⟩
  have e : vs.toArray ++ ws.toArray = (vs ++ ws).toArray := by simp
  rw [e]
  exact ⟨l, _, (hs.push (o := listOf (vs ++ ws).toArray 0) rfl hs.fresh), h _ hs.fresh⟩
theorem T_setItem {D : Addr} {vs : List Value} {n : Nat} {i : Int} {v : Value} {Q : Unit → Locs → St → Prop} (hD : X.h D = some (listOf vs.toArray n)) (h0 : 0 ≤ i) (h1 : i < vs.length) (hz : vs.length ≤ sizeLine) (h : ∀ n', Q () l ⟨upd X.h D (listOf (vs.set i.toNat v).toArray n'), X.g⟩) :
    T f (setItem (.ref D) (.int i t) v) l X Q := fun s hs => by
  refine ki_setAt (hs.cov _ _ hD).1 h0 (by rw [sizeLine_eq] at hz; lia) (by simpa using h1) ⟨l, _, hs.update (tk := s.toks) hD (mapSeq_listOf _ _ _) rfl, ?_⟩
  have e : vs.toArray.setIfInBounds i.toNat v = (vs.set i.toNat v).toArray := by simp
  rw [e]
  exact h _
theorem T_getItem {D : Addr} {vs : List Value} {n : Nat} {i : Int} {v : Value} {value slice : Expr} {Q : Value → Locs → St → Prop} (hD : X.h D = some (listOf vs.toArray n)) (h0 : 0 ≤ i) (h1 : i < 2 ^ 63) (hv : vs[i.toNat]? = some v) (h : Q v l X)
    (hsl : subscripted slice false (.ref D) (.int i t) = operate [.ref D, .int i t] (getItem (.ref D) (.int i t))) : T f (subscriptTail value slice (.ref D) (.int i t)) l X Q :=
  fun s hs => tail_any (isList_at hs hD).typeIs slot_list_getitem.lookup (wpAny_getItem_list (isList_at hs hD) h0 h1 (by simpa using hv) ⟨l, X, hs, h⟩) hsl
theorem seqIx {i : Int} {n : Nat} (h0 : 0 ≤ i) (h1 : i < n) : seqIndex? i n = some i.toNat := by unfold seqIndex?; simp; lia
theorem T_getTup {D : Addr} {vs : List Value} {n : Nat} {i : Int} {v : Value} {value slice : Expr} {Q : Value → Locs → St → Prop} (hD : X.h D = some (tupOf vs.toArray n)) (h0 : 0 ≤ i) (h1 : i < vs.length) (hz : vs.length < 1000) (hv : vs[i.toNat]? = some v) (h : Q v l X)
    (hsl : subscripted slice false (.ref D) (.int i t) = operate [.ref D, .int i t] (getItem (.ref D) (.int i t))) : T f (subscriptTail value slice (.ref D) (.int i t)) l X Q :=
  fun s hs => item_tupleT (isTup_at hs hD) (by lia) (by lia) (j := i.toNat) (seqIx h0 (by simpa using h1)) hv ⟨l, X, hs, h⟩ hsl
theorem T_subscript {value slice : Expr} {pos : Pos} {Q : Value → Locs → St → Prop} (h : T f (eval value env) l X (KSubs f env value slice Q)) : T f (eval (.Subscript value slice pos) env) l X Q :=
  fun s hs => Subscript_ (h.use hs fun v l' X' s' a b => b.use a fun v l' X' s' a b => b s' a)
theorem T_len {D : Addr} {vs : List Value} {n : Nat} {Q : Value → Locs → St → Prop} (hD : X.h D = some (listOf vs.toArray n)) (hz : vs.length ≤ sizeLine) (h : ∀ t', Q (.int vs.length t') l X) : T f (call (.builtin "len") [.ref D]) l X Q :=
  fun s hs => len_list (isList_at hs hD) (by rw [sizeLine_eq] at hz; simp; lia) ⟨l, X, hs.toks, by simpa using h _⟩
theorem T_truthy_list {D : Addr} {vs : List Value} {n : Nat} {Q : Bool → Locs → St → Prop} (hD : X.h D = some (listOf vs.toArray n)) (hz : vs.length ≤ sizeLine) (h : Q (!vs.isEmpty) l X) : T f (truthy (.ref D)) l X Q :=
  fun s hs => wpAny_truthy_list (isList_at hs hD) (by rw [sizeLine_eq] at hz; simp; omega) ⟨l, X, hs.toks, by simpa using h⟩
end
end
-- B5
section
noncomputable def del (H : Hp) (a : Addr) : Hp := fun b => if b = a then none else H b
@[simp] theorem del_self (H : Hp) (a : Addr) : del H a a = none := by simp [del]
theorem del_ne {H : Hp} {a b : Addr} (h : b ≠ a) : del H a b = H b := by simp [del, h]
theorem del_upd {H : Hp} {a : Addr} {o : Obj} (h : H a = none) : del (upd H a o) a = H := by
  funext b; unfold del upd; split
  · rename_i q; rw [q, h]
  · rfl
theorem del_some {H : Hp} {a b : Addr} {o : Obj} (h : del H a b = some o) : b ≠ a ∧ H b = some o := by
  unfold del at h; split at h
  · cases h
  · rename_i q; exact ⟨q, h⟩
section
variable {f : Fm} {l : Locs} {X : St} {env : Env} {k : Nat}
theorem Sim.del {s : Shared} (hs : Sim f l X s) (a : Addr) : Sim f l ⟨del X.h a, X.g⟩ s := ⟨hs.fr, fun b o e => hs.cov b o (del_some e).2, hs.gens, hs.os⟩
/-- an object outside the state that has turned is taken in -/
theorem Sim.take {s : Shared} {it : Addr} {o : Obj} {h' : Heap} {tk : Nat} (hs : Sim f l X s) (hn : X.h it = none) (hL : it ≠ f.L) (hb : f.hb.get? it = none) (sb : Heap.SameBut it s.heap h') (ho : h'.get? it = some o) : Sim f l ⟨upd X.h it o, X.g⟩ { s with heap := h', toks := tk } := by
  refine ea_EA (hs.fr) ?_
  intro m F e
  refine ea_EEEA (F.ns) ?_
  intro oL es ep hL' r
  refine ⟨⟨m, ⟨⟨oL, es, ep, (sb.2 _ (Ne.symm hL)).trans hL', r⟩, fun b x q => (sb.2 b fun z => ?_).trans (F.keep b x q), F.above⟩, e⟩, fun a x q => ?_, hs.gens, hs.os⟩
  · rw [z, hb] at q; cases q
  · dsimp only [upd] at q
    split at q
    · rename_i z; subst z; cases q; exact ⟨ho, hL, hb⟩
    · rename_i z; exact ⟨(sb.2 a z).trans (hs.cov a x q).1, (hs.cov a x q).2⟩
/-- .. or is let go -/
theorem Sim.lost {s : Shared} {it : Addr} {h' : Heap} {tk : Nat} (hs : Sim f l X s) (hn : X.h it = none) (hL : it ≠ f.L) (hb : f.hb.get? it = none) (eb : Heap.ExtBut it s.heap h') : Sim f l X { s with heap := h', toks := tk } := by
  refine ea_EA (hs.fr) ?_
  intro m F e
  refine ea_EEEA (F.ns) ?_
  intro oL es ep hL' r
  refine ⟨⟨m, ⟨⟨oL, es, ep, eb _ _ (Ne.symm hL) hL', r⟩, fun b x q => eb b _ (fun z => ?_) (F.keep b x q), F.above⟩, e⟩, fun a x q => ⟨eb a _ (fun z => ?_) (hs.cov a x q).1, (hs.cov a x q).2⟩, hs.gens, hs.os⟩
  · rw [z, hb] at q; cases q
  · rw [z, hn] at q; cases q
theorem Sim.grow {s : Shared} (hs : Sim f l X s) (o : Obj) : Sim f l X { s with heap := s.heap.push o } := by
  refine ea_EA (hs.fr) ?_
  intro m F e
  exact ⟨⟨m, F.push o, e⟩, fun a x q => ⟨Heap.get?_push_of_some _ (hs.cov a x q).1, (hs.cov a x q).2⟩, hs.gens, hs.os⟩
theorem Sim.newAddr {s : Shared} (hs : Sim f l X s) : X.h s.heap.objs.size = none ∧ s.heap.objs.size ≠ f.L ∧ f.hb.get? s.heap.objs.size = none := by
  refine ea_EA (hs.fr) ?_
  intro m F e
  refine ⟨hs.fresh, Ne.symm (Nat.ne_of_lt F.ns.lt), ?_⟩
  cases q : f.hb.get? s.heap.objs.size with
  | none => rfl
  | some o => exact absurd (Heap.lt_size (F.keep _ _ q)) (Nat.lt_irrefl _)

theorem T_while {test : Expr} {body : List Stmt} {pos : Pos} {Q : Flow → Locs → St → Prop} {ι : Type} (loc : ι → Locs) (I : ι → St → Prop) (μ : ι → Nat)
    (turn : ∀ i X, I i X → T f (isTrue test env (eval test env)) (loc i) X (fun b l1 X1 => if b then T f (execs body env) l1 X1 (fun fl l2 X2 => match fl with
      | .next | .cont => ∃ j, μ j < μ i ∧ I j X2 ∧ Sub (loc j) l2
      | .brk => Q .next l2 X2
      | .ret v => Q (.ret v) l2 X2) else Q .next l1 X1))
    (i : ι) (hi : I i X) (hl : Sub (loc i) l) : T f (exec (.While test body [] pos) env) l X Q := fun s hs => by
  refine wpAny_While (codeAny_whileLoop (fun n s' => ∃ i X', μ i = n ∧ I i X' ∧ Sim f (loc i) X' s') ?_ (μ i) ⟨i, X, rfl, hi, hs.sub hl⟩)
  intro n s' zz2
  refine ea_EEAA (zz2) ?_
  try clear zz2
  intro i X' zq53 hi' hs'
  obtain rfl := zq53
  refine (turn i X' hi').useE hs' fun b l1 X1 s₂ h1 q => ?_
  induction b using BoolEl with
  | true =>
    simp only [if_true] at q ⊢
    refine T.useE q h1 fun fl l2 X2 s₃ h2 r => ?_
    cases fl with
    | next => obtain ⟨j, hj, hI, sb⟩ := r; exact ⟨_, hj, j, X2, rfl, hI, h2.sub sb⟩
    | cont => obtain ⟨j, hj, hI, sb⟩ := r; exact ⟨_, hj, j, X2, rfl, hI, h2.sub sb⟩
    | brk => exact ⟨l2, X2, h2, r⟩
    | ret v => exact ⟨l2, X2, h2, r⟩
  | false =>
    simp only [Bool.false_eq_true, if_false] at q ⊢
    exact wpAny_execs_nil ⟨l1, X1, h1, q⟩

/-- what is left of a for, its source at hand -/
noncomputable def TFor (f : Fm) (env : Env) (x : Str) (px : Pos) (body : List Stmt) (xv : Value) (l : Locs) (X : St) (Q : Flow → Locs → St → Prop) : Prop :=
  ∀ s, Sim f l X s → wpAny (model Pg f.w) f.A (pyIter xv) (fun it s₂ => codeAny (model Pg f.w) f.A (.forLoop (.Name x px) it body [] env) (fun r s' => match r with | .ok fl => ∃ l' X', Sim f l' X' s' ∧ Q fl l' X' | .error e => cameBackBy (model Pg f.w) f.A env (fun _ _ => False) e s') s₂) (fun _ _ => False) s
noncomputable abbrev KFor (f : Fm) (env : Env) (x : Str) (px : Pos) (body : List Stmt) (Q : Flow → Locs → St → Prop) : Value → Locs → St → Prop := fun v l1 X1 => TFor f env x px body v l1 X1 Q
theorem T_for {x : Str} {px pos : Pos} {iter : Expr} {body : List Stmt} {Q : Flow → Locs → St → Prop} (h : T f (eval iter env) l X (KFor f env x px body Q)) (hs : ∀ x, foldedSetIterable iter env x = pure x) :
    T f (exec (.For (.Name x px) iter body [] pos) env) l X Q := fun s hs' => wpAny_For (h.use hs' fun v l' X' s' a b => b s' a) hs

theorem TFor_list (O : Ok f k) {x : Str} {px : Pos} {body : List Stmt} {a : Addr} {vs : List Value} {n : Nat} {Q : Flow → Locs → St → Prop} (I : Nat → Locs → St → Prop)
    (ha : ∀ i l X, I i l X → ∃ n, X.h a = some (listOf vs.toArray n)) (h0 : I 0 l X)
    (turn : ∀ i v l2 X2 it o, vs[i]? = some v → I i l2 X2 → X2.h it = none → T f (storeName env x v) l2 ⟨upd X2.h it o, X2.g⟩ (fun _ l4 X4 => T f (execs body env) l4 X4 (fun fl l3 X3 => X3.h it = some o ∧ match fl with
      | .next | .cont => I (i + 1) l3 ⟨del X3.h it, X3.g⟩
      | .brk => Q .next l3 ⟨del X3.h it, X3.g⟩
      | .ret v => Q (.ret v) l3 ⟨del X3.h it, X3.g⟩)))
    (done : ∀ l2 X2, I vs.length l2 X2 → Q .next l2 X2) : TFor f env x px body (.ref a) l X Q := fun s hs => by
  obtain ⟨n0, ha0⟩ := ha 0 l X h0
  refine wpAny_pyIter_list (isList_at hs ha0) ?_
  refine ea_AA (hs.newAddr) ?_
  intro n1 n2 n3
  have hs1 := hs.grow { cls := .type "list_iterator", data := .fields #[.ref a, .int 0 0] }
  have hit : (s.heap.push { cls := .type "list_iterator", data := .fields #[.ref a, .int 0 0] }).IsListIter s.heap.objs.size a 0 := ⟨_, Heap.get?_push_size _ rfl, rfl, rfl⟩
  revert n1; revert n2; revert n3; revert hit
  refine gen_x (s.heap.objs.size) ?_
  intro it hit n3 n2 n1
  refine codeAny_forLoop (fun m s' => ∃ i l2 X2, Sim f l2 X2 s' ∧ I i l2 X2 ∧ X2.h it = none ∧ s'.heap.IsListIter it a i ∧ i ≤ vs.length ∧ m = vs.length + 1 - i) ?_ (vs.length + 1) ⟨0, l, X, hs1, h0, n1, hit, Nat.zero_le _, rfl⟩
  intro m s' zz2
  refine ea_EEEAAAAA (zz2) ?_
  try clear zz2
  intro i l2 X2 S hI hn hit' hle zq54
  obtain rfl := zq54
  obtain ⟨n', ha'⟩ := ha i l2 X2 hI
  cases hv : vs[i]? with
  | none =>
    have hi : i = vs.length := Nat.le_antisymm hle (by simpa using hv)
    refine wpAny_pyNext_list_end O.hh hit' (isList_at S ha') (by simpa using hv) fun h' eb => wpAny_execs_nil ⟨l2, X2, S.lost hn n2 n3 eb, done _ _ (hi ▸ hI)⟩
  | some v =>
    have hlt : i < vs.length := (List.getElem?_eq_some_iff.mp hv).1
    refine wpAny_pyNext_list_item hit' (isList_at S ha') (x := v) (by simpa using hv) fun h' hit2 sb => ?_
    refine ea_EAA (id hit2) ?_
    intro o ho hc hd
    refine wpAny_assign_Name ((turn i v l2 X2 it o hv hI hn).useE (S.take (tk := s'.toks) hn n2 n3 sb ho) fun _ l4 X4 s'' S4 h4 => ?_)
    refine T.useE h4 S4 fun fl l3 X3 s₃ S3 zr => ?_
    have ho3 := zr.1
    have r := zr.2
    clear zr
    have hit3 : s₃.heap.IsListIter it a (i + 1) := ⟨o, (S3.cov _ _ ho3).1, hc, hd⟩
    cases fl with
    | next => exact ⟨_, by omega, i + 1, l3, _, S3.del it, r, del_self _ _, hit3, hlt, rfl⟩
    | cont => exact ⟨_, by omega, i + 1, l3, _, S3.del it, r, del_self _ _, hit3, hlt, rfl⟩
    | brk => exact ⟨l3, _, S3.del it, r⟩
    | ret v => exact ⟨l3, _, S3.del it, r⟩

noncomputable abbrev rangeOf (a b c : Int) (t u v : Tok) : Obj := { cls := .type "range", dict := none, data := .fields #[.int a t, .int b u, .int c v], slots := #[] }
theorem TFor_range (O : Ok f k) {x : Str} {px : Pos} {body : List Stmt} {r : Addr} {a c : Int} {N : Nat} {b : Int} {t u v : Tok} {Q : Flow → Locs → St → Prop} (I : Nat → Locs → St → Prop)
    (hr : X.h r = some (rangeOf a b c t u v)) (hsmall : Builtin.Range.small a b c = true) (hsz : Builtin.Range.rangeSize a b c = (N : Int)) (h0 : I 0 l X)
    (turn : ∀ i t l2 X2 it o, i < N → I i l2 X2 → X2.h it = none → T f (storeName env x (.int (a + i * c) t)) l2 ⟨upd X2.h it o, X2.g⟩ (fun _ l4 X4 => T f (execs body env) l4 X4 (fun fl l3 X3 => X3.h it = some o ∧ match fl with
      | .next | .cont => I (i + 1) l3 ⟨del X3.h it, X3.g⟩
      | .brk => Q .next l3 ⟨del X3.h it, X3.g⟩
      | .ret v => Q (.ret v) l3 ⟨del X3.h it, X3.g⟩)))
    (done : ∀ l2 X2, I N l2 X2 → Q .next l2 X2) : TFor f env x px body (.ref r) l X Q := fun s hs => by
  refine wpAny_pyIter_range (hs.cov _ _ hr).1 hsmall ?_
  refine ea_AA (hs.newAddr) ?_
  intro n1 n2 n3
  rw [hsz]
  have hs1 := hs.grow { cls := .type "range_iterator", data := .fields #[rawInt a, rawInt N, rawInt c] }
  have hit : IsRangeIter (s.heap.push { cls := .type "range_iterator", data := .fields #[rawInt a, rawInt N, rawInt c] }) s.heap.objs.size (a + (0 : Nat) * c) ((N : Int) - (0 : Nat)) c := by
    simpa using Heap.get?_push_size _ rfl
  revert n1; revert n2; revert n3; revert hit
  refine gen_x (s.heap.objs.size) ?_
  intro it hit n3 n2 n1
  refine codeAny_forLoop (fun m s' => ∃ i l2 X2, Sim f l2 X2 s' ∧ I i l2 X2 ∧ X2.h it = none ∧ IsRangeIter s'.heap it (a + (i : Nat) * c) ((N : Int) - (i : Nat)) c ∧ i ≤ N ∧ m = N + 1 - i) ?_ (N + 1) ⟨0, l, X, hs1, h0, n1, hit, Nat.zero_le _, rfl⟩
  intro m s' zz2
  refine ea_EEEAAAAA (zz2) ?_
  try clear zz2
  intro i l2 X2 S hI hn hit' hle zq55
  obtain rfl := zq55
  by_cases hlt : i < N
  · refine wpAny_pyNext_range_item hit' (by lia) fun h' hit2 sb => ?_
    refine wpAny_assign_Name ((turn i _ l2 X2 it _ hlt hI hn).useE (S.take (tk := s'.toks + 1) hn n2 n3 sb hit2) fun _ l4 X4 s'' S4 h4 => ?_)
    refine T.useE h4 S4 fun fl l3 X3 s₃ S3 zr => ?_
    have ho3 := zr.1
    have r := zr.2
    clear zr
    have hit3 : IsRangeIter s₃.heap it (a + ((i + 1 : Nat) : Int) * c) ((N : Int) - ((i + 1 : Nat) : Int)) c := by
      have e1 : a + ((i + 1 : Nat) : Int) * c = a + (i : Int) * c + c := by push_cast; rw [Int.add_mul, Int.one_mul, Int.add_assoc]
      have e2 : (N : Int) - ((i + 1 : Nat) : Int) = (N : Int) - (i : Int) - 1 := by push_cast; lia
      rw [e1, e2]; exact (S3.cov _ _ ho3).1
    cases fl with
    | next => exact ⟨_, by omega, i + 1, l3, _, S3.del it, r, del_self _ _, hit3, hlt, rfl⟩
    | cont => exact ⟨_, by omega, i + 1, l3, _, S3.del it, r, del_self _ _, hit3, hlt, rfl⟩
    | brk => exact ⟨l3, _, S3.del it, r⟩
    | ret v => exact ⟨l3, _, S3.del it, r⟩
  · have hi : i = N := by lia
    exact wpAny_pyNext_range_end O.hh hit' (by lia) fun h' eb => wpAny_execs_nil ⟨l2, X2, S.lost hn n2 n3 eb, done _ _ (hi ▸ hI)⟩
end
end
-- B6
section
noncomputable def cutAt (h : Heap) (c : Nat) : Heap := ⟨(h.objs.toList.take c).toArray, h.life⟩
theorem cutAt_size (h : Heap) (c : Nat) : (cutAt h c).objs.size ≤ c := by simp [cutAt]; lia
theorem cutAt_get {h : Heap} {c : Nat} {b : Addr} {o : Obj} (e : (cutAt h c).get? b = some o) : h.get? b = some o ∧ b < c := by
  have hb : b < (cutAt h c).objs.size := Heap.lt_size e
  have hc : b < c := Nat.lt_of_lt_of_le hb (cutAt_size h c)
  refine ⟨?_, hc⟩
  have : (cutAt h c).objs[b]? = h.objs[b]? := by simp [cutAt, List.getElem?_take, hc]
  unfold Heap.get? at e ⊢
  rw [← this]; exact e
theorem cutAt_of {h : Heap} {c : Nat} {b : Addr} {o : Obj} (e : h.get? b = some o) (hc : b < c) : (cutAt h c).get? b = some o := by
  have : (cutAt h c).objs[b]? = h.objs[b]? := by simp [cutAt, List.getElem?_take, hc]
  unfold Heap.get? at e ⊢
  rw [this]; exact e
section
variable {f : Fm} {l : Locs} {X : St} {env : Env} {k : Nat}
theorem ground2 {s : Shared} {c : Nat} (hs : Sim f l X s) (hc : f.L < c) : ∃ g : Heap, f.hb.StaysIn g ∧ g.objs.size ≤ c ∧ (∀ b o, g.get? b = some o → s.heap.get? b = some o) ∧ (∀ a o, X.h a = some o → g.get? a = none) ∧
    (∀ b o, b < c → s.heap.get? b = some o → X.h b = none → g.get? b = some o) ∧
    (∀ A' L' l' X' s', Sim (f.sub g A' L') l' X' s' → Sim f l X' s') := by
  refine ea_EAAAAA (ground hs) ?_
  intro g st gsz gin gnone gall back
  refine ea_EA (hs.fr) ?_
  intro m F e
  refine ea_EEEA (F.ns) ?_
  intro oL es ep hL hLr
  have hLX : X.h f.L = none := by
    cases q : X.h f.L with
    | none => rfl
    | some o => exact absurd rfl (hs.cov _ _ q).2.1
  have hLg := cutAt_of (gall _ _ hL hLX) hc
  have st' : f.hb.StaysIn (cutAt g c) := fun b o q => cutAt_of (st b o q) (Nat.lt_of_lt_of_le (Heap.lt_size q) (Nat.le_trans F.above (Nat.le_of_lt hc)))
  refine ia_EAAAAA (cutAt g c) st' (cutAt_size _ _) (fun b o q => gin b o (cutAt_get q).1) (fun a o q => ?_) (fun b o hb q n => cutAt_of (gall b o q n) hb) (fun A' L' l' X' s' h => ?_)
  · cases z : (cutAt g c).get? a with
    | none => rfl
    | some o' => exact absurd (cutAt_get z).1 (by rw [gnone a o q]; simp)
  · refine ea_EA (h.fr) ?_
    intro m' F' _
    refine ⟨⟨m, ⟨⟨oL, es, ep, F'.keep _ _ hLg, hLr⟩, fun b o q => F'.keep _ _ (st' b o q), F.above⟩, e⟩, fun a o q => ?_, h.gens, h.os⟩
    refine ea_AA (h.cov a o q) ?_
    intro c1 c2 c3
    refine ⟨c1, fun z => ?_, ?_⟩
    · rw [z] at c3; exact absurd (c3.symm.trans hLg) (by simp)
    · cases z : f.hb.get? a with
      | none => rfl
      | some o' => rw [show (f.sub (cutAt g c) A' L').hb.get? a = some o' from st' a o' z] at c3; cases c3

/-- an iterator that stands outside the state -/
structure It (f : Fm) (I : Addr) (n : Nat) (P : Nat → Value → Prop) (S : Nat → Heap → Prop) (H : St → Prop) : Prop where
  item : ∀ i s X l Q, i < n → S i s.heap → Sim f l X s → H X → (∀ v h' tk, P i v → S (i + 1) h' → Heap.SameBut I s.heap h' → Q (some v) { s with heap := h', toks := tk }) → wpAny (model Pg f.w) f.A (pyNext (.ref I)) Q (fun _ _ => False) s
  done : ∀ s X l Q, S n s.heap → Sim f l X s → H X → (∀ h' tk, Heap.ExtBut I s.heap h' → Q none { s with heap := h', toks := tk }) → wpAny (model Pg f.w) f.A (pyNext (.ref I)) Q (fun _ _ => False) s
  ex : ∀ i h, S i h → ∃ o, h.get? I = some o
  keep : ∀ i h h', S i h → (∀ o, h.get? I = some o → h'.get? I = some o) → S i h'
  self : ∀ i s Q, S i s.heap → Q (.ref I) s → wpAny (model Pg f.w) f.A (pyIter (.ref I)) Q (fun _ _ => False) s
theorem It.list (O : Ok f k) (I a : Addr) (vs : List Value) : It f I vs.length (fun i v => vs[i]? = some v) (fun i h => h.IsListIter I a i) (fun X => ∃ n, X.h a = some (listOf vs.toArray n)) where
  item := fun i s X l Q hi hS hs hH h => by
    obtain ⟨n, ha⟩ := hH
    exact wpAny_pyNext_list_item hS (isList_at hs ha) (x := vs[i]) (by simp [hi]) fun h' hit sb => h _ h' s.toks (by simp [hi]) hit sb
  done := fun s X l Q hS hs hH h => by
    obtain ⟨n, ha⟩ := hH
    exact wpAny_pyNext_list_end O.hh hS (isList_at hs ha) (by simp) fun h' eb => h h' s.toks eb
  ex := fun i h hS => hS.imp fun _ z => z.1
  keep := fun i h h' hS hk => hS.imp fun o z => ⟨hk o z.1, z.2⟩
  self := fun i s Q hS h => wpAny_pyIter_listiter hS h
theorem It.range (O : Ok f k) (I : Addr) (a c : Int) (N : Nat) : It f I N (fun i v => ∃ t, v = .int (a + i * c) t) (fun i h => IsRangeIter h I (a + (i : Nat) * c) ((N : Int) - (i : Nat)) c) (fun _ => True) where
  item := fun i s X l Q hi hS hs _ h => by
    refine wpAny_pyNext_range_item hS (by lia) fun h' hit sb => h _ h' _ ⟨_, rfl⟩ ?_ sb
    have e1 : a + ((i + 1 : Nat) : Int) * c = a + (i : Int) * c + c := by push_cast; rw [Int.add_mul, Int.one_mul, Int.add_assoc]
    have e2 : (N : Int) - ((i + 1 : Nat) : Int) = (N : Int) - (i : Int) - 1 := by push_cast; lia
    rw [e1, e2]; exact hit
  done := fun s X l Q hS hs _ h => wpAny_pyNext_range_end O.hh hS (by lia) fun h' eb => h h' s.toks eb
  ex := fun i h hS => ⟨_, hS⟩
  keep := fun i h h' hS hk => hk _ hS
  self := fun i s Q hS h => wpAny_pyIter_rangeiter hS h

/-- the tests of a comprehension -/
noncomputable def tests (ifs : List Expr) (env : Env) : Sem Bool := forIn ifs true fun c r => if r = true then do let ok ← isTrue c env (eval c env); pure (ForInStep.yield ok) else pure (ForInStep.yield r)
theorem T_tests_nil {Q : Bool → Locs → St → Prop} (h : Q true l X) : T f (tests [] env) l X Q := fun s hs => by
  unfold tests; rw [List.forIn_nil]; exact wpAny_pure ⟨l, X, hs, h⟩
theorem T_tests_one {c : Expr} {Q : Bool → Locs → St → Prop} (h : T f (isTrue c env (eval c env)) l X Q) : T f (tests [c] env) l X Q := fun s hs => by
  unfold tests; rw [List.forIn_cons]
  show wpAny _ _ ((do let ok ← isTrue c env (eval c env); pure (ForInStep.yield ok)) >>= _) _ _ s
  refine wpAny_bind (wpAny_bind (wpAny_mono (h s hs) (fun b s' q => wpAny_pure ?_) fun _ _ e => e))
  show wpAny _ _ (forIn [] b _) _ _ s'
  rw [List.forIn_nil]; exact wpAny_pure q

set_option maxHeartbeats 4000000 in
theorem comp_core (O : Ok f k) {elt iter : Expr} {x : Str} {px : Pos} {ifs : List Expr} {scope : Scope} {cl : List (Str × Addr)} {pos : Pos} {I : Addr} {N : Nat} {P : Nat → Value → Prop} {S : Nat → Heap → Prop} {H : St → Prop} {RR : Value → Addr → Result → Shared → Prop}
    (W : It f I N P S H) (hcell : ∀ y ∈ scope.names, y.2 ≠ .cell) (hkind : scope.kind = .function) (hx : scope.names.lookup x = some .local) (hN : N ≤ sizeLine)
    (J : Nat → List Value → St → Prop) (hJH : ∀ i ys X, J i ys X → H X ∧ ys.length ≤ i) (h0 : J 0 [] X) {s₂ : Shared} (hs : Sim f l X s₂) (hS : S 0 s₂.heap) (hI : I < s₂.heap.objs.size) (nI : X.h I = none) (nL : I ≠ f.L) (nb : f.hb.get? I = none)
    (turn : ∀ hb' C i v ys X', Ok (f.sub hb' f.A C) k → i < N → P i v → J i ys X' → T (f.sub hb' f.A C) (tests ifs (compEnvC scope cl C env)) [(x, v)] X' (fun ok l1 X1 => if ok = true then T (f.sub hb' f.A C) (eval elt (compEnvC scope cl C env)) l1 X1 (fun y _ X2 => J (i + 1) (ys ++ [y]) X2) else J (i + 1) ys X1))
    (fin : ∀ D C s' X' ys n m, Sim f l X' s' → X'.h D = none → X'.h C = none → D ≠ C → D ≠ f.L → C ≠ f.L → f.hb.get? D = none → f.hb.get? C = none → s'.heap.get? D = some (listOf ys.toArray n) → s'.heap.Ns C m → J N ys X' → RR (.ref D) C (.ok .next) s') :
    wpAny (model Pg f.w) f.A (newList []) (fun acc s₃ => wpAny (model Pg f.w) f.A (newFunctionEnv scope env.globals cl [] env.qual none .none (some env)) (fun cenv s₄ =>
      codeAny (model Pg f.w) f.A (.compStart (.ListComp elt [⟨.Name x px, iter, ifs, 0⟩] scope pos) 0 (.ref I) acc { cenv with scope := relabel scope env }) (RR acc cenv.locals) s₄) (fun _ _ => False) s₃) (fun _ _ => False) s₂ := by
  refine wpAny_newObj_type (wpAny_newFunctionEnv hcell (by intro y hy; simp at hy) (fun h₁ hns₁ hsb₁ => ?_) hkind)
  dsimp only at hns₁ hsb₁ ⊢
  refine ea_AA (hs.newAddr) ?_
  intro d1 d2 d3
  have hs2 := hs.grow { cls := .type "list", dict := none, data := .seq ([] : List Value).toArray }
  have hDI : I ≠ s₂.heap.objs.size := Nat.ne_of_lt hI
  have hD0 : (s₂.heap.push { cls := .type "list", dict := none, data := .seq ([] : List Value).toArray }).get? s₂.heap.objs.size = some (listOf ([] : List Value).toArray 0) := Heap.get?_push_size _ rfl
  have old2 : ∀ b o, s₂.heap.get? b = some o → (s₂.heap.push { cls := .type "list", dict := none, data := .seq ([] : List Value).toArray }).get? b = some o := fun b o e => Heap.get?_push_of_some _ e
  have hC : (s₂.heap.push { cls := .type "list", dict := none, data := .seq ([] : List Value).toArray }).objs.size = s₂.heap.objs.size + 1 := Heap.size_push ..
  have fL : f.L < s₂.heap.objs.size := by obtain ⟨m, F, _⟩ := hs.fr; exact F.ns.lt
  revert hns₁; revert hsb₁; revert hs2; revert hD0; revert old2; revert hC
  refine gen_x (s₂.heap.push { cls := .type "list", dict := none, data := .seq ([] : List Value).toArray }) ?_
  intro H2 hC old2 hD0 hs2 hsb₁ hns₁
  refine ea_AA (hs2.newAddr) ?_
  intro c1 c2 c3
  dsimp only at c1 c2 c3
  have hDC : s₂.heap.objs.size ≠ H2.objs.size := by rw [hC]; exact Nat.ne_of_lt (Nat.lt_succ_self _)
  have hIC : I ≠ H2.objs.size := by rw [hC]; exact Nat.ne_of_lt (Nat.lt_succ_of_lt hI)
  have eb1 : Heap.ExtBut H2.objs.size H2 h₁ := fun b o hb e => hsb₁.extBut b o hb (Heap.get?_push_of_some _ e)
  have hs3 : Sim f l X { s₂ with heap := h₁, toks := s₂.toks + ([] : List (Str × Value)).length } := (hs2.lost (tk := s₂.toks + 0) c1 c2 c3 eb1)
  have hS3 : S 0 h₁ := W.keep _ _ _ hS fun o e => eb1 _ _ hIC (old2 _ _ e)
  have hD3 : h₁.get? s₂.heap.objs.size = some (listOf ([] : List Value).toArray 0) := eb1 _ _ hDC hD0
  have hCL : s₂.heap.objs.size < H2.objs.size := by rw [hC]; exact Nat.lt_succ_self _
  have hIC' : I < H2.objs.size := by rw [hC]; exact Nat.lt_succ_of_lt hI
  have fLC : f.L < H2.objs.size := Nat.lt_trans fL hCL
  revert d1; revert d2; revert d3; revert hDI; revert hDC; revert hD3; revert hCL
  refine gen_e (s₂.heap.objs.size) ?_
  intro D hDe hCL hD3 hDC hDI d3 d2 d1
  revert c1; revert c2; revert c3; revert hns₁; revert hDC; revert hIC; revert hCL; revert hIC'; revert fLC
  refine gen_e (H2.objs.size) ?_
  intro C hCe fLC hIC' hCL hIC hDC hns₁ c3 c2 c1
  have cC : ∀ s' : Shared, s' = { s₂ with heap := h₁, toks := s₂.toks + ([] : List (Str × Value)).length } → codeAny (model Pg f.w) f.A (.compLoop (.ListComp elt [⟨.Name x px, iter, ifs, 0⟩] scope pos) 0 (.ref I) (.ref D) (compEnvC scope cl C env)) (RR (.ref D) C) s' := by
    rintro s' rfl
    refine codeAny_compLoop_tests (fun m s' => ∃ i ys X' n mC, Sim f l X' s' ∧ X'.h I = none ∧ X'.h D = none ∧ X'.h C = none ∧ S i s'.heap ∧ s'.heap.get? D = some (listOf ys.toArray n) ∧ s'.heap.Ns C mC ∧ J i ys X' ∧ i ≤ N ∧ m = N + 1 - i) ?_ (N + 1)
      ⟨0, [], X, 0, _, hs3, nI, d1, c1, hS3, hD3, hns₁, h0, Nat.zero_le _, rfl⟩
    intro m s' zz2
    refine ea_EEEEE (zz2) ?_
    try clear zz2
    intro i ys X' n mC zp3
    refine ea_AAAAAAAAA (zp3) ?_
    clear zp3
    intro Sm eI eD eC hSi hDl hNs hJ hle zq56
    obtain rfl := zq56
    have hHX := (hJH i ys X' hJ).1
    by_cases hlt : i < N
    · refine wpAny_mono (W.item i s' X' l _ hlt hSi Sm hHX (fun v h' tk hP hS' sb => ?_)) (fun _ _ z => z) fun _ _ e => e.elim
      have Sm1 : Sim f l X' { s' with heap := h', toks := tk } := Sm.lost (tk := tk) eI nL nb sb.extBut
      have hDl1 : h'.get? D = some (listOf ys.toArray n) := (sb.2 D (Ne.symm hDI)).trans hDl
      have hNs1 : h'.Ns C mC := hNs.sameBut sb (Ne.symm hIC)
      refine wpAny_assign_Name (wpAny_storeName_local (lookup_relabel_local hx) hNs1 (fun h₂ hn₂ hs₂' => ?_) (by simp [compEnvC, relabel, hkind]))
      have Sm2 : Sim f l X' { s' with heap := h₂, toks := tk + 1 } := Sm1.lost (tk := tk + 1) eC c2 c3 hs₂'.extBut
      have hDl2 : h₂.get? D = some (listOf ys.toArray n) := (hs₂'.2 D hDC).trans hDl1
      have hS2 : S (i + 1) h₂ := W.keep _ _ _ hS' fun o e => hs₂'.extBut _ _ hIC e
      refine ea_EAAAAA (ground2 Sm2 fLC) ?_
      intro g st gsz gin gnone gall back
      have O' : Ok (f.sub g f.A C) k := O.sub (j := 0) st rfl (Nat.le_refl _) (Nat.le_refl _) O.low
      have S' : Sim (f.sub g f.A C) [(x, v)] X' { s' with heap := h₂, toks := tk + 1 } :=
        ⟨⟨_, ⟨hn₂, fun b o q => gin b o q, gsz⟩, fun y u q => by
          rw [List.lookup_cons] at q
          split at q
          · rename_i r; cases q; rw [if_pos (beq_iff_eq.mp r)]
          · cases q⟩, fun a o q => ⟨(Sm2.cov a o q).1, fun z => (by rw [show a = C from z, eC] at q; cases q), gnone a o q⟩, Sm2.gens, Sm2.os⟩
      have gD := gall D _ hCL hDl2 eD
      obtain ⟨oI, hoI⟩ := W.ex _ _ hS2
      have gI := gall I _ hIC' hoI eI
      have after : ∀ l' X2 s₃, Sim (f.sub g f.A C) l' X2 s₃ → Sim f l X2 s₃ ∧ X2.h I = none ∧ X2.h D = none ∧ X2.h C = none ∧ S (i + 1) s₃.heap ∧ s₃.heap.get? D = some (listOf ys.toArray n) ∧ ∃ mC, s₃.heap.Ns C mC := fun l' X2 s₃ Z => by
        refine ea_EA (Z.fr) ?_
        intro m3 F3 _
        refine ia_AAAAAAE (back _ _ _ _ _ Z) ?_ ?_ ?_ (W.keep _ _ _ hS2 fun o e => ?_) (F3.keep _ _ gD) m3 F3.ns
        · cases q : X2.h I with
          | none => rfl
          | some o => have := (Z.cov _ _ q).2.2; rw [show (f.sub g f.A C).hb.get? I = _ from gI] at this; cases this
        · cases q : X2.h D with
          | none => rfl
          | some o => have := (Z.cov _ _ q).2.2; rw [show (f.sub g f.A C).hb.get? D = _ from gD] at this; cases this
        · cases q : X2.h C with
          | none => rfl
          | some o => exact absurd rfl (Z.cov _ _ q).2.1
        · rw [hoI] at e; cases e; exact F3.keep _ _ gI
      refine (turn g C i v ys X' O' hlt hP hJ).useE S' fun ok l1 X1 s₃ Z q => ?_
      induction ok using BoolEl with
      | false =>
        simp only [Bool.false_eq_true, if_false] at q ⊢
        refine ea_AAAAAAE (after _ _ _ Z) ?_
        intro a1 a2 a3 a4 a5 a6 mC' a7
        exact ⟨_, by omega, ie5 (i + 1) ys X1 n mC' ⟨a1, a2, a3, a4, a5, a6, a7, q, hlt, rfl⟩⟩
      | true =>
        simp only [if_true] at q ⊢
        refine q.useE Z fun y l2 X2 s₄ Z2 q2 => ?_
        refine ea_AAAAAAE (after _ _ _ Z2) ?_
        intro a1 a2 a3 a4 a5 a6 mC' a7
        have hlen := (hJH i ys X' hJ).2
        refine append_at a6 (fun h' sb ho' => ?_) (by simp; lia)
        rw [List.push_toArray] at ho'
        exact ⟨_, by omega, ie5 (i + 1) (ys ++ [y]) X2 (n + 1) mC' ⟨a1.lost (tk := s₄.toks) a3 d2 d3 sb.extBut, a2, a3, a4, W.keep _ _ _ a5 fun o e => sb.extBut _ _ hDI e, ho', a7.sameBut sb (Ne.symm hDC), q2, hlt, rfl⟩⟩
    · have hi : i = N := by lia
      refine wpAny_mono (W.done s' X' l _ (hi ▸ hSi) Sm hHX fun h' tk eb => ?_) (fun _ _ z => z) fun _ _ e => e.elim
      exact fin D C _ X' ys n mC (Sm.lost (tk := tk) eI nL nb eb) eD eC hDC d2 c2 d3 c3 (eb _ _ (Ne.symm hDI) hDl) (hNs.extBut eb (Ne.symm hIC)) (hi ▸ hJ)
  exact codeAny_compStart_list (cC _ rfl) (wpAny_mono (W.self 0 _ (fun it' s' => it' = .ref I ∧ s' = { s₂ with heap := h₁, toks := s₂.toks + ([] : List (Str × Value)).length }) hS3 ⟨rfl, rfl⟩) (fun it' s' z => by rw [z.1]; exact cC _ z.2) fun _ _ e => e.elim)
end
end
-- B7
section
section
variable {f : Fm} {l : Locs} {X : St} {env : Env} {k : Nat}
/-- a comprehension's turns -/
noncomputable def CompTurn (f : Fm) (k : Nat) (env : Env) (elt : Expr) (x : Str) (ifs : List Expr) (scope : Scope) (cl : List (Str × Addr)) (N : Nat) (P : Nat → Value → Prop) (J : Nat → List Value → St → Prop) : Prop :=
  ∀ hb' C i v ys X', Ok (f.sub hb' f.A C) k → i < N → P i v → J i ys X' → T (f.sub hb' f.A C) (tests ifs (compEnvC scope cl C env)) [(x, v)] X' (fun ok l1 X1 => if ok = true then T (f.sub hb' f.A C) (eval elt (compEnvC scope cl C env)) l1 X1 (fun y _ X2 => J (i + 1) (ys ++ [y]) X2) else J (i + 1) ys X1)
noncomputable def CompSrc (f : Fm) (k : Nat) (env : Env) (elt : Expr) (x : Str) (ifs : List Expr) (scope : Scope) (cl : List (Str × Addr)) (v : Value) (l : Locs) (X : St) (Q : List Value → St → Prop) : Prop :=
  ∀ s, Sim f l X s → wpAny (model Pg f.w) f.A (pyIter v) (fun it s₂ => ∃ I N P S H J, it = .ref I ∧ It f I N P S H ∧ N ≤ sizeLine ∧ (∀ i ys X, J i ys X → H X ∧ ys.length ≤ i) ∧ J 0 [] X ∧ Sim f l X s₂ ∧ S 0 s₂.heap ∧ I < s₂.heap.objs.size ∧ X.h I = none ∧ I ≠ f.L ∧ f.hb.get? I = none ∧
    CompTurn f k env elt x ifs scope cl N P J ∧ ∀ ys X', J N ys X' → Q ys X') (fun _ _ => False) s
theorem CompSrc_list (O : Ok f k) {elt : Expr} {x : Str} {ifs : List Expr} {scope : Scope} {cl : List (Str × Addr)} {a : Addr} {vs : List Value} {Q : List Value → St → Prop} (J : Nat → List Value → St → Prop) (hz : vs.length ≤ sizeLine)
    (hJ : ∀ i ys X, J i ys X → (∃ n, X.h a = some (listOf vs.toArray n)) ∧ ys.length ≤ i) (h0 : J 0 [] X) (turn : CompTurn f k env elt x ifs scope cl vs.length (fun i v => vs[i]? = some v) J) (fin : ∀ ys X', J vs.length ys X' → Q ys X') :
    CompSrc f k env elt x ifs scope cl (.ref a) l X Q := fun s hs => by
  obtain ⟨n, ha⟩ := (hJ 0 [] X h0).1
  refine ea_AA (hs.newAddr) ?_
  intro n1 n2 n3
  refine wpAny_pyIter_list (isList_at hs ha) ⟨s.heap.objs.size, _, _, _, _, J, rfl, It.list O _ a vs, hz, hJ, h0, hs.grow _, ⟨_, Heap.get?_push_size _ rfl, rfl, rfl⟩, ?_, n1, n2, n3, turn, fin⟩
  show s.heap.objs.size < (s.heap.push _).objs.size
  rw [Heap.size_push]; exact Nat.lt_succ_self _
theorem CompSrc_range (O : Ok f k) {elt : Expr} {x : Str} {ifs : List Expr} {scope : Scope} {cl : List (Str × Addr)} {r : Addr} {a b c : Int} {t u v : Tok} {N : Nat} {Q : List Value → St → Prop} (J : Nat → List Value → St → Prop) (hr : X.h r = some (rangeOf a b c t u v)) (hsmall : Builtin.Range.small a b c = true) (hsz : Builtin.Range.rangeSize a b c = (N : Int)) (hz : N ≤ sizeLine)
    (hJ : ∀ i ys X, J i ys X → ys.length ≤ i) (h0 : J 0 [] X) (turn : CompTurn f k env elt x ifs scope cl N (fun i v => ∃ t, v = .int (a + i * c) t) J) (fin : ∀ ys X', J N ys X' → Q ys X') :
    CompSrc f k env elt x ifs scope cl (.ref r) l X Q := fun s hs => by
  refine ea_AA (hs.newAddr) ?_
  intro n1 n2 n3
  refine wpAny_pyIter_range (hs.cov _ _ hr).1 hsmall ⟨s.heap.objs.size, _, _, _, _, J, rfl, It.range O _ a c N, hz, fun i ys X q => ⟨trivial, hJ i ys X q⟩, h0, hs.grow _, ?_, ?_, n1, n2, n3, turn, fin⟩
  · rw [hsz]
    simpa using Heap.get?_push_size _ rfl
  · show s.heap.objs.size < (s.heap.push _).objs.size
    rw [Heap.size_push]; exact Nat.lt_succ_self _
theorem Sim.take' {s : Shared} {it : Addr} {o : Obj} (hs : Sim f l X s) (hL : it ≠ f.L) (hb : f.hb.get? it = none) (ho : s.heap.get? it = some o) : Sim f l ⟨upd X.h it o, X.g⟩ s := ⟨hs.fr, fun a x q => by
    dsimp only [upd] at q
    split at q
    · rename_i z; subst z; cases q; exact ⟨ho, hL, hb⟩
    · exact hs.cov a x q, hs.gens, hs.os⟩
noncomputable abbrev KLf (Q : Value → Locs → St → Prop) (l1 : Locs) : List Value → St → Prop := fun ys X' => ∀ D n, X'.h D = none → Q (.ref D) l1 ⟨upd X'.h D (listOf ys.toArray n), X'.g⟩
noncomputable abbrev KLc (f : Fm) (k : Nat) (env : Env) (elt : Expr) (x : Str) (ifs : List Expr) (scope : Scope) (cl : List (Str × Addr)) (Q : Value → Locs → St → Prop) : Value → Locs → St → Prop := fun v l1 X1 => CompSrc f k env elt x ifs scope cl v l1 X1 (KLf Q l1)
noncomputable abbrev KAf (y : Str) (Q : Flow → Locs → St → Prop) (l1 : Locs) : List Value → St → Prop := fun ys X' => ∀ D n, X'.h D = none → Q .next ((y, .ref D) :: l1) ⟨upd X'.h D (listOf ys.toArray n), X'.g⟩
noncomputable abbrev KAc (f : Fm) (k : Nat) (env : Env) (elt : Expr) (x : Str) (ifs : List Expr) (scope : Scope) (cl : List (Str × Addr)) (y : Str) (Q : Flow → Locs → St → Prop) : Value → Locs → St → Prop := fun v l1 X1 => CompSrc f k env elt x ifs scope cl v l1 X1 (KAf y Q l1)
theorem T_listcomp (O : Ok f k) {elt iter : Expr} {x : Str} {px : Pos} {ifs : List Expr} {scope : Scope} {cl : List (Str × Addr)} {pos : Pos} {Q : Value → Locs → St → Prop}
    (hclos : closureFor scope env = pure cl) (hcell : ∀ y ∈ scope.names, y.2 ≠ .cell) (hkind : scope.kind = .function) (hnames : ∀ y ∈ scope.names, y.2 = .local → scope.names.lookup y.1 = some .local) (hx : scope.names.lookup x = some .local)
    (h : T f (eval iter env) l X (KLc f k env elt x ifs scope cl Q))
    (hs : ∀ x, foldedSetIterable iter env x = pure x) : T f (eval (.ListComp elt [⟨.Name x px, iter, ifs, 0⟩] scope pos) env) l X Q := fun s hs' => by
  rw [eval_ListComp]
  refine wpAny_comprehension_free (use := none) rfl hs hclos hkind hnames (T.use h hs' fun xv l1 X1 s₁ S1 q => wpAny_mono (q s₁ S1) (fun it s₂ h₂ => ?_) fun _ _ e => e)
  refine ea_EEEEEEAAAAAAAAAAAA (h₂) ?_
  try clear h₂
  intro I N P S H J zq57 W hz hJ h0 S2 hS hI nI nL nb turn fin
  obtain rfl := zq57
  refine comp_core O (RR := fun acc C => compPost (model Pg f.w) f.A (fun _ _ => False) none _ acc C) W hcell hkind hx hz J hJ h0 S2 hS hI nI nL nb turn ?_
  intro D C s' X' ys n m S' hD hC hDC hDL hCL hDb hCb hDo hCn hJN
  exact ⟨m, hCn, fun h'' sb => ⟨l1, _, (S'.lost (tk := s'.toks) hC hCL hCb sb.extBut).take' hDL hDb ((sb.2 D hDC).trans hDo), fin ys X' hJN D n hD⟩⟩
theorem T_assign_listcomp (O : Ok f k) {elt iter : Expr} {x y : Str} {px py : Pos} {ifs : List Expr} {scope : Scope} {cl : List (Str × Addr)} {pos spos : Pos} {Q : Flow → Locs → St → Prop}
    (hsw : swapsWith (.ListComp elt [⟨.Name x px, iter, ifs, 0⟩] scope pos) (some (.Name y py)) spos.line env = pure true)
    (hclos : closureFor scope env = pure cl) (hcell : ∀ y ∈ scope.names, y.2 ≠ .cell) (hkind : scope.kind = .function) (hnames : ∀ y ∈ scope.names, y.2 = .local → scope.names.lookup y.1 = some .local) (hx : scope.names.lookup x = some .local)
    (hy : env.kindOf y = some .local) (hke : env.scope.kind = .function) (hL : env.locals = f.L)
    (h : T f (eval iter env) l X (KAc f k env elt x ifs scope cl y Q))
    (hs : ∀ x, foldedSetIterable iter env x = pure x) : T f (exec (.Assign [.Name y py] (.ListComp elt [⟨.Name x px, iter, ifs, 0⟩] scope pos) spos) env) l X Q := fun s hs' => by
  rw [exec_Assign_Name_used _ _ _ _ hsw]
  refine wpAny_bind (wpAny_standAt (wpAny_bind ?_))
  show wpAny _ _ (do let _ ← comprehension (.ListComp elt [⟨.Name x px, iter, ifs, 0⟩] scope pos) scope env _ (newList []) false (eval iter env) (some (assign (.Name y py) env))) _ _ _
  refine wpAny_bind (wpAny_mono (wpAny_comprehension_free (use := some (assign (.Name y py) env)) (Q := fun _ s' => ∃ l' X', Sim f l' X' s' ∧ Q .next l' X') rfl hs hclos hkind hnames
    (T.use h hs' fun xv l1 X1 s₁ S1 q => wpAny_mono (q s₁ S1) (fun it s₂ h₂ => ?_) fun _ _ e => e)) (fun _ s' hq => wpAny_pure (wpAny_pure hq)) fun _ _ e => e)
  refine ea_EEEEEEAAAAAAAAAAAA (h₂) ?_
  try clear h₂
  intro I N P S H J zq58 W hz hJ h0 S2 hS hI nI nL nb turn fin
  obtain rfl := zq58
  refine comp_core O (RR := fun acc C => compPost (model Pg f.w) f.A (fun _ _ => False) (some (assign (.Name y py) env)) _ acc C) W hcell hkind hx hz J hJ h0 S2 hS hI nI nL nb turn ?_
  intro D C s' X' ys n m S' hD hC hDC hDL hCL hDb hCb hDo hCn hJN
  show wpAny _ _ (assign (.Name y py) env (.ref D)) _ _ _
  refine ea_EA (S'.fr) ?_
  intro mf F e
  refine wpAny_assign_Name (wpAny_storeName_local hy (hL ▸ F.ns) (fun h₂ hn₂ hs₂ => ?_) (by rw [hke]; rfl))
  rw [hL] at hn₂ hs₂
  refine ia_EA m (hCn.sameBut hs₂ hCL) (fun h₃ sb => ?_)
  have S3 : Sim f ((y, .ref D) :: l1) X' { s' with heap := h₂, toks := s'.toks + 1 } := ⟨⟨_, F.set hn₂ hs₂, fun z u q => by
      rw [List.lookup_cons] at q
      split at q
      · rename_i r; cases q; rw [if_pos (beq_iff_eq.mp r)]
      · rename_i r; rw [if_neg (by simpa using r)]; exact e _ _ q⟩, cov_of S'.cov ((cov_news S'.cov _).set hs₂), S'.gens, S'.os⟩
  exact ia_EEA _ _ ((S3.lost (tk := s'.toks + 1) hC hCL hCb sb.extBut).take' hDL hDb ((sb.2 D hDC).trans ((hs₂.2 D hDL).trans hDo))) (fin ys X' hJN D n hD)
end
end
-- B8
section
section
variable (P : Params)
theorem g_take : nsIn (Kh P) mainGlobals (Str.ofString "_law_take") = some (some (.ref 317)) := by k_is
theorem g_tape : nsIn (Kh P) mainGlobals (Str.ofString "_law_tape") = some (some (.ref 310)) := by k_is
theorem g_node : nsIn (Kh P) mainGlobals (Str.ofString "_law_node") = some (some (.ref 324)) := by k_is
theorem g_built : nsIn (Kh P) mainGlobals (Str.ofString "_law_built") = some (some (.ref 329)) := by k_is
theorem g_plain : nsIn (Kh P) mainGlobals (Str.ofString "_law_plain") = some (some (.ref 334)) := by k_is
theorem g_joined : nsIn (Kh P) mainGlobals (Str.ofString "_law_joined") = some (some (.ref 339)) := by k_is
theorem g_binary : nsIn (Kh P) mainGlobals (Str.ofString "_law_binary") = some (some (.ref 344)) := by k_is
theorem g_collapse : nsIn (Kh P) mainGlobals (Str.ofString "collapse_unary") = some (some (.ref 305)) := by k_is
theorem g_cnf : nsIn (Kh P) mainGlobals (Str.ofString "chomsky_normal_form") = some (some (.ref 293)) := by k_is
theorem g_un : nsIn (Kh P) mainGlobals (Str.ofString "un_chomsky_normal_form") = some (some (.ref 299)) := by k_is
theorem g_same : nsIn (Kh P) mainGlobals (Str.ofString "_same") = some (some (.ref 287)) := by k_is
theorem g_Tree : nsIn (Kh P) mainGlobals (Str.ofString "Tree") = some (some (.ref 269)) := by k_is
theorem n_len : nsIn (Kh P) mainGlobals (Str.ofString "len") = some none := by k_is
theorem n_range : nsIn (Kh P) mainGlobals (Str.ofString "range") = some none := by k_is
theorem n_isinstance : nsIn (Kh P) mainGlobals (Str.ofString "isinstance") = some none := by k_is
theorem n_str : nsIn (Kh P) mainGlobals (Str.ofString "str") = some none := by k_is
theorem n_int : nsIn (Kh P) mainGlobals (Str.ofString "int") = some none := by k_is
theorem n_list : nsIn (Kh P) mainGlobals (Str.ofString "list") = some none := by k_is
theorem n_tuple : nsIn (Kh P) mainGlobals (Str.ofString "tuple") = some none := by k_is
theorem n_min : nsIn (Kh P) mainGlobals (Str.ofString "min") = some none := by k_is
theorem n_max : nsIn (Kh P) mainGlobals (Str.ofString "max") = some none := by k_is
theorem n_abs : nsIn (Kh P) mainGlobals (Str.ofString "abs") = some none := by k_is
theorem n_all : nsIn (Kh P) mainGlobals (Str.ofString "all") = some none := by k_is
theorem n_any : nsIn (Kh P) mainGlobals (Str.ofString "any") = some none := by k_is
theorem n_zip : nsIn (Kh P) mainGlobals (Str.ofString "zip") = some none := by k_is
theorem n_reversed : nsIn (Kh P) mainGlobals (Str.ofString "reversed") = some none := by k_is
theorem b_len : bootBuiltins (Str.ofString "len") = some (.builtin "len") := by kernel_rfl
theorem b_range : bootBuiltins (Str.ofString "range") = some (.type "range") := by kernel_rfl
theorem b_isinstance : bootBuiltins (Str.ofString "isinstance") = some (.builtin "isinstance") := by kernel_rfl
theorem b_str : bootBuiltins (Str.ofString "str") = some (.type "str") := by kernel_rfl
theorem b_int : bootBuiltins (Str.ofString "int") = some (.type "int") := by kernel_rfl
theorem b_list : bootBuiltins (Str.ofString "list") = some (.type "list") := by kernel_rfl
theorem b_tuple : bootBuiltins (Str.ofString "tuple") = some (.type "tuple") := by kernel_rfl
theorem b_min : bootBuiltins (Str.ofString "min") = some (.builtin "min") := by kernel_rfl
theorem b_max : bootBuiltins (Str.ofString "max") = some (.builtin "max") := by kernel_rfl
theorem b_abs : bootBuiltins (Str.ofString "abs") = some (.builtin "abs") := by kernel_rfl
theorem b_all : bootBuiltins (Str.ofString "all") = some (.builtin "all") := by kernel_rfl
theorem b_any : bootBuiltins (Str.ofString "any") = some (.builtin "any") := by kernel_rfl
theorem b_zip : bootBuiltins (Str.ofString "zip") = some (.type "zip") := by kernel_rfl
theorem b_reversed : bootBuiltins (Str.ofString "reversed") = some (.type "reversed") := by kernel_rfl
theorem kp_fn : keepIn (Kh P) (.ref 317) = true := by k_is
-- the class Tree
theorem t_plain_ch : plainGet (Kh P) 269 (Str.ofString "_children") = true := by k_is
theorem t_plain_lb : plainGet (Kh P) 269 (Str.ofString "_label") = true := by k_is
theorem t_plain_cls : plainGet (Kh P) 269 (Str.ofString "__class__") = true := by k_is
theorem t_dict : hasDictIn (Kh P) 269 = true := by k_is
theorem t_no_ch : findIn (Kh P) (.ref 269) (Str.ofString "_children") = some none := by k_is
theorem t_no_lb : findIn (Kh P) (.ref 269) (Str.ofString "_label") = some none := by k_is
theorem t_noget : noGet (Kh P) none = true := by k_is
theorem t_setattr : findIn (Kh P) (.ref 269) (Str.ofString "__setattr__") = some (some (.builtin "object.__setattr__")) := by k_is
theorem t_over : plainOver (Kh P) 269 = true := by k_is
theorem t_taker_ch : takerIn (Kh P) 269 (Str.ofString "_children") = some none := by k_is
theorem t_taker_lb : takerIn (Kh P) 269 (Str.ofString "_label") = some none := by k_is
theorem t_makes : makesIn (Kh P) 269 = true := by k_is
theorem t_init : findIn (Kh P) (.ref 269) (Str.ofString "__init__") = some (some (.ref 160)) := by k_is
theorem t_isfn_init : isFn (Kh P) (.ref 160) = true := by k_is
theorem t_cls : findIn (Kh P) (.ref 269) (Str.ofString "__class__") = some (some (.builtin "object.__class__")) := by k_is
theorem t_gs : specialIn (Kh P) (.builtin "object.__class__") (Str.ofString "__get__") = some (some (.builtin "getset_descriptor.__get__")) := by k_is
theorem t_takes : takesIn (Kh P) (.builtin "object.__class__") = some true := by k_is
theorem t_mro : mroIn (Kh P) 269 (.type "object") = some true := by k_is
theorem kit_TT : kitOne (Kh P) (.ref 269) (.ref 269) = some true := by kit_is
theorem kit_Tstr : kitOne (Kh P) (.ref 269) (.type "str") = some false := by kit_is
theorem kit_strT : kitOne (Kh P) (.type "str") (.ref 269) = some false := by kit_is
theorem kit_strstr : kitOne (Kh P) (.type "str") (.type "str") = some true := by kit_is
theorem kit_liststr : kitOne (Kh P) (.type "list") (.type "str") = some false := by kit_is
theorem kit_intint : kitOne (Kh P) (.type "int") (.type "int") = some true := by kit_is
theorem kit_tupint : kitOne (Kh P) (.type "tuple") (.type "int") = some false := by kit_is
theorem kit_tupany : kitAny (Kh P) (.type "tuple") [.type "list", .type "tuple"] = some true := by kit_is
end
end
-- B9
section
section
variable (P : Params)
theorem m_len : findIn (Kh P) (.ref 269) (Str.ofString "__len__") = some (some (.ref 174)) := by k_is
theorem f_len : isFn (Kh P) (.ref 174) = true := by k_is
theorem m_getitem : findIn (Kh P) (.ref 269) (Str.ofString "__getitem__") = some (some (.ref 181)) := by k_is
theorem f_getitem : isFn (Kh P) (.ref 181) = true := by k_is
theorem fn_getitem : fnIn (Kh P) 181 = true := by k_is
theorem m_eq : findIn (Kh P) (.ref 269) (Str.ofString "__eq__") = some (some (.ref 167)) := by k_is
theorem f_eq : isFn (Kh P) (.ref 167) = true := by k_is
theorem m_label : findIn (Kh P) (.ref 269) (Str.ofString "label") = some (some (.ref 195)) := by k_is
theorem f_label : isFn (Kh P) (.ref 195) = true := by k_is
theorem p_label : plainGet (Kh P) 269 (Str.ofString "label") = true := by k_is
theorem m_set_label : findIn (Kh P) (.ref 269) (Str.ofString "set_label") = some (some (.ref 202)) := by k_is
theorem f_set_label : isFn (Kh P) (.ref 202) = true := by k_is
theorem p_set_label : plainGet (Kh P) 269 (Str.ofString "set_label") = true := by k_is
theorem m_leaves : findIn (Kh P) (.ref 269) (Str.ofString "leaves") = some (some (.ref 209)) := by k_is
theorem f_leaves : isFn (Kh P) (.ref 209) = true := by k_is
theorem p_leaves : plainGet (Kh P) 269 (Str.ofString "leaves") = true := by k_is
theorem m_subtrees : findIn (Kh P) (.ref 269) (Str.ofString "subtrees") = some (some (.ref 238)) := by k_is
theorem f_subtrees : isFn (Kh P) (.ref 238) = true := by k_is
theorem p_subtrees : plainGet (Kh P) 269 (Str.ofString "subtrees") = true := by k_is
theorem nf_Tree : notFirst (Kh P) 269 (.ref 269) = true := by k_is
end
/-- a node's dict -/
noncomputable def ND (o : Obj) (l : Addr) (lab : Str) : Prop := ∃ h1 h2 t1 t2 t3 n, o = dictOf [⟨h1, .str (Str.ofString "_children") t1, .ref l⟩, ⟨h2, .str (Str.ofString "_label") t2, .str lab t3⟩] n
/-- a node: its three objects -/
structure Nd (H : Hp) (x dx l : Addr) (lab : Str) (vs : List Value) : Prop where
  hx : H x = some (instObj 269 dx)
  hd : ∃ o, H dx = some o ∧ ND o l lab
  hl : ∃ n, H l = some (listOf vs.toArray n)
theorem Nd.le {H H' : Hp} {x dx l : Addr} {lab : Str} {vs : List Value} (h : Nd H x dx l lab vs) (k : Le H H') : Nd H' x dx l lab vs :=
  ⟨k _ _ h.hx, h.hd.imp fun _ z => ⟨k _ _ z.1, z.2⟩, h.hl.imp fun _ => k _ _⟩
theorem Nd.at {H H' : Hp} {x dx l : Addr} {lab : Str} {vs : List Value} (h : Nd H x dx l lab vs) (k1 : H' x = H x) (k2 : H' dx = H dx) (k3 : H' l = H l) : Nd H' x dx l lab vs :=
  ⟨k1.trans h.hx, h.hd.imp fun _ z => ⟨k2.trans z.1, z.2⟩, h.hl.imp fun _ => k3.trans⟩
theorem ND.noList {o : Obj} {l : Addr} {lab : Str} (h : ND o l lab) (vs : Array Value) (n : Nat) : o ≠ listOf vs n := by
  refine ea_EEEEEE (h) ?_
  try clear h
  intro h1 h2 t1 t2 t3 m zq59
  obtain rfl := zq59
  intro e; have := congrArg Obj.cls e; simp at this
theorem Nd.ne {H : Hp} {x dx l : Addr} {lab : Str} {vs : List Value} (h : Nd H x dx l lab vs) : x ≠ dx ∧ x ≠ l ∧ dx ≠ l := by
  obtain ⟨hx, ⟨o, hd, h1, h2, t1, t2, t3, m, rfl⟩, ⟨n, hl⟩⟩ := h
  refine ⟨?_, ?_, ?_⟩ <;> (rintro rfl)
  · rw [hx] at hd; have := congrArg (Option.map Obj.cls) hd; simp at this
  · rw [hx] at hl; have := congrArg (Option.map Obj.cls) hl; simp at this
  · rw [hd] at hl; have := congrArg (Option.map Obj.cls) hl; simp at this
section
variable {f : Fm} {l : Locs} {X : St} {env : Env} {k : Nat} {x dx cl : Addr} {lab : Str} {vs : List Value}
theorem T_children (O : Ok f k) {e : Bool} {Q : Value → Locs → St → Prop} (h : Nd X.h x dx cl lab vs) (q : Q (.ref cl) l X) : T f (getAttr (.ref x) (Str.ofString "_children") e) l X Q := by
  refine ea_EAEEEEEE (h.hd) ?_
  intro o ho h1 h2 t1 t2 t3 n zq60
  obtain rfl := zq60
  exact T_getOwn O h.hx ho (t_plain_ch _) (t_dict _) (t_no_ch _) (t_noget _) (by rfl) rfl q
theorem T_label (O : Ok f k) {e : Bool} {Q : Value → Locs → St → Prop} (h : Nd X.h x dx cl lab vs) (q : ∀ t, Q (.str lab t) l X) : T f (getAttr (.ref x) (Str.ofString "_label") e) l X Q := by
  refine ea_EAEEEEEE (h.hd) ?_
  intro o ho h1 h2 t1 t2 t3 n zq61
  obtain rfl := zq61
  exact T_getOwn O h.hx ho (t_plain_lb _) (t_dict _) (t_no_lb _) (t_noget _) (by rfl) rfl (q t3)
theorem T_set_children (O : Ok f k) {cl' : Addr} {Q : Unit → Locs → St → Prop} (h : Nd X.h x dx cl lab vs) (q : ∀ o', ND o' cl' lab → Q () l ⟨upd X.h dx o', X.g⟩) : T f (setAttr (.ref x) (Str.ofString "_children") (.ref cl')) l X Q := by
  refine ea_EAEEEEEE (h.hd) ?_
  intro o ho h1 h2 t1 t2 t3 n zq62
  obtain rfl := zq62
  exact T_setAttr O h.hx ho (es' := []) (n' := 0) (t_setattr _) (t_over _) (t_taker_ch _) (t_dict _) (by rfl) (by simp) fun hsh t => q _ ⟨h1, h2, t1, t2, t3, _, rfl⟩
theorem T_set_label (O : Ok f k) {lab' : Str} {tk : Tok} {Q : Unit → Locs → St → Prop} (h : Nd X.h x dx cl lab vs) (q : ∀ o', ND o' cl lab' → Q () l ⟨upd X.h dx o', X.g⟩) : T f (setAttr (.ref x) (Str.ofString "_label") (.str lab' tk)) l X Q := by
  refine ea_EAEEEEEE (h.hd) ?_
  intro o ho h1 h2 t1 t2 t3 n zq63
  obtain rfl := zq63
  exact T_setAttr O h.hx ho (es' := []) (n' := 0) (t_setattr _) (t_over _) (t_taker_lb _) (t_dict _) (by rfl) (by simp) fun hsh t => q _ ⟨h1, h2, t1, t2, tk, _, rfl⟩
theorem T_treeMethod (O : Ok f k) {name : Str} {fa : Addr} {pl : Sem Bool} {Q : Value × List Value → Locs → St → Prop} (h : Nd X.h x dx cl lab vs) (hg : plainGet (Kh f.w.params) 269 name = true) (hf : findIn (Kh f.w.params) (.ref 269) name = some (some (.ref fa))) (ht : isFn (Kh f.w.params) (.ref fa) = true)
    (n1 : (Value.str (Str.ofString "_children") 0).isStr name = false) (n2 : (Value.str (Str.ofString "_label") 0).isStr name = false) (q : Q (.ref fa, [.ref x]) l X) : T f (getMethod (.ref x) name pl) l X Q := by
  refine ea_EAEEEEEE (h.hd) ?_
  intro o ho h1 h2 t1 t2 t3 n zq64
  obtain rfl := zq64
  refine T_getMethod O h.hx ho hg hf ht ?_ q
  have m1 : (Value.str (Str.ofString "_children") t1).isStr name = false := n1
  have m2 : (Value.str (Str.ofString "_label") t2).isStr name = false := n2
  simp only [getL, List.find?_cons, m1, m2, List.find?_nil, List.any_cons, List.any_nil]
  rfl
theorem tree_at {s : Shared} (hs : Sim f l X s) (h : Nd X.h x dx cl lab vs) : ∃ o, InstAt s.heap x (instObj 269 dx) 269 (some o) := by
  refine ea_EAEEEEEE (h.hd) ?_
  intro o ho h1 h2 t1 t2 t3 n zq65
  obtain rfl := zq65
  exact ⟨_, inst_at hs h.hx ho⟩
theorem T_isi_TT (O : Ok f k) {Q : Value → Locs → St → Prop} (h : Nd X.h x dx cl lab vs) (q : Q (.bool true) l X) : T f (call (.builtin "isinstance") [.ref x, .ref 269]) l X Q := fun s hs => by
  obtain ⟨o, I⟩ := tree_at hs h
  exact kia_one (kitx_own (t_plain_cls _) (t_dict _) (t_cls _) (t_gs _) (t_takes _) (t_mro _)) (O.K_in hs) I (kit_TT _) (by intro q; cases q) fun tk => ⟨l, X, hs.toks, q⟩
theorem T_isi_Ts (O : Ok f k) {Q : Value → Locs → St → Prop} (h : Nd X.h x dx cl lab vs) (q : Q (.bool false) l X) : T f (call (.builtin "isinstance") [.ref x, .type "str"]) l X Q := fun s hs => by
  obtain ⟨o, I⟩ := tree_at hs h
  exact kia_one (kitx_own (t_plain_cls _) (t_dict _) (t_cls _) (t_gs _) (t_takes _) (t_mro _)) (O.K_in hs) I (kit_Tstr _) (by intro q; cases q) fun tk => ⟨l, X, hs.toks, q⟩
theorem T_isi_sT (O : Ok f k) {y : Str} {t : Tok} {Q : Value → Locs → St → Prop} (q : Q (.bool false) l X) : T f (call (.builtin "isinstance") [.str y t, .ref 269]) l X Q := fun s hs =>
  kia_one kitx_str (O.K_in hs) trivial (kit_strT _) (by intro q; cases q) fun tk => ⟨l, X, hs.toks, q⟩
theorem T_isi_ss (O : Ok f k) {y : Str} {t : Tok} {Q : Value → Locs → St → Prop} (q : Q (.bool true) l X) : T f (call (.builtin "isinstance") [.str y t, .type "str"]) l X Q := fun s hs =>
  kia_one kitx_str (O.K_in hs) trivial (kit_strstr _) (by intro q; cases q) fun tk => ⟨l, X, hs.toks, q⟩
theorem T_isi_ls (O : Ok f k) {a : Addr} {its : Array Value} {n : Nat} {Q : Value → Locs → St → Prop} (h : X.h a = some (listOf its n)) (q : Q (.bool false) l X) : T f (call (.builtin "isinstance") [.ref a, .type "str"]) l X Q := fun s hs =>
  kia_one kitx_list (O.K_in hs) ⟨_, (hs.cov _ _ h).1, rfl⟩ (kit_liststr _) (by intro q; cases q) fun tk => ⟨l, X, hs.toks, q⟩
theorem T_isi_ii (O : Ok f k) {i : Int} {t : Tok} {Q : Value → Locs → St → Prop} (q : Q (.bool true) l X) : T f (call (.builtin "isinstance") [.int i t, .type "int"]) l X Q := fun s hs =>
  kia_one kitx_int (O.K_in hs) trivial (kit_intint _) (by intro q; cases q) fun tk => ⟨l, X, hs.toks, q⟩
theorem T_isi_ti (O : Ok f k) {a : Addr} {its : Array Value} {n : Nat} {Q : Value → Locs → St → Prop} (h : X.h a = some (tupOf its n)) (q : Q (.bool false) l X) : T f (call (.builtin "isinstance") [.ref a, .type "int"]) l X Q := fun s hs =>
  kia_one kitx_tuple (O.K_in hs) ⟨_, (hs.cov _ _ h).1, rfl⟩ (kit_tupint _) (by intro q; cases q) fun tk => ⟨l, X, hs.toks, q⟩
theorem T_isi_tt (O : Ok f k) {a b : Addr} {its : Array Value} {n n2 : Nat} {Q : Value → Locs → St → Prop} (h : X.h a = some (tupOf its n)) (hb : X.h b = some (tupOf [Value.type "list", Value.type "tuple"].toArray n2)) (q : Q (.bool true) l X) : T f (call (.builtin "isinstance") [.ref a, .ref b]) l X Q := fun s hs =>
  kia_tup kitx_tuple (O.K_in hs) ⟨_, (hs.cov _ _ h).1, rfl⟩ (hs.cov _ _ hb).1 (kit_tupany _) (by intro q; cases q) fun tk => ⟨l, X, hs.toks, q⟩
theorem T_range1 {n : Int} {t : Tok} {Q : Value → Locs → St → Prop} (q : ∀ a t1 t2, X.h a = none → Q (.ref a) l ⟨upd X.h a (rangeOf 0 n 1 t1 t t2), X.g⟩) : T f (call (.type "range") [.int n t]) l X Q := fun s hs =>
  call_range_1 ⟨l, _, (hs.push (o := rangeOf 0 n 1 s.toks t (s.toks + 1)) rfl hs.fresh).toks, q _ _ _ hs.fresh⟩
theorem T_range2 {a b : Int} {t u : Tok} {Q : Value → Locs → St → Prop} (q : ∀ r v, X.h r = none → Q (.ref r) l ⟨upd X.h r (rangeOf a b 1 t u v), X.g⟩) : T f (call (.type "range") [.int a t, .int b u]) l X Q := fun s hs =>
  call_range_2 ⟨l, _, (hs.push (o := rangeOf a b 1 t u s.toks) rfl hs.fresh).toks, q _ _ hs.fresh⟩
theorem T_range3 {a b c : Int} {t u v : Tok} {Q : Value → Locs → St → Prop} (hc : c ≠ 0) (hp : Builtin.divisionGoesByPylong (b - a) c = false) (q : ∀ r, X.h r = none → Q (.ref r) l ⟨upd X.h r (rangeOf a b c t u v), X.g⟩) : T f (call (.type "range") [.int a t, .int b u, .int c v]) l X Q := fun s hs =>
  call_range_3 hc ⟨l, _, (hs.push (o := rangeOf a b c t u v) rfl hs.fresh), q _ hs.fresh⟩ (.inl hp)
theorem T_listOf {a : Addr} {n : Nat} {Q : Value → Locs → St → Prop} (h : X.h a = some (listOf vs.toArray n)) (hz : vs.length ≤ sizeLine) (q : ∀ b m, X.h b = none → Q (.ref b) l ⟨upd X.h b (listOf vs.toArray m), X.g⟩) : T f (call (.type "list") [.ref a]) l X Q := fun s hs => by
  refine ea_AA (hs.newAddr) ?_
  intro n1 n2 n3
  refine call_list_seq a (T := "list") (.inl rfl) (hs.cov _ _ h).1 rfl rfl (fun h' c' hk hn => ⟨l, ⟨upd X.h s.heap.objs.size (listOf vs.toArray c'), X.g⟩, ?_, q _ _ hs.fresh⟩) (by simpa using hz)
  have hs' : Sim f l X { s with heap := h' } := by
    refine ea_EA (hs.fr) ?_
    intro m F e
    exact ⟨⟨m, F.keeps hk, e⟩, fun b o q => ⟨hk _ _ (hs.cov b o q).1, (hs.cov b o q).2⟩, hs.gens, hs.os⟩
  exact hs'.take' n2 n3 hn
theorem T_len_tree (O : Ok f k) (hk : k < 300) {Q : Value → Locs → St → Prop} (h : Nd X.h x dx cl lab vs) (q : ∀ A', Ok (f.sub f.hb A' f.L) (k + 1) → T (f.sub f.hb A' f.L) (call (.ref 174) [.ref x]) l X (fun v l' X' => ∃ n t, v = .int n t ∧ 0 ≤ n ∧ n < 2 ^ 63 ∧ ∀ t, Q (.int n t) l' X')) : T f (call (.builtin "len") [.ref x]) l X Q := T_of fun s m hs F e => by
  obtain ⟨o, I⟩ := tree_at hs h
  have O' : Ok (f.sub f.hb f.A.in1 f.L) (k + 1) := O.sub (fun _ _ e => e) rfl (by show f.A.depth ≤ _; lia) (by show f.A.units + 1 ≤ _; lia) hk
  have hs' : Sim (f.sub f.hb f.A.in1 f.L) l X s := ⟨hs.fr, hs.cov, hs.gens, hs.os⟩
  refine len_K F O.K I (m_len _) (f_len _) (T.useE (q _ O') hs' fun v l' X' s' S zr => ?_)
  refine ea_EEAAA (zr) ?_
  clear zr
  intro n t hv h0 h1 r
  subst hv
  exact ⟨⟨h0, h1⟩, l', X', ⟨S.fr, S.cov, S.gens, S.os⟩, r _⟩
theorem T_sub_tree (O : Ok f k) (hk : k < 300) {i : Value} {value slice : Expr} {Q : Value → Locs → St → Prop} (h : Nd X.h x dx cl lab vs) (q : ∀ A', Ok (f.sub f.hb A' f.L) (k + 1) → T (f.sub f.hb A' f.L) (call (.ref 181) [.ref x, i]) l X Q)
    (hsl : subscripted slice true (.ref x) i = runValue (.builtin "lifetime.subscript" ⟨[.ref x, i], []⟩)) : T f (subscriptTail value slice (.ref x) i) l X Q := T_of fun s m hs F e => by
  obtain ⟨o, I⟩ := tree_at hs h
  have O' : Ok (f.sub f.hb f.A.in1 f.L) (k + 1) := O.sub (fun _ _ e => e) rfl (by show f.A.depth ≤ _; omega) (by show f.A.units + 1 ≤ _; omega) hk
  have hs' : Sim (f.sub f.hb f.A.in1 f.L) l X s := ⟨hs.fr, hs.cov, hs.gens, hs.os⟩
  exact sub_K F O.K I (m_getitem _) (fn_getitem _) (f_getitem _) (T.use (q _ O') hs' fun v l' X' s' S r => ⟨l', X', ⟨S.fr, S.cov, S.gens, S.os⟩, r⟩) hsl
theorem T_eq_tree (O : Ok f k) {y dy cl' : Addr} {lab' : Str} {vs' : List Value} {Q : Value → Locs → St → Prop} (h : Nd X.h x dx cl lab vs) (h' : Nd X.h y dy cl' lab' vs') (q : T f (call (.ref 167) [.ref x, .ref y]) l X (fun v l' X' => v ≠ .notImplemented ∧ Q v l' X')) : T f (compareOp .Eq (.ref x) (.ref y)) l X Q := T_of fun s m hs F e => by
  obtain ⟨o, I⟩ := tree_at hs h
  obtain ⟨o', I'⟩ := tree_at hs h'
  refine cmp_ofEq (cmp_K O.units F O.K I I'.type (nf_Tree _) (m_eq _) (f_eq _) (T.useE q hs fun v l' X' s' S zr => ?_))
  unfold PySem.W.CmpBack
  split
  · exact zr.1 rfl
  · exact ⟨l', X', S, zr.2⟩
end
end
-- B10
section
section
variable {f : Fm} {l : Locs} {X : St} {env : Env} {k : Nat}
theorem upd_old {H : Hp} {a b : Addr} {o o' : Obj} (hb : H b = none) (ha : H a = some o) : upd H b o' a = some o := by
  rw [upd_ne (fun e => by rw [e, hb] at ha; cases ha)]; exact ha
theorem upd_other {H : Hp} {a b : Addr} {o o' : Obj} (hb : a ≠ b) (ha : H a = some o) : upd H b o' a = some o := by rw [upd_ne hb]; exact ha
theorem upd_none {H : Hp} {a b : Addr} {o : Obj} (h : upd H b o a = none) : a ≠ b ∧ H a = none := by
  unfold upd at h; split at h
  · cases h
  · rename_i q; exact ⟨q, h⟩
theorem upd_new {H : Hp} {a b : Addr} {o : Obj} (h : a ≠ b) (k : H a = none) : upd H b o a = none := by rw [upd_ne h]; exact k
theorem ne_of_some {H : Hp} {a b : Addr} {o : Obj} (h : H a = some o) (k : H b = none) : a ≠ b := by rintro rfl; rw [h] at k; cases k
theorem upd_upd (H : Hp) (a : Addr) (o o' : Obj) : upd (upd H a o) a o' = upd H a o' := by
  funext b; unfold upd; split <;> rfl
theorem Then_next {rest : List Stmt} {Q : Flow → Locs → St → Prop} (h : T f (execs rest env) l X Q) : Then f rest env Q .next l X := h
theorem Then_ret {rest : List Stmt} {v : Value} {Q : Flow → Locs → St → Prop} (h : Q (.ret v) l X) : Then f rest env Q (.ret v) l X := h
theorem T_K0 (O : Ok f k) {pos : Pos} {a : Addr} {e : Expr} {rest : List Expr} {Q : Value → Locs → St → Prop} (hk : keepIn (Kh f.w.params) (.ref a) = true)
    (h : T f (spliced (backTo pos (starEach (e :: rest) env))) l X (KC f (.ref a) Q)) (he : starEach (e :: rest) env = (false, eval e env) :: starEach rest env) (hplain : (backTo pos (starEach rest env)).any (·.1) = false) :
    T f (callWith pos (.ref a) [] (backTo pos (starEach (e :: rest) env)) []) l X Q := T_withK O hk (first := []) h he hplain
theorem T_K1 (O : Ok f k) {pos : Pos} {a : Addr} {w : Value} {e : Expr} {rest : List Expr} {Q : Value → Locs → St → Prop} (hk : keepIn (Kh f.w.params) (.ref a) = true)
    (h : T f (spliced (backTo pos (starEach (e :: rest) env))) l X (KC1 f (.ref a) w Q)) (he : starEach (e :: rest) env = (false, eval e env) :: starEach rest env) (hplain : (backTo pos (starEach rest env)).any (·.1) = false) :
    T f (callWith pos (.ref a) [w] (backTo pos (starEach (e :: rest) env)) []) l X Q := T_withK O hk (first := [w]) h he hplain
theorem T_K01 (O : Ok f k) {pos : Pos} {a : Addr} {w : Value} {Q : Value → Locs → St → Prop} (hk : keepIn (Kh f.w.params) (.ref a) = true)
    (h : T f (call (.ref a) [w]) l X Q) : T f (callWith pos (.ref a) [w] (backTo pos (starEach [] env)) []) l X Q := T_withK0 O hk h
theorem T_B0 {pos : Pos} {id : String} {e : Expr} {rest : List Expr} {Q : Value → Locs → St → Prop} 
    (h : T f (spliced (backTo pos (starEach (e :: rest) env))) l X (KC f (.builtin id) Q)) (he : starEach (e :: rest) env = (false, eval e env) :: starEach rest env) (hplain : (backTo pos (starEach rest env)).any (·.1) = false) :
    T f (callWith pos (.builtin id) [] (backTo pos (starEach (e :: rest) env)) []) l X Q := T_withB (first := []) h he hplain
theorem T_B1 {pos : Pos} {id : String} {w : Value} {e : Expr} {rest : List Expr} {Q : Value → Locs → St → Prop} 
    (h : T f (spliced (backTo pos (starEach (e :: rest) env))) l X (KC1 f (.builtin id) w Q)) (he : starEach (e :: rest) env = (false, eval e env) :: starEach rest env) (hplain : (backTo pos (starEach rest env)).any (·.1) = false) :
    T f (callWith pos (.builtin id) [w] (backTo pos (starEach (e :: rest) env)) []) l X Q := T_withB (first := [w]) h he hplain
theorem T_B01 {pos : Pos} {id : String} {w : Value} {Q : Value → Locs → St → Prop} (h : T f (call (.builtin id) [w]) l X Q) : T f (callWith pos (.builtin id) [w] (backTo pos (starEach [] env)) []) l X Q := T_withB0 h
theorem T_T0 {pos : Pos} {id : String} {e : Expr} {rest : List Expr} {Q : Value → Locs → St → Prop} 
    (h : T f (spliced (backTo pos (starEach (e :: rest) env))) l X (KC f (.type id) Q)) (he : starEach (e :: rest) env = (false, eval e env) :: starEach rest env) (hplain : (backTo pos (starEach rest env)).any (·.1) = false) :
    T f (callWith pos (.type id) [] (backTo pos (starEach (e :: rest) env)) []) l X Q := T_withT (first := []) h he hplain
end
end
-- B11
section
section
variable {f : Fm} {l : Locs} {X : St} {env : Env} {k : Nat}
theorem T_part_none {Q : Value → Locs → St → Prop} (h : Q .none l X) : T f (evalPart none env) l X Q := fun s hs => wpAny_pure ⟨l, X, hs, h⟩
theorem T_part_some {e : Expr} {Q : Value → Locs → St → Prop} (h : T f (eval e env) l X Q) : T f (evalPart (some e) env) l X Q := h
noncomputable abbrev KSl3 (Q : Value → Locs → St → Prop) (o vl : Value) : Value → Locs → St → Prop := fun vu l3 X3 => ∃ D vs n lo hi, o = .ref D ∧ X3.h D = some (listOf vs.toArray n) ∧ vs.length ≤ sizeLine ∧ IsPart vl lo ∧ IsPart vu hi ∧ ∀ a, X3.h a = none → Q (.ref a) l3 ⟨upd X3.h a (listOf (kms_pick vs lo hi).toArray 0), X3.g⟩
noncomputable abbrev KSl2 (f : Fm) (env : Env) (upper : Option Expr) (Q : Value → Locs → St → Prop) (o : Value) : Value → Locs → St → Prop := fun vl l2 X2 => T f (evalPart upper env) l2 X2 (KSl3 Q o vl)
noncomputable abbrev KSl (f : Fm) (env : Env) (lower upper : Option Expr) (Q : Value → Locs → St → Prop) : Value → Locs → St → Prop := fun o l1 X1 => T f (evalPart lower env) l1 X1 (KSl2 f env upper Q o)
noncomputable abbrev KSs3 (Q : Value → Locs → St → Prop) (o vl : Value) : Value → Locs → St → Prop := fun vu l3 X3 => ∃ x t lo hi, o = .str x t ∧ vl = partValue lo ∧ vu = partValue hi ∧ x.length ≤ sizeLine ∧ ∀ t', Q (.str (Txt.slice x (lo.map (·.1)) (hi.map (·.1))) t') l3 X3
noncomputable abbrev KSs2 (f : Fm) (env : Env) (upper : Option Expr) (Q : Value → Locs → St → Prop) (o : Value) : Value → Locs → St → Prop := fun vl l2 X2 => T f (evalPart upper env) l2 X2 (KSs3 Q o vl)
noncomputable abbrev KSs (f : Fm) (env : Env) (lower upper : Option Expr) (Q : Value → Locs → St → Prop) : Value → Locs → St → Prop := fun o l1 X1 => T f (evalPart lower env) l1 X1 (KSs2 f env upper Q o)
theorem inSl {Q : Value → Locs → St → Prop} {vl vu : Value} {D : Addr} {vs : List Value} {n : Nat} {lo hi : Option Int} (hD : X.h D = some (listOf vs.toArray n)) (hz : vs.length ≤ sizeLine) (pl : IsPart vl lo) (pu : IsPart vu hi) (q : ∀ a, X.h a = none → Q (.ref a) l ⟨upd X.h a (listOf (kms_pick vs lo hi).toArray 0), X.g⟩) : KSl3 Q (.ref D) vl vu l X := ⟨D, vs, n, lo, hi, rfl, hD, hz, pl, pu, q⟩
theorem inSs {Q : Value → Locs → St → Prop} {x : Str} {t : Tok} {vl vu : Value} (lo hi : Option (Int × Tok)) (el : vl = partValue lo) (eu : vu = partValue hi) (hz : x.length ≤ sizeLine) (q : ∀ t', Q (.str (Txt.slice x (lo.map (·.1)) (hi.map (·.1))) t') l X) : KSs3 Q (.str x t) vl vu l X := ⟨x, t, lo, hi, rfl, el, eu, hz, q⟩
theorem T_slice {value : Expr} {lower upper : Option Expr} {p pos : Pos} {Q : Value → Locs → St → Prop}
    (h : T f (eval value env) l X (KSl f env lower upper Q))
    (ht : ∀ o r, letTemporaryGo value o r = pure ()) : T f (eval (.Subscript value (.Slice lower upper none p) pos) env) l X Q := fun s hs => by
  refine wpAny_Subscript_list_slice (h.use hs fun o l1 X1 s1 a b => b.use a fun vl l2 X2 s2 a b => b.use a fun vu l3 X3 s3 a b => ?_) ht
  refine ea_EEEEEAAAAA (b) ?_
  try clear b
  intro D vs n lo hi zq1 hD hz pl pu q
  obtain rfl := zq1
  have S1 := a.grow { cls := .type "slice", data := .fields #[vl, vu, .none] }
  have S2 := S1.push (o := listOf (kms_pick vs lo hi).toArray 0) rfl S1.fresh
  rw [Heap.size_push] at S2
  refine ⟨D, _, lo, hi, rfl, isList_at a hD, by simpa using hz, pl, pu, l3, _, ?_, q _ ?_⟩
  · rw [kms_pick_eq]; exact S2
  · have := S1.fresh; rw [Heap.size_push] at this; exact this
theorem T_strSlice {value : Expr} {lower upper : Option Expr} {p pos : Pos} {Q : Value → Locs → St → Prop}
    (h : T f (eval value env) l X (KSs f env lower upper Q))
    (ht : ∀ o r, letTemporaryGo value o r = pure ()) : T f (eval (.Subscript value (.Slice lower upper none p) pos) env) l X Q := fun s hs => by
  refine wpAny_Subscript_str_slice (h.use hs fun o l1 X1 s1 a b => b.use a fun vl l2 X2 s2 a b => b.use a fun vu l3 X3 s3 a b => ?_) ht
  refine ea_EEEEAAAA (b) ?_
  try clear b
  intro x t lo hi zq2 zq3 zq4 hz q
  obtain rfl := zq2
  obtain rfl := zq3
  obtain rfl := zq4
  have S1 := a.grow { cls := .type "slice", data := .fields #[partValue lo, partValue hi, .none] }
  exact ia_EEEEAAA x t lo hi rfl rfl rfl (post_val_or_str ⟨Nat.le_trans (Txt.slice_le x _ _) hz, fun t' k => ⟨l3, X3, S1.toks, q t'⟩⟩)
theorem T_strAt {x : Str} {t u : Tok} {i : Int} {c : Nat} {value slice : Expr} {Q : Value → Locs → St → Prop} (h0 : 0 ≤ i) (h1 : i < x.length) (h2 : x.length < 1000) (hc : x.cps[i.toNat]? = some c) (q : ∀ t', Q (.str ⟨#[c]⟩ t') l X)
    (hsl : subscripted slice false (.str x t) (.int i u) = operate [.str x t, .int i u] (getItem (.str x t) (.int i u))) : T f (subscriptTail value slice (.str x t) (.int i u)) l X Q := fun s hs =>
  tail_any (typeIs_str _ _ _) F.slot_str_getitem.lookup (P.getItem_str (by simp; lia) (c := c) (by rw [seqIx h0 h1]; exact hc) ⟨l, X, hs.toks, q _⟩) hsl
theorem T_abs {i : Int} {t : Tok} {Q : Value → Locs → St → Prop} (q : ∀ t', Q (.int (if i < 0 then -i else i) t') l X) : T f (call (.builtin "abs") [.int i t]) l X Q := fun s hs => call_abs_int fun u tk => ⟨l, X, hs.toks, q _⟩
end
end
-- B12
section
theorem ite_t {c t e : Prop} [Decidable c] (hc : c) (h : t) : if c then t else e := by rw [if_pos hc]; exact h
theorem ite_f {c t e : Prop} [Decidable c] (hc : ¬ c) (h : e) : if c then t else e := by rw [if_neg hc]; exact h
theorem hl_nil {m : Str → Option Value} : ∀ y u, List.lookup y ([] : Locs) = some u → m y = some u := fun _ _ h => nomatch h
theorem hl_cons {l₀ : Locs} {m : Str → Option Value} {x : Str} {v : Value} (h : m x = some v) (k : ∀ y u, l₀.lookup y = some u → m y = some u) : ∀ y u, List.lookup y ((x, v) :: l₀) = some u → m y = some u := fun y u e => by
  rw [List.lookup_cons] at e
  split at e
  · rename_i q; cases e; rw [beq_iff_eq.mp q]; exact h
  · exact k y u e
section
variable {f : Fm} {l : Locs} {X : St} {env : Env} {k : Nat}
noncomputable abbrev KSt (f : Fm) (env : Env) (x : Str) (a : Value) (Q : Flow → Locs → St → Prop) : Unit → Locs → St → Prop := fun _ l2 X2 => T f (storeName env x a) l2 X2 (KNext Q)
noncomputable abbrev KSt2 (f : Fm) (env : Env) (x : Str) (a : Value) (y : Str) (b : Value) (Q : Flow → Locs → St → Prop) : Unit → Locs → St → Prop := fun _ l2 X2 => T f (storeName env y b) l2 X2 (KSt f env x a Q)
noncomputable abbrev KSw2 (f : Fm) (env : Env) (x y : Str) (Q : Flow → Locs → St → Prop) : Value → Locs → St → Prop := fun v l1 X1 => ∃ t a b n, v = .ref t ∧ X1.h t = some (tupOf [a, b].toArray n) ∧ T f (storeName env y b) l1 X1 (KSt f env x a Q)
noncomputable abbrev KSw3 (f : Fm) (env : Env) (x y z : Str) (Q : Flow → Locs → St → Prop) : Value → Locs → St → Prop := fun v l1 X1 => ∃ t a b c n, v = .ref t ∧ X1.h t = some (tupOf [a, b, c].toArray n) ∧ T f (storeName env z c) l1 X1 (KSt2 f env x a y b Q)
noncomputable abbrev KPr (f : Fm) (env : Env) (x y : Str) (Q : Flow → Locs → St → Prop) : Value → Locs → St → Prop := fun v l1 X1 => ∃ t a b n, v = .ref t ∧ X1.h t = some (tupOf [a, b].toArray n) ∧ T f (storeName env x a) l1 X1 (KSt f env y b Q)
theorem inSw2 {x y : Str} {Q : Flow → Locs → St → Prop} {t : Addr} {a b : Value} {n : Nat} (ht : X.h t = some (tupOf [a, b].toArray n)) (h : T f (storeName env y b) l X (KSt f env x a Q)) : KSw2 f env x y Q (.ref t) l X := ⟨t, a, b, n, rfl, ht, h⟩
theorem inSw3 {x y z : Str} {Q : Flow → Locs → St → Prop} {t : Addr} {a b c : Value} {n : Nat} (ht : X.h t = some (tupOf [a, b, c].toArray n)) (h : T f (storeName env z c) l X (KSt2 f env x a y b Q)) : KSw3 f env x y z Q (.ref t) l X := ⟨t, a, b, c, n, rfl, ht, h⟩
theorem inPr {x y : Str} {Q : Flow → Locs → St → Prop} {t : Addr} {a b : Value} {n : Nat} (ht : X.h t = some (tupOf [a, b].toArray n)) (h : T f (storeName env x a) l X (KSt f env y b Q)) : KPr f env x y Q (.ref t) l X := ⟨t, a, b, n, rfl, ht, h⟩
theorem T_assign_swap2 (O : Ok f k) {x y : Str} {elts : List Expr} {kk : Nat} {tpos pos : Pos} {value : Expr} {Q : Flow → Locs → St → Prop}
    (h : T f (eval value env) l X (KSw2 f env x y Q))
    (hs : swapsWithSole [.Tuple elts kk tpos] value pos.line env = pure false) (hw : swappedStores [.Tuple elts kk tpos] value env = pure (some [x, y])) : T f (exec (.Assign [.Tuple elts kk tpos] value pos) env) l X Q := fun s hs' => by
  refine Assign_Tuple_swapped (names := [x, y]) (h.use hs' fun v l1 X1 s1 S1 q => ?_) hs hw
  refine ea_EEEEAA (q) ?_
  try clear q
  intro t a b n zq5 ht q
  obtain rfl := zq5
  refine ea_AA (S1.newAddr) ?_
  intro n1 n2 n3
  refine unpackItems_tuple (items := [a, b].toArray) O.hh (isTup_at S1 ht) fun h' he => ?_
  have S2 := S1.lost (tk := s1.toks) n1 n2 n3 he
  refine wpAny_bind (wpAny_holding (bindName_ (q.use S2 fun _ l2 X2 s2 S3 q2 => ?_)))
  exact wpAny_bind (wpAny_holding (bindName_ (q2.use S3 fun _ l3 X3 s3 S4 q3 => wpAny_pure ⟨l3, X3, S4, q3⟩)))
theorem T_assign_swap3 (O : Ok f k) {x y z : Str} {elts : List Expr} {kk : Nat} {tpos pos : Pos} {value : Expr} {Q : Flow → Locs → St → Prop}
    (h : T f (eval value env) l X (KSw3 f env x y z Q))
    (hs : swapsWithSole [.Tuple elts kk tpos] value pos.line env = pure false) (hw : swappedStores [.Tuple elts kk tpos] value env = pure (some [x, y, z])) : T f (exec (.Assign [.Tuple elts kk tpos] value pos) env) l X Q := fun s hs' => by
  refine Assign_Tuple_swapped (names := [x, y, z]) (h.use hs' fun v l1 X1 s1 S1 q => ?_) hs hw
  refine ea_EEEEEAA (q) ?_
  try clear q
  intro t a b c n zq6 ht q
  obtain rfl := zq6
  refine ea_AA (S1.newAddr) ?_
  intro n1 n2 n3
  refine unpackItems_tuple (items := [a, b, c].toArray) O.hh (isTup_at S1 ht) fun h' he => ?_
  have S2 := S1.lost (tk := s1.toks) n1 n2 n3 he
  refine wpAny_bind (wpAny_holding (bindName_ (q.use S2 fun _ l2 X2 s2 S3 q2 => ?_)))
  refine wpAny_bind (wpAny_holding (bindName_ (q2.use S3 fun _ l3 X3 s3 S4 q3 => ?_)))
  exact wpAny_bind (wpAny_holding (bindName_ (q3.use S4 fun _ l4 X4 s4 S5 q4 => wpAny_pure ⟨l4, X4, S5, q4⟩)))
theorem T_assign_pair (O : Ok f k) {x y : Str} {px py : Pos} {kk : Nat} {tpos pos : Pos} {value : Expr} {Q : Flow → Locs → St → Prop}
    (h : T f (eval value env) l X (KPr f env x y Q))
    (hs : swapsWithSole [.Tuple [.Name x px, .Name y py] kk tpos] value pos.line env = pure false) (hw : swappedStores [.Tuple [.Name x px, .Name y py] kk tpos] value env = pure none) : T f (exec (.Assign [.Tuple [.Name x px, .Name y py] kk tpos] value pos) env) l X Q := fun s hs' => by
  refine Assign_Tuple (h.use hs' fun v l1 X1 s1 S1 q => ?_) hs hw
  refine ea_EEEEAA (q) ?_
  try clear q
  intro t a b n zq7 ht q
  obtain rfl := zq7
  refine ea_AA (S1.newAddr) ?_
  intro n1 n2 n3
  refine assign_Tuple_tuple (items := [a, b].toArray) O.hh (isTup_at S1 ht) rfl rfl fun h' he => ?_
  have S2 := S1.lost (tk := s1.toks) n1 n2 n3 he
  refine wpAny_bind (wpAny_holding (wpAny_assign_Name (q.use S2 fun _ l2 X2 s2 S3 q2 => ?_)))
  exact wpAny_bind (wpAny_holding (wpAny_assign_Name (q2.use S3 fun _ l3 X3 s3 S4 q3 => wpAny_pure ⟨l3, X3, S4, q3⟩)))
theorem T_hp {α : Type} {t : Sem α} {Q : α → Locs → St → Prop} (P : Hp → Prop) (hP : P X.h) (h : ∀ H, P H → T f t l ⟨H, X.g⟩ Q) : T f t l X Q := h X.h hP
theorem TFor_hp {x : Str} {px : Pos} {body : List Stmt} {v : Value} {Q : Flow → Locs → St → Prop} (P : Hp → Prop) (hP : P X.h) (h : ∀ H, P H → TFor f env x px body v l ⟨H, X.g⟩ Q) : TFor f env x px body v l X Q := h X.h hP
theorem CompSrc_hp {elt : Expr} {x : Str} {ifs : List Expr} {scope : Scope} {cl : List (Str × Addr)} {v : Value} {Q : List Value → St → Prop} (P : Hp → Prop) (hP : P X.h) (h : ∀ H, P H → CompSrc f k env elt x ifs scope cl v l ⟨H, X.g⟩ Q) : CompSrc f k env elt x ifs scope cl v l X Q := h X.h hP
noncomputable abbrev KCut (R : Locs → St → Prop) : Flow → Locs → St → Prop := fun fl l' X' => fl = .next ∧ R l' X'
theorem inCut {R : Locs → St → Prop} (h : R l X) : KCut R .next l X := ⟨rfl, h⟩
theorem T_cut {st : Stmt} {rest : List Stmt} {Q : Flow → Locs → St → Prop} (R : Locs → St → Prop) (h : T f (exec st env) l X (KCut R)) (k : ∀ l' X', R l' X' → T f (execs rest env) l' X' Q) : T f (exec st env) l X (Then f rest env Q) :=
  T_mono h fun fl l' X' z => by rw [z.1]; exact k l' X' z.2
noncomputable def CellIs (H : Hp) (c : Addr) (v : Option Value) : Prop := ∃ o, H c = some o ∧ o.data = .cell v
theorem CellIs.le {H H' : Hp} {c : Addr} {v : Option Value} (h : CellIs H c v) (k : Le H H') : CellIs H' c v := h.imp fun _ z => ⟨k _ _ z.1, z.2⟩
theorem CellIs.other {H : Hp} {c d : Addr} {v : Option Value} {o : Obj} (h : CellIs H c v) (k : c ≠ d) : CellIs (upd H d o) c v := h.imp fun _ z => ⟨upd_other k z.1, z.2⟩
theorem CellIs.new {H : Hp} {c : Addr} {v : Option Value} {o : Obj} (h : o.data = .cell v) : CellIs (upd H c o) c v := ⟨o, upd_self _ _ _, h⟩
theorem T_storeCell' {x : Str} {v : Value} {Q : Unit → Locs → St → Prop} {c : Addr} {v₀ : Option Value} (hc : env.cells.lookup x = some c) (ho : CellIs X.h c v₀) (h : ∀ o' : Obj, o'.data = .cell (some v) → Q () l ⟨upd X.h c o', X.g⟩)
    (hk : env.scope.kind = .function) (hx : env.kindOf x = some .cell) : T f (storeName env x v) l X Q := ho.elim fun _ z => T_storeCell hc z.1 z.2 h hk hx
theorem CellIs.old {H : Hp} {c d : Addr} {v : Option Value} {o : Obj} (k : H d = none) (h : CellIs H c v) : CellIs (upd H d o) c v := h.imp fun _ z => ⟨upd_old k z.1, z.2⟩
theorem CellIs.at {H : Hp} {c d : Addr} {v : Option Value} {o : Obj} (k : c ≠ d) (h : CellIs H c v) : CellIs (upd H d o) c v := h.other k
theorem T_cell2 {x : Str} {pos : Pos} {Q : Value → Locs → St → Prop} {v : Value} {c : Addr} (hc : env.cells.lookup x = some c) (ho : CellIs X.h c (some v)) (h : Q v l X)
    (hk : env.scope.kind = .function) (hx : env.kindOf x = some .cell) (hd : (x == ("__debug__" : Str)) = false) : T f (eval (.Name x pos) env) l X Q := ho.elim fun _ z => T_cell hc z.1 z.2 h hk hx hd
theorem T_free2 {x : Str} {pos : Pos} {Q : Value → Locs → St → Prop} {v : Value} {c : Addr} (hc : env.cells.lookup x = some c) (ho : CellIs X.h c (some v)) (h : Q v l X)
    (hk : env.scope.kind = .function) (hx : env.kindOf x = some .free) (hn : (x == ("__classdict__" : Str)) = false) (hd : (x == ("__debug__" : Str)) = false) : T f (eval (.Name x pos) env) l X Q := ho.elim fun _ z => T_free hc z.1 z.2 h hk hx hn hd
end
end
set_option compiler.extract_closed false
theorem ne_of_some' {H : Hp} {a b : Addr} {o : Obj} (h : H a = some o) (n : H b = none) : b ≠ a := (ne_of_some h n).symm
section
variable {f : Fm} {l : Locs} {X : St} {env : Env}
theorem T_sliceN {x : Str} {px : Pos} {lower upper : Option Expr} {p pos : Pos} {Q : Value → Locs → St → Prop}
    (h : T f (eval (.Name x px) env) l X (KSl f env lower upper Q))
    (ht : ∀ o r, letTemporaryGo (.Name x px) o r = pure ()) : T f (eval (.Subscript (.Name x px) (.Slice lower upper none p) pos) env) l X Q := T_slice h ht
theorem T_strSliceC {fn : Expr} {as : List Expr} {ks : List Keyword} {px : Pos} {lower upper : Option Expr} {p pos : Pos} {Q : Value → Locs → St → Prop}
    (h : T f (eval (.Call fn as ks px) env) l X (KSs f env lower upper Q))
    (ht : ∀ o r, letTemporaryGo (.Call fn as ks px) o r = pure ()) : T f (eval (.Subscript (.Call fn as ks px) (.Slice lower upper none p) pos) env) l X Q := T_strSlice h ht
end
/-- the walk's lines, made from short words: a rule's name, then its places: «x» stays open, «x:k» is closed by the line k, «=» by assumption, «_» is found, «@n» is the constant n, «!» an intro behind -/
abbrev Tc := Lean.MacroM (Lean.TSyntax `tactic)
abbrev Tm := Lean.MacroM (Lean.TSyntax `term)
def holeT (w : String) : Lean.MacroM (Lean.TSyntax `ident) := return Lean.mkIdent (← Lean.Macro.addMacroScope w.toName)
def atomT (w : String) : Tm := do
  if w == "_" then `(_)
  else if w == "?_" then `(?_)
  else if w == "=" then `((by assumption))
  else if w.startsWith "@" then return Lean.mkIdent (w.drop 1).toString.toName
  else if w.startsWith "." then `($(Lean.mkIdent ((`PySem.Expr).str (w.drop 1).toString)))
  else if w.length < 4 then `(?$(← holeT w))
  else return Lean.mkIdent ((`Mine) ++ w.toName)
def parseT : Nat → List String → Lean.MacroM (Array (Lean.TSyntax `term) × List String)
  | 0, ts => return (#[], ts)
  | _, [] => return (#[], [])
  | _, ")" :: ts => return (#[], ts)
  | n + 1, "(" :: ts => do
    let (a, ts) ← parseT n ts
    let (b, ts) ← parseT n ts
    return (#[Lean.Syntax.mkApp (a.getD 0 ⟨.missing⟩) (a.extract 1 a.size)] ++ b, ts)
  | n + 1, w :: ts => do
    let a ← atomT ((w.splitOn ":").headD "")
    let (b, ts) ← parseT n ts
    return (#[a] ++ b, ts)
def appT (ws : List String) : Tm := do
  let (a, _) ← parseT 100 ws
  return if a.size == 1 then a.getD 0 ⟨.missing⟩ else Lean.Syntax.mkApp (a.getD 0 ⟨.missing⟩) (a.extract 1 a.size)
def seqT : List Tc → Tc
  | [] => `(tactic| skip)
  | [a] => a
  | a :: r => do `(tactic| ($(← a):tactic; $(← seqT r):tactic))
def firstT : List Tc → Tc
  | [] => `(tactic| fail)
  | [a] => a
  | a :: r => do `(tactic| first | $(← a):tactic | $(← firstT r):tactic)
def repT (t : Tc) : Tc := do `(tactic| repeat $(← t):tactic)
def redT (t : Tc) : Tc := do `(tactic| with_reducible $(← t):tactic)
def exT (s : String) : Tc := do `(tactic| exact $(← appT (s.splitOn " ")))
/-- a rule, its sides closed by «side» -/
def ruleS (side : String → Tc) (red : Bool) (s : String) : Tc := do
  let ws := s.splitOn " "
  let t ← appT (ws.filter (· != "!"))
  let main : Tc := `(tactic| refine' $t)
  let main := if red then redT main else main
  let main : Tc := if s.startsWith "T_Method " then do `(tactic| ($(← main):tactic; rotate_left)) else main
  let sides := ws.filterMap fun w => match w.splitOn ":" with
    | [x, k] => some (do `(tactic| (case $(← holeT x):ident => $(← side k):tactic)))
    | _ => none
  seqT (main :: sides ++ if ws.contains "!" then [`(tactic| intro _)] else [])
def asmT : Tc := `(tactic| assumption)
def tNe : Tc := firstT [asmT, exT "@Ne.symm =", `(tactic| (simp; done)), exT "ne_of_some = =", exT "ne_of_some' = ="]
def side0 (k : String) : Tc := match k with
  | "n" => tNe
  | _ => firstT [exT "@rfl", asmT]
def focT (s : String) (side : Tc) : Tc := do `(tactic| (refine $(← appT [s, "?_", "?_"]); focus ($(← side):tactic; done)))
def tNone : Tc := repT (firstT [asmT, focT "upd_new" tNe])
def tH : Tc := repT (firstT [asmT, exT "upd_self _ _ _", focT "upd_old" tNone, focT "upd_other" tNe])
def tCell : Tc := repT (firstT [asmT, focT "CellIs.old" tNone, focT "CellIs.at" tNe])
def tSub : Tc := repT (firstT [exT "Sub.nil _", focT "Sub.cons" (side0 "r")])
def omT : Tc := `(tactic| omega)
def lenT : Tc := `(tactic| simp only [List.length_append, List.length_cons, List.length_nil, sizeLine_eq])
def tSz : Tc := firstT [asmT, seqT [lenT, omT], seqT [`(tactic| rw [sizeLine_eq]), omT]]
def tIx : Tc := firstT [`(tactic| decide), omT, seqT [lenT, omT]]
def alT (p s a : String) : Tc := firstT ((s.splitOn " ").map fun w => exT (p ++ w ++ a))
def sideT (k : String) : Tc := match k with
  | "r" => exT "@rfl"
  | "d" => `(tactic| decide)
  | "u" => `(tactic| (intros; with_unfolding_all rfl))
  | "a" => asmT
  | "ra" => side0 "r"
  | "o" => omT
  | "k" => `(tactic| k_is)
  | "K" => `(tactic| decide +kernel)
  | "h" => tH
  | "c" => tCell
  | "i" => tIx
  | "z" => tSz
  | "g" => alT "g_" "take Tree node built plain joined binary same tape collapse cnf un" " _"
  | "n" => alT "n_" "len range isinstance str int list tuple min max abs all any zip reversed" " _"
  | "b" => alT "b_" "len range isinstance str int list tuple min max abs all any zip reversed" ""
  | "B" => `(tactic| first | exact fun s _ => BindsTo.of_eq rfl | exact fun s X => binds_K X rfl (by k_is) rfl rfl rfl)
  | "L" => exT "@PyProof.Rows.locs @rfl"
  | k => alT (k ++ "_") "label set_label leaves subtrees" " _"
def ruleT (s : String) (red : Bool := true) : Tc := ruleS sideT red s
def rulesT (l : List String) : Tc := firstT (l.map ruleT)
def grpT (s : String) (t : Tc) : Tc := do seqT [redT (do `(tactic| show T _ $(← appT (s.splitOn " ")) _ _ _)), t]
def grpR (s : String) (l : List String) : Tc := grpT s (rulesT l)
def tName : Tc := grpR "@PySem.eval ( .Name _ _ ) _" [
  "T_name hv:ra h hk:r hx:r hL:r hd:d", "T_cell2 hc:r ho:c h hk:r hx:r hd:d", "T_free2 hc:r ho:c h hk:r hx:r hn:d hd:d", "T_cell hc:r ho:h hv:a h hk:r hx:r hd:d",
  "T_free hc:r ho:h hv:a h hk:r hx:r hn:d hd:d", "T_global = e:g h hk:r hx:r hg:r hd:d", "T_builtin = e:n hv:b h hn:d hk:r hx:r hg:r hb:r hd:d"]
def tEval : Tc := grpT "@PySem.eval _ _" (firstT [tName,
  rulesT ["T_int h !", "T_str h !", "T_none h", "T_bool h", "T_binop h", "T_unop h", "T_ifexp h", "T_cmp h hm:u", "T_and2 h", "T_or2 h", "T_list h", "T_tuple h", "T_Method h he:r", "T_Call h he:r", "T_attr h he:u"],
  rulesT ["T_sliceN h ht:u", "T_strSliceC h ht:u", "T_listcomp = hcs:r hcl:d hki:r hns:d hx:r h hs:u", "T_subscript h"]])
def tTest : Tc := firstT [grpR "@PySem.isTrue _ _ _" ["T_t_cmp h hm:u", "T_t_not h", "T_t_bool h", "T_t_value h he:r"],
  ruleT "T_truthy_bool h",
  grpR "@PySem.allTrue _ _ _" ["T_and_nil h", "T_or_nil h", "T_and_cons h", "T_or_cons h"],
  rulesT ["T_tests_nil h", "T_tests_one h", "T_part_none h", "T_part_some h"]]
def tArgs : Tc := firstT [grpR "@PySem.spliced _" ["T_items_nil h", "T_items_cons h he:r"],
  grpR "@PySem.callWith _ _ _ _ _" ["T_B0 h he:r hp:r", "T_B1 h he:r hp:r", "T_T0 h he:r hp:r", "T_B01 h", "T_K0 = hk:k h he:r hp:r", "T_K1 = hk:k h he:r hp:r", "T_K01 = hk:k h"]]
def tOp : Tc := firstT [grpR "@PySem.binaryOp _ _ _" ["T_add h !", "T_minus h !"],
  grpR "@PySem.compareOp _ _ _" ["T_lt h", "T_gt h", "T_ge h", "T_eq h", "T_ne h", "T_isNone h", "T_eqStr h", "T_neStr h"],
  grpR "@PySem.unaryOp _ _" ["T_neg h !", "T_not h"],
  ruleT "T_storeName h hk:r hx:r hL:r",
  grpR "@PySem.getMethod _ _ _" ["T_listMethod hD:h @PySem.F.slot_list_append @PySem.F.type_list_append h", "T_listMethod hD:h @PySem.F.slot_list_pop @PySem.F.type_list_pop h",
    "T_listMethod hD:h @PySem.F.slot_list_extend @PySem.F.type_list_extend h", "T_strMethod @PySem.F.slot_str_join @PySem.F.type_str_join h", "T_strMethod @PySem.F.slot_str_find @PySem.F.type_str_find h",
    "T_treeMethod = = hg:p hf:m ht:f n1:K n2:K hq"],
  grpR "@PySem.getAttr _ _ _" ["T_children = = h", "T_label = = h !"],
  grpR "@PyProof.Rows.subscriptTail _ _ _ _" ["T_getItem hD:h h0:i h1:i hv:ra h hsl:u", "T_getTup hD:h h0:i h1:i hz:i hv:ra h hsl:u"],
  ruleT "T_setItem hD:h h0:i h1:i hz:z h !"]
def tExec : Tc := grpR "@PySem.exec _ _" ["T_return h", "T_expr h hi:r hs:r", "T_assign_name h hs:r", "T_assign_attr h hs:r", "T_assign_sub h hs:r", "T_for h hs:u"]
def tCall : Tc := grpT "@PySem.call _ _" (firstT [
  rulesT ["T_isi_TT = = h", "T_isi_Ts = = h", "T_isi_sT = h", "T_isi_ss = h", "T_isi_ii = h", "T_isi_ls = hh:h hq", "T_isi_ti = hh:h hq"],
  rulesT ["T_append hD:h hz:z h !", "T_len hD:h hz:z h !", "T_abs h !", "T_find h !"]])
def tIf : Tc := do firstT [ruleS (fun _ => exT "@rfl") true "ite_t hc:r h", ruleS (fun _ => exT "@Bool.false_ne_true") true "ite_f hc:r h"]
def t1 : Tc := firstT [tEval, tArgs, tTest, tOp, rulesT ["Then_next h", "T_execs_cons h", "T_execs_nil h", "Then_ret h"], tExec, tCall, tIf]
def tEnter : String := " = hk:o ho:k hcd:k hb:B hl:L hco:r hg:r hkf:r hce:d h"
local macro_rules | `(tactic| walk_at "m:h") => tH
local macro_rules | `(tactic| walk_at "m:sub") => tSub
local macro_rules | `(tactic| walk_at "m:1") => t1
local macro_rules | `(tactic| walk_at "m:go") => `(tactic| repeat walk_at "m:1")
local macro_rules | `(tactic| walk_at "m:enter") => do `(tactic| (refine T_ofC ?_; $(← ruleT ("C_callL" ++ tEnter) false):tactic))
local macro_rules | `(tactic| walk_at "m:enterC") => ruleT ("C_callL" ++ tEnter) false

-- F1
section
noncomputable def IntsV (cs : List Value) : Prop := ∀ v ∈ cs, ∃ i t, v = Value.int i t
section
variable {f : Fm} {l : Locs} {X : St} {env : Env} {k : Nat}
theorem fmod_lt {a b : Int} (hb : 0 < b) : 0 ≤ a.fmod b ∧ a.fmod b < b := ⟨Int.fmod_nonneg_of_pos a hb, Int.fmod_lt_of_pos a hb⟩
theorem take_ok (O : Ok f k) (hk : k < 300) {a c n nc : Nat} {tk mt : Tok} {at' most : Int} {cs : List Value} {Q : Value → Locs → St → Prop}
    (hac : c ≠ a) (ha : X.h a = some (listOf [Value.ref c, Value.int at' tk].toArray n)) (hc : X.h c = some (listOf cs.toArray nc)) (hi : IntsV cs) (hl : 3 ≤ cs.length) (hl2 : cs.length ≤ 30)
    (h0 : 0 ≤ at') (h1 : at' < 100000) (hm : 2 ≤ most) (hm2 : most ≤ 4)
    (hq : ∀ r t t' n', 0 ≤ r → r < most → Q (.int r t) l ⟨upd X.h a (listOf [Value.ref c, Value.int (at' + 1) t'].toArray n'), X.g⟩) :
    T f (call (.ref 317) [.ref a, .int most mt]) l X Q := by
  walk_at "m:enter"
  intro f' O'
  refine T_sub (l' := [(Str.ofString "tape", .ref a), (Str.ofString "most", .int most mt)]) (by walk_at "m:sub") ?_
  walk_at "m:go"
  refine T_mod (by lia) ?_; intro t6
  have hb := fmod_lt (a := at') (b := (cs.length : Int)) (by lia)
  have hlt : (at'.fmod cs.length).toNat < cs.length := by omega
  refine ea_EE (hi cs[(at'.fmod cs.length).toNat] (List.getElem_mem hlt)) ?_
  intro i ti hi'
  refine T_getItem (v := .int i ti) (by walk_at "m:h") hb.1 (by omega) (by rw [List.getElem?_eq_getElem hlt, hi']) ?_ (by with_unfolding_all rfl)
  walk_at "m:go"
  refine T_fdiv (by omega) (PyProof.noPylong_small (by exact bk9 (by assumption) rfl)) ?_; intro t7
  refine T_mul (IntMulOk.of_left (by decide)) ?_; intro t8
  walk_at "m:go"
  refine T_mod (by lia) ?_; intro t9
  walk_at "m:go"
  have hb2 := fmod_lt (a := i + 31 * at'.fdiv cs.length) (b := most) (by lia)
  exact hq _ _ _ _ hb2.1 hb2.2
end
end
-- P1
section
inductive Tr where
  | leaf (c : Str)
  | node (lab : Str) (cs : List Tr)
theorem TrEl {P : Tr → Prop} (t : Tr) (leaf : ∀ c, P (.leaf c)) (node : ∀ lab cs, P (.node lab cs)) : P t := by cases t; exact leaf _; exact node _ _
mutual
noncomputable def ht : Tr → Nat
  | .leaf _ => 0
  | .node _ cs => hts cs + 1
noncomputable def hts : List Tr → Nat
  | [] => 0
  | c :: cs => max (ht c) (hts cs)
end
theorem Tr.ind {P : Tr → Prop} {R : List Tr → Prop} (leaf : ∀ c, P (.leaf c)) (node : ∀ lab cs, R cs → P (.node lab cs)) (nil : R []) (cons : ∀ c cs, P c → R cs → R (c :: cs)) : (∀ t, P t) ∧ ∀ ts, R ts :=
  ⟨fun t => Tr.rec (motive_1 := P) (motive_2 := R) leaf node nil cons t, fun ts => Tr.rec_1 (motive_1 := P) (motive_2 := R) leaf node nil cons ts⟩
-- nested lists
mutual
noncomputable def PL (H : Hp) : Tr → Value → Prop
  | .leaf c, v => ∃ t, v = .str c t
  | .node lab cs, v => ∃ a b t n m vs, v = .ref a ∧ H a = some (listOf [Value.str lab t, Value.ref b].toArray n) ∧ H b = some (listOf vs.toArray m) ∧ PLs H cs vs
noncomputable def PLs (H : Hp) : List Tr → List Value → Prop
  | [], vs => vs = []
  | c :: cs, vs => ∃ v ws, vs = v :: ws ∧ PL H c v ∧ PLs H cs ws
end
theorem PL_e1 {H : Hp} {c} {v} : PL H (.leaf c) v = (∃ t, v = .str c t) := rfl
theorem PL_e2 {H : Hp} {lab} {cs} {v} : PL H (.node lab cs) v = (∃ a b t n m vs, v = .ref a ∧ H a = some (listOf [Value.str lab t, Value.ref b].toArray n) ∧ H b = some (listOf vs.toArray m) ∧ PLs H cs vs) := rfl
theorem PLs_e1 {H : Hp} {vs} : PLs H [] vs = (vs = []) := rfl
theorem PLs_e2 {H : Hp} {c} {cs} {vs} : PLs H (c :: cs) vs = (∃ v ws, vs = v :: ws ∧ PL H c v ∧ PLs H cs ws) := rfl
theorem PL_le {H H' : Hp} (k : Le H H') : (∀ t v, PL H t v → PL H' t v) ∧ ∀ ts vs, PLs H ts vs → PLs H' ts vs := by
  refine Tr.ind (P := fun t => ∀ v, PL H t v → PL H' t v) (R := fun ts => ∀ vs, PLs H ts vs → PLs H' ts vs) ?_ ?_ ?_ ?_
  · intro c v h; simpa only [PL_e1, PL_e2] using h
  · intro lab cs ih v h
    simp only [PL_e1, PL_e2] at h ⊢
    refine ea_EEEEEEAAA (h) ?_
    try clear h
    intro a b t n m vs zq324 h1 h2 h3
    obtain rfl := zq324
    exact ia_EEEEEEAAA a b t n m vs rfl (k _ _ h1) (k _ _ h2) (ih _ h3)
  · intro vs h; simpa only [PLs_e1, PLs_e2] using h
  · intro c cs i1 i2 vs h
    simp only [PLs_e1, PLs_e2] at h ⊢
    refine ea_EEAA (h) ?_
    try clear h
    intro v ws zq325 h1 h2
    obtain rfl := zq325
    exact ⟨v, ws, rfl, i1 _ h1, i2 _ h2⟩
theorem PL.le {H H' : Hp} {t : Tr} {v : Value} (h : PL H t v) (k : Le H H') : PL H' t v := (PL_le k).1 _ _ h
theorem PLs.le {H H' : Hp} {t : List Tr} {v : List Value} (h : PLs H t v) (k : Le H H') : PLs H' t v := (PL_le k).2 _ _ h
theorem PLs.length {H : Hp} : ∀ {ts : List Tr} {vs : List Value}, PLs H ts vs → vs.length = ts.length
  | [], vs, h => by simp only [PLs_e1, PLs_e2] at h; rw [h]; rfl
  | c :: cs, vs, h => by
    simp only [PLs_e1, PLs_e2] at h
    refine ea_EEAA (h) ?_
    try clear h
    intro v ws zq326 _ h2
    obtain rfl := zq326
    simp [PLs.length h2]
theorem PLs.get {H : Hp} : ∀ {ts : List Tr} {vs : List Value} {i : Nat} {v : Value}, PLs H ts vs → vs[i]? = some v → ∃ t, ts[i]? = some t ∧ PL H t v
  | [], vs, i, v, h, e => by simp only [PLs_e1, PLs_e2] at h; subst h; simp at e
  | c :: cs, vs, i, v, h, e => by
    simp only [PLs_e1, PLs_e2] at h
    refine ea_EEAA (h) ?_
    try clear h
    intro u ws zq327 h1 h2
    obtain rfl := zq327
    induction i using NatEl with
    | zero => simp at e; subst e; exact ia_EA c rfl h1
    | succ i => simp at e ⊢; exact PLs.get h2 e
theorem PLs.get' {H : Hp} {ts : List Tr} {vs : List Value} {i : Nat} {t : Tr} (h : PLs H ts vs) (e : ts[i]? = some t) : ∃ v, vs[i]? = some v ∧ PL H t v := by
  have hl : i < vs.length := by rw [h.length]; exact (List.getElem?_eq_some_iff.mp e).1
  refine ea_EA (h.get (v := vs[i]) (List.getElem?_eq_getElem hl)) ?_
  intro u h1 h2
  rw [e] at h1; cases h1
  exact ⟨_, List.getElem?_eq_getElem hl, h2⟩
theorem PLs.snoc {H : Hp} {t : Tr} {v : Value} (hv : PL H t v) : ∀ {ts : List Tr} {vs : List Value}, PLs H ts vs → PLs H (ts ++ [t]) (vs ++ [v])
  | [], vs, h => by simp only [PLs_e1, PLs_e2] at h; subst h; simp only [List.nil_append, PLs_e1, PLs_e2]; exact ⟨v, [], rfl, hv, rfl⟩
  | c :: cs, vs, h => by
    simp only [PLs_e1, PLs_e2] at h
    refine ea_EEAA (h) ?_
    try clear h
    intro u ws zq328 h1 h2
    obtain rfl := zq328
    simp only [List.cons_append, PLs_e1, PLs_e2]
    exact ia_EEAA u _ rfl h1 (PLs.snoc hv h2)
/-- the part of a heap outside S -/
noncomputable def wo (H : Hp) (S : Addr → Prop) : Hp := fun a => open Classical in if S a then none else H a
theorem wo_some {H : Hp} {S : Addr → Prop} {a : Addr} {o : Obj} : wo H S a = some o ↔ H a = some o ∧ ¬ S a := by
  unfold wo; split
  · rename_i h; simp [h]
  · rename_i h; simp [h]
theorem wo_le {H : Hp} {S : Addr → Prop} : Le (wo H S) H := fun _ _ h => (wo_some.mp h).1
theorem wo_mono {H H' : Hp} {S S' : Addr → Prop} (h : ∀ a o, H a = some o → ¬ S a → H' a = some o ∧ ¬ S' a) : Le (wo H S) (wo H' S') := fun a o e => wo_some.mpr (h a o (wo_some.mp e).1 (wo_some.mp e).2)
end
-- F2
section
section
variable {f : Fm} {l : Locs} {X : St} {env : Env} {k : Nat}
theorem IntsV.append {a b : List Value} (h : IntsV a) (k : IntsV b) : IntsV (a ++ b) := fun v hv => (List.mem_append.mp hv).elim (h v) (k v)
theorem tape_ok (O : Ok f k) (hk : k < 300) {sc : Addr} {cs : List Value} {n : Nat} {Q : Value → Locs → St → Prop} (hs : X.h sc = some (listOf cs.toArray n)) (hi : IntsV cs) (hlen : cs.length ≤ 63)
    (hq : ∀ a c cs' n nc t H', Le X.h H' → X.h a = none → X.h c = none → c ≠ a → H' a = some (listOf [Value.ref c, Value.int 0 t].toArray n) → H' c = some (listOf cs'.toArray nc) → IntsV cs' → 3 ≤ cs'.length → cs'.length ≤ 30 → Q (.ref a) l ⟨H', X.g⟩) :
    T f (call (.ref 310) [.ref sc]) l X Q := by
  walk_at "m:enter"
  intro f' O'
  refine T_sub (l' := [(Str.ofString "script", .ref sc)]) (by walk_at "m:sub") ?_
  walk_at "m:go"
  have hz : (kms_pick cs none (some 24)).length ≤ 24 := by
    simp only [kms_pick, kms_lo, kms_hi, List.length_take, List.length_drop]; split <;> lia
  have hsub : IntsV (kms_pick cs none (some 24)) := fun v hv => hi v (List.mem_of_mem_drop (List.mem_of_mem_take hv))
  refine ⟨sc, cs, n, none, some 24, rfl, hs, by rw [sizeLine_eq]; exact bk6 (by assumption) rfl, .none, .int _ _, fun a ha => ?_⟩
  refine CompSrc_list O' (vs := kms_pick cs none (some 24)) (fun i ys X' => IntsV ys ∧ ys.length = i ∧ X' = ⟨upd X.h a (listOf (kms_pick cs none (some 24)).toArray 0), X.g⟩) (by rw [sizeLine_eq]; exact bk6 (by assumption) rfl) ?_ ⟨(fun v hv => nomatch hv), rfl, rfl⟩ ?_ ?_
  · rintro i ys _ ⟨_, h2, rfl⟩; exact ⟨⟨0, upd_self _ _ _⟩, Nat.le_of_eq h2⟩
  · intro hb' C i v ys _ O1 hi1 hv zz9
    refine ea_AA (zz9) ?_
    try clear zz9
    intro h1 h2 zq264
    obtain rfl := zq264
    refine ea_EE (hsub v (List.mem_of_getElem? hv)) ?_
    intro z tz zq265
    obtain rfl := zq265
    walk_at "m:go"
    refine T_mod (by lia) ?_; intro t6
    exact ⟨h1.append (by rintro v hv; rw [List.mem_singleton.mp hv]; exact ⟨_, _, rfl⟩), by simp [h2], rfl⟩
  · intro ys _ zz2 D nD hD
    refine ea_AA (zz2) ?_
    try clear zz2
    intro h1 h2 zq266
    obtain rfl := zq266
    walk_at "m:go"
    refine inL rfl fun E hE => ?_
    obtain ⟨hDa, hD'⟩ := upd_none hD
    obtain ⟨hED, hE'⟩ := upd_none hE
    obtain ⟨hEa, hE''⟩ := upd_none hE'
    refine T_listAdd (upd_other (Ne.symm hED) (upd_self _ _ _)) (upd_self _ _ _) (by rw [sizeLine_eq]; simp; lia) fun G hG => ?_
    walk_at "m:go"
    refine inL rfl fun Z hZ => ?_
    walk_at "m:go"
    obtain ⟨hZG, hZ1⟩ := upd_none hZ
    obtain ⟨hZE, hZ2⟩ := upd_none hZ1
    obtain ⟨hZD, hZ3⟩ := upd_none hZ2
    obtain ⟨hZa, hZ4⟩ := upd_none hZ3
    obtain ⟨hGE, hG1⟩ := upd_none hG
    obtain ⟨hGD, hG2⟩ := upd_none hG1
    obtain ⟨hGa, hG3⟩ := upd_none hG2
    refine hq Z G (ys ++ _) _ _ _ _ ?_ hZ4 hG3 (Ne.symm hZG) (upd_self _ _ _) (upd_other (Ne.symm hZG) (upd_self _ _ _)) (h1.append ?_) (by simp) (by simp; lia)
    · exact ((((Le.upd ha).trans (Le.upd hD)).trans (Le.upd hE)).trans (Le.upd hG)).trans (Le.upd hZ)
    · intro v hv
      simp only [List.mem_cons, List.not_mem_nil, or_false] at hv
      rcases hv with rfl | rfl | rfl <;> exact ⟨_, _, rfl⟩
end
end
-- P2
section
/-- all but what lies in S stands -/
noncomputable def Bt (S : Addr → Prop) (H H' : Hp) : Prop := ∀ b o, H b = some o → ¬ S b → H' b = some o
theorem Bt.refl {S : Addr → Prop} (H : Hp) : Bt S H H := fun _ _ h _ => h
theorem Bt.trans {S S' S'' : Addr → Prop} {H H' H'' : Hp} (h : Bt S H H') (k : Bt S' H' H'') (e1 : ∀ b o, H b = some o → S b → S'' b) (e2 : ∀ b o, H b = some o → S' b → S'' b) : Bt S'' H H'' := fun b o q n => k b o (h b o q fun r => n (e1 b o q r)) fun r => n (e2 b o q r)
theorem Bt.tr {S : Addr → Prop} {H H' H'' : Hp} (h : Bt S H H') (k : Bt S H' H'') : Bt S H H'' := h.trans k (fun _ _ _ r => r) fun _ _ _ r => r
theorem Bt.upd {S : Addr → Prop} {H H' : Hp} {a : Addr} {o : Obj} (h : Bt S H H') (ha : S a ∨ H a = none) : Bt S H (upd H' a o) := fun b x q n => by
  refine upd_other ?_ (h b x q n)
  rintro rfl
  rcases ha with r | r
  · exact n r
  · rw [r] at q; cases q
theorem Bt.del {S : Addr → Prop} {H H' : Hp} {a : Addr} (h : Bt S H H') (ha : S a ∨ H a = none) : Bt S H (del H' a) := fun b x q n => by
  rw [del_ne]
  · exact h b x q n
  · rintro rfl
    rcases ha with r | r
    · exact n r
    · rw [r] at q; cases q
theorem Bt.mono {S S' : Addr → Prop} {H H' : Hp} (h : Bt S H H') (k : ∀ b, S b → S' b) : Bt S' H H' := fun b x q n => h b x q fun r => n (k b r)
theorem Bt.le {S S' : Addr → Prop} {H H' : Hp} (h : Bt S H H') (k : ∀ b, S b → S' b) : Le (wo H S') (wo H' S') := wo_mono fun a o e n => ⟨h a o e fun r => n (k a r), n⟩
structure Tape (H : Hp) (a c : Addr) (at' : Int) : Prop where
  ne : c ≠ a
  ha : ∃ tk n, H a = some (listOf [Value.ref c, Value.int at' tk].toArray n)
  hc : ∃ cs n, H c = some (listOf cs.toArray n) ∧ IntsV cs ∧ 3 ≤ cs.length ∧ cs.length ≤ 30
  h0 : 0 ≤ at'
theorem Tape.le {H H' : Hp} {a c : Addr} {z : Int} (h : Tape H a c z) (k : Le H H') : Tape H' a c z :=
  ⟨h.ne, h.ha.imp fun _ z => z.imp fun _ e => k _ _ e, h.hc.imp fun _ z => z.imp fun _ z => ⟨k _ _ z.1, z.2⟩, h.h0⟩
theorem Tape.upd {H : Hp} {a c d : Addr} {z : Int} {o : Obj} (h : Tape H a c z) (k1 : a ≠ d) (k2 : c ≠ d) : Tape (upd H d o) a c z :=
  ⟨h.ne, h.ha.imp fun _ z => z.imp fun _ e => upd_other k1 e, h.hc.imp fun _ z => z.imp fun _ z => ⟨upd_other k2 z.1, z.2⟩, h.h0⟩
theorem Tape.in {H : Hp} {a c : Addr} {z : Int} (h : Tape H a c z) : H a ≠ none ∧ H c ≠ none := by
  obtain ⟨_, _, e⟩ := h.ha; obtain ⟨_, _, e', _⟩ := h.hc; rw [e, e']; simp
noncomputable def Room (H : Hp) (r : Addr) : Prop := ∃ i t n, H r = some (listOf [Value.int i t].toArray n)
theorem Room.in {H : Hp} {r : Addr} (h : Room H r) : H r ≠ none := by
  obtain ⟨_, _, _, e⟩ := h; rw [e]; simp
theorem ne_of_in {H : Hp} {a b : Addr} (h : H a ≠ none) (k : H b = none) : a ≠ b := by rintro rfl; exact h k
theorem in_of {H : Hp} {a : Addr} {o : Obj} (h : H a = some o) : H a ≠ none := by rw [h]; simp
theorem Bt.in {S : Addr → Prop} {H H' : Hp} {a : Addr} (h : Bt S H H') (n : ¬ S a) (k : H a ≠ none) : H' a ≠ none := by
  cases e : H a with
  | none => exact absurd e k
  | some o => rw [h a o e n]; simp
theorem Room.upd {H : Hp} {r d : Addr} {o : Obj} (h : Room H r) (k : r ≠ d) : Room (upd H d o) r := by
  obtain ⟨i, t, n, e⟩ := h; exact ⟨i, t, n, upd_other k e⟩
noncomputable def nbp : Nat → Nat
  | 0 => 0
  | d + 1 => 10 + 4 * nbp d
noncomputable def Lb (s : Str) : Prop := s = Str.ofString "S" ∨ s = Str.ofString "N" ∨ s = Str.ofString "V"
noncomputable def Lf (s : Str) : Prop := s = Str.ofString "a" ∨ s = Str.ofString "b" ∨ s = Str.ofString "c"
mutual
noncomputable def Wf : Tr → Prop
  | .leaf c => Lf c
  | .node lab cs => Lb lab ∧ 1 ≤ cs.length ∧ cs.length ≤ 4 ∧ Wfs cs
noncomputable def Wfs : List Tr → Prop
  | [] => True
  | c :: cs => Wf c ∧ Wfs cs
end
theorem Wf_e1 {c} : Wf (.leaf c) = (Lf c) := rfl
theorem Wf_e2 {lab} {cs} : Wf (.node lab cs) = (Lb lab ∧ 1 ≤ cs.length ∧ cs.length ≤ 4 ∧ Wfs cs) := rfl
theorem Wfs_e1 : Wfs [] = (True) := rfl
theorem Wfs_e2 {c} {cs} : Wfs (c :: cs) = (Wf c ∧ Wfs cs) := rfl
theorem Wfs.snoc {t : Tr} (h : Wf t) : ∀ {ts : List Tr}, Wfs ts → Wfs (ts ++ [t])
  | [], _ => by simp only [List.nil_append, Wfs_e1, Wfs_e2]; exact ⟨h, trivial⟩
  | c :: cs, k => by simp only [Wfs_e1, Wfs_e2, List.cons_append] at k ⊢; exact ⟨k.1, Wfs.snoc h k.2⟩
theorem hts_snoc (t : Tr) : ∀ ts : List Tr, hts (ts ++ [t]) = max (hts ts) (ht t)
  | [] => by simp [hts]
  | c :: cs => by simp only [List.cons_append, hts, hts_snoc t cs]; exact (Nat.max_assoc _ _ _).symm
theorem at_abc {r : Int} (h0 : 0 ≤ r) (h1 : r < 3) : ∃ c, (Str.ofString "abc").cps[r.toNat]? = some c ∧ Lf ⟨#[c]⟩ := by
  rcases (by lia : r = 0 ∨ r = 1 ∨ r = 2) with rfl | rfl | rfl
  · exact ia_EA 97 (by decide +kernel) (.inl (by decide +kernel))
  · exact ia_EA 98 (by decide +kernel) (.inr (.inl (by decide +kernel)))
  · exact ia_EA 99 (by decide +kernel) (.inr (.inr (by decide +kernel)))
theorem at_SNV {r : Int} (h0 : 0 ≤ r) (h1 : r < 3) : ∃ c, (Str.ofString "SNV").cps[r.toNat]? = some c ∧ Lb ⟨#[c]⟩ := by
  rcases (by omega : r = 0 ∨ r = 1 ∨ r = 2) with rfl | rfl | rfl
  · exact ia_EA 83 (by decide +kernel) (.inl (by decide +kernel))
  · exact ia_EA 78 (by decide +kernel) (.inr (.inl (by decide +kernel)))
  · exact ia_EA 86 (by decide +kernel) (.inr (.inr (by decide +kernel)))
theorem at_4 {r : Int} (h0 : 0 ≤ r) (h1 : r < 4) {a b c d v : Value} (h : [a, b, c, d][r.toNat]? = some v) : v = a ∨ v = b ∨ v = c ∨ v = d := by
  rcases (by lia : r = 0 ∨ r = 1 ∨ r = 2 ∨ r = 3) with rfl | rfl | rfl | rfl <;> (cases h; simp)
theorem rangeSize_to (n : Nat) : Builtin.Range.rangeSize 0 n 1 = n := by
  unfold Builtin.Range.rangeSize
  simp only [show (1 : Int) > 0 by decide, if_true, Int.ediv_one]
  split <;> lia
theorem rangeSize_ab {a b : Int} (h : a ≤ b) : Builtin.Range.rangeSize a b 1 = ((b - a).toNat : Int) := by
  unfold Builtin.Range.rangeSize
  simp only [show (1 : Int) > 0 by decide, if_true, Int.ediv_one]
  split <;> lia
theorem Sub.skip {l l' : Locs} {x : Str} {v : Value} (h : Sub l' l) (hx : l'.lookup x = none) : Sub l' ((x, v) :: l) := fun y u e => by
  rw [List.lookup_cons]
  split
  · rename_i q; rw [beq_iff_eq.mp q] at e; rw [hx] at e; cases e
  · exact h y u e
theorem Sub.both {l l' : Locs} {x : Str} {v : Value} (h : Sub l' l) : Sub ((x, v) :: l') ((x, v) :: l) := fun y u e => by
  rw [List.lookup_cons] at e ⊢
  split at e
  · exact e
  · exact h y u e
theorem Sub.trans {a b c : Locs} (h : Sub a b) (k : Sub b c) : Sub a c := fun x v e => k x v (h x v e)
section
variable {f : Fm} {l : Locs} {X : St} {env : Env} {k : Nat}
theorem take_ok2 (O : Ok f k) (hk : k < 300) {a c : Nat} {mt : Tok} {at' most : Int} {Q : Value → Locs → St → Prop}
    (h : Tape X.h a c at') (h1 : at' < 100000) (hm : 2 ≤ most) (hm2 : most ≤ 4) (hq : ∀ r t o', 0 ≤ r → r < most → Tape (upd X.h a o') a c (at' + 1) → Q (.int r t) l ⟨upd X.h a o', X.g⟩) :
    T f (call (.ref 317) [.ref a, .int most mt]) l X Q := by
  refine ea_EE (h.ha) ?_
  intro tk n ha
  refine ea_EEAAA (h.hc) ?_
  intro cs nc hc hi h3 h4
  exact take_ok O hk h.ne ha hc hi h3 h4 h.h0 h1 hm hm2 fun r t t' n' q0 q1 => hq r t _ q0 q1 ⟨h.ne, ⟨_, _, upd_self _ _ _⟩, ⟨cs, nc, upd_other h.ne hc, hi, h3, h4⟩, by have := h.h0; lia⟩
theorem T_getAny {D : Addr} {vs : List Value} {n : Nat} {i : Int} {t : Tok} {value slice : Expr} {Q : Value → Locs → St → Prop} (hD : X.h D = some (listOf vs.toArray n)) (h0 : 0 ≤ i) (h1 : i < vs.length) (hz : vs.length ≤ sizeLine) (h : ∀ v, vs[i.toNat]? = some v → Q v l X)
    (hsl : subscripted slice false (.ref D) (.int i t) = operate [.ref D, .int i t] (getItem (.ref D) (.int i t))) : T f (subscriptTail value slice (.ref D) (.int i t)) l X Q := by
  have hl : i.toNat < vs.length := by lia
  exact T_getItem hD h0 (by rw [sizeLine_eq] at hz; lia) (List.getElem?_eq_getElem hl) (h _ (List.getElem?_eq_getElem hl)) hsl
noncomputable abbrev KIf1 (f : Fm) (env : Env) (body : List Stmt) (Q : Flow → Locs → St → Prop) : Bool → Locs → St → Prop := fun b l X => b = true ∧ T f (execs body env) l X Q
noncomputable abbrev KIf0 (f : Fm) (env : Env) (body : List Stmt) (Q : Flow → Locs → St → Prop) : Bool → Locs → St → Prop := fun b l X => b = false ∧ T f (execs body env) l X Q
theorem T_ifc {test : Expr} {body orelse : List Stmt} {pos : Pos} {Q : Flow → Locs → St → Prop} (R : Bool → Locs → St → Prop) (h : T f (isTrue test env (eval test env)) l X R) (h1 : ∀ l' X', R true l' X' → T f (execs body env) l' X' Q) (h2 : ∀ l' X', R false l' X' → T f (execs orelse env) l' X' Q) :
    T f (exec (.If test body orelse pos) env) l X Q := T_if (T_mono h fun b l' X' r => by
  cases b
  · exact h2 l' X' r
  · exact h1 l' X' r)
/-- a test known beforehand -/
theorem T_if1 {test : Expr} {body orelse : List Stmt} {pos : Pos} {Q : Flow → Locs → St → Prop} (h : T f (isTrue test env (eval test env)) l X (KIf1 f env body Q)) :
    T f (exec (.If test body orelse pos) env) l X Q := T_if (T_mono h fun b l' X' r => ite_t r.1 r.2)
theorem T_if0 {test : Expr} {body orelse : List Stmt} {pos : Pos} {Q : Flow → Locs → St → Prop} (h : T f (isTrue test env (eval test env)) l X (KIf0 f env orelse Q)) :
    T f (exec (.If test body orelse pos) env) l X Q := T_if (T_mono h fun b l' X' r => ite_f (by rw [r.1]; decide) r.2)
end
end
-- F3a
section
noncomputable def nodeL (D a r : Addr) (d : Nat) (td : Tok) : Locs := [(Str.ofString "children", .ref D), (Str.ofString "tape", .ref a), (Str.ofString "depth", .int (4 - d : Int) td), (Str.ofString "room", .ref r)]
structure NodeF (X : St) (Z : Addr → Prop) (a c r D : Addr) (at1 : Int) (ts : List Tr) (vs : List Value) (X' : St) : Prop where
  g : X'.g = X.g
  bt : Bt (fun b => b = a ∨ b = r) X.h X'.h
  tape : Tape X'.h a c at1
  room : Room X'.h r
  lD : ∃ n, X'.h D = some (listOf vs.toArray n)
  pl : PLs (wo X'.h (fun b => X.h b ≠ none ∨ b = D ∨ Z b)) ts vs
theorem NodeF.in {X X' : St} {Z : Addr → Prop} {a c r D : Addr} {at1 : Int} {ts : List Tr} {vs : List Value} (h : NodeF X Z a c r D at1 ts vs X') {b : Addr} (hb : X.h b ≠ none) : X'.h b ≠ none := by
  by_cases e : b = a ∨ b = r
  · rcases e with rfl | rfl
    · exact h.tape.in.1
    · exact h.room.in
  · exact h.bt.in e hb
/-- a child comes in -/
theorem NodeF.snoc {X X' : St} {Z : Addr → Prop} {a c r D : Addr} {at1 at2 : Int} {ts : List Tr} {vs : List Value} (h : NodeF X Z a c r D at1 ts vs X') (hDX : X.h D = none) (ha : X.h a ≠ none) (hr : X.h r ≠ none) (hc : X.h c ≠ none) (hZ : ∀ b, Z b → X'.h b ≠ none) {H : Hp} {t : Tr} {v : Value} (bt : Bt (fun b => b = a ∨ b = r) X'.h H) (hT : Tape H a c at2) (hR : Room H r) (hv : PL (wo H (fun b => X'.h b ≠ none)) t v) (n : Nat) :
    NodeF X Z a c r D at2 (ts ++ [t]) (vs ++ [v]) ⟨upd H D (listOf (vs ++ [v]).toArray n), X'.g⟩ where
  g := h.g
  bt := (h.bt.tr bt).upd (.inr hDX)
  tape := hT.upd (ne_of_in ha hDX) (ne_of_in hc hDX)
  room := hR.upd (ne_of_in hr hDX)
  lD := ⟨n, upd_self _ _ _⟩
  pl := by
    obtain ⟨nD, hD⟩ := h.lD
    refine PLs.snoc (hv.le (wo_mono fun b o e nn => ?_)) (h.pl.le (wo_mono fun b o e nn => ?_))
    · have hb : X.h b = none := by
        cases q : X.h b with
        | none => rfl
        | some o => exact absurd (h.in (in_of q)) nn
      have hbD : b ≠ D := by rintro rfl; exact nn (in_of hD)
      exact ⟨upd_other hbD e, by rintro (q | q | q); exact q hb; exact hbD q; exact nn (hZ b q)⟩
    · refine ⟨upd_other (fun q => nn (.inr (.inl q))) (bt _ _ e ?_), nn⟩
      rintro (rfl | rfl)
      · exact nn (.inl ha)
      · exact nn (.inl hr)
theorem NodeF.enter {X X' : St} {a c r D it : Addr} {at1 : Int} {ts : List Tr} {vs : List Value} {o : Obj} (h : NodeF X (fun _ => False) a c r D at1 ts vs X') (hi : X'.h it = none) : NodeF X (fun b => b = it) a c r D at1 ts vs ⟨upd X'.h it o, X'.g⟩ where
  g := h.g
  bt := by
    refine h.bt.upd (.inr ?_)
    cases q : X.h it with
    | none => rfl
    | some o => exact absurd hi (h.in (in_of q))
  tape := h.tape.le (Le.upd hi)
  room := h.room.upd (ne_of_in h.room.in hi)
  lD := h.lD.imp fun n e => Le.upd hi _ _ e
  pl := h.pl.le (wo_mono fun b o e nn => ⟨Le.upd hi _ _ e, by
    rintro (q | q | q)
    · exact nn (.inl q)
    · exact nn (.inr (.inl q))
    · exact absurd q (ne_of_in (in_of e) hi)⟩)
theorem NodeF.leave {X X' : St} {a c r D it : Addr} {at1 : Int} {ts : List Tr} {vs : List Value} (h : NodeF X (fun b => b = it) a c r D at1 ts vs X') (hi : X.h it = none) (h1 : it ≠ D) (ha : X.h a ≠ none) (hr : X.h r ≠ none) (hc : X.h c ≠ none) : NodeF X (fun _ => False) a c r D at1 ts vs ⟨del X'.h it, X'.g⟩ where
  g := h.g
  bt := h.bt.del (.inr hi)
  tape := ⟨h.tape.ne, h.tape.ha.imp fun _ z => z.imp fun _ e => (del_ne (ne_of_in ha hi)).trans e, h.tape.hc.imp fun _ z => z.imp fun _ z => ⟨(del_ne (ne_of_in hc hi)).trans z.1, z.2⟩, h.tape.h0⟩
  room := h.room.imp fun _ z => z.imp fun _ z => z.imp fun _ e => (del_ne (ne_of_in hr hi)).trans e
  lD := h.lD.imp fun n e => (del_ne (Ne.symm h1)).trans e
  pl := h.pl.le (wo_mono fun b o e nn => ⟨(del_ne fun q => nn (.inr (.inr q))).trans e, by
    rintro (q | q | q)
    · exact nn (.inl q)
    · exact nn (.inr (.inl q))
    · exact q⟩)
theorem NodeF.took {X X' : St} {Z : Addr → Prop} {a c r D : Addr} {at1 at2 : Int} {ts : List Tr} {vs : List Value} {o : Obj} (h : NodeF X Z a c r D at1 ts vs X') (hT : Tape (upd X'.h a o) a c at2) (ha : X.h a ≠ none) (hra : r ≠ a) (hDX : X.h D = none) : NodeF X Z a c r D at2 ts vs ⟨upd X'.h a o, X'.g⟩ where
  g := h.g
  bt := h.bt.upd (.inl (.inl rfl))
  tape := hT
  room := h.room.upd hra
  lD := h.lD.imp fun n e => upd_other (Ne.symm (ne_of_in ha hDX)) e
  pl := h.pl.le (wo_mono fun b o e nn => ⟨upd_other (by rintro rfl; exact nn (.inl ha)) e, nn⟩)
theorem NodeF.spend {X X' : St} {Z : Addr → Prop} {a c r D : Addr} {at1 : Int} {ts : List Tr} {vs : List Value} {i : Int} {t : Tok} {n : Nat} (h : NodeF X Z a c r D at1 ts vs X') (hr : X.h r ≠ none) (hra : r ≠ a) (hrc : r ≠ c) (hDX : X.h D = none) : NodeF X Z a c r D at1 ts vs ⟨upd X'.h r (listOf [Value.int i t].toArray n), X'.g⟩ where
  g := h.g
  bt := h.bt.upd (.inl (.inr rfl))
  tape := h.tape.upd (Ne.symm hra) (Ne.symm hrc)
  room := ⟨_, _, _, upd_self _ _ _⟩
  lD := h.lD.imp fun n e => upd_other (Ne.symm (ne_of_in hr hDX)) e
  pl := h.pl.le (wo_mono fun b o e nn => ⟨upd_other (by rintro rfl; exact nn (.inl hr)) e, nn⟩)
end
-- F3
section
theorem ite_split {c t e : Prop} [Decidable c] (h1 : c → t) (h2 : ¬c → e) : if c then t else e := by split <;> rename_i h; exact h1 h; exact h2 h
section
variable {f : Fm} {l : Locs} {X : St} {env : Env} {k : Nat}
theorem node_ok (d : Nat) : ∀ {f : Fm} {l : Locs} {X : St} {k : Nat} (O : Ok f k) (hk : k + d < 290) (h4 : d ≤ 4) {a c r : Nat} {td : Tok} {at' : Int} {Q : Value → Locs → St → Prop}
    (hT : Tape X.h a c at') (hR : Room X.h r) (hra : r ≠ a) (hrc : r ≠ c) (hb : at' + (10 + 4 * nbp d : Nat) < 100000)
    (hq : ∀ v lab cs H' at'', Bt (fun b => b = a ∨ b = r) X.h H' → Tape H' a c at'' → Room H' r → at'' ≤ at' + (10 + 4 * nbp d : Nat) → PL (wo H' (fun b => X.h b ≠ none)) (.node lab cs) v → Wf (.node lab cs) → hts cs ≤ d → Q v l ⟨H', X.g⟩),
    T f (call (.ref 324) [.ref a, .int (4 - d : Int) td, .ref r]) l X Q := by
  induction d using Nat.strongRecOn with
  | _ d ih
  intro f l X k O hk h4 a c r td at' Q hT hR hra hrc hb hq
  walk_at "m:enter"
  intro f' O'
  refine T_sub (l' := [(Str.ofString "tape", .ref a), (Str.ofString "depth", .int (4 - d : Int) td), (Str.ofString "room", .ref r)]) (by walk_at "m:sub") ?_
  walk_at "m:go"
  refine inL rfl fun D hD => ?_
  walk_at "m:go"
  refine inL rfl fun D0 hD0 => ?_
  walk_at "m:go"
  have hD0' := upd_none hD0
  have hDa0 : D0 ≠ a := by
    rintro rfl
    obtain ⟨_, _, e⟩ := hT.ha; rw [hD0'.2] at e; cases e
  have hDa : D ≠ a := by
    rintro rfl
    obtain ⟨_, _, e⟩ := hT.ha; rw [hD] at e; cases e
  have hDr : D ≠ r := by
    rintro rfl
    obtain ⟨_, _, _, e⟩ := hR; rw [hD] at e; cases e
  have hDc : D ≠ c := by
    rintro rfl
    obtain ⟨_, _, e, _⟩ := hT.hc; rw [hD] at e; cases e
  have hT0 : Tape (upd X.h D (listOf [].toArray 0)) a c at' := hT.le (Le.upd hD)
  refine take_ok2 O' (by exact bk4 (by assumption) rfl) (hT0.le (Le.upd hD0)) (by lia) (by lia) (by lia) fun r1 t1 o1 q0 q1 hT1 => ?_
  walk_at "m:go"
  refine T_getAny (upd_other hDa0 (upd_self _ _ _)) q0 (by simp; omega) (lsz rfl) (fun v hv => ?_) (by with_unfolding_all rfl)
  obtain ⟨m, tm, m1, m4, rfl⟩ : ∃ (m : Nat) (tm : Tok), 1 ≤ m ∧ m ≤ 4 ∧ v = .int (m : Int) tm := by
    rcases at_4 q0 q1 hv with rfl | rfl | rfl | rfl
    · exact ⟨2, _, by lia, by lia, rfl⟩
    · exact ⟨3, _, by lia, by lia, rfl⟩
    · exact ⟨1, _, by lia, by lia, rfl⟩
    · exact ⟨4, _, by lia, by lia, rfl⟩
  walk_at "m:go"
  refine T_range1 fun R u1 u2 hR0 => ?_
  dsimp only at hR0 ⊢
  have hR1 := upd_none hR0
  have hR2 := upd_none hR1.2
  have hR3 := upd_none hR2.2
  have ha0 := hT.in.1
  have hc0 := hT.in.2
  have hr0 := hR.in
  refine TFor_range O' (N := m) (fun i l' X' => ∃ at1 ts vs, Sub (nodeL D a r d td) l' ∧ NodeF X (fun _ => False) a c r D at1 ts vs X' ∧ at1 ≤ at' + (1 + i * (2 + nbp d) : Nat) ∧ ts.length = i ∧ Wfs ts ∧ hts ts ≤ d) (upd_self _ _ _) (small_one (by decide) (by decide) (by lia) (by lia)) (rangeSize_to m) ?_ ?_ ?_
  · refine ea_EEE (hR) ?_
    try clear hR
    intro ir tr' nr hr
    refine ia_EEEAAAAA (at' + 1) ([]) ([]) (Sub.refl _) ⟨rfl, ((((Bt.refl _).upd (.inr hD)).upd (.inr hD0'.2)).upd (.inl (.inl rfl))).upd (.inr hR3.2), hT1.le (Le.upd hR0), ⟨ir, tr', nr, upd_old hR0 (upd_other hra (upd_old hD0 (upd_old hD hr)))⟩, ⟨_, upd_old hR0 (upd_other hDa (upd_old hD0 (upd_self _ _ _)))⟩, ?_⟩ (by lia) rfl ?_ ?_
    · simp only [PLs_e1, PLs_e2]
    · simp only [Wfs_e1, Wfs_e2]
    · simp only [hts]; lia
  · intro i t l2 X2 it o hi zz7 hit
    refine ea_EEEAAAAA (zz7) ?_
    try clear zz7
    intro at1 ts vs sb F ha1 hl hW hh
    have hmul : m * (2 + nbp d) ≤ 4 * (2 + nbp d) := Nat.mul_le_mul_right _ m4
    have hmul2 : (i + 1) * (2 + nbp d) ≤ m * (2 + nbp d) := Nat.mul_le_mul_right _ (by lia)
    rw [Nat.succ_mul] at hmul2
    have hitX : X.h it = none := by
      cases e : X.h it with
      | none => rfl
      | some x => exact absurd hit (F.in (in_of e))
    have hiD : it ≠ D := by rintro rfl; obtain ⟨_, e⟩ := F.lD; rw [hit] at e; cases e
    have F0 := F.enter (o := o) hit
    refine ea_EEE (F0.room) ?_
    intro ir tr' nr hr
    have io : upd X2.h it o it = some o := upd_self _ _ _
    obtain ⟨H2, g2⟩ := X2
    obtain rfl : g2 = X.g := F.g
    dsimp only at F0 hr io ⊢
    revert F0; revert hr; revert io
    refine gen_x (upd H2 it o) ?_
    intro H0 io hr F0
    refine T_sub (l' := nodeL D a r d td) sb ?_
    unfold nodeL
    walk_at "m:go"
    refine T_ifc (fun b l' X' => l' = (Str.ofString "k", Value.int (0 + (i : Int) * 1) t) :: nodeL D a r d td ∧ ∃ at2, NodeF X (fun b => b = it) a c r D at2 ts vs X' ∧ at2 ≤ at1 + 1 ∧ X'.h it = some o ∧ (b = true → 0 < d)) ?_ ?_ ?_
    · walk_at "m:go"
      have F1 := fun z tz n => F0.spend (i := z) (t := tz) (n := n) hr0 hra hrc hD
      have i1 : ∀ z tz n, upd H0 r (listOf [Value.int z tz].toArray n) it = some o := fun z tz n => upd_other (ne_of_in hr0 hitX).symm io
      refine ite_split ?_ ?_ <;> intro _
      · walk_at "m:go"
        refine ite_split ?_ ?_ <;> intro _
        · rename_i hd4
          have hd0 : 0 < d := by have := of_decide_eq_true hd4; lia
          walk_at "m:go"
          refine take_ok2 O' (by exact bk4 (by assumption) rfl) (F1 _ _ _).tape (by omega) (by lia) (by lia) fun r3 t3 o3 q30 q31 hT3 => ?_
          walk_at "m:go"
          refine ite_split ?_ ?_ <;> intro _
          · walk_at "m:go"
            exact ia_AEAAA rfl (at1 + 1) ((F1 _ _ _).took hT3 ha0 hra hD) (by lia) (upd_other (ne_of_in ha0 hitX).symm (i1 _ _ _)) (fun _ => hd0)
          · exact ia_AEAAA rfl (at1 + 1) ((F1 _ _ _).took hT3 ha0 hra hD) (by omega) (upd_other (ne_of_in ha0 hitX).symm (i1 _ _ _)) nofun
        · exact ia_AEAAA rfl at1 (F1 _ _ _) (by lia) (i1 _ _ _) nofun
      · exact ia_AEAAA rfl at1 (F1 _ _ _) (by omega) (i1 _ _ _) nofun
    · intro l3 X3 zz2
      refine ea_AEAAA (zz2) ?_
      try clear zz2
      intro zq273 at2 F3 ha2 hit3 hd0
      obtain rfl := zq273
      have hd0 := hd0 rfl
      obtain ⟨H3, g3⟩ := X3
      obtain rfl : g3 = X.g := F3.g
      dsimp only at F3 hit3 ⊢
      unfold nodeL
      obtain ⟨nD, hD3⟩ := F3.lD
      walk_at "m:go"
      have e : (4 - (d : Int) + 1) = 4 - ((d - 1 : Nat) : Int) := by lia
      rw [e]
      have hnb : 10 + 4 * nbp (d - 1) = nbp d := by obtain ⟨d', rfl⟩ : ∃ d', d = d' + 1 := ⟨d - 1, by lia⟩; rfl
      have hl' : vs.length = i := by rw [F3.pl.length, hl]
      refine ih (d - 1) (by lia) O' (by lia) (by lia) F3.tape F3.room hra hrc (by rw [hnb]; lia) fun v lab cs H4 at4 bt4 hT4 hR4 ha4 hP4 hW4 hh4 => ?_
      rw [hnb] at ha4
      walk_at "m:go"
      refine T_append (vs := vs) (bt4 _ _ hD3 (by simp [hDa, hDr])) (by rw [sizeLine_eq]; lia) fun n4 => ?_
      refine ⟨rfl, ?_⟩
      walk_at "m:go"
      have F4 := F3.snoc hD ha0 hr0 hc0 (by rintro b rfl; exact in_of hit3) bt4 hT4 hR4 hP4 n4
      refine ⟨upd_other hiD (bt4 _ _ hit3 (by rintro (e | e); exact ne_of_in ha0 hitX e.symm; exact ne_of_in hr0 hitX e.symm)), at4, _, _, (Sub.refl _).skip rfl, F4.leave hitX hiD ha0 hr0 hc0, ?_, ?_, hW.snoc hW4, ?_⟩
      · rw [Nat.succ_mul]; lia
      · simp [hl]
      · rw [hts_snoc]; simp only [ht]; lia
    · intro l3 X3 zz2
      refine ea_AEAAA (zz2) ?_
      try clear zz2
      intro zq274 at2 F3 ha2 hit3 zc275
      obtain rfl := zq274
      clear zc275
      obtain ⟨H3, g3⟩ := X3
      obtain rfl : g3 = X.g := F3.g
      dsimp only at F3 hit3 ⊢
      unfold nodeL
      obtain ⟨nD, hD3⟩ := F3.lD
      walk_at "m:go"
      have hl' : vs.length = i := by rw [F3.pl.length, hl]
      refine take_ok2 O' (by exact bk4 (by assumption) rfl) F3.tape (by lia) (by lia) (by lia) fun r3 t3 o3 q30 q31 hT3 => ?_
      refine ea_EA (at_abc q30 q31) ?_
      intro ch hch hLb
      refine T_strAt q30 q31 (by decide +kernel) hch (fun t4 => ?_) (by with_unfolding_all rfl)
      walk_at "m:go"
      refine ⟨rfl, ?_⟩
      walk_at "m:go"
      have F3' := F3.took hT3 ha0 hra hD
      have F4 := F3'.snoc (at2 := at2 + 1) (t := .leaf ⟨#[ch]⟩) (v := .str ⟨#[ch]⟩ t4) hD ha0 hr0 hc0 (by rintro b rfl; exact in_of (upd_other (ne_of_in ha0 hitX).symm hit3)) (Bt.refl _) hT3 F3'.room (by simp only [PL_e1, PL_e2]; exact ⟨_, rfl⟩)
      refine ⟨upd_other hiD (upd_other (ne_of_in ha0 hitX).symm hit3), at2 + 1, _, _, (Sub.refl _).skip rfl, (F4 _).leave hitX hiD ha0 hr0 hc0, ?_, ?_, hW.snoc (t := .leaf _) (by simp only [Wf_e1, Wf_e2]; exact hLb), ?_⟩
      · rw [Nat.succ_mul]; lia
      · simp [hl]
      · rw [hts_snoc]; simp only [ht]; lia
  · intro l2 X2 zz2
    refine ea_EEEAAAAA (zz2) ?_
    try clear zz2
    intro at1 ts vs sb F ha1 hl hW hh
    have hmul : m * (2 + nbp d) ≤ 4 * (2 + nbp d) := Nat.mul_le_mul_right _ m4
    obtain ⟨H2, g2⟩ := X2
    obtain rfl : g2 = X.g := F.g
    unfold nodeL at sb
    refine T_sub sb ?_
    walk_at "m:go"
    refine take_ok2 O' (by exact bk4 (by assumption) rfl) F.tape (by omega) (by lia) (by lia) fun r3 t3 o3 q30 q31 hT3 => ?_
    refine ea_EA (at_SNV q30 q31) ?_
    intro ch hch hLb
    refine T_strAt q30 q31 (by decide +kernel) hch (fun t4 => ?_) (by with_unfolding_all rfl)
    walk_at "m:go"
    refine inL rfl fun E hE => ?_
    walk_at "m:go"
    have hE1 := upd_none hE
    have F3 := F.took hT3 ha0 hra hD
    have hEX : X.h E = none := by
      cases e : X.h E with
      | none => rfl
      | some o => exact absurd hE1.2 (F.in (in_of e))
    obtain ⟨n, hD2⟩ := F.lD
    have hED : D ≠ E := ne_of_in (in_of hD2) hE1.2
    refine hq (.ref E) ⟨#[ch]⟩ ts _ _ (F3.bt.upd (.inr hEX)) (hT3.le (Le.upd hE)) (F3.room.upd (ne_of_in F3.room.in hE)) (by lia) ?_ ?_ hh
    · simp only [PL_e1, PL_e2]
      refine ia_EEEEEEAAA E D t4 0 n vs rfl (wo_some.mpr ⟨upd_self _ _ _, fun h => h hEX⟩) (wo_some.mpr ⟨upd_other hED (upd_other hDa hD2), fun h => h hD⟩) (F3.pl.le (wo_mono fun b o e nn => ⟨upd_other (ne_of_in (in_of e) hE) e, fun q => nn (.inl q)⟩))
    · simp only [Wf_e1, Wf_e2]; exact ⟨hLb, by lia, by lia, hW⟩
end
end
-- P3
section
theorem Le.none {H H' : Hp} (h : Le H H') {a : Addr} (k : H' a = none) : H a = none := by
  cases e : H a with
  | none => rfl
  | some o => rw [h _ _ e] at k; cases k
-- trees as objects, with what they lie in
mutual
noncomputable def TR (H : Hp) : Tr → Value → List Addr → Prop
  | .leaf c, v, F => F = [] ∧ ∃ t, v = .str c t
  | .node lab cs, v, F => ∃ x dx cl vs G, v = .ref x ∧ F = x :: dx :: cl :: G ∧ Nd H x dx cl lab vs ∧ TRs H cs vs G
noncomputable def TRs (H : Hp) : List Tr → List Value → List Addr → Prop
  | [], vs, F => vs = [] ∧ F = []
  | c :: cs, vs, F => ∃ v ws F1 F2, vs = v :: ws ∧ F = F1 ++ F2 ∧ TR H c v F1 ∧ TRs H cs ws F2
end
theorem TR_e1 {H : Hp} {c} {v} {F} : TR H (.leaf c) v F = (F = [] ∧ ∃ t, v = .str c t) := rfl
theorem TR_e2 {H : Hp} {lab} {cs} {v} {F} : TR H (.node lab cs) v F = (∃ x dx cl vs G, v = .ref x ∧ F = x :: dx :: cl :: G ∧ Nd H x dx cl lab vs ∧ TRs H cs vs G) := rfl
theorem TRs_e1 {H : Hp} {vs} {F} : TRs H [] vs F = (vs = [] ∧ F = []) := rfl
theorem TRs_e2 {H : Hp} {c} {cs} {vs} {F} : TRs H (c :: cs) vs F = (∃ v ws F1 F2, vs = v :: ws ∧ F = F1 ++ F2 ∧ TR H c v F1 ∧ TRs H cs ws F2) := rfl
theorem TR_on {H H' : Hp} : (∀ t v F, TR H t v F → (∀ a, a ∈ F → ∀ o, H a = some o → H' a = some o) → TR H' t v F) ∧ ∀ ts vs F, TRs H ts vs F → (∀ a, a ∈ F → ∀ o, H a = some o → H' a = some o) → TRs H' ts vs F := by
  refine Tr.ind (P := fun t => ∀ v F, TR H t v F → (∀ a, a ∈ F → ∀ o, H a = some o → H' a = some o) → TR H' t v F) (R := fun ts => ∀ vs F, TRs H ts vs F → (∀ a, a ∈ F → ∀ o, H a = some o → H' a = some o) → TRs H' ts vs F) ?_ ?_ ?_ ?_
  · intro c v F h _; simpa only [TR_e1, TR_e2] using h
  · intro lab cs ih v F h k
    simp only [TR_e1, TR_e2] at h ⊢
    refine ea_EEEEEAAA (h) ?_
    try clear h
    intro x dx cl vs G zq373 zq374 h1 h2
    obtain rfl := zq373
    obtain rfl := zq374
    refine ia_EEEEEAAA x dx cl vs G rfl rfl ⟨k x (by simp) _ h1.hx, ?_, ?_⟩ (ih _ _ h2 fun a ha => k a (by simp [ha]))
    · obtain ⟨o, e, r⟩ := h1.hd; exact ⟨o, k dx (by simp) _ e, r⟩
    · obtain ⟨n, e⟩ := h1.hl; exact ⟨n, k cl (by simp) _ e⟩
  · intro vs F h _; simpa only [TRs_e1, TRs_e2] using h
  · intro c cs i1 i2 vs F h k
    simp only [TRs_e1, TRs_e2] at h ⊢
    refine ea_EEEEAAA (h) ?_
    try clear h
    intro v ws F1 F2 zq375 zq376 h1 h2
    obtain rfl := zq375
    obtain rfl := zq376
    exact ia_EEEEAAA v ws F1 F2 rfl rfl (i1 _ _ h1 fun a ha => k a (by simp [ha])) (i2 _ _ h2 fun a ha => k a (by simp [ha]))
theorem TR.on {H H' : Hp} {t : Tr} {v : Value} {F : List Addr} (h : TR H t v F) (k : ∀ a, a ∈ F → ∀ o, H a = some o → H' a = some o) : TR H' t v F := TR_on.1 _ _ _ h k
theorem TRs.on {H H' : Hp} {t : List Tr} {v : List Value} {F : List Addr} (h : TRs H t v F) (k : ∀ a, a ∈ F → ∀ o, H a = some o → H' a = some o) : TRs H' t v F := TR_on.2 _ _ _ h k
theorem TR.le {H H' : Hp} {t : Tr} {v : Value} {F : List Addr} (h : TR H t v F) (k : Le H H') : TR H' t v F := h.on fun a _ o e => k a o e
theorem TRs.le {H H' : Hp} {t : List Tr} {v : List Value} {F : List Addr} (h : TRs H t v F) (k : Le H H') : TRs H' t v F := h.on fun a _ o e => k a o e
theorem TR_in {H : Hp} : (∀ t v F, TR H t v F → ∀ a, a ∈ F → H a ≠ none) ∧ ∀ ts vs F, TRs H ts vs F → ∀ a, a ∈ F → H a ≠ none := by
  refine Tr.ind (P := fun t => ∀ v F, TR H t v F → ∀ a, a ∈ F → H a ≠ none) (R := fun ts => ∀ vs F, TRs H ts vs F → ∀ a, a ∈ F → H a ≠ none) ?_ ?_ ?_ ?_
  · intro c v F h a ha; simp only [TR_e1, TR_e2] at h; rw [h.1] at ha; cases ha
  · intro lab cs ih v F h a ha
    simp only [TR_e1, TR_e2] at h
    refine ea_EEEEEAAA (h) ?_
    try clear h
    intro x dx cl vs G zq377 zq378 h1 h2
    obtain rfl := zq377
    obtain rfl := zq378
    simp only [List.mem_cons] at ha
    rcases ha with rfl | rfl | rfl | ha
    · exact in_of h1.hx
    · obtain ⟨o, e, r⟩ := h1.hd; exact in_of e
    · obtain ⟨n, e⟩ := h1.hl; exact in_of e
    · exact ih _ _ h2 a ha
  · intro vs F h a ha; simp only [TRs_e1, TRs_e2] at h; rw [h.2] at ha; cases ha
  · intro c cs i1 i2 vs F h a ha
    simp only [TRs_e1, TRs_e2] at h
    refine ea_EEEEAAA (h) ?_
    try clear h
    intro v ws F1 F2 zq379 zq380 h1 h2
    obtain rfl := zq379
    obtain rfl := zq380
    rcases List.mem_append.mp ha with q | q
    · exact i1 _ _ h1 a q
    · exact i2 _ _ h2 a q
theorem TR.in {H : Hp} {t : Tr} {v : Value} {F : List Addr} (h : TR H t v F) {a : Addr} (ha : a ∈ F) : H a ≠ none := TR_in.1 _ _ _ h a ha
theorem TRs.in {H : Hp} {t : List Tr} {v : List Value} {F : List Addr} (h : TRs H t v F) {a : Addr} (ha : a ∈ F) : H a ≠ none := TR_in.2 _ _ _ h a ha
theorem TRs.length {H : Hp} : ∀ {ts : List Tr} {vs : List Value} {F : List Addr}, TRs H ts vs F → vs.length = ts.length
  | [], vs, F, h => by simp only [TRs_e1, TRs_e2] at h; rw [h.1]; rfl
  | c :: cs, vs, F, h => by
    simp only [TRs_e1, TRs_e2] at h
    refine ea_EEEEAAA (h) ?_
    try clear h
    intro v ws F1 F2 zq381 _ _ h2
    obtain rfl := zq381
    simp [TRs.length h2]
theorem TRs.get {H : Hp} : ∀ {ts : List Tr} {vs : List Value} {F : List Addr} {i : Nat} {v : Value}, TRs H ts vs F → vs[i]? = some v → ∃ t G, ts[i]? = some t ∧ TR H t v G ∧ ∀ a, a ∈ G → a ∈ F
  | [], vs, F, i, v, h, e => by simp only [TRs_e1, TRs_e2] at h; rw [h.1] at e; simp at e
  | c :: cs, vs, F, i, v, h, e => by
    simp only [TRs_e1, TRs_e2] at h
    refine ea_EEEEAAA (h) ?_
    try clear h
    intro u ws F1 F2 zq382 zq383 h1 h2
    obtain rfl := zq382
    obtain rfl := zq383
    induction i using NatEl with
    | zero => simp at e; subst e; exact ia_EEAA c F1 rfl h1 (fun a ha => by simp [ha])
    | succ i =>
      simp only [List.getElem?_cons_succ] at e ⊢
      refine ea_EEAA (TRs.get h2 e) ?_
      intro t G q1 q2 q3
      exact ia_EEAA t G q1 q2 (fun a ha => by simp [q3 a ha])
theorem TRs.append {H : Hp} : ∀ {ts us : List Tr} {vs ws : List Value} {F G : List Addr}, TRs H ts vs F → TRs H us ws G → TRs H (ts ++ us) (vs ++ ws) (F ++ G)
  | [], us, vs, ws, F, G, h, k => by simp only [TRs_e1, TRs_e2] at h; rw [h.1, h.2]; exact k
  | c :: cs, us, vs, ws, F, G, h, k => by
    simp only [TRs_e1, TRs_e2] at h
    refine ea_EEEEAAA (h) ?_
    try clear h
    intro u xs F1 F2 zq384 zq385 h1 h2
    obtain rfl := zq384
    obtain rfl := zq385
    simp only [List.cons_append, TRs_e1, TRs_e2, List.append_assoc]
    exact ia_EEEEAAA u _ F1 _ rfl rfl h1 (TRs.append h2 k)
theorem TRs.split {H : Hp} : ∀ {ts us : List Tr} {vs : List Value} {F : List Addr}, TRs H (ts ++ us) vs F → ∃ vs1 vs2 F1 F2, vs = vs1 ++ vs2 ∧ F = F1 ++ F2 ∧ TRs H ts vs1 F1 ∧ TRs H us vs2 F2
  | [], us, vs, F, h => ⟨[], vs, [], F, rfl, rfl, by simp [TRs_e1, TRs_e2], h⟩
  | c :: cs, us, vs, F, h => by
    simp only [List.cons_append, TRs_e1, TRs_e2] at h
    refine ea_EEEEAAA (h) ?_
    try clear h
    intro u xs F1 F2 zq386 zq387 h1 h2
    obtain rfl := zq386
    obtain rfl := zq387
    refine ea_EEEEAAA (TRs.split h2) ?_
    intro a b G1 G2 zq388 zq389 k1 k2
    obtain rfl := zq388
    obtain rfl := zq389
    exact ia_EEEEAAA (u :: a) b (F1 ++ G1) G2 rfl (by simp) (by simp only [TRs_e1, TRs_e2]; exact ⟨u, a, F1, G1, rfl, rfl, h1, k1⟩) k2
theorem TRs.one {H : Hp} {t : Tr} {v : Value} {F : List Addr} (h : TR H t v F) : TRs H [t] [v] F := by
  show ∃ u ws F1 F2, [v] = u :: ws ∧ F = F1 ++ F2 ∧ TR H t u F1 ∧ TRs H [] ws F2
  exact ia_EEEEAAA v ([]) F ([]) rfl (by simp) h (by simp [TRs_e1, TRs_e2])
theorem TRs.last {H : Hp} {ts : List Tr} {t : Tr} {vs : List Value} {v : Value} {F : List Addr} (h : TRs H (ts ++ [t]) (vs ++ [v]) F) : ∃ F1 F2, F = F1 ++ F2 ∧ TRs H ts vs F1 ∧ TR H t v F2 := by
  refine ea_EEEEAAA (h.split) ?_
  intro v1 v2 F1 F2 e1 zq446 h1 h2
  obtain rfl := zq446
  simp only [TRs_e1, TRs_e2] at h2
  refine ea_EEEEAAAA (h2) ?_
  try clear h2
  intro u w G1 G2 zq447 zq448 h3 zq449 zq450
  obtain rfl := zq447
  obtain rfl := zq448
  obtain rfl := zq449
  obtain rfl := zq450
  obtain ⟨rfl, e2⟩ := List.append_inj' e1 rfl
  cases e2
  exact ⟨F1, G1, by simp, h1, h3⟩
theorem TR.nd {H : Hp} {lab : Str} {cs : List Tr} {x : Addr} {F : List Addr} (h : TR H (.node lab cs) (.ref x) F) : ∃ dx cl us G, F = x :: dx :: cl :: G ∧ Nd H x dx cl lab us ∧ TRs H cs us G := by
  simp only [TR_e1, TR_e2] at h
  obtain ⟨x', dx, cl, us, G, hx, rfl, hN, hC⟩ := h
  cases hx
  exact ia_EEEEAA _ _ _ _ rfl hN hC
mutual
noncomputable def lvs : Tr → List Str
  | .leaf c => [c]
  | .node _ cs => lvss cs
noncomputable def lvss : List Tr → List Str
  | [] => []
  | c :: cs => lvs c ++ lvss cs
end
theorem lvs_e1 {c} : lvs (.leaf c) = ([c]) := rfl
theorem lvs_e2 {w1} {cs} : lvs (.node w1 cs) = (lvss cs) := rfl
theorem lvss_e1 : lvss [] = ([]) := rfl
theorem lvss_e2 {c} {cs} : lvss (c :: cs) = (lvs c ++ lvss cs) := rfl
theorem lvss_append : ∀ a b : List Tr, lvss (a ++ b) = lvss a ++ lvss b
  | [], b => rfl
  | c :: cs, b => by simp only [List.cons_append, lvss_e1, lvss_e2, lvss_append cs b, List.append_assoc]
theorem lvss_take {cs : List Tr} {i : Nat} {t : Tr} (h : cs[i]? = some t) : lvss (cs.take (i + 1)) = lvss (cs.take i) ++ lvs t := by
  rw [List.take_add_one, h, lvss_append]
  simp [lvss_e1, lvss_e2]
theorem lvss_le {cs : List Tr} (i : Nat) : (lvss (cs.take i)).length ≤ (lvss cs).length := by
  have := congrArg (fun z => (lvss z).length) (List.take_append_drop i cs)
  simp only [lvss_append, List.length_append] at this
  lia
theorem hts_get : ∀ {cs : List Tr} {i : Nat} {t : Tr}, cs[i]? = some t → ht t ≤ hts cs
  | [], i, t, h => by simp at h
  | c :: cs, i, t, h => by
    induction i using NatEl with
    | zero => simp at h; subst h; simp only [hts]; lia
    | succ i => simp only [List.getElem?_cons_succ] at h; have := hts_get h; simp only [hts]; lia
/-- values that are these strings -/
noncomputable def SV (vs : List Value) (cs : List Str) : Prop := ∃ ls : List (Str × Tok), vs = strValues ls ∧ ls.map (·.1) = cs
theorem SV.nil : SV [] [] := ⟨[], rfl, rfl⟩
theorem SV.one (c : Str) (t : Tok) : SV [.str c t] [c] := ⟨[(c, t)], rfl, rfl⟩
theorem SV.append {vs ws : List Value} {cs ds : List Str} (h : SV vs cs) (k : SV ws ds) : SV (vs ++ ws) (cs ++ ds) := by
  refine ea_EA (h) ?_
  try clear h
  intro a zq390 zq391
  obtain rfl := zq390
  obtain rfl := zq391
  refine ea_EA (k) ?_
  try clear k
  intro b zq392 zq393
  obtain rfl := zq392
  obtain rfl := zq393
  exact ⟨a ++ b, by simp [strValues], by simp⟩
theorem SV.length {vs : List Value} {cs : List Str} (h : SV vs cs) : vs.length = cs.length := by
  refine ea_EA (h) ?_
  try clear h
  intro a zq394 zq395
  obtain rfl := zq394
  obtain rfl := zq395
  simp [strValues]
end
-- F4
section
section
variable {f : Fm} {l : Locs} {X : St} {env : Env} {k : Nat}
theorem tree_new (O : Ok f k) (hk : k < 298) {lab : Str} {t : Tok} {a : Addr} {vs : List Value} {n : Nat} {Q : Value → Locs → St → Prop} (ha : X.h a = some (listOf vs.toArray n)) (hz : vs.length ≤ sizeLine)
    (hq : ∀ x dx cl H', Le X.h H' → X.h x = none → X.h dx = none → X.h cl = none → Nd H' x dx cl lab vs → Q (.ref x) l ⟨H', X.g⟩) : T f (call (.ref 269) [.str lab t, .ref a]) l X Q := by
  refine T_new O (by exact bk1 (by assumption) rfl) (t_makes _) (t_init _) (t_isfn_init _) (Nat.le_of_ble_eq_true rfl) (Nat.le_of_ble_eq_true rfl) rfl fun A1 x dx O1 hx hdx hxd => ?_
  walk_at "m:enterC"
  intro f' O'
  refine T_sub (l' := [(Str.ofString "self", .ref x), (Str.ofString "node", .str lab t), (Str.ofString "children", .ref a)]) (by walk_at "m:sub") ?_
  walk_at "m:go"
  refine T_if0 ?_
  walk_at "m:go"
  refine ⟨rfl, ?_⟩
  walk_at "m:go"
  refine T_if0 ?_
  walk_at "m:go"
  refine ⟨rfl, ?_⟩
  walk_at "m:go"
  refine T_listOf (by walk_at "m:h") hz fun b m hb => ?_
  walk_at "m:go"
  dsimp only at hb ⊢
  have hbx : b ≠ x := (upd_none hb).1
  have hbd : b ≠ dx := (upd_none (upd_none hb).2).1
  have hbX : X.h b = none := (upd_none (upd_none hb).2).2
  refine T_setAttr O' (x := x) (C := 269) (dx := dx) (es := []) (n := 0) (es' := []) (n' := 0) (by walk_at "m:h") (by walk_at "m:h") (t_setattr _) (t_over _) (t_taker_ch _) (t_dict _) (by rfl) (by simp) fun hsh1 t1 => ?_
  walk_at "m:go"
  refine T_setAttr O' (x := x) (C := 269) (dx := dx) (es := putL (Str.ofString "_children") hsh1 (.str (Str.ofString "_children") t1) (.ref b) []) (n := putN (Str.ofString "_children") [] 0) (es' := []) (n' := 0) (by walk_at "m:h") (by walk_at "m:h") (t_setattr _) (t_over _) (t_taker_lb _) (t_dict _) (by rfl) (Nat.le_of_ble_eq_true rfl) fun hsh2 t2 => ?_
  walk_at "m:go"
  refine ⟨rfl, hq x dx b _ (fun c o e => ?_) hx hdx hbX ⟨by walk_at "m:h", ⟨_, upd_self _ _ _, hsh1, hsh2, t1, t2, t, _, rfl⟩, ⟨m, by walk_at "m:h"⟩⟩⟩
  have e1 := ne_of_some e hx
  have e2 := ne_of_some e hdx
  have e3 := ne_of_some e hbX
  exact upd_other e2 (upd_other e2 (upd_other e3 (upd_other e1 (upd_other e2 e))))
theorem label_ok (O : Ok f k) (hk : k < 298) {x dx cl : Addr} {lab : Str} {vs : List Value} {Q : Value → Locs → St → Prop} (h : Nd X.h x dx cl lab vs) (hq : ∀ t, Q (.str lab t) l X) : T f (call (.ref 195) [.ref x]) l X Q := by
  walk_at "m:enter"
  intro f' O'
  refine T_sub (l' := [(Str.ofString "self", .ref x)]) (by walk_at "m:sub") ?_
  walk_at "m:go"
  exact hq _
theorem set_label_ok (O : Ok f k) (hk : k < 298) {x dx cl : Addr} {lab lab' : Str} {t : Tok} {vs : List Value} {Q : Value → Locs → St → Prop} (h : Nd X.h x dx cl lab vs) (hq : ∀ o', ND o' cl lab' → Q .none l ⟨upd X.h dx o', X.g⟩) : T f (call (.ref 202) [.ref x, .str lab' t]) l X Q := by
  walk_at "m:enter"
  intro f' O'
  refine T_sub (l' := [(Str.ofString "self", .ref x), (Str.ofString "label", .str lab' t)]) (by walk_at "m:sub") ?_
  walk_at "m:go"
  refine T_set_label O' h fun o' ho => ?_
  walk_at "m:go"
  exact hq o' ho
theorem lenm_ok (O : Ok f k) (hk : k < 298) {x dx cl : Addr} {lab : Str} {vs : List Value} {Q : Value → Locs → St → Prop} (h : Nd X.h x dx cl lab vs) (hz : vs.length ≤ sizeLine) (hq : ∀ t, Q (.int vs.length t) l X) : T f (call (.ref 174) [.ref x]) l X Q := by
  walk_at "m:enter"
  intro f' O'
  refine T_sub (l' := [(Str.ofString "self", .ref x)]) (by walk_at "m:sub") ?_
  obtain ⟨n, hl⟩ := h.hl
  walk_at "m:go"
  exact hq _
theorem len_ok (O : Ok f k) (hk : k < 297) {x dx cl : Addr} {lab : Str} {vs : List Value} {Q : Value → Locs → St → Prop} (h : Nd X.h x dx cl lab vs) (hz : vs.length ≤ sizeLine) (hq : ∀ t, Q (.int vs.length t) l X) : T f (call (.builtin "len") [.ref x]) l X Q :=
  T_len_tree O (by exact bk1 (by assumption) rfl) h fun A' O' => lenm_ok O' (by exact bk2 (by assumption) rfl) h hz fun t => ⟨_, t, rfl, by lia, by rw [sizeLine_eq] at hz; lia, hq⟩
theorem get_ok (O : Ok f k) (hk : k < 297) {x dx cl : Addr} {lab : Str} {vs : List Value} {i : Int} {t : Tok} {v : Value} {value slice : Expr} {Q : Value → Locs → St → Prop} (h : Nd X.h x dx cl lab vs) (h0 : 0 ≤ i) (h1 : i < 2 ^ 63) (hv : vs[i.toNat]? = some v) (hq : Q v l X)
    (hsl : subscripted slice true (.ref x) (.int i t) = runValue (.builtin "lifetime.subscript" ⟨[.ref x, .int i t], []⟩)) : T f (subscriptTail value slice (.ref x) (.int i t)) l X Q := by
  refine T_sub_tree O (by exact bk1 (by assumption) rfl) h (fun A1 O1 => ?_) hsl
  walk_at "m:enter"
  intro f' O'
  refine T_sub (l' := [(Str.ofString "self", .ref x), (Str.ofString "index", .int i t)]) (by walk_at "m:sub") ?_
  walk_at "m:go"
  refine T_if1 ?_
  walk_at "m:go"
  refine ⟨rfl, ?_⟩
  obtain ⟨n, hl⟩ := h.hl
  walk_at "m:go"
  exact hq
end
end
-- F5
section
section
variable {f : Fm} {l : Locs} {X : St} {env : Env} {k : Nat}
theorem leaves_ok (d : Nat) : ∀ {f : Fm} {l : Locs} {X : St} {k : Nat} (O : Ok f k) (hk : k + d < 290) {x : Addr} {lab : Str} {cs : List Tr} {F : List Addr} {Q : Value → Locs → St → Prop} (hT : TR X.h (.node lab cs) (.ref x) F) (hd : hts cs ≤ d) (hz : (lvss cs).length ≤ 100000)
    (hq : ∀ a H' vs n, Le X.h H' → X.h a = none → H' a = some (listOf vs.toArray n) → SV vs (lvss cs) → Q (.ref a) l ⟨H', X.g⟩), T f (call (.ref 209) [.ref x]) l X Q := by
  induction d using Nat.strongRecOn with
  | _ d ih =>
  intro f l X k O hk x lab cs F Q hT hd hz hq
  refine ea_EEEEAA (TR.nd hT) ?_
  try clear hT
  intro dx cl us G zq276 hN hC
  obtain rfl := zq276
  walk_at "m:enter"
  intro f' O'
  refine T_sub (l' := [(Str.ofString "self", .ref x)]) (by walk_at "m:sub") ?_
  walk_at "m:go"
  refine inL rfl fun D hD => ?_
  have hN1 := hN.le (Le.upd (o := listOf [].toArray 0) hD)
  walk_at "m:go"
  have hDc : D ≠ cl := by rintro rfl; obtain ⟨_, e⟩ := hN.hl; rw [hD] at e; cases e
  refine TFor_list O' (n := 0) (vs := us) (fun i l' X' => Sub [(Str.ofString "leaves", .ref D), (Str.ofString "self", .ref x)] l' ∧ Le X.h X'.h ∧ X'.g = X.g ∧ ∃ vs n, X'.h D = some (listOf vs.toArray n) ∧ SV vs (lvss (cs.take i))) ?_ ?_ ?_ ?_
  · intro i l' X' zz3
    refine ea_AA (zz3) ?_
    try clear zz3
    intro _ le _
    obtain ⟨n, e⟩ := hN.hl; exact ⟨n, le _ _ e⟩
  · exact ia_AAAEEA (Sub.refl _) (Le.upd hD) rfl ([]) 0 (upd_self _ _ _) (by simp only [List.take_zero, lvss_e1, lvss_e2]; exact .nil)
  · intro i v l2 zz3 it o hv zz7 hit
    have zze := zz7.2.2.1
    revert hit; revert zz7
    refine StElR zz3 zze ?_
    clear zze
    clear zz3
    intro H2 zz7 hit
    refine ea_AAAEEA (zz7) ?_
    try clear zz7
    intro sb le eg vs n hD2 hS
    clear eg
    dsimp only at le hD2 hit ⊢
    refine ea_EEAA (hC.get hv) ?_
    intro t F1 ht1 hTR zc277
    clear zc277
    have hiX : X.h it = none := by
      cases e : X.h it with
      | none => rfl
      | some o => rw [le _ _ e] at hit; cases hit
    have hiD : D ≠ it := ne_of_some hD2 hit
    have hTR2 := (hTR.le le).le (Le.upd (o := o) hit)
    have hl2 := lvss_take ht1
    have hz1 := lvss_le (cs := cs) (i + 1)
    rw [hl2, List.length_append] at hz1
    have hz0 := hS.length
    have io : upd H2 it o it = some o := upd_self _ _ _
    have hD0 : upd H2 it o D = some (listOf vs.toArray n) := upd_other hiD hD2
    have le0 : Le X.h (upd H2 it o) := le.trans (Le.upd hit)
    revert hTR2; revert io; revert hD0; revert le0
    refine gen_x (upd H2 it o) ?_
    intro H0 le0 hD0 io hTR2
    refine T_sub sb ?_
    induction t using TrEl with
    | leaf c =>
      simp only [TR_e1, TR_e2] at hTR2
      refine ea_AE (hTR2) ?_
      try clear hTR2
      intro zq278 tc zq279
      obtain rfl := zq278
      obtain rfl := zq279
      simp only [lvs_e1, lvs_e2, List.length_cons, List.length_nil] at hz1 hl2
      walk_at "m:go"
      refine T_if0 ?_
      walk_at "m:go"
      refine ⟨rfl, ?_⟩
      walk_at "m:go"
      refine ⟨rfl, ?_⟩
      walk_at "m:go"
      refine ⟨upd_other hiD.symm io, (Sub.refl _).skip rfl, fun b o e => ?_, rfl, _, _, (del_ne hiD).trans (upd_self _ _ _), by rw [hl2]; exact hS.append (.one _ _)⟩
      exact (del_ne (ne_of_some e hiX)).trans (upd_other (ne_of_some e hD) (le0 _ _ e))
    | node lb cs1 =>
      have hT2 := hTR2
      simp only [TR_e1, TR_e2] at hTR2
      refine ea_EEEEEAAA (hTR2) ?_
      try clear hTR2
      intro y dy cl2 us2 G2 zq280 zq281 hN2 hC2
      obtain rfl := zq280
      obtain rfl := zq281
      simp only [lvs_e1, lvs_e2] at hz1 hl2
      have hh := hts_get ht1
      simp only [ht] at hh
      walk_at "m:go"
      refine T_if1 ?_
      walk_at "m:go"
      refine ⟨rfl, ?_⟩
      walk_at "m:go"
      refine ih (d - 1) (by lia) O' (by lia) hT2 (by lia) (by lia) fun a H3 ws m leH ha hal hS3 => ?_
      walk_at "m:go"
      refine T_extend (vs := vs) (ws := ws) (leH _ _ hD0) hal (by rw [sizeLine_eq, hz0, hS3.length]; lia) fun n' => ?_
      refine ⟨rfl, ?_⟩
      walk_at "m:go"
      refine ⟨upd_other hiD.symm (leH _ _ io), (Sub.refl _).skip rfl, fun b o e => ?_, rfl, _, _, (del_ne hiD).trans (upd_self _ _ _), by rw [hl2]; exact hS.append hS3⟩
      exact (del_ne (ne_of_some e hiX)).trans (upd_other (ne_of_some e hD) (leH _ _ (le0 _ _ e)))
  · intro l2 zz1 zz2
    have zze := zz2.2.2.1
    revert zz2
    refine StElR zz1 zze ?_
    clear zze
    clear zz1
    intro H2 zz2
    refine ea_AAAEEA (zz2) ?_
    try clear zz2
    intro sb le eg vs n hD2 hS
    clear eg
    refine T_sub sb ?_
    walk_at "m:go"
    refine hq D H2 vs n le hD hD2 ?_
    rw [hC.length, List.take_length] at hS
    exact hS
end
end
-- F6
section
mutual
noncomputable def Wd : Tr → Prop
  | .leaf _ => True
  | .node _ cs => cs.length ≤ 4 ∧ Wds cs
noncomputable def Wds : List Tr → Prop
  | [] => True
  | c :: cs => Wd c ∧ Wds cs
end
theorem Wd_e1 {w1} : Wd (.leaf w1) = (True) := rfl
theorem Wd_e2 {w1} {cs} : Wd (.node w1 cs) = (cs.length ≤ 4 ∧ Wds cs) := rfl
theorem Wds_e1 : Wds [] = (True) := rfl
theorem Wds_e2 {c} {cs} : Wds (c :: cs) = (Wd c ∧ Wds cs) := rfl
theorem Wds.get : ∀ {cs : List Tr} {i : Nat} {t : Tr}, Wds cs → cs[i]? = some t → Wd t
  | [], i, t, _, h => by simp at h
  | c :: cs, i, t, w, h => by
    simp only [Wds_e1, Wds_e2] at w
    induction i using NatEl with
    | zero => simp at h; subst h; exact w.1
    | succ i => simp only [List.getElem?_cons_succ] at h; exact Wds.get w.2 h
theorem take_get {α : Type} {cs : List α} {i : Nat} {t : α} (h : cs[i]? = some t) : cs.take (i + 1) = cs.take i ++ [t] := by
  rw [List.take_add_one, h]; rfl
section
variable {f : Fm} {l : Locs} {X : St} {env : Env} {k : Nat}
theorem built_ok (d : Nat) : ∀ {f : Fm} {l : Locs} {X : St} {k : Nat} (O : Ok f k) (hk : k + 4 * d < 280) {t : Tr} {v : Value} {Q : Value → Locs → St → Prop} (hP : PL X.h t v) (hd : ht t ≤ d) (hw : Wd t)
    (hq : ∀ w H' F, Le X.h H' → TR H' t w F → F.Nodup → (∀ a, a ∈ F → X.h a = none) → Q w l ⟨H', X.g⟩), T f (call (.ref 329) [v]) l X Q := by
  induction d using Nat.strongRecOn with
  | _ d ih =>
  intro f l X k O hk t v Q hP hd hw hq
  walk_at "m:enter"
  intro f' O'
  refine T_sub (l' := [(Str.ofString "node", v)]) (by walk_at "m:sub") ?_
  induction t using TrEl with
  | leaf c =>
    simp only [PL_e1, PL_e2] at hP
    obtain ⟨tc, rfl⟩ := hP
    walk_at "m:go"
    refine T_if1 ?_
    walk_at "m:go"
    refine ⟨rfl, ?_⟩
    walk_at "m:go"
    exact hq _ _ [] (Le.refl _) (by simp [TR_e1, TR_e2, retOf]) .nil (fun a h => nomatch h)
  | node lab cs =>
    simp only [PL_e1, PL_e2] at hP
    refine ea_EEEEEEAAA (hP) ?_
    try clear hP
    intro a b tl n m vs zq282 h1 h2 h3
    obtain rfl := zq282
    simp only [Wd_e1, Wd_e2] at hw
    simp only [ht] at hd
    walk_at "m:go"
    refine T_if0 ?_
    walk_at "m:go"
    refine ⟨rfl, ?_⟩
    walk_at "m:go"
    refine CompSrc_list O' (vs := vs) (fun i ys X' => Le X.h X'.h ∧ X'.g = X.g ∧ ys.length = i ∧ ∃ F, TRs X'.h (cs.take i) ys F ∧ F.Nodup ∧ ∀ a, a ∈ F → X.h a = none) (by rw [h3.length, sizeLine_eq]; lia) ?_ ?_ ?_ ?_
    · intro i ys X' zz3
      refine ea_AAA (zz3) ?_
      try clear zz3
      intro le _ e _
      exact ⟨⟨m, le _ _ h2⟩, Nat.le_of_eq e⟩
    · exact ia_AAAEAA (Le.refl _) rfl rfl ([]) (by simp [TRs_e1, TRs_e2]) .nil (fun a h => nomatch h)
    · intro hb' C i v ys zz5 O1 hi hv zz9
      have zze := zz9.2.1
      revert zz9
      refine StElR zz5 zze ?_
      clear zze
      clear zz5
      intro H2 zz9
      refine ea_AAAEAA (zz9) ?_
      try clear zz9
      intro le eg e F hF nd fr
      clear eg
      dsimp only at le hF ⊢
      refine ea_EA (h3.get hv) ?_
      intro t ht1 hp
      have hh := hts_get ht1
      walk_at "m:go"
      refine ih (d - 1) (by lia) O1 (by lia) (hp.le le) (by lia) (hw.2.get ht1) fun w H3 F3 le3 hT3 nd3 fr3 => ?_
      refine ia_AAAEAA (le.trans le3) rfl (by simp [e]) (F ++ F3) ?_ ?_ ?_
      · rw [take_get ht1]
        exact (hF.le le3).append (TRs.one hT3)
      · exact List.nodup_append.mpr ⟨nd, nd3, fun a ha b hb => by rintro rfl; exact (hF.in ha) (fr3 a hb)⟩
      · intro a ha
        rcases List.mem_append.mp ha with q | q
        · exact fr a q
        · exact le.none (fr3 a q)
    · intro ys zz1 zz2 D n hD
      have zze := zz2.2.1
      revert hD; revert zz2
      refine StElR zz1 zze ?_
      clear zze
      clear zz1
      intro H2 zz2 hD
      refine ea_AAAEAA (zz2) ?_
      try clear zz2
      intro le eg e F hF nd fr
      clear eg
      dsimp only at le hF hD ⊢
      rw [h3.length, List.take_length] at hF
      have hF2 := hF.le (Le.upd (o := listOf ys.toArray n) hD)
      walk_at "m:go"
      refine tree_new O' (by exact bk4 (by assumption) rfl) (upd_self _ _ _) (by rw [hF.length, sizeLine_eq]; lia) fun x dx cl H3 le3 hx hdx hcl hN => ?_
      walk_at "m:go"
      refine hq (.ref x) H3 (x :: dx :: cl :: F) ((le.trans (Le.upd hD)).trans le3) ?_ ?_ ?_
      · simp only [TR_e1, TR_e2]; exact ia_EEEEEAAA x dx cl ys F rfl rfl hN (hF2.le le3)
      · have n1 := hN.ne
        have q := fun a (ha : a ∈ F) => ne_of_in (hF2.in ha) hx
        have q1 := fun a (ha : a ∈ F) => ne_of_in (hF2.in ha) hdx
        have q2 := fun a (ha : a ∈ F) => ne_of_in (hF2.in ha) hcl
        simp only [List.nodup_cons, List.mem_cons, not_or]
        exact ⟨⟨n1.1, n1.2.1, fun h => q _ h rfl⟩, ⟨n1.2.2, fun h => q1 _ h rfl⟩, fun h => q2 _ h rfl, nd⟩
      · have old : ∀ {b}, upd H2 D (listOf ys.toArray n) b = none → X.h b = none := fun {b} h => (le.trans (Le.upd hD)).none h
        intro a ha
        simp only [List.mem_cons] at ha
        rcases ha with rfl | rfl | rfl | ha
        · exact old hx
        · exact old hdx
        · exact old hcl
        · exact fr a ha
end
end
-- F7
section
section
variable {f : Fm} {l : Locs} {X : St} {env : Env} {k : Nat}
theorem plain_ok (d : Nat) : ∀ {f : Fm} {l : Locs} {X : St} {k : Nat} (O : Ok f k) (hk : k + 4 * d < 280) {t : Tr} {v : Value} {F : List Addr} {Q : Value → Locs → St → Prop} (hP : TR X.h t v F) (hd : ht t ≤ d) (hw : Wd t)
    (hq : ∀ w H', Le X.h H' → PL H' t w → Q w l ⟨H', X.g⟩), T f (call (.ref 334) [v]) l X Q := by
  induction d using Nat.strongRecOn with
  | _ d ih =>
  intro f l X k O hk t v F Q hP hd hw hq
  refine T_callCL (l₀ := []) O (by exact bk3 (by assumption) rfl) (by k_is) (by k_is) (by exact fun s _ => BindsTo.of_eq rfl) (by rfl) (by decide) (by exact fun _ _ _ h => nomatch h) (by rfl) (by rfl) (by rfl) ?_
  intro f' H' O' le cells
  refine ea_AEA (cells (Str.ofString "tree") (f'.L + 1) (.head _)) ?_
  intro hcX oc hoc hvc
  have hvc : oc.data = .cell (some v) := hvc
  replace hP := hP.le le
  induction t using TrEl with
  | leaf c =>
    simp only [TR_e1, TR_e2] at hP
    refine ea_AE (hP) ?_
    try clear hP
    intro zq283 tc zq284
    obtain rfl := zq283
    obtain rfl := zq284
    walk_at "m:go"
    refine T_if1 ?_
    walk_at "m:go"
    refine ⟨rfl, ?_⟩
    walk_at "m:go"
    exact hq _ _ le (by simp [PL_e1, PL_e2, retOf])
  | node lab cs =>
    have hT := hP
    simp only [TR_e1, TR_e2] at hP
    refine ea_EEEEEAAA (hP) ?_
    try clear hP
    intro x dx cl vs G zq285 zq286 hN hC
    obtain rfl := zq285
    obtain rfl := zq286
    simp only [Wd_e1, Wd_e2] at hw
    simp only [ht] at hd
    have hlen := hC.length
    walk_at "m:go"
    refine T_if0 ?_
    walk_at "m:go"
    refine ⟨rfl, ?_⟩
    walk_at "m:go"
    refine label_ok O' (by exact bk4 (by assumption) rfl) hN fun tl => ?_
    walk_at "m:go"
    refine len_ok O' (by exact bk4 (by assumption) rfl) hN (by rw [sizeLine_eq]; lia) fun tn => ?_
    walk_at "m:go"
    refine T_range1 fun R t1 t2 hR => ?_
    have leR := Le.upd (o := rangeOf 0 vs.length 1 t1 tn t2) hR
    refine CompSrc_range O' (N := vs.length) (fun i ys X' => Le (upd H' R (rangeOf 0 vs.length 1 t1 tn t2)) X'.h ∧ X'.g = X.g ∧ ys.length = i ∧ PLs X'.h (cs.take i) ys) (upd_self _ _ _) (small_one (by decide) (by decide) (by lia) (by lia)) (rangeSize_to _) (by rw [sizeLine_eq]; omega) ?_ ?_ ?_ ?_
    · intro i ys X' zz3
      refine ea_AAA (zz3) ?_
      try clear zz3
      intro _ _ e _
      exact Nat.le_of_eq e
    · exact ⟨Le.refl _, rfl, rfl, by simp [PLs_e1, PLs_e2]⟩
    · intro hb' C i w ys zz5 O1 hi zz8 zz9
      obtain ⟨H2, g2⟩ := zz5
      obtain ⟨ti, rfl⟩ := zz8
      refine ea_AAA (zz9) ?_
      try clear zz9
      intro le2 eg e hP2
      obtain rfl : g2 = X.g := eg
      dsimp only at le2 hP2 ⊢
      have hoc2 := le2 _ _ (leR _ _ hoc)
      have hN2 := (hN.le leR).le le2
      refine ea_EEAA (hC.get (List.getElem?_eq_getElem hi)) ?_
      intro t F1 ht1 hT1 zc287
      clear zc287
      have hT1' := (hT1.le leR).le le2
      have hh := hts_get ht1
      walk_at "m:go"
      refine get_ok O1 (by exact bk4 (by assumption) rfl) hN2 (v := vs[i]) (by lia) (by lia) (by rw [show (0 + (i : Int) * 1).toNat = i by lia]; exact List.getElem?_eq_getElem hi) ?_ (by with_unfolding_all rfl)
      walk_at "m:go"
      refine ih (d - 1) (by lia) O1 (by lia) hT1' (by lia) (hw.2.get ht1) fun u H3 le3 hP3 => ?_
      refine ⟨le2.trans le3, rfl, by simp [e], ?_⟩
      rw [take_get ht1]
      exact PLs.snoc hP3 (hP2.le le3)
    · intro ys zz1 zz2 D n hD
      have zze := zz2.2.1
      revert hD; revert zz2
      refine StElR zz1 zze ?_
      clear zze
      clear zz1
      intro H2 zz2 hD
      refine ea_AAA (zz2) ?_
      try clear zz2
      intro le2 eg e hP2
      clear eg
      dsimp only at le2 hP2 hD ⊢
      rw [hlen, List.take_length] at hP2
      walk_at "m:go"
      refine inL rfl fun E hE => ?_
      walk_at "m:go"
      have leD := Le.upd (o := listOf ys.toArray n) hD
      refine hq _ _ ((((le.trans leR).trans le2).trans leD).trans (Le.upd hE)) ?_
      simp only [PL_e1, PL_e2]
      exact ia_EEEEEEAAA E D tl 0 n ys rfl (upd_self _ _ _) (Le.upd hE _ _ (upd_self _ _ _)) ((hP2.le leD).le (Le.upd hE))
end
end
-- P4
section
noncomputable def isNode : Tr → Bool
  | .leaf _ => false
  | .node _ _ => true
noncomputable def plus : Str := Str.ofString "+"
noncomputable def stepC (words : Bool) : Str × List Tr → Str × List Tr
  | (lab, [.node l2 (c2 :: cs2)]) => if (words || isNode c2) = true then ((lab ++ plus) ++ l2, c2 :: cs2) else (lab, [.node l2 (c2 :: cs2)])
  | p => p
noncomputable def chain (words : Bool) : Nat → Str × List Tr → Str × List Tr
  | 0, p => p
  | n + 1, p => stepC words (chain words n p)
theorem chain_succ (words : Bool) (n : Nat) (p : Str × List Tr) : chain words (n + 1) p = chain words n (stepC words p) := by
  induction n with
  | zero => rfl
  | succ n ih => show stepC words (chain words (n + 1) p) = stepC words (chain words n (stepC words p)); rw [ih]
noncomputable def jn (words : Bool) : Nat → Bool → Tr → Tr
  | _, _, .leaf c => .leaf c
  | 0, _, .node lab cs => .node lab cs
  | n + 1, joins, .node lab cs => .node (if joins then chain words 20 (lab, cs) else (lab, cs)).1 ((if joins then chain words 20 (lab, cs) else (lab, cs)).2.map (jn words n true))
theorem jn_true (words : Bool) (n : Nat) (lab : Str) (cs : List Tr) : jn words (n + 1) true (.node lab cs) = .node (chain words 20 (lab, cs)).1 ((chain words 20 (lab, cs)).2.map (jn words n true)) := by
  simp only [jn, if_true]
theorem jn_false (words : Bool) (n : Nat) (lab : Str) (cs : List Tr) : jn words (n + 1) false (.node lab cs) = .node lab (cs.map (jn words n true)) := by
  simp only [jn, Bool.false_eq_true, if_false]
theorem jn_leaf (words joins : Bool) (n : Nat) (c : Str) : jn words n joins (.leaf c) = .leaf c := by cases n <;> simp only [jn]
theorem chain_back (words : Bool) (n : Nat) (p : Str × List Tr) : chain words (n + 1) p = stepC words (chain words n p) := rfl
theorem Wfs.get : ∀ {cs : List Tr} {i : Nat} {t : Tr}, Wfs cs → cs[i]? = some t → Wf t
  | [], i, t, _, h => by simp at h
  | c :: cs, i, t, w, h => by
    simp only [Wfs_e1, Wfs_e2] at w
    induction i using NatEl with
    | zero => simp at h; subst h; exact w.1
    | succ i => simp only [List.getElem?_cons_succ] at h; exact Wfs.get w.2 h
theorem Lb.len {s : Str} (h : Lb s) : s.length = 1 := by rcases h with rfl | rfl | rfl <;> decide +kernel
theorem Lf.len {s : Str} (h : Lf s) : s.length = 1 := by rcases h with rfl | rfl | rfl <;> decide +kernel
theorem Str.length_append' (a b : Str) : (a ++ b).length = a.length + b.length := by
  show (a.cps ++ b.cps).size = a.cps.size + b.cps.size
  exact Array.size_append
theorem catLe {x y : Str} {a b : Nat} (hx : x.length ≤ a) (hy : y.length ≤ b) : (x ++ y).length ≤ a + b := by rw [Str.length_append']; exact Nat.add_le_add hx hy
theorem catOk {x y : Str} {a b : Nat} (hx : x.length ≤ a) (hy : y.length ≤ b) (h : Nat.ble (a + b) 16777216 = true) : x.length + y.length ≤ sizeLine := by
  rw [sizeLine_eq]; exact Nat.le_trans (Nat.add_le_add hx hy) (Nat.le_of_ble_eq_true h)
/-- what holds of a joined chain's end -/
structure Jw (d n : Nat) (p : Str × List Tr) : Prop where
  len : p.1.length ≤ 1 + 2 * n
  wf : Wfs p.2
  l1 : 1 ≤ p.2.length
  l4 : p.2.length ≤ 4
  h : hts p.2 ≤ d
theorem Jw.step {d n : Nat} {p : Str × List Tr} (words : Bool) (h : Jw d n p) : Jw d (n + 1) (stepC words p) := by
  obtain ⟨lab, cs⟩ := p
  have base : Jw d (n + 1) (lab, cs) := ⟨by have := h.len; simp only at this ⊢; lia, h.wf, h.l1, h.l4, h.h⟩
  unfold stepC
  split
  · rename_i heq
    cases heq
    split
    · have w := h.wf
      have hh := h.h
      simp only [Wfs_e1, Wfs_e2, Wf_e1, Wf_e2, and_true] at w
      simp only [hts, ht] at hh
      refine ⟨?_, w.2.2.2, w.2.1, w.2.2.1, by simp only [hts]; lia⟩
      have e1 := h.len
      have e2 := w.1.len
      simp only [Str.length_append'] at e1 ⊢
      have e3 : plus.length = 1 := by decide +kernel
      lia
    · exact base
  · exact base
theorem Jw.chain {d : Nat} {p : Str × List Tr} (words : Bool) (h : Jw d 0 p) : ∀ n, Jw d n (chain words n p)
  | 0 => h
  | n + 1 => (Jw.chain words h n).step words
theorem Jw.mono {d n : Nat} {p : Str × List Tr} (h : Jw d n p) : Jw d (n + 1) p := ⟨by have := h.len; lia, h.wf, h.l1, h.l4, h.h⟩
end
-- F8
section
section
variable {f : Fm} {l : Locs} {X : St} {env : Env} {k : Nat}
theorem joined_ok (d : Nat) : ∀ {f : Fm} {l : Locs} {X : St} {k : Nat} (O : Ok f k) (hk : k + 4 * d < 280) {lab : Str} {cs : List Tr} {v : Value} {words joins : Bool} {Q : Value → Locs → St → Prop} (hP : PL X.h (.node lab cs) v) (hd : hts cs < d) (hw : Wf (.node lab cs))
    (hq : ∀ w H', Le X.h H' → PL (wo H' (fun b => X.h b ≠ none)) (jn words d joins (.node lab cs)) w → Q w l ⟨H', X.g⟩), T f (call (.ref 339) [v, .bool words, .bool joins]) l X Q := by
  induction d using Nat.strongRecOn with
  | _ d ih =>
  intro f l X k O hk lab cs v words joins Q hP hd hw hq
  simp only [PL_e1, PL_e2] at hP
  refine ea_EEEEEEAAA (hP) ?_
  try clear hP
  intro a b tl n m vs zq288 h1 h2 h3
  obtain rfl := zq288
  simp only [Wf_e1, Wf_e2] at hw
  refine T_callCL (l₀ := [(Str.ofString "node", .ref a), (Str.ofString "joins", .bool joins)]) O (by exact bk3 (by assumption) rfl) (by k_is) (by k_is) (by exact fun s _ => BindsTo.of_eq rfl) (by rfl) (by decide) ?_ (by rfl) (by rfl) (by rfl) ?_
  · exact fun _ => hl_cons rfl (hl_cons rfl hl_nil)
  intro f' H' O' le cells
  refine ea_AEA (cells (Str.ofString "words") (f'.L + 1) (.head _)) ?_
  intro hcX oc hoc hvc
  have hvc : oc.data = .cell (some (.bool words)) := hvc
  replace h1 := le _ _ h1
  replace h2 := le _ _ h2
  replace h3 := h3.le le
  walk_at "m:go"
  refine T_assign_swap2 O' ?_ (by rfl) (by rfl)
  walk_at "m:go"
  refine inT rfl fun D hD => inSw2 (upd_self _ _ _) ?_
  walk_at "m:go"
  refine T_range1 fun R u1 u2 hR => ?_
  dsimp only at hD hR ⊢
  refine TFor_hp (fun H => Le H' H ∧ ∃ tk, H R = some (rangeOf 0 20 1 u1 tk u2)) ⟨(Le.upd hD).trans (Le.upd hR), _, upd_self _ _ _⟩ ?_
  intro H1 zz1
  refine ea_AE (zz1) ?_
  try clear zz1
  intro le1 tk hR1
  have J0 : Jw (hts cs) 0 (lab, cs) := ⟨by rw [hw.1.len]; lia, hw.2.2.2, hw.2.1, hw.2.2.1, Nat.le_refl _⟩
  refine TFor_range O' (N := 20) (fun i l' X' => Le H1 X'.h ∧ X'.g = X.g ∧ ∃ p b' tl' vs' m', (joins = true → p = chain words i (lab, cs)) ∧ (joins = false → p = (lab, cs)) ∧ Jw (hts cs) i p ∧ X'.h b' = some (listOf vs'.toArray m') ∧ PLs X'.h p.2 vs' ∧
    Sub [(Str.ofString "label", .str p.1 tl'), (Str.ofString "children", .ref b'), (Str.ofString "node", .ref a), (Str.ofString "joins", .bool joins)] l') hR1 (small_one (by decide) (by decide) (by decide) (by decide)) (rangeSize_to 20) ?_ ?_ ?_
  · exact ia_AAEEEEEAAAAA (Le.refl _) rfl (lab, cs) b tl vs m (fun _ => rfl) (fun _ => rfl) J0 (le1 _ _ h2) (h3.le le1) (Sub.refl _)
  · intro i t l2 zz3 it o hi zz7 hit
    have zze := zz7.2.1
    revert hit; revert zz7
    refine StElR zz3 zze ?_
    clear zze
    clear zz3
    intro H2 zz7 hit
    refine ea_AAEEEEEAAAAA (zz7) ?_
    try clear zz7
    intro le2 eg zq289 b' tl' vs' m' p1 p0 J hb' hP' sb
    obtain ⟨lb, cs2⟩ := zq289
    clear eg
    dsimp only at le2 hb' hP' sb hit ⊢
    have itne : ∀ {b o}, H2 b = some o → b ≠ it := fun e => ne_of_some e hit
    refine T_sub sb ?_
    walk_at "m:go"
    have leI := Le.upd (o := o) hit
    have io : upd H2 it o it = some o := upd_self _ _ _
    have hb0 := hb'
    have hP0 := hP'
    replace hb' := leI _ _ hb'
    replace hP' := hP'.le leI
    have hoc2 := leI _ _ (le2 _ _ (le1 _ _ hoc))
    have le3 := le2.trans leI
    have hdel : del (upd H2 it o) it = H2 := del_upd hit
    revert io; revert hb'; revert hP'; revert hoc2; revert le3; revert hdel; revert leI
    refine gen_x (upd H2 it o) ?_
    intro H3 leI hdel le3 hoc2 hP' hb' io
    refine T_ifc (fun b l' X' => l' = [(Str.ofString "turn", Value.int (0 + (i : Int) * 1) t), (Str.ofString "label", .str lb tl'), (Str.ofString "children", .ref b'), (Str.ofString "node", .ref a), (Str.ofString "joins", .bool joins)] ∧ X' = ⟨H3, X.g⟩ ∧
      (b = false → joins = true → stepC words (lb, cs2) = (lb, cs2)) ∧ (b = true → joins = true ∧ ∃ l2 c2 cs3, cs2 = [.node l2 (c2 :: cs3)] ∧ stepC words (lb, cs2) = ((lb ++ plus) ++ l2, c2 :: cs3))) ?_ ?_ ?_
    · walk_at "m:go"
      induction joins using BoolEl with
      | false => exact ⟨rfl, rfl, nofun, nofun⟩
      | true =>
      have hlen := hP'.length
      have jz : vs'.length ≤ sizeLine := by have := J.l4; rw [sizeLine_eq]; simp only at this; lia
      have jl := J.l1
      have jw := J.wf
      revert jw; revert jl; revert hlen; revert hP'
      refine Ls3El cs2 ?_ ?_ ?_
      · intro _ _ jl _; simp at jl
      · intro t1 t2 r hP' hlen _ _
        have hl1 : ((vs'.length : Int) == 1) = false := by simp only [List.length_cons] at hlen; simp; lia
        walk_at "m:go"
        refine ite_f (by rw [hl1]; decide) ?_
        exact ⟨rfl, rfl, fun _ _ => by simp [stepC], nofun⟩
      · intro t1 hP' hlen _ jw
        have hl1 : ((vs'.length : Int) == 1) = true := by simp only [List.length_cons, List.length_nil] at hlen; simp; lia
        walk_at "m:go"
        refine ite_t hl1 ?_
        simp only [PLs_e1, PLs_e2] at hP'
        refine ea_EEAA (hP') ?_
        try clear hP'
        intro u ws zq290 hu zq291
        obtain rfl := zq290
        obtain rfl := zq291
        induction t1 using TrEl with
        | leaf c =>
          simp only [PL_e1, PL_e2] at hu
          obtain ⟨tc, rfl⟩ := hu
          walk_at "m:go"
          exact ⟨rfl, rfl, fun _ _ => by simp [stepC], nofun⟩
        | node l3 cs3 =>
          simp only [PL_e1, PL_e2] at hu
          refine ea_EEEEEEAAA (hu) ?_
          try clear hu
          intro a3 b3 tl3 n3 m3 vs3 zq292 h31 h32 h33
          obtain rfl := zq292
          simp only [Wfs_e1, Wfs_e2, Wf_e1, Wf_e2] at jw
          have hlen3 := h33.length
          revert jw; revert h33
          refine LsEl cs3 (fun _ jw => by simp at jw) ?_
          intro c2 cs3 h33 jw
          simp only [PLs_e1, PLs_e2] at h33
          refine ea_EEAA (h33) ?_
          try clear h33
          intro u2 ws2 zq293 hu2 _
          obtain rfl := zq293
          walk_at "m:go"
          induction words using BoolEl with
          | true =>
            walk_at "m:go"
            exact ⟨rfl, rfl, nofun, fun _ => ⟨rfl, l3, c2, cs3, rfl, rfl⟩⟩
          | false =>
            induction c2 using TrEl with
            | leaf c =>
              simp only [PL_e1, PL_e2] at hu2
              obtain ⟨tc, rfl⟩ := hu2
              walk_at "m:go"
              exact ⟨rfl, rfl, fun _ _ => by simp [stepC, isNode], nofun⟩
            | node l4 cs4 =>
              simp only [PL_e1, PL_e2] at hu2
              refine ea_EEEEEEAAA (hu2) ?_
              try clear hu2
              intro a4 b4 tl4 n4 m4 vs4 zq294 h41 h42 h43
              obtain rfl := zq294
              walk_at "m:go"
              exact ⟨rfl, rfl, nofun, fun _ => ⟨rfl, l3, _, cs3, rfl, by simp [stepC, isNode]⟩⟩
    · intro l' X' zz2
      refine ea_AAA (zz2) ?_
      try clear zz2
      intro zq295 zq296 zc297 h
      obtain rfl := zq295
      obtain rfl := zq296
      clear zc297
      refine ea_AEEEA (h rfl) ?_
      intro hj l3 c2 cs3 zq298 hs
      obtain rfl := zq298
      have J1 := J.step words
      rw [hs] at J1
      simp only [PLs_e1, PLs_e2, PL_e1, PL_e2] at hP0
      refine ea_EEAA (hP0) ?_
      try clear hP0
      intro u0 ws0 zq299 zq300 zq301
      obtain rfl := zq299
      refine ea_EEEEEEAAA (zq300) ?_
      try clear zq300
      intro a5 b5 tl5 n5 m5 vs5 zq302 h51 h52 h53
      obtain rfl := zq302
      obtain rfl := zq301
      have e2 := leI _ _ h51
      walk_at "m:go"
      have hlb : lb.length ≤ 50 := by have := J.len; simp only at this; lia
      have jw := J.wf
      simp only [Wfs_e1, Wfs_e2, Wf_e1, Wf_e2] at jw
      have hl3 := jw.1.1.len
      refine T_cat (by rw [sizeLine_eq]; have : (Str.ofString "+").length = 1 := by decide +kernel
                       exact bk8 (by assumption) rfl) fun t1 => ?_
      walk_at "m:go"
      refine T_cat (by rw [Str.length_append', sizeLine_eq]; have : (Str.ofString "+").length = 1 := by decide +kernel
                       lia) fun t2 => ?_
      walk_at "m:go"
      refine ⟨io, ?_⟩
      dsimp only
      rw [hdel]
      refine ia_AAEEEEEAAAAA le2 rfl _ b5 t2 vs5 m5 (fun hj => ?_) (fun e => ?_) J1 h52 (by simp only [PLs_e1, PLs_e2]; exact h53) ?_
      · rw [← hs, p1 hj, chain_back]
      · rw [hj] at e; cases e
      · walk_at "m:sub"
    · intro l' X' zz2
      refine ea_AAA (zz2) ?_
      try clear zz2
      intro zq303 zq304 h zc305
      obtain rfl := zq303
      obtain rfl := zq304
      clear zc305
      walk_at "m:go"
      refine ⟨io, ?_⟩
      dsimp only
      rw [hdel]
      refine ia_AAEEEEEAAAAA le2 rfl (lb, cs2) b' tl' vs' m' (fun hj => ?_) p0 J.mono hb0 hP0 ((Sub.refl _).skip rfl)
      rw [← h rfl hj, p1 hj, chain_back]
  · intro l2 zz1 zz2
    have zze := zz2.2.1
    revert zz2
    refine StElR zz1 zze ?_
    clear zze
    clear zz1
    intro H2 zz2
    refine ea_AAEEEEEAAAAA (zz2) ?_
    try clear zz2
    intro le2 eg zq306 b' tl' vs' m' p1 p0 J hb' hP' sb
    obtain ⟨lb, cs2⟩ := zq306
    clear eg
    dsimp only at le2 hb' hP' sb ⊢
    refine T_sub sb ?_
    walk_at "m:go"
    have hlen := hP'.length
    have hl4 := J.l4
    have hoc2 := le2 _ _ (le1 _ _ hoc)
    simp only at hl4
    have hz : vs'.length ≤ sizeLine := by rw [sizeLine_eq]; lia
    obtain ⟨d', rfl⟩ : ∃ d', d = d' + 1 := ⟨d - 1, by lia⟩
    have hjn : jn words (d' + 1) joins (.node lab cs) = .node lb (cs2.map (jn words d' true)) := by
      induction joins using BoolEl with
      | true => rw [jn_true, ← p1 rfl]
      | false => cases p0 rfl; exact jn_false _ _ _ _
    rw [hjn] at hq
    have jh := J.h
    have jw := J.wf
    simp only at jh jw
    refine CompSrc_list O' (vs := vs') (fun i ys X' => Le H2 X'.h ∧ X'.g = X.g ∧ ys.length = i ∧ PLs (wo X'.h (fun b => X.h b ≠ none)) ((cs2.map (jn words d' true)).take i) ys) hz ?_ ?_ ?_ ?_
    · intro i ys X' zz3
      refine ea_AAA (zz3) ?_
      try clear zz3
      intro le3 _ e _
      exact ⟨⟨m', le3 _ _ hb'⟩, Nat.le_of_eq e⟩
    · exact ⟨Le.refl _, rfl, rfl, by simp [PLs_e1, PLs_e2]⟩
    · intro hb' C i v ys zz5 O1 hi hv zz9
      have zze := zz9.2.1
      revert zz9
      refine StElR zz5 zze ?_
      clear zze
      clear zz5
      intro H3 zz9
      refine ea_AAA (zz9) ?_
      try clear zz9
      intro le3 eg e hF
      clear eg
      dsimp only at le3 hF ⊢
      refine ea_EA (hP'.get hv) ?_
      intro t ht1 hp
      have hh := hts_get ht1
      have hwt := jw.get ht1
      have hoc3 := le3 _ _ hoc2
      have hp3 := hp.le le3
      have htk : (cs2.map (jn words d' true)).take (i + 1) = (cs2.map (jn words d' true)).take i ++ [jn words d' true t] := take_get (by rw [List.getElem?_map, ht1]; rfl)
      induction t using TrEl with
      | leaf c =>
        have hp4 := hp3
        simp only [PL_e1, PL_e2] at hp3
        obtain ⟨tc, rfl⟩ := hp3
        walk_at "m:go"
        refine ⟨le3, rfl, by simp [e], ?_⟩
        rw [htk]
        exact PLs.snoc (by simp only [jn_leaf, PL_e1, PL_e2]; exact ⟨_, rfl⟩) hF
      | node lb3 cs3 =>
        have hp4 := hp3
        simp only [PL_e1, PL_e2] at hp3
        refine ea_EEEEEEAAA (hp3) ?_
        try clear hp3
        intro a6 b6 tl6 n6 m6 vs6 zq307 h61 h62 h63
        obtain rfl := zq307
        simp only [ht] at hh
        walk_at "m:go"
        refine ih d' (by lia) O1 (by lia) hp4 (by lia) hwt fun w H4 le4 hP4 => ?_
        refine ⟨le3.trans le4, rfl, by simp [e], ?_⟩
        rw [htk]
        have leX : ∀ b, X.h b ≠ none → H3 b ≠ none := fun b hb e => hb ((((le.trans le1).trans le2).trans le3).none e)
        exact PLs.snoc (hP4.le (wo_mono fun b o e n => ⟨e, fun q => n (leX b q)⟩)) (hF.le (wo_mono fun b o e n => ⟨le4 _ _ e, n⟩))
    · intro ys zz1 zz2 E n hE
      have zze := zz2.2.1
      revert hE; revert zz2
      refine StElR zz1 zze ?_
      clear zze
      clear zz1
      intro H3 zz2 hE
      refine ea_AAA (zz2) ?_
      try clear zz2
      intro le3 eg e hF
      clear eg
      dsimp only at le3 hF hE ⊢
      rw [hlen, List.take_of_length_le (by simp)] at hF
      walk_at "m:go"
      refine inL rfl fun G hG => ?_
      walk_at "m:go"
      have leE := Le.upd (o := listOf ys.toArray n) hE
      refine hq _ _ (((((le.trans le1).trans le2).trans le3).trans leE).trans (Le.upd hG)) ?_
      simp only [PL_e1, PL_e2]
      have leX : Le X.h H3 := ((le.trans le1).trans le2).trans le3
      have nE : ¬ X.h E ≠ none := fun q => q (leX.none hE)
      have nG : ¬ X.h G ≠ none := fun q => q (leX.none (leE.none hG))
      exact ia_EEEEEEAAA G E tl' 0 n ys rfl (wo_some.mpr ⟨upd_self _ _ _, nG⟩) (wo_some.mpr ⟨Le.upd hG _ _ (upd_self _ _ _), nE⟩) (hF.le (wo_mono fun b o e n => ⟨Le.upd hG _ _ (leE _ _ e), n⟩))
end
end
-- P5
section
noncomputable def dash : Str := Str.ofString "-"
noncomputable def barS : Str := Str.ofString "|<"
noncomputable def caretS : Str := Str.ofString "^<"
noncomputable def gtS : Str := Str.ofString ">"
noncomputable def lbl : Tr → Str
  | .leaf c => c
  | .node lab _ => lab
noncomputable def jo (ns : List Str) : Str := Txt.join dash ns
noncomputable def vlab (lab mark : Str) (ns : List Str) : Str := (((lab ++ barS) ++ jo ns) ++ gtS) ++ mark
noncomputable def mL (V : List Str → Str) (ns : List Str) (many : Nat) (ch : List Tr) : Nat → List Tr
  | 0 => ch.take 2
  | i + 1 => [.node (V ((ns.take (i + 2)).drop (i + 2 - many))) (mL V ns many ch i), ch.getD (i + 2) (.leaf dash)]
theorem mL_e1 {V : List Str → Str} {ns : List Str} {many : Nat} {ch : List Tr} : mL V ns many ch 0 = (ch.take 2) := rfl
theorem mL_e2 {V : List Str → Str} {ns : List Str} {many : Nat} {ch : List Tr} {i} : mL V ns many ch (i + 1) = ([.node (V ((ns.take (i + 2)).drop (i + 2 - many))) (mL V ns many ch i), ch.getD (i + 2) (.leaf dash)]) := rfl
noncomputable def mR (V : List Str → Str) (ns : List Str) (many : Nat) (ch : List Tr) : Nat → List Tr
  | 0 => ch.drop (ch.length - 2)
  | i + 1 => [ch.getD (ch.length - 3 - i) (.leaf dash), .node (V ((ns.drop (ch.length - 2 - i)).take many)) (mR V ns many ch i)]
theorem mR_e1 {V : List Str → Str} {ns : List Str} {many : Nat} {ch : List Tr} : mR V ns many ch 0 = (ch.drop (ch.length - 2)) := rfl
theorem mR_e2 {V : List Str → Str} {ns : List Str} {many : Nat} {ch : List Tr} {i} : mR V ns many ch (i + 1) = ([ch.getD (ch.length - 3 - i) (.leaf dash), .node (V ((ns.drop (ch.length - 2 - i)).take many)) (mR V ns many ch i)]) := rfl
noncomputable def made (left : Bool) (many : Nat) (V : List Str → Str) (ns : List Str) (ch : List Tr) : List Tr :=
  if ch.length < 3 then ch else if left then mL V ns many ch (ch.length - 2) else mR V ns many ch (ch.length - 2)
noncomputable def hdN : List Tr → Bool
  | c :: _ => isNode c
  | [] => false
noncomputable def marks (above : Nat) (top : Bool) (cs : List Tr) : Bool := decide (0 < above) && (!top && hdN cs)
noncomputable def bn (left : Bool) (many above : Nat) : Nat → List Str → Bool → Tr → Tr
  | _, _, _, .leaf c => .leaf c
  | 0, _, _, t => t
  | n + 1, par, top, .node lab cs =>
    let m := marks above top cs
    let mark := if m then (caretS ++ jo par) ++ gtS else Str.ofString ""
    let par' := if m then lab :: par.take (above - 1) else par
    .node (lab ++ mark) (made left many (vlab lab mark) (cs.map lbl) (cs.map (bn left many above n par' false)))
mutual
noncomputable def Sm : Tr → Prop
  | .leaf c => c.length ≤ 100
  | .node lab cs => lab.length ≤ 100 ∧ 1 ≤ cs.length ∧ cs.length ≤ 4 ∧ Sms cs
noncomputable def Sms : List Tr → Prop
  | [] => True
  | c :: cs => Sm c ∧ Sms cs
end
theorem Sm_e1 {c} : Sm (.leaf c) = (c.length ≤ 100) := rfl
theorem Sm_e2 {lab} {cs} : Sm (.node lab cs) = (lab.length ≤ 100 ∧ 1 ≤ cs.length ∧ cs.length ≤ 4 ∧ Sms cs) := rfl
theorem Sms_e1 : Sms [] = (True) := rfl
theorem Sms_e2 {c} {cs} : Sms (c :: cs) = (Sm c ∧ Sms cs) := rfl
theorem Sms.get : ∀ {cs : List Tr} {i : Nat} {t : Tr}, Sms cs → cs[i]? = some t → Sm t
  | [], i, t, _, h => by simp at h
  | c :: cs, i, t, w, h => by
    simp only [Sms_e1, Sms_e2] at w
    induction i using NatEl with
    | zero => simp at h; subst h; exact w.1
    | succ i => simp only [List.getElem?_cons_succ] at h; exact Sms.get w.2 h
theorem Sm.lbl {t : Tr} (h : Sm t) : (lbl t).length ≤ 100 := by
  cases t <;> simp only [Sm_e1, Sm_e2] at h
  · exact h
  · exact h.1
/-- short strings -/
noncomputable def Sh (n m : Nat) (ns : List Str) : Prop := ns.length ≤ n ∧ ∀ s ∈ ns, s.length ≤ m
theorem Sh.sum {n m : Nat} {ns : List Str} (h : Sh n m ns) : (ns.map (·.length)).sum ≤ n * m := by
  have : ∀ (l : List Str), (∀ s ∈ l, s.length ≤ m) → (l.map (·.length)).sum ≤ l.length * m := by
    intro l hl
    induction l with
    | nil => simp
    | cons a r ih =>
      simp only [List.map_cons, List.sum_cons, List.length_cons, Nat.succ_mul]
      have := hl a (by simp)
      have := ih fun s hs => hl s (by simp [hs])
      lia
  exact Nat.le_trans (this ns h.2) (Nat.mul_le_mul_right _ h.1)
theorem Sh.join {n m : Nat} {ns : List Str} (h : Sh n m ns) (hb : n * m + n ≤ 100000) : JoinOk dash ns = true := by
  refine joinOk_of ?_
  have h1 := h.sum
  have h2 := h.1
  have : dash.length = 1 := by decide +kernel
  rw [this]
  lia
theorem jo_len {n m : Nat} {ns : List Str} (h : Sh n m ns) : (jo ns).length ≤ n * m + n := by
  have h1 := h.sum
  have h2 := h.1
  have h3 := StrLaws.join_length_le dash ns
  have : dash.length = 1 := by decide +kernel
  rw [this] at h3
  have e : jo ns = Str.join dash ns := by
    exact StrLaws.glued_eq_join dash ns
  rw [e]; lia
theorem Sh.sub {n m : Nat} {ns ms : List Str} (h : Sh n m ns) (k : ms.length ≤ ns.length) (j : ∀ s ∈ ms, s ∈ ns) : Sh n m ms := ⟨Nat.le_trans k h.1, fun s hs => h.2 s (j s hs)⟩
/-- lists alone bear nested lists -/
noncomputable def LLe (H H' : Hp) : Prop := ∀ a vs n, H a = some (listOf vs n) → H' a = some (listOf vs n)
theorem PL_lle {H H' : Hp} (k : LLe H H') : (∀ t v, PL H t v → PL H' t v) ∧ ∀ ts vs, PLs H ts vs → PLs H' ts vs := by
  refine Tr.ind (P := fun t => ∀ v, PL H t v → PL H' t v) (R := fun ts => ∀ vs, PLs H ts vs → PLs H' ts vs) ?_ ?_ ?_ ?_
  · intro c v h; simpa only [PL_e1, PL_e2] using h
  · intro lab cs ih v h
    simp only [PL_e1, PL_e2] at h ⊢
    refine ea_EEEEEEAAA (h) ?_
    try clear h
    intro a b t n m vs zq396 h1 h2 h3
    obtain rfl := zq396
    exact ia_EEEEEEAAA a b t n m vs rfl (k _ _ _ h1) (k _ _ _ h2) (ih _ h3)
  · intro vs h; simpa only [PLs_e1, PLs_e2] using h
  · intro c cs i1 i2 vs h
    simp only [PLs_e1, PLs_e2] at h ⊢
    refine ea_EEAA (h) ?_
    try clear h
    intro v ws zq397 h1 h2
    obtain rfl := zq397
    exact ⟨v, ws, rfl, i1 _ h1, i2 _ h2⟩
theorem PL.lle {H H' : Hp} {t : Tr} {v : Value} (h : PL H t v) (k : LLe H H') : PL H' t v := (PL_lle k).1 _ _ h
theorem PLs.lle {H H' : Hp} {t : List Tr} {v : List Value} (h : PLs H t v) (k : LLe H H') : PLs H' t v := (PL_lle k).2 _ _ h
theorem Le.lle {H H' : Hp} (h : Le H H') : LLe H H' := fun a _ _ e => h a _ e
theorem LLe.trans {H H' H'' : Hp} (h : LLe H H') (k : LLe H' H'') : LLe H H'' := fun a _ _ e => k a _ _ (h a _ _ e)
theorem LLe.cell {H : Hp} {c : Addr} {oc o : Obj} {v : Option Value} (h : H c = some oc) (hv : oc.data = .cell v) : LLe H (upd H c o) := fun a vs n e => by
  refine upd_other ?_ e
  rintro rfl
  rw [h] at e; cases e; cases hv
theorem pick_to (vs : List Value) (j : Nat) : kms_pick vs none (some (j : Int)) = vs.take j := by
  unfold kms_pick kms_lo kms_hi
  simp only [List.drop_zero, Nat.sub_zero]
  rw [if_neg (by lia), Int.toNat_natCast]
  by_cases h : j ≤ vs.length
  · rw [Nat.min_eq_left h]
  · rw [Nat.min_eq_right (by lia), List.take_of_length_le (Nat.le_refl _), List.take_of_length_le (by omega)]
theorem pick_from (vs : List Value) (j : Nat) : kms_pick vs (some (j : Int)) none = vs.drop j := by
  unfold kms_pick kms_lo kms_hi
  simp only
  rw [if_neg (by omega), Int.toNat_natCast]
  by_cases h : j ≤ vs.length
  · rw [Nat.min_eq_left h, List.take_of_length_le (by simp)]
  · rw [Nat.min_eq_right (by omega), List.drop_of_length_le (Nat.le_refl _), List.drop_of_length_le (by omega)]; simp
theorem pick_run (vs : List Value) (i j : Nat) : kms_pick vs (some (i : Int)) (some (j : Int)) = (vs.take j).drop i := by
  unfold kms_pick kms_lo kms_hi
  simp only
  rw [if_neg (by omega), if_neg (by omega), Int.toNat_natCast, Int.toNat_natCast, List.drop_take]
  by_cases h : j ≤ vs.length
  · rw [Nat.min_eq_left h]
    by_cases h2 : i ≤ vs.length
    · rw [Nat.min_eq_left h2]
    · rw [Nat.min_eq_right (by lia), List.drop_of_length_le (Nat.le_refl _), List.drop_of_length_le (by omega)]; simp
  · rw [Nat.min_eq_right (by omega)]
    by_cases h2 : i ≤ vs.length
    · rw [Nat.min_eq_left h2, List.take_of_length_le (by simp), List.take_of_length_le (by simp; lia)]
    · rw [Nat.min_eq_right (by omega), List.drop_of_length_le (Nat.le_refl _), List.drop_of_length_le (by omega)]; simp
theorem pick_neg (vs : List Value) (i j : Nat) (hj : 0 < j) : kms_pick vs (some (i : Int)) (some (-(j : Int))) = (vs.take (vs.length - j)).drop i := by
  unfold kms_pick kms_lo kms_hi
  simp only
  rw [if_neg (show ¬ ((i : Int) < 0) by lia), if_pos (show -(j : Int) < 0 by omega), Int.toNat_natCast, show (- -(j : Int)).toNat = j by lia, List.drop_take]
  by_cases h2 : i ≤ vs.length
  · rw [Nat.min_eq_left h2]
  · rw [Nat.min_eq_right (by omega), List.drop_of_length_le (Nat.le_refl _), List.drop_of_length_le (by omega)]; simp
theorem SV.take {vs : List Value} {ns : List Str} (h : SV vs ns) (j : Nat) : SV (vs.take j) (ns.take j) := by
  refine ea_EA (h) ?_
  try clear h
  intro a zq398 zq399
  obtain rfl := zq398
  obtain rfl := zq399
  exact ⟨a.take j, by simp [strValues, List.map_take], by simp [List.map_take]⟩
theorem SV.drop {vs : List Value} {ns : List Str} (h : SV vs ns) (j : Nat) : SV (vs.drop j) (ns.drop j) := by
  refine ea_EA (h) ?_
  try clear h
  intro a zq400 zq401
  obtain rfl := zq400
  obtain rfl := zq401
  exact ⟨a.drop j, by simp [strValues, List.map_drop], by simp [List.map_drop]⟩
theorem SV.get {vs : List Value} {ns : List Str} (h : SV vs ns) {i : Nat} {s : Str} (e : ns[i]? = some s) : ∃ t, vs[i]? = some (.str s t) := by
  refine ea_EA (h) ?_
  try clear h
  intro a zq402 zq403
  obtain rfl := zq402
  obtain rfl := zq403
  rw [List.getElem?_map] at e
  cases q : a[i]? with
  | none => rw [q] at e; cases e
  | some p => rw [q] at e; cases e; exact ⟨p.2, by simp [strValues, q]⟩
section
variable {f : Fm} {l : Locs} {X : St} {env : Env} {k : Nat}
theorem T_joinV {x : Str} {t : Tok} {D : Addr} {vs : List Value} {n : Nat} {ns : List Str} {Q : Value → Locs → St → Prop} (hD : X.h D = some (listOf vs.toArray n)) (hS : SV vs ns) (hj : JoinOk x ns = true) (h : ∀ t', Q (.str (Txt.join x ns) t') l X) :
    T f (call (.builtin "str.join") [.str x t, .ref D]) l X Q := by
  refine ea_EA (hS) ?_
  try clear hS
  intro a zq404 zq405
  obtain rfl := zq404
  obtain rfl := zq405
  exact T_join hD hj h
end
end
-- B13
section
section
variable {f : Fm} {l : Locs} {X : St} {env : Env} {k : Nat}
theorem TFor_list' (O : Ok f k) {x : Str} {px : Pos} {body : List Stmt} {a : Addr} {vs : List Value} {n : Nat} {Q : Flow → Locs → St → Prop} (I : Nat → Locs → St → Prop)
    (ha : ∀ i l X, I i l X → ∃ n, X.h a = some (listOf vs.toArray n)) (h0 : I 0 l X)
    (turn : ∀ i v l2 X2 it o, vs[i]? = some v → I i l2 X2 → X2.h it = none → o.cls ≠ .type "list" → T f (storeName env x v) l2 ⟨upd X2.h it o, X2.g⟩ (fun _ l4 X4 => T f (execs body env) l4 X4 (fun fl l3 X3 => X3.h it = some o ∧ match fl with
      | .next | .cont => I (i + 1) l3 ⟨del X3.h it, X3.g⟩
      | .brk => Q .next l3 ⟨del X3.h it, X3.g⟩
      | .ret v => Q (.ret v) l3 ⟨del X3.h it, X3.g⟩)))
    (done : ∀ l2 X2, I vs.length l2 X2 → Q .next l2 X2) : TFor f env x px body (.ref a) l X Q := fun s hs => by
  obtain ⟨n0, ha0⟩ := ha 0 l X h0
  refine wpAny_pyIter_list (isList_at hs ha0) ?_
  refine ea_AA (hs.newAddr) ?_
  intro n1 n2 n3
  have hs1 := hs.grow { cls := .type "list_iterator", data := .fields #[.ref a, .int 0 0] }
  have hit : (s.heap.push { cls := .type "list_iterator", data := .fields #[.ref a, .int 0 0] }).IsListIter s.heap.objs.size a 0 := ⟨_, Heap.get?_push_size _ rfl, rfl, rfl⟩
  revert n1; revert n2; revert n3; revert hit
  refine gen_x (s.heap.objs.size) ?_
  intro it hit n3 n2 n1
  refine codeAny_forLoop (fun m s' => ∃ i l2 X2, Sim f l2 X2 s' ∧ I i l2 X2 ∧ X2.h it = none ∧ s'.heap.IsListIter it a i ∧ i ≤ vs.length ∧ m = vs.length + 1 - i) ?_ (vs.length + 1) ⟨0, l, X, hs1, h0, n1, hit, Nat.zero_le _, rfl⟩
  intro m s' zz2
  refine ea_EEEAAAAA (zz2) ?_
  try clear zz2
  intro i l2 X2 S hI hn hit' hle zq8
  obtain rfl := zq8
  obtain ⟨n', ha'⟩ := ha i l2 X2 hI
  cases hv : vs[i]? with
  | none =>
    have hi : i = vs.length := Nat.le_antisymm hle (by simpa using hv)
    refine wpAny_pyNext_list_end O.hh hit' (isList_at S ha') (by simpa using hv) fun h' eb => wpAny_execs_nil ⟨l2, X2, S.lost hn n2 n3 eb, done _ _ (hi ▸ hI)⟩
  | some v =>
    have hlt : i < vs.length := (List.getElem?_eq_some_iff.mp hv).1
    refine wpAny_pyNext_list_item hit' (isList_at S ha') (x := v) (by simpa using hv) fun h' hit2 sb => ?_
    refine ea_EAA (id hit2) ?_
    intro o ho hc hd
    refine wpAny_assign_Name ((turn i v l2 X2 it o hv hI hn (by rw [hc]; decide)).useE (S.take (tk := s'.toks) hn n2 n3 sb ho) fun _ l4 X4 s'' S4 h4 => ?_)
    refine T.useE h4 S4 fun fl l3 X3 s₃ S3 zr => ?_
    have ho3 := zr.1
    have r := zr.2
    clear zr
    have hit3 : s₃.heap.IsListIter it a (i + 1) := ⟨o, (S3.cov _ _ ho3).1, hc, hd⟩
    cases fl with
    | next => exact ⟨_, by omega, i + 1, l3, _, S3.del it, r, del_self _ _, hit3, hlt, rfl⟩
    | cont => exact ⟨_, by omega, i + 1, l3, _, S3.del it, r, del_self _ _, hit3, hlt, rfl⟩
    | brk => exact ⟨l3, _, S3.del it, r⟩
    | ret v => exact ⟨l3, _, S3.del it, r⟩

theorem TFor_range' (O : Ok f k) {x : Str} {px : Pos} {body : List Stmt} {r : Addr} {a c : Int} {N : Nat} {b : Int} {t u v : Tok} {Q : Flow → Locs → St → Prop} (I : Nat → Locs → St → Prop)
    (hr : X.h r = some (rangeOf a b c t u v)) (hsmall : Builtin.Range.small a b c = true) (hsz : Builtin.Range.rangeSize a b c = (N : Int)) (h0 : I 0 l X)
    (turn : ∀ i t l2 X2 it o, i < N → I i l2 X2 → X2.h it = none → o.cls ≠ .type "list" → T f (storeName env x (.int (a + i * c) t)) l2 ⟨upd X2.h it o, X2.g⟩ (fun _ l4 X4 => T f (execs body env) l4 X4 (fun fl l3 X3 => X3.h it = some o ∧ match fl with
      | .next | .cont => I (i + 1) l3 ⟨del X3.h it, X3.g⟩
      | .brk => Q .next l3 ⟨del X3.h it, X3.g⟩
      | .ret v => Q (.ret v) l3 ⟨del X3.h it, X3.g⟩)))
    (done : ∀ l2 X2, I N l2 X2 → Q .next l2 X2) : TFor f env x px body (.ref r) l X Q := fun s hs => by
  refine wpAny_pyIter_range (hs.cov _ _ hr).1 hsmall ?_
  refine ea_AA (hs.newAddr) ?_
  intro n1 n2 n3
  rw [hsz]
  have hs1 := hs.grow { cls := .type "range_iterator", data := .fields #[rawInt a, rawInt N, rawInt c] }
  have hit : IsRangeIter (s.heap.push { cls := .type "range_iterator", data := .fields #[rawInt a, rawInt N, rawInt c] }) s.heap.objs.size (a + (0 : Nat) * c) ((N : Int) - (0 : Nat)) c := by
    simpa using Heap.get?_push_size _ rfl
  revert n1; revert n2; revert n3; revert hit
  refine gen_x (s.heap.objs.size) ?_
  intro it hit n3 n2 n1
  refine codeAny_forLoop (fun m s' => ∃ i l2 X2, Sim f l2 X2 s' ∧ I i l2 X2 ∧ X2.h it = none ∧ IsRangeIter s'.heap it (a + (i : Nat) * c) ((N : Int) - (i : Nat)) c ∧ i ≤ N ∧ m = N + 1 - i) ?_ (N + 1) ⟨0, l, X, hs1, h0, n1, hit, Nat.zero_le _, rfl⟩
  intro m s' zz2
  refine ea_EEEAAAAA (zz2) ?_
  try clear zz2
  intro i l2 X2 S hI hn hit' hle zq9
  obtain rfl := zq9
  by_cases hlt : i < N
  · refine wpAny_pyNext_range_item hit' (by lia) fun h' hit2 sb => ?_
    refine wpAny_assign_Name ((turn i _ l2 X2 it _ hlt hI hn (by show Value.type "range_iterator" ≠ .type "list"; decide)).useE (S.take (tk := s'.toks + 1) hn n2 n3 sb hit2) fun _ l4 X4 s'' S4 h4 => ?_)
    refine T.useE h4 S4 fun fl l3 X3 s₃ S3 zr => ?_
    have ho3 := zr.1
    have r := zr.2
    clear zr
    have hit3 : IsRangeIter s₃.heap it (a + ((i + 1 : Nat) : Int) * c) ((N : Int) - ((i + 1 : Nat) : Int)) c := by
      have e1 : a + ((i + 1 : Nat) : Int) * c = a + (i : Int) * c + c := by push_cast; rw [Int.add_mul, Int.one_mul, Int.add_assoc]
      have e2 : (N : Int) - ((i + 1 : Nat) : Int) = (N : Int) - (i : Int) - 1 := by push_cast; lia
      rw [e1, e2]; exact (S3.cov _ _ ho3).1
    cases fl with
    | next => exact ⟨_, by omega, i + 1, l3, _, S3.del it, r, del_self _ _, hit3, hlt, rfl⟩
    | cont => exact ⟨_, by omega, i + 1, l3, _, S3.del it, r, del_self _ _, hit3, hlt, rfl⟩
    | brk => exact ⟨l3, _, S3.del it, r⟩
    | ret v => exact ⟨l3, _, S3.del it, r⟩
  · have hi : i = N := by lia
    exact wpAny_pyNext_range_end O.hh hit' (by lia) fun h' eb => wpAny_execs_nil ⟨l2, X2, S.lost hn n2 n3 eb, done _ _ (hi ▸ hI)⟩
end


theorem LLe.del {H : Hp} {it : Addr} {o : Obj} (h : H it = some o) (n : o.cls ≠ .type "list") : LLe H (del H it) := fun a vs m e => by
  rw [del_ne]
  · exact e
  · rintro rfl
    rw [h] at e; cases e; exact n rfl
structure BF (H : Hp) (c : Addr) (left : Bool) (many above : Nat) (par : List Str) : Prop where
  left : CellIs H (c + 1) (some (.bool left))
  many : ∃ t, CellIs H (c + 2) (some (.int many t))
  above : ∃ t, CellIs H (c + 3) (some (.int above t))
  parent : ∃ pa pvs pn, CellIs H (c + 4) (some (.ref pa)) ∧ H pa = some (listOf pvs.toArray pn) ∧ SV pvs par
theorem BF.le {H H' : Hp} {c : Addr} {left : Bool} {many above : Nat} {par : List Str} (h : BF H c left many above par) (k : Le H H') : BF H' c left many above par :=
  ⟨h.left.le k, h.many.imp fun _ e => e.le k, h.above.imp fun _ e => e.le k, h.parent.imp fun _ e => e.imp fun _ e => e.imp fun _ e => ⟨e.1.le k, k _ _ e.2.1, e.2.2⟩⟩
structure BG (Xh H : Hp) (L a D E : Addr) (many : Nat) (ys zs : List Value) (ch : List Tr) (nod : List Value) : Prop where
  le : Le Xh H
  many : ∃ t, CellIs H (L + 2) (some (.int many t))
  names : CellIs H (L + 5) (some (.ref D))
  k : ∃ v, CellIs H (L + 6) v
  lD : ∃ n, H D = some (listOf ys.toArray n)
  lE : ∃ n, H E = some (listOf zs.toArray n)
  la : ∃ n, H a = some (listOf nod.toArray n)
  pl : PLs H ch zs
theorem BG.up {Xh H H' : Hp} {L a D E : Addr} {many : Nat} {ys zs : List Value} {ch : List Tr} {nod : List Value} (h : BG Xh H L a D E many ys zs ch nod) (k : Le H H') : BG Xh H' L a D E many ys zs ch nod :=
  ⟨h.le.trans k, h.many.imp fun _ e => e.le k, h.names.le k, h.k.imp fun _ e => e.le k, h.lD.imp fun _ => k _ _, h.lE.imp fun _ => k _ _, h.la.imp fun _ => k _ _, h.pl.le k⟩
theorem BG.setk {Xh H : Hp} {L a D E : Addr} {many : Nat} {ys zs : List Value} {ch : List Tr} {nod : List Value} (h : BG Xh H L a D E many ys zs ch nod) (hx : Xh (L + 6) = none) {o : Obj} {v : Value} (ho : o.data = .cell (some v)) : BG Xh (upd H (L + 6) o) L a D E many ys zs ch nod ∧ LLe H (upd H (L + 6) o) := by
  refine ea_EEA (h.k) ?_
  intro v0 o0 e0 d0
  have ll : LLe H (upd H (L + 6) o) := LLe.cell e0 d0
  exact ⟨⟨fun x ox e => upd_other (ne_of_some e hx) (h.le _ _ e), h.many.imp fun _ e => e.other (by simp), h.names.other (by simp), ⟨_, .new ho⟩, h.lD.imp fun _ => ll _ _ _, h.lE.imp fun _ => ll _ _ _, h.la.imp fun _ => ll _ _ _, h.pl.lle ll⟩, ll⟩
theorem CellIs.del {H : Hp} {c it : Addr} {v : Option Value} (h : CellIs H c v) (n : c ≠ it) : CellIs (Mine.del H it) c v := h.imp fun _ e => ⟨(del_ne n).trans e.1, e.2⟩
theorem BG.leave {Xh H H0 : Hp} {L a D E it : Addr} {many : Nat} {ys zs : List Value} {ch : List Tr} {nod : List Value} (h0 : BG Xh H0 L a D E many ys zs ch nod) (h : BG Xh H L a D E many ys zs ch nod) (hit : H0 it = none) {o : Obj} (ho : H it = some o) (n : o.cls ≠ .type "list") : BG Xh (del H it) L a D E many ys zs ch nod := by
  have ll := LLe.del ho n
  have ne : ∀ {c v}, CellIs H0 c v → c ≠ it := fun h => h.elim fun _ e => ne_of_some e.1 hit
  obtain ⟨_, m0⟩ := h0.many
  obtain ⟨_, k0⟩ := h0.k
  exact ⟨fun x ox e => (del_ne (ne_of_some (h0.le _ _ e) hit)).trans (h.le _ _ e), h.many.imp fun _ e => e.del (ne m0), h.names.del (ne h0.names), h.k.imp fun _ e => e.del (ne k0), h.lD.imp fun _ => ll _ _ _, h.lE.imp fun _ => ll _ _ _, h.la.imp fun _ => ll _ _ _, h.pl.lle ll⟩
theorem PLs.take {H : Hp} : ∀ {ts : List Tr} {vs : List Value} (j : Nat), PLs H ts vs → PLs H (ts.take j) (vs.take j)
  | [], vs, j, h => by simp only [PLs_e1, PLs_e2] at h; subst h; simp [PLs_e1, PLs_e2]
  | c :: cs, vs, j, h => by
    simp only [PLs_e1, PLs_e2] at h
    refine ea_EEAA (h) ?_
    try clear h
    intro v ws zq10 h1 h2
    obtain rfl := zq10
    induction j using NatEl with
    | zero => simp [PLs_e1, PLs_e2]
    | succ j => simp only [List.take_succ_cons, PLs_e1, PLs_e2]; exact ⟨v, _, rfl, h1, h2.take j⟩
theorem PLs.drop {H : Hp} : ∀ {ts : List Tr} {vs : List Value} (j : Nat), PLs H ts vs → PLs H (ts.drop j) (vs.drop j)
  | [], vs, j, h => by simp only [PLs_e1, PLs_e2] at h; subst h; simp [PLs_e1, PLs_e2]
  | c :: cs, vs, j, h => by
    simp only [PLs_e1, PLs_e2] at h
    refine ea_EEAA (h) ?_
    try clear h
    intro v ws zq11 h1 h2
    obtain rfl := zq11
    induction j using NatEl with
    | zero => simp only [List.drop_zero, PLs_e1, PLs_e2]; exact ⟨v, ws, rfl, h1, h2⟩
    | succ j => simp only [List.drop_succ_cons]; exact h2.drop j
theorem PLs.two {H : Hp} {t u : Tr} {v w : Value} (h : PL H t v) (k : PL H u w) : PLs H [t, u] [v, w] := by
  simp only [PLs_e1, PLs_e2]; exact ⟨v, [w], rfl, h, w, [], rfl, k, rfl⟩
theorem drop_take_step {ns : List Str} {j m : Nat} {s : Str} (h : ns[j]? = some s) (hm : m ≤ j) : (ns.take (j + 1)).drop m = (ns.take j).drop m ++ [s] := by
  rw [take_get h, List.drop_append_of_le_length]
  have := (List.getElem?_eq_some_iff.mp h).1
  simp; lia
theorem drop_take_none {ns : List Str} {j m : Nat} (hm : j < m) : (ns.take (j + 1)).drop m = (ns.take j).drop m := by
  rw [List.drop_of_length_le (by simp; lia), List.drop_of_length_le (by simp; lia)]
end
-- F9
section
section
variable {f : Fm} {l : Locs} {X : St} {env : Env} {k : Nat}
theorem binary_ok (left : Bool) (many above : Nat) (hab : above ≤ 2) (hmany : many ≤ 1000) (d : Nat) : ∀ {f : Fm} {l : Locs} {X : St} {k : Nat} (O : Ok f k) (hk : k + 4 * d < 280) {t : Tr} {v : Value} {tm ta : Tok} {par : List Str} {top : Bool} {pa : Addr} {pvs : List Value} {pn : Nat} {Q : Value → Locs → St → Prop}
    (hP : PL X.h t v) (hd : ht t ≤ d) (hw : Sm t) (hpa : X.h pa = some (listOf pvs.toArray pn)) (hpv : SV pvs par) (hps : Sh 3 100 par)
    (hq : ∀ w H', Le X.h H' → PL H' (bn left many above d par top t) w → Q w l ⟨H', X.g⟩), T f (call (.ref 344) [v, .bool left, .int many tm, .int above ta, .ref pa, .bool top]) l X Q := by
  induction d using Nat.strongRecOn with
  | _ d ih =>
  intro f l X k O hk t v tm ta par top pa pvs pn Q hP hd hw hpa hpv hps hq
  refine T_callCL (l₀ := [(Str.ofString "node", v), (Str.ofString "top", .bool top)]) O (by exact bk3 (by assumption) rfl) (by k_is) (by k_is) (by exact fun s _ => BindsTo.of_eq rfl) (by rfl) (by decide) ?_ (by rfl) (by rfl) (by rfl) ?_
  · exact fun _ => hl_cons rfl (hl_cons rfl hl_nil)
  intro f' H' O' le cells
  obtain ⟨f1, c1⟩ := cells (Str.ofString "left") (f'.L + 1) m5
  obtain ⟨f2, c2⟩ := cells (Str.ofString "many") (f'.L + 2) m4
  obtain ⟨f3, c3⟩ := cells (Str.ofString "above") (f'.L + 3) m3
  obtain ⟨f4, c4⟩ := cells (Str.ofString "parent") (f'.L + 4) m2
  obtain ⟨f5, c5⟩ := cells (Str.ofString "names") (f'.L + 5) m1
  obtain ⟨f6, c6⟩ := cells (Str.ofString "k") (f'.L + 6) m0
  replace c1 : CellIs H' (f'.L + 1) (some (.bool left)) := c1
  replace c2 : CellIs H' (f'.L + 2) (some (.int many tm)) := c2
  replace c3 : CellIs H' (f'.L + 3) (some (.int above ta)) := c3
  replace c4 : CellIs H' (f'.L + 4) (some (.ref pa)) := c4
  replace c5 : CellIs H' (f'.L + 5) none := c5
  replace c6 : CellIs H' (f'.L + 6) none := c6
  have B0 : BF H' f'.L left many above par := ⟨c1, ⟨_, c2⟩, ⟨_, c3⟩, ⟨_, _, _, c4, le _ _ hpa, hpv⟩⟩
  clear cells
  replace hP := hP.le le
  induction t using TrEl with
  | leaf c =>
    have hP2 := hP
    simp only [PL_e1, PL_e2] at hP
    obtain ⟨tc, rfl⟩ := hP
    walk_at "m:go"
    refine T_if1 ?_
    walk_at "m:go"
    refine ⟨rfl, ?_⟩
    walk_at "m:go"
    refine hq _ _ le ?_
    have : bn left many above d par top (.leaf c) = .leaf c := by cases d <;> simp only [bn]
    rw [this]; exact hP2
  | node lab cs =>
  simp only [PL_e1, PL_e2] at hP
  refine ea_EEEEEEAAA (hP) ?_
  try clear hP
  intro a b tl n m vs zq308 h1 h2 h3
  obtain rfl := zq308
  simp only [Sm_e1, Sm_e2] at hw
  simp only [ht] at hd
  obtain ⟨d', rfl⟩ : ∃ d', d = d' + 1 := ⟨d - 1, by lia⟩
  have hlen := h3.length
  walk_at "m:go"
  refine T_if0 ?_
  walk_at "m:go"
  refine ⟨rfl, ?_⟩
  walk_at "m:go"
  refine T_cut (fun l' X' => X'.g = X.g ∧ Le X.h X'.h ∧ LLe H' X'.h ∧ CellIs X'.h (f'.L + 5) none ∧ CellIs X'.h (f'.L + 6) none ∧ BF X'.h f'.L left many above (if marks above top cs then lab :: par.take (above - 1) else par) ∧
    ∃ tk, Sub [(Str.ofString "mark", .str (if marks above top cs then (caretS ++ jo par) ++ gtS else Str.ofString "") tk), (Str.ofString "node", .ref a), (Str.ofString "top", .bool top)] l') ?_ ?_
  · refine T_ifc (fun x l' X' => X' = ⟨H', X.g⟩ ∧ x = marks above top cs ∧ ∃ tk, l' = [(Str.ofString "mark", .str (Str.ofString "") tk), (Str.ofString "node", .ref a), (Str.ofString "top", .bool top)]) ?_ ?_ ?_
    · walk_at "m:go"
      by_cases h0 : 0 < above
      · have hm : marks above top cs = (!top && hdN cs) := by unfold marks; rw [decide_eq_true h0, Bool.true_and]
        refine ite_t (by simp; omega) ?_
        walk_at "m:go"
        rw [hm]
        induction top using BoolEl with
        | true =>
          walk_at "m:go"
          exact ia_AAE rfl rfl _ rfl
        | false =>
          revert hw; revert h3
          refine LsEl cs (fun _ hw => by simp at hw) ?_
          intro c0 cs h3 hw
          simp only [PLs_e1, PLs_e2] at h3
          refine ea_EEAA (h3) ?_
          try clear h3
          intro u ws zq309 hu _
          obtain rfl := zq309
          induction c0 using TrEl with
          | leaf c =>
            simp only [PL_e1, PL_e2] at hu
            obtain ⟨tc, rfl⟩ := hu
            walk_at "m:go"
            exact ia_AAE rfl rfl _ rfl
          | node lb cs0 =>
            simp only [PL_e1, PL_e2] at hu
            refine ea_EEEEEEAAA (hu) ?_
            try clear hu
            intro a4 b4 tl4 n4 m4 vs4 zq310 h41 h42 h43
            obtain rfl := zq310
            walk_at "m:go"
            exact ia_AAE rfl rfl _ rfl
      · refine ite_f (by simp; lia) ?_
        exact ia_AAE rfl (by simp [marks, h0]) _ rfl
    · intro l' X' zz2
      refine ea_AAE (zz2) ?_
      try clear zz2
      intro zq311 hm tk zq312
      obtain rfl := zq311
      obtain rfl := zq312
      rw [← hm]
      simp only [if_true]
      have ⟨o3, a3, b3⟩ := c3
      have ⟨o4, a4, b4⟩ := c4
      walk_at "m:go"
      have hj := jo_len hps
      have ha0 : 0 < above := by
        have := hm.symm; unfold marks at this
        simp only [Bool.and_eq_true, decide_eq_true_eq] at this; exact this.1
      refine T_joinV (le _ _ hpa) hpv (hps.join (by decide)) fun t5 => ?_
      walk_at "m:go"
      have q2 : (Str.ofString "^<").length = 2 := by decide +kernel
      have q1 : (Str.ofString ">").length = 1 := by decide +kernel
      refine T_cat (catOk (Nat.le_of_eq q2) hj rfl) fun t6 => ?_
      have k1 := catLe (Nat.le_of_eq q2) hj
      walk_at "m:go"
      refine T_cat (catOk k1 (Nat.le_of_eq q1) rfl) fun t7 => ?_
      clear k1
      walk_at "m:go"
      refine inL rfl fun D hD => ?_
      have hpa1 := le _ _ hpa
      walk_at "m:go"
      refine inSl (D := pa) (vs := pvs) (n := pn) (lo := none) (hi := some ((above - 1 : Nat) : Int)) (by walk_at "m:h") ?_ .none ?_ fun E hE => ?_
      · rw [sizeLine_eq, hpv.length]; have := hps.1; exact bk6 (by assumption) rfl
      · rw [show ((above - 1 : Nat) : Int) = (above : Int) - 1 by lia]; exact .int _ _
      rw [pick_to]
      dsimp only at hD hE ⊢
      refine T_listAdd (by walk_at "m:h") (upd_self _ _ _) (by rw [sizeLine_eq]; have := hpv.length; have := hps.1; simp; lia) fun G hG => ?_
      dsimp only at hG ⊢
      have le5 : Le H' (upd (upd (upd H' D (listOf [Value.str lab tl].toArray 0)) E (listOf (pvs.take (above - 1)).toArray 0)) G (listOf ([Value.str lab tl] ++ pvs.take (above - 1)).toArray 0)) := ((Le.upd hD).trans (Le.upd hE)).trans (Le.upd hG)
      refine T_storeCell' (c := f'.L + 4) (by rfl) (c4.le le5) (fun o' ho => ?_) (by rfl) (by rfl)
      walk_at "m:go"
      have hGL : ∀ i o, H' (f'.L + i) = some o → G ≠ f'.L + i := fun i o e => (ne_of_some (((Le.upd hD).trans (Le.upd hE)) _ _ e) hG).symm
      refine ⟨rfl, rfl, fun x o e => upd_other (ne_of_some e f4) (le5 _ _ (le _ _ e)), le5.lle.trans (LLe.cell (le5 _ _ a4) b4), (c5.le le5).other (by simp), (c6.le le5).other (by simp), ⟨(c1.le le5).other (by simp), ⟨_, (c2.le le5).other (by simp)⟩, ⟨_, CellIs.other ⟨_, le5 _ _ a3, b3⟩ (by simp)⟩, ⟨G, _, _, .new ho, upd_other (hGL 4 _ a4) (upd_self _ _ _), ?_⟩⟩, t7, ?_⟩
      · exact (SV.one _ _).append (hpv.take _)
      · walk_at "m:sub"
    · intro l' X' zz2
      refine ea_AAE (zz2) ?_
      try clear zz2
      intro zq313 hm tk zq314
      obtain rfl := zq313
      obtain rfl := zq314
      rw [← hm]
      simp only [Bool.false_eq_true, if_false]
      walk_at "m:go"
      exact ⟨rfl, rfl, le, fun _ _ _ e => e, c5, c6, B0, tk, Sub.refl _⟩
  intro l' zz1 zz2
  have zze := zz2.1
  revert zz2
  refine StElR zz1 zze ?_
  clear zze
  clear zz1
  intro H1 zz2
  refine ea_AAAAAAE (zz2) ?_
  try clear zz2
  intro eg le1 lle1 c5' c6' B1 tk sb
  clear eg
  clear B0 c1 c2 c3 c4 c5 c6
  dsimp only at le1 lle1 B1 c5' c6' ⊢
  replace h1 := lle1 _ _ _ h1
  replace h2 := lle1 _ _ _ h2
  replace h3 := h3.lle lle1
  revert sb; revert hq
  refine gen_e ((if marks above top cs then (caretS ++ jo par) ++ gtS else Str.ofString "")) ?_
  intro mk hmk hq sb
  revert B1
  refine gen_e ((if marks above top cs then lab :: par.take (above - 1) else par)) ?_
  intro pr hpr B1
  refine T_sub sb ?_
  walk_at "m:go"
  refine CompSrc_list O' (vs := vs) (fun i ys X' => SV ys ((cs.map lbl).take i) ∧ ys.length = i ∧ X' = ⟨H1, X.g⟩) (by rw [sizeLine_eq]; lia) ?_ ?_ ?_ ?_
  · intro i ys _ zz3
    refine ea_AA (zz3) ?_
    try clear zz3
    intro _ e zq315
    obtain rfl := zq315
    exact ⟨⟨m, h2⟩, Nat.le_of_eq e⟩
  · exact ⟨by simp only [List.take_zero]; exact .nil, rfl, rfl⟩
  · intro hb' C i v ys _ O1 hi hv zz9
    refine ea_AA (zz9) ?_
    try clear zz9
    intro hS e zq316
    obtain rfl := zq316
    refine ea_EA (h3.get hv) ?_
    intro t ht1 hp
    have htk : (cs.map lbl).take (i + 1) = (cs.map lbl).take i ++ [lbl t] := take_get (by rw [List.getElem?_map, ht1]; rfl)
    induction t using TrEl with
    | leaf c =>
      simp only [PL_e1, PL_e2] at hp
      obtain ⟨tc, rfl⟩ := hp
      walk_at "m:go"
      exact ⟨by rw [htk]; exact hS.append (.one _ _), by simp [e], rfl⟩
    | node lb3 cs3 =>
      simp only [PL_e1, PL_e2] at hp
      refine ea_EEEEEEAAA (hp) ?_
      try clear hp
      intro a6 b6 tl6 n6 m6 vs6 zq317 h61 h62 h63
      obtain rfl := zq317
      walk_at "m:go"
      exact ⟨by rw [htk]; exact hS.append (.one _ _), by simp [e], rfl⟩
  intro ys _ zz2 D nD hD
  refine ea_AA (zz2) ?_
  try clear zz2
  intro hS e zq318
  obtain rfl := zq318
  rw [List.take_of_length_le (by simp; lia)] at hS
  dsimp only at hD ⊢
  refine T_storeCell' (c := f'.L + 5) (by rfl) (c5'.le (Le.upd hD)) (fun o' ho => ?_) (by rfl) (by rfl)
  have hD5 : D ≠ f'.L + 5 := by obtain ⟨o, e, _⟩ := c5'; exact (ne_of_some e hD).symm
  refine T_hp (fun H => Le X.h H ∧ LLe H1 H ∧ BF H f'.L left many above pr ∧ CellIs H (f'.L + 6) none ∧ CellIs H (f'.L + 5) (some (.ref D)) ∧ H D = some (listOf ys.toArray nD)) ⟨fun x o e => upd_other (ne_of_some e f5) (Le.upd hD _ _ (le1 _ _ e)), ?_, ?_, (c6'.le (Le.upd hD)).other (by simp), .new ho, upd_other hD5 (upd_self _ _ _)⟩ ?_
  · refine ea_EA (c5') ?_
    try clear c5'
    intro o e e2
    exact (Le.upd hD).lle.trans (LLe.cell (Le.upd hD _ _ e) e2)
  · have B2 := B1.le (Le.upd (o := listOf ys.toArray nD) hD)
    obtain ⟨p1, ⟨t2, p2⟩, ⟨t3, p3⟩, ⟨pa', pvs', pn', p4, p5, p6⟩⟩ := B2
    refine ⟨p1.other (by simp), ⟨t2, p2.other (by simp)⟩, ⟨t3, p3.other (by simp)⟩, ⟨pa', pvs', pn', p4.other (by simp), upd_other ?_ p5, p6⟩⟩
    rintro rfl
    refine ea_EA (c5'.le (Le.upd (o := listOf ys.toArray nD) hD)) ?_
    intro o e e2
    rw [e] at p5; cases p5; cases e2
  intro H2 zz1
  refine ea_AAAAA (zz1) ?_
  try clear zz1
  intro le2 lle2 B2 c62 c52 hD2
  clear B1 c5' c6'
  replace h1 := lle2 _ _ _ h1
  replace h2 := lle2 _ _ _ h2
  replace h3 := h3.lle lle2
  walk_at "m:go"
  have hpr3 : Sh 3 100 pr := by
    rw [← hpr]
    split
    · refine ⟨by simp; have := hps.1; omega, fun s hs => ?_⟩
      rcases List.mem_cons.mp hs with rfl | q
      · exact hw.1
      · exact hps.2 _ (List.mem_of_mem_take q)
    · exact hps
  have ⟨p1, ⟨t2, p2⟩, ⟨t3, p3⟩, ⟨pa', pvs', pn', p4, p5, p6⟩⟩ := B2
  refine T_assign_listcomp O' (by rfl) (by rfl) (by decide) (by rfl) (by decide) (by rfl) (by rfl) (by rfl) (by rfl) ?_ (by exact fun _ => rfl)
  walk_at "m:go"
  refine CompSrc_list O' (vs := vs) (fun i ys X' => Le H2 X'.h ∧ X'.g = X.g ∧ ys.length = i ∧ PLs X'.h ((cs.map (bn left many above d' pr false)).take i) ys) (by rw [sizeLine_eq]; lia) ?_ ?_ ?_ ?_
  · intro i ys X' zz3
    refine ea_AAA (zz3) ?_
    try clear zz3
    intro le3 _ e _
    exact ⟨⟨m, le3 _ _ h2⟩, Nat.le_of_eq e⟩
  · exact ⟨Le.refl _, rfl, rfl, by simp [PLs_e1, PLs_e2]⟩
  · intro hb' C i v zs zz5 O1 hi hv zz9
    have zze := zz9.2.1
    revert zz9
    refine StElR zz5 zze ?_
    clear zze
    clear zz5
    intro H3 zz9
    refine ea_AAA (zz9) ?_
    try clear zz9
    intro le3 eg e hF
    clear eg
    dsimp only at le3 hF ⊢
    refine ea_EA (h3.get hv) ?_
    intro t ht1 hp
    have hh := hts_get ht1
    have htk : (cs.map (bn left many above d' pr false)).take (i + 1) = (cs.map (bn left many above d' pr false)).take i ++ [bn left many above d' pr false t] := take_get (by rw [List.getElem?_map, ht1]; rfl)
    replace p1 := p1.le le3
    replace p2 := p2.le le3
    replace p3 := p3.le le3
    replace p4 := p4.le le3
    replace p5 := le3 _ _ p5
    walk_at "m:go"
    refine ih d' (by lia) O1 (by lia) (hp.le le3) (by lia) (hw.2.2.2.get ht1) p5 p6 hpr3 fun w H4 le4 hP4 => ?_
    refine ⟨le3.trans le4, rfl, by simp [e], ?_⟩
    rw [htk]
    exact PLs.snoc hP4 (hF.le le4)
  intro zs zz1 zz2 E nE hE
  have zze := zz2.2.1
  revert hE; revert zz2
  refine StElR zz1 zze ?_
  clear zze
  clear zz1
  intro H3 zz2 hE
  refine ea_AAA (zz2) ?_
  try clear zz2
  intro le3 eg e3 hF
  clear eg
  dsimp only at le3 hF hE ⊢
  rw [List.take_of_length_le (by simp; lia)] at hF
  have leE := Le.upd (o := listOf zs.toArray nE) hE
  have hE2 : upd H3 E (listOf zs.toArray nE) E = some (listOf zs.toArray nE) := upd_self _ _ _
  have le4 := le3.trans leE
  replace hF := hF.le leE
  revert leE; revert hE2; revert le4; revert hF
  refine gen_x (upd H3 E (listOf zs.toArray nE)) ?_
  intro H4 hF le4 hE2 leE
  replace le2 := le2.trans le4
  replace B2 := B2.le le4
  replace c52 := c52.le le4
  replace c62 := c62.le le4
  replace h1 := le4 _ _ h1
  replace h2 := le4 _ _ h2
  replace h3 := h3.le le4
  replace hD2 := le4 _ _ hD2
  clear p1 p2 p3 p4 p5
  have hlenz := hF.length
  simp only [List.length_map] at hlenz
  have hmk2 : mk.length ≤ 400 := by
    rw [← hmk]
    split
    · have := jo_len hps
      have q2 : caretS.length = 2 := by decide +kernel
      have q1 : gtS.length = 1 := by decide +kernel
      rw [Str.length_append', Str.length_append', q2, q1]; lia
    · decide +kernel
  have hbn : bn left many above (d' + 1) par top (.node lab cs) = .node (lab ++ mk) (made left many (vlab lab mk) (cs.map lbl) (cs.map (bn left many above d' pr false))) := by
    rw [← hmk, ← hpr]; simp only [bn]
  rw [hbn] at hq
  revert hF; revert hq
  refine gen_e (cs.map (bn left many above d' pr false)) ?_
  intro ch hch hq hF
  have hlc : ch.length = cs.length := by rw [← hch, List.length_map]
  revert hS; revert hq
  refine gen_e (cs.map lbl) ?_
  intro ns hns hq hS
  have hln : ns.length = cs.length := by rw [← hns, List.length_map]
  have hns2 : Sh 4 100 ns := by
    refine ⟨by lia, fun s hs => ?_⟩
    rw [← hns] at hs
    refine ea_EA (List.mem_map.mp hs) ?_
    intro t ht zq319
    obtain rfl := zq319
    obtain ⟨i, hi, e⟩ := List.mem_iff_getElem.mp ht
    exact (hw.2.2.2.get (i := i) (by rw [List.getElem?_eq_getElem hi, e])).lbl
  have hzz : zs.length ≤ sizeLine := by rw [sizeLine_eq]; lia
  walk_at "m:go"
  by_cases hc3 : cs.length < 3
  · refine T_if1 ?_
    walk_at "m:go"
    refine ⟨by simp; lia, ?_⟩
    walk_at "m:go"
    refine T_cat (catOk hw.1 hmk2 rfl) fun t8 => ?_
    walk_at "m:go"
    refine inL rfl fun G hG => ?_
    walk_at "m:go"
    refine hq _ _ (le2.trans (Le.upd hG)) ?_
    simp only [PL_e1, PL_e2]
    refine ia_EEEEEEAAA G E t8 0 nE zs rfl (upd_self _ _ _) (Le.upd hG _ _ hE2) ?_
    rw [show made left many (vlab lab mk) ns ch = ch by unfold made; rw [if_pos (by lia)]]
    exact hF.le (Le.upd hG)
  refine T_if0 ?_
  walk_at "m:go"
  refine ⟨by simp; lia, ?_⟩
  walk_at "m:go"
  have z3 : 3 ≤ zs.length := by lia
  have z4 : zs.length ≤ 4 := by lia
  have cN : ch.length = zs.length := by lia
  have nN : ns.length = zs.length := by lia
  have hl1 := hw.1
  clear hc3 hlen hlenz e3 hlc hln hw
  have V0 : BG X.h H4 f'.L a D E many ys zs ch [Value.str lab tl, Value.ref b] := by
    obtain ⟨p1, p2, p3, p4⟩ := B2
    exact ⟨le2, p2, c52, ⟨_, c62⟩, ⟨_, hD2⟩, ⟨_, hE2⟩, ⟨_, h1⟩, hF⟩
  have hleft := B2.left
  refine T_cut (fun l' X' => X'.g = X.g ∧ BG X.h X'.h f'.L a D E many ys zs ch [Value.str lab tl, Value.ref b] ∧ ∃ w ws n, X'.h w = some (listOf ws.toArray n) ∧ PLs X'.h (made left many (vlab lab mk) ns ch) ws ∧
    Sub [(Str.ofString "made", .ref w), (Str.ofString "mark", .str mk tk), (Str.ofString "node", .ref a)] l') ?_ ?_
  · induction left using BoolEl with
    | true =>
      refine T_if1 ?_
      walk_at "m:go"
      refine ⟨rfl, ?_⟩
      walk_at "m:go"
      refine inSl (lo := none) (hi := some ((2 : Nat) : Int)) hE2 hzz .none (.int _ _) fun W hW => ?_
      rw [pick_to]
      walk_at "m:go"
      refine T_range2 fun R u2 hR => ?_
      have hW2 : W ≠ R := ne_of_some (upd_self _ _ _) hR |>.symm |> Ne.symm
      refine TFor_hp (fun H => BG X.h H f'.L a D E many ys zs ch [Value.str lab tl, Value.ref b] ∧ H W = some (listOf (zs.take 2).toArray 0) ∧ ∃ t u v, H R = some (rangeOf 2 zs.length 1 t u v)) ⟨(V0.up (Le.upd hW)).up (Le.upd hR), Le.upd hR _ _ (upd_self _ _ _), _, _, _, upd_self _ _ _⟩ ?_
      intro H5 zz1
      refine ea_AAEEE (zz1) ?_
      try clear zz1
      intro V5 hW5 tr1 tr2 tr3 hR5
      refine TFor_range' O' (N := zs.length - 2) (fun i l' X' => X'.g = X.g ∧ BG X.h X'.h f'.L a D E many ys zs ch [Value.str lab tl, Value.ref b] ∧ ∃ w ws n, X'.h w = some (listOf ws.toArray n) ∧ PLs X'.h (mL (vlab lab mk) ns many ch i) ws ∧
        Sub [(Str.ofString "made", .ref w), (Str.ofString "children", .ref E), (Str.ofString "mark", .str mk tk), (Str.ofString "node", .ref a)] l') hR5 (small_one (by decide) (by decide) (by lia) (by lia)) (by rw [rangeSize_ab (by lia)]; lia) ?_ ?_ ?_
      · exact ia_AAEEEAA rfl V5 W _ _ hW5 (by simp only [mL_e1, mL_e2]; exact V5.pl.take 2) (by walk_at "m:sub")
      · intro i t l2 zz3 it o hi zz7 hit hno
        have zze := zz7.1
        revert hit; revert zz7
        refine StElR zz3 zze ?_
        clear zze
        clear zz3
        intro H6 zz7 hit
        refine ea_AAEEEAA (zz7) ?_
        try clear zz7
        intro eg6 V6 w ws nw hw6 hP6 sb6
        clear eg6
        dsimp only at V6 hw6 hP6 hit ⊢
        have V7 := V6.up (Le.upd (o := o) hit)
        have ⟨vk, hk7⟩ := V7.k
        refine T_sub sb6 (T_storeCell' (c := f'.L + 6) (by rfl) hk7 (fun o' ho => ?_) (by rfl) (by rfl))
        have ⟨V8, ll8⟩ := V7.setk f6 ho
        have io : upd (upd H6 it o) (f'.L + 6) o' it = some o := upd_other (by rintro rfl; have ⟨v6, o6, e6, _⟩ := V6.k; rw [hit] at e6; cases e6) (upd_self _ _ _)
        have hk8 : CellIs (upd (upd H6 it o) (f'.L + 6) o') (f'.L + 6) (some (.int (2 + (i : Int) * 1) t)) := .new ho
        have hw8 := ll8 _ _ _ (Le.upd (o := o) hit _ _ hw6)
        have hP8 := (hP6.le (Le.upd (o := o) hit)).lle ll8
        revert V8; revert io; revert hk8; revert hw8; revert hP8
        refine gen_x (upd (upd H6 it o) (f'.L + 6) o') ?_
        intro H8 hP8 hw8 hk8 io V8
        clear V7 hk7 ll8
        have ⟨tmn, hm8⟩ := V8.many
        have hn8 := V8.names
        have ⟨_, hD8⟩ := V8.lD
        have ⟨_, hE8⟩ := V8.lE
        have ⟨_, ha8⟩ := V8.la
        walk_at "m:go"
        refine T_assign_listcomp O' (by rfl) (by rfl) (by decide) (by rfl) (by decide) (by rfl) (by rfl) (by rfl) (by rfl) ?_ (by exact fun _ => rfl)
        walk_at "m:go"
        refine T_range1 fun R2 u3 u4 hR2 => ?_
        have leR2 := Le.upd (o := rangeOf 0 (2 + (i : Int) * 1) 1 u3 t u4) hR2
        refine CompSrc_hp (fun H => Le H8 H ∧ ∃ t u v, H R2 = some (rangeOf 0 ((2 + i : Nat) : Int) 1 t u v)) ⟨leR2, _, _, _, by rw [show ((2 + i : Nat) : Int) = 2 + (i : Int) * 1 by lia]; exact upd_self _ _ _⟩ ?_
        intro H9 zz1
        refine ea_AEEE (zz1) ?_
        try clear zz1
        intro le9 w1 w2 w3 hR9
        refine CompSrc_range O' (N := 2 + i) (fun j qs X' => SV qs ((ns.take j).drop (i + 2 - many)) ∧ qs.length ≤ j ∧ X' = ⟨H9, X.g⟩) hR9 (small_one (by decide) (by decide) (by lia) (by lia)) (rangeSize_to _) (by rw [sizeLine_eq]; lia) ?_ ?_ ?_ ?_
        · rintro j qs _ ⟨_, e, _⟩; exact e
        · exact ⟨by simp; exact .nil, Nat.le_refl _, rfl⟩
        · intro hb' C j v qs _ O1 hj zz8 zz9
          obtain ⟨tj, rfl⟩ := zz8
          refine ea_AA (zz9) ?_
          try clear zz9
          intro hq1 e zq320
          obtain rfl := zq320
          have hm9 := hm8.le le9
          have hn9 := hn8.le le9
          have hk9 := hk8.le le9
          have hD9 := le9 _ _ hD8
          obtain ⟨sj, hsj⟩ : ∃ s, ns[j]? = some s := ⟨_, List.getElem?_eq_getElem (by lia)⟩
          obtain ⟨tsj, hsv⟩ := hS.get hsj
          walk_at "m:go"
          split
          · rename_i hcond
            simp only [decide_eq_true_eq] at hcond
            walk_at "m:go"
            refine T_getItem (v := .str sj tsj) (by walk_at "m:h") (by lia) (by lia) (by rw [show (0 + (j : Int) * 1).toNat = j by lia]; exact hsv) ?_ (by with_unfolding_all rfl)
            exact ⟨by rw [drop_take_step hsj (by lia)]; exact hq1.append (.one _ _), by simp; omega, rfl⟩
          · rename_i hcond
            simp only [decide_eq_true_eq] at hcond
            exact ⟨by rw [drop_take_none (by lia)]; exact hq1, by lia, rfl⟩
        intro qs _ zz2 T1 nT hT1
        refine ea_AA (zz2) ?_
        try clear zz2
        intro hq1 e zq321
        obtain rfl := zq321
        dsimp only at hT1 ⊢
        have leT := le9.trans (Le.upd (o := listOf qs.toArray nT) hT1)
        have hT2 : upd H9 T1 (listOf qs.toArray nT) T1 = some (listOf qs.toArray nT) := upd_self _ _ _
        revert leT; revert hT2
        refine gen_x (upd H9 T1 (listOf qs.toArray nT)) ?_
        intro H10 hT2 leT
        replace hk8 := hk8.le leT
        replace hE8 := leT _ _ hE8
        replace ha8 := leT _ _ ha8
        replace hw8 := leT _ _ hw8
        replace hP8 := hP8.le leT
        replace io := leT _ _ io
        replace V8 := V8.up leT
        have hql : qs.length ≤ 4 := by lia
        have hqs := hq1.length
        revert hq1; revert hqs
        refine gen_e ((ns.take (2 + i)).drop (i + 2 - many)) ?_
        intro told htold hqs hq1
        have htl : Sh 4 100 told := ⟨by lia, fun s hs => hns2.2 s (by rw [← htold] at hs; exact List.mem_of_mem_take (List.mem_of_mem_drop hs))⟩
        have hjl := jo_len htl
        walk_at "m:go"
        have q2 : (Str.ofString "|<").length = 2 := by decide +kernel
        have q1 : (Str.ofString ">").length = 1 := by decide +kernel
        have hz2 : zs[(2 + (i : Int) * 1).toNat]? = some zs[2 + i] := by rw [show (2 + (i : Int) * 1).toNat = 2 + i by lia]; exact List.getElem?_eq_getElem (by omega)
        refine T_cat (catOk hl1 (Nat.le_of_eq q2) rfl) fun t8 => ?_
        have k1 := catLe hl1 (Nat.le_of_eq q2)
        walk_at "m:go"
        refine T_joinV hT2 hq1 (htl.join (by decide)) fun t9 => ?_
        walk_at "m:go"
        refine T_cat (catOk k1 hjl rfl) fun t10 => ?_
        have k2 := catLe k1 hjl
        walk_at "m:go"
        refine T_cat (catOk k2 (Nat.le_of_eq q1) rfl) fun t11 => ?_
        have k3 := catLe k2 (Nat.le_of_eq q1)
        walk_at "m:go"
        refine T_cat (catOk k3 hmk2 rfl) fun t12 => ?_
        clear k1 k2 k3
        walk_at "m:go"
        refine inL rfl fun A1 hA => ?_
        walk_at "m:go"
        refine inL rfl fun A2 hA' => ?_
        dsimp only at hA hA'
        refine T_hp (fun H => Le H10 H ∧ H A1 = some (listOf [Value.str (vlab lab mk told) t12, Value.ref w].toArray 0) ∧ H A2 = some (listOf [Value.ref A1, zs[2 + i]].toArray 0)) ⟨(Le.upd hA).trans (Le.upd hA'), upd_old hA' (upd_self _ _ _), upd_self _ _ _⟩ ?_
        intro H12 zz1
        refine ea_AA (zz1) ?_
        try clear zz1
        intro leA hA1 hA2
        walk_at "m:go"
        refine ea_EA ((V8.up leA).pl.get (List.getElem?_eq_getElem (i := 2 + i) (by omega))) ?_
        intro tc htc hpc
        have hP11 := (hP8.le leA)
        have hpt : PL H12 (.node (vlab lab mk told) (mL (vlab lab mk) ns many ch i)) (.ref A1) := by
          simp only [PL_e1, PL_e2]
          exact ia_EEEEEEAAA A1 w t12 0 nw ws rfl hA1 (leA _ _ hw8) hP11
        have ll := LLe.del (leA _ _ io) hno
        refine ⟨leA _ _ io, rfl, V6.leave (V8.up leA) hit (leA _ _ io) hno, A2, _, 0, ll _ _ _ hA2, ?_, ?_⟩
        · have e1 : mL (vlab lab mk) ns many ch (i + 1) = [.node (vlab lab mk told) (mL (vlab lab mk) ns many ch i), tc] := by
            simp only [mL_e1, mL_e2]
            rw [← htold, Nat.add_comm i 2, List.getD_eq_getElem?_getD, htc]; rfl
          rw [e1]
          exact (PLs.two hpt hpc).lle ll
        · walk_at "m:sub"
      · intro l' zz1 zz2
        have zze := zz2.1
        revert zz2
        refine StElR zz1 zze ?_
        clear zze
        clear zz1
        intro H6 zz2
        refine ea_AAEEEAA (zz2) ?_
        try clear zz2
        intro eg6 V6 w ws nw hw6 hP6 sb6
        clear eg6
        refine Then_next ?_
        walk_at "m:go"
        refine ⟨rfl, rfl, V6, w, ws, nw, hw6, ?_, ?_⟩
        · unfold made
          rw [if_neg (by lia), if_pos rfl, show ch.length - 2 = zs.length - 2 by lia]
          exact hP6
        · exact Sub.trans (by walk_at "m:sub") sb6
    | false =>
      refine T_if0 ?_
      walk_at "m:go"
      refine ⟨rfl, ?_⟩
      walk_at "m:go"
      refine inSl (lo := some ((zs.length - 2 : Nat) : Int)) (hi := none) hE2 hzz (by rw [show ((zs.length - 2 : Nat) : Int) = (zs.length : Int) - 2 by lia]; exact .int _ _) .none fun W hW => ?_
      rw [pick_from]
      walk_at "m:go"
      refine T_range3 (by decide) (PyProof.noPylong_small (by decide)) fun R hR => ?_
      refine TFor_hp (fun H => BG X.h H f'.L a D E many ys zs ch [Value.str lab tl, Value.ref b] ∧ H W = some (listOf (zs.drop (zs.length - 2)).toArray 0) ∧ ∃ t u v, H R = some (rangeOf ((zs.length : Int) - 2) 0 (-1) t u v)) ⟨(V0.up (Le.upd hW)).up (Le.upd hR), Le.upd hR _ _ (upd_self _ _ _), _, _, _, upd_self _ _ _⟩ ?_
      intro H5 zz1
      refine ea_AAEEE (zz1) ?_
      try clear zz1
      intro V5 hW5 tr1 tr2 tr3 hR5
      refine TFor_range' O' (N := zs.length - 2) (fun i l' X' => X'.g = X.g ∧ BG X.h X'.h f'.L a D E many ys zs ch [Value.str lab tl, Value.ref b] ∧ ∃ w ws n tcn, X'.h w = some (listOf ws.toArray n) ∧ PLs X'.h (mR (vlab lab mk) ns many ch i) ws ∧
        Sub [(Str.ofString "made", .ref w), (Str.ofString "children", .ref E), (Str.ofString "count", .int zs.length tcn), (Str.ofString "mark", .str mk tk), (Str.ofString "node", .ref a)] l') hR5 (small_down (by lia) (by lia) (by decide) (by decide)) (by rw [rangeSize_downNat]; lia) ?_ ?_ ?_
      · exact ia_AAEEEEAA rfl V5 W _ _ _ hW5 (by simp only [mR_e1, mR_e2]; rw [show ch.length - 2 = zs.length - 2 by omega]; exact V5.pl.drop _) (by walk_at "m:sub")
      · intro i t l2 zz3 it o hi zz7 hit hno
        have zze := zz7.1
        revert hit; revert zz7
        refine StElR zz3 zze ?_
        clear zze
        clear zz3
        intro H6 zz7 hit
        refine ea_AAEEEEAA (zz7) ?_
        try clear zz7
        intro eg6 V6 w ws nw tcn hw6 hP6 sb6
        clear eg6
        dsimp only at V6 hw6 hP6 hit ⊢
        have V7 := V6.up (Le.upd (o := o) hit)
        have ⟨vk, hk7⟩ := V7.k
        refine T_sub sb6 (T_storeCell' (c := f'.L + 6) (by rfl) hk7 (fun o' ho => ?_) (by rfl) (by rfl))
        have ⟨V8, ll8⟩ := V7.setk f6 ho
        have io : upd (upd H6 it o) (f'.L + 6) o' it = some o := upd_other (by rintro rfl; have ⟨v6, o6, e6, _⟩ := V6.k; rw [hit] at e6; cases e6) (upd_self _ _ _)
        have zt : ∃ K : Nat, (zs.length : Int) - 2 + (i : Int) * (-1) = K ∧ 1 ≤ K ∧ K + i + 2 = zs.length := ⟨zs.length - 2 - i, by lia, by lia, by lia⟩
        refine ea_EAA (zt) ?_
        try clear zt
        intro K hK hK1 hKi
        have hk8 : CellIs (upd (upd H6 it o) (f'.L + 6) o') (f'.L + 6) (some (.int (K : Int) t)) := .new (by rw [← hK]; exact ho)
        have hw8 := ll8 _ _ _ (Le.upd (o := o) hit _ _ hw6)
        have hP8 := (hP6.le (Le.upd (o := o) hit)).lle ll8
        revert V8; revert io; revert hk8; revert hw8; revert hP8
        refine gen_x (upd (upd H6 it o) (f'.L + 6) o') ?_
        intro H8 hP8 hw8 hk8 io V8
        clear V7 hk7 ll8
        have ⟨tmn, hm8⟩ := V8.many
        have hn8 := V8.names
        have ⟨_, hD8⟩ := V8.lD
        have ⟨_, hE8⟩ := V8.lE
        have ⟨_, ha8⟩ := V8.la
        walk_at "m:go"
        refine T_assign_listcomp O' (by rfl) (by rfl) (by decide) (by rfl) (by decide) (by rfl) (by rfl) (by rfl) (by rfl) ?_ (by exact fun _ => rfl)
        walk_at "m:go"
        refine T_range2 fun R2 u4 hR2 => ?_
        refine CompSrc_hp (fun H => Le H8 H ∧ ∃ t u v, H R2 = some (rangeOf (K : Int) (zs.length : Int) 1 t u v)) ⟨Le.upd hR2, _, _, _, upd_self _ _ _⟩ ?_
        intro H9 zz1
        refine ea_AEEE (zz1) ?_
        try clear zz1
        intro le9 w1 w2 w3 hR9
        refine CompSrc_range O' (N := i + 2) (fun j qs X' => SV qs ((ns.drop K).take (min j many)) ∧ qs.length ≤ j ∧ X' = ⟨H9, X.g⟩) hR9 (small_one (by omega) (by lia) (by lia) (by lia)) (by rw [rangeSize_ab (by lia)]; lia) (by rw [sizeLine_eq]; lia) ?_ ?_ ?_ ?_
        · rintro j qs _ ⟨_, e, _⟩; exact e
        · exact ⟨by simp; exact .nil, Nat.le_refl _, rfl⟩
        · intro hb' C j v qs _ O1 hj zz8 zz9
          obtain ⟨tj, rfl⟩ := zz8
          refine ea_AA (zz9) ?_
          try clear zz9
          intro hq1 e zq322
          obtain rfl := zq322
          have hm9 := hm8.le le9
          have hn9 := hn8.le le9
          have hk9 := hk8.le le9
          have hD9 := le9 _ _ hD8
          obtain ⟨sj, hsj⟩ : ∃ s, ns[K + j]? = some s := ⟨_, List.getElem?_eq_getElem (by lia)⟩
          obtain ⟨tsj, hsv⟩ := hS.get hsj
          have hsd : (ns.drop K)[j]? = some sj := by rw [List.getElem?_drop]; exact hsj
          walk_at "m:go"
          split
          · rename_i hcond
            simp only [decide_eq_true_eq] at hcond
            walk_at "m:go"
            refine T_getItem (v := .str sj tsj) (by walk_at "m:h") (by lia) (by lia) (by rw [show ((K : Int) + (j : Int) * 1).toNat = K + j by lia]; exact hsv) ?_ (by with_unfolding_all rfl)
            refine ⟨?_, by simp; omega, rfl⟩
            rw [Nat.min_eq_left (by lia : j + 1 ≤ many), take_get hsd]
            rw [Nat.min_eq_left (by lia : j ≤ many)] at hq1
            exact hq1.append (.one _ _)
          · rename_i hcond
            simp only [decide_eq_true_eq] at hcond
            refine ⟨?_, by lia, rfl⟩
            rw [Nat.min_eq_right (by lia : many ≤ j + 1)]
            rw [Nat.min_eq_right (by lia : many ≤ j)] at hq1
            exact hq1
        intro qs _ zz2 T1 nT hT1
        refine ea_AA (zz2) ?_
        try clear zz2
        intro hq1 e zq323
        obtain rfl := zq323
        dsimp only at hT1 ⊢
        have leT := le9.trans (Le.upd (o := listOf qs.toArray nT) hT1)
        have hT2 : upd H9 T1 (listOf qs.toArray nT) T1 = some (listOf qs.toArray nT) := upd_self _ _ _
        revert leT; revert hT2
        refine gen_x (upd H9 T1 (listOf qs.toArray nT)) ?_
        intro H10 hT2 leT
        replace hk8 := hk8.le leT
        replace hE8 := leT _ _ hE8
        replace ha8 := leT _ _ ha8
        replace hw8 := leT _ _ hw8
        replace hP8 := hP8.le leT
        replace io := leT _ _ io
        replace V8 := V8.up leT
        have hql : qs.length ≤ 4 := by lia
        have hqs := hq1.length
        have htk2 : (ns.drop K).take (min (i + 2) many) = (ns.drop K).take many := by
          have hdl : (ns.drop K).length = i + 2 := by rw [List.length_drop]; lia
          by_cases hmm : many ≤ i + 2
          · rw [Nat.min_eq_right hmm]
          · rw [Nat.min_eq_left (by lia), List.take_of_length_le (by lia), List.take_of_length_le (by omega)]
        rw [htk2] at hq1 hqs
        revert hq1; revert hqs
        refine gen_e ((ns.drop K).take many) ?_
        intro told htold hqs hq1
        have htl : Sh 4 100 told := ⟨by lia, fun s hs => hns2.2 s (by rw [← htold] at hs; exact List.mem_of_mem_drop (List.mem_of_mem_take hs))⟩
        have hjl := jo_len htl
        have hz2 : zs[((K : Int) - 1).toNat]? = some zs[K - 1] := by rw [show ((K : Int) - 1).toNat = K - 1 by omega]; exact List.getElem?_eq_getElem (by omega)
        walk_at "m:go"
        have q2 : (Str.ofString "|<").length = 2 := by decide +kernel
        have q1 : (Str.ofString ">").length = 1 := by decide +kernel
        refine T_cat (catOk hl1 (Nat.le_of_eq q2) rfl) fun t8 => ?_
        have k1 := catLe hl1 (Nat.le_of_eq q2)
        walk_at "m:go"
        refine T_joinV hT2 hq1 (htl.join (by decide)) fun t9 => ?_
        walk_at "m:go"
        refine T_cat (catOk k1 hjl rfl) fun t10 => ?_
        have k2 := catLe k1 hjl
        walk_at "m:go"
        refine T_cat (catOk k2 (Nat.le_of_eq q1) rfl) fun t11 => ?_
        have k3 := catLe k2 (Nat.le_of_eq q1)
        walk_at "m:go"
        refine T_cat (catOk k3 hmk2 rfl) fun t12 => ?_
        clear k1 k2 k3
        walk_at "m:go"
        refine inL rfl fun A1 hA => ?_
        walk_at "m:go"
        refine inL rfl fun A2 hA' => ?_
        dsimp only at hA hA'
        refine T_hp (fun H => Le H10 H ∧ H A1 = some (listOf [Value.str (vlab lab mk told) t12, Value.ref w].toArray 0) ∧ H A2 = some (listOf [zs[K - 1], Value.ref A1].toArray 0)) ⟨(Le.upd hA).trans (Le.upd hA'), upd_old hA' (upd_self _ _ _), upd_self _ _ _⟩ ?_
        intro H12 zz1
        refine ea_AA (zz1) ?_
        try clear zz1
        intro leA hA1 hA2
        walk_at "m:go"
        refine ea_EA ((V8.up leA).pl.get (List.getElem?_eq_getElem (i := K - 1) (by omega))) ?_
        intro tc htc hpc
        have hP11 := (hP8.le leA)
        have hpt : PL H12 (.node (vlab lab mk told) (mR (vlab lab mk) ns many ch i)) (.ref A1) := by
          simp only [PL_e1, PL_e2]
          exact ia_EEEEEEAAA A1 w t12 0 nw ws rfl hA1 (leA _ _ hw8) hP11
        have ll := LLe.del (leA _ _ io) hno
        refine ⟨leA _ _ io, rfl, V6.leave (V8.up leA) hit (leA _ _ io) hno, A2, _, 0, tcn, ll _ _ _ hA2, ?_, ?_⟩
        · have e1 : mR (vlab lab mk) ns many ch (i + 1) = [tc, .node (vlab lab mk told) (mR (vlab lab mk) ns many ch i)] := by
            simp only [mR_e1, mR_e2]
            rw [← htold, show ch.length - 2 - i = K by lia, show ch.length - 3 - i = K - 1 by omega, List.getD_eq_getElem?_getD, htc]; rfl
          rw [e1]
          exact (PLs.two hpc hpt).lle ll
        · walk_at "m:sub"
      · intro l' zz1 zz2
        have zze := zz2.1
        revert zz2
        refine StElR zz1 zze ?_
        clear zze
        clear zz1
        intro H6 zz2
        refine ea_AAEEEEAA (zz2) ?_
        try clear zz2
        intro eg6 V6 w ws nw tcn hw6 hP6 sb6
        clear eg6
        refine Then_next ?_
        walk_at "m:go"
        refine ⟨rfl, rfl, V6, w, ws, nw, hw6, ?_, ?_⟩
        · unfold made
          rw [if_neg (by omega), if_neg (by decide), show ch.length - 2 = zs.length - 2 by omega]
          exact hP6
        · exact Sub.trans (by walk_at "m:sub") sb6
  intro l' zz1 zz2
  have zze := zz2.1
  revert zz2
  refine StElR zz1 zze ?_
  clear zze
  clear zz1
  intro H5 zz2
  refine ea_AAEEEAA (zz2) ?_
  try clear zz2
  intro eg5 V5 w ws nw hw5 hP5 sb5
  clear eg5
  dsimp only at V5 hw5 hP5 ⊢
  refine T_sub sb5 ?_
  obtain ⟨n5, la5⟩ := V5.la
  walk_at "m:go"
  refine T_cat (catOk hl1 hmk2 rfl) fun t8 => ?_
  walk_at "m:go"
  refine inL rfl fun G hG => ?_
  walk_at "m:go"
  refine hq _ _ (V5.le.trans (Le.upd hG)) ?_
  simp only [PL_e1, PL_e2]
  exact ia_EEEEEEAAA G w t8 0 nw ws rfl (upd_self _ _ _) (Le.upd hG _ _ hw5) (hP5.le (Le.upd hG))
end
end
-- P6
section
mutual
noncomputable def nsz : Tr → Nat
  | .leaf _ => 1
  | .node _ cs => nszs cs + 1
noncomputable def nszs : List Tr → Nat
  | [] => 0
  | c :: cs => nsz c + nszs cs
end
theorem nsz_e1 {w1} : nsz (.leaf w1) = (1) := rfl
theorem nsz_e2 {w1} {cs} : nsz (.node w1 cs) = (nszs cs + 1) := rfl
theorem nszs_e1 : nszs [] = (0) := rfl
theorem nszs_e2 {c} {cs} : nszs (c :: cs) = (nsz c + nszs cs) := rfl
theorem nsz_pos : ∀ t : Tr, 0 < nsz t
  | .leaf _ => by simp [nsz_e1, nsz_e2]
  | .node _ cs => by simp [nsz_e1, nsz_e2]
theorem nszs_append : ∀ a b : List Tr, nszs (a ++ b) = nszs a + nszs b
  | [], b => by simp [nszs_e1, nszs_e2]
  | c :: cs, b => by simp only [List.cons_append, nszs_e1, nszs_e2, nszs_append cs b]; lia
theorem stepC_ht (words : Bool) (p : Str × List Tr) : hts (stepC words p).2 ≤ hts p.2 := by
  unfold stepC
  split
  · split
    · simp only [hts, ht]; lia
    · exact Nat.le_refl _
  · exact Nat.le_refl _
theorem chain_ht (words : Bool) (p : Str × List Tr) : ∀ n, hts (chain words n p).2 ≤ hts p.2
  | 0 => Nat.le_refl _
  | n + 1 => Nat.le_trans (stepC_ht words _) (chain_ht words p n)
theorem map_congr_ht {f g : Tr → Tr} : ∀ {cs : List Tr} {n : Nat}, hts cs ≤ n → (∀ t, ht t ≤ n → f t = g t) → cs.map f = cs.map g
  | [], _, _, _ => rfl
  | c :: cs, n, h, k => by
    simp only [hts] at h
    simp only [List.map_cons]
    rw [k c (by lia), map_congr_ht (cs := cs) (n := n) (by lia) k]
theorem jn_fuel (words : Bool) : ∀ (n m : Nat) (j : Bool) (t : Tr), ht t ≤ n → ht t ≤ m → jn words n j t = jn words m j t
  | n, m, j, .leaf c, _, _ => by rw [jn_leaf, jn_leaf]
  | 0, m, j, .node lab cs, h, _ => by simp only [ht] at h; lia
  | n, 0, j, .node lab cs, _, h => by simp only [ht] at h; lia
  | n + 1, m + 1, j, .node lab cs, h, k => by
    simp only [ht] at h k
    induction j using BoolEl with
    | true =>
      rw [jn_true, jn_true]
      have := chain_ht words (lab, cs) 20
      simp only at this
      rw [map_congr_ht (n := min n m) (g := jn words m true) (by lia) fun t ht' => jn_fuel words n m true t (by lia) (by lia)]
    | false =>
      rw [jn_false, jn_false, map_congr_ht (n := min n m) (g := jn words m true) (by lia) fun t ht' => jn_fuel words n m true t (by lia) (by lia)]
/-- a chain ends within its height -/
theorem stepC_or (words : Bool) (p : Str × List Tr) : stepC words p = p ∨ hts (stepC words p).2 + 1 ≤ hts p.2 := by
  unfold stepC
  split
  · split
    · right; simp only [hts, ht]; lia
    · exact .inl rfl
  · exact .inl rfl
theorem chain_fix {words : Bool} {p : Str × List Tr} (h : stepC words p = p) : ∀ n, chain words n p = p
  | 0 => rfl
  | n + 1 => by rw [chain_back, chain_fix h n, h]
theorem chain_end (words : Bool) : ∀ (n : Nat) (p : Str × List Tr), hts p.2 ≤ n → stepC words (chain words n p) = chain words n p
  | 0, p, h => by
    rcases stepC_or words p with e | e
    · exact e
    · lia
  | n + 1, p, h => by
    rw [chain_succ]
    rcases stepC_or words p with e | e
    · rw [e, chain_fix e, e]
    · exact chain_end words n _ (by lia)
theorem chain20 {words : Bool} {p : Str × List Tr} (h : hts p.2 ≤ 20) : chain words 20 (stepC words p) = chain words 20 p := by
  rw [← chain_succ, chain_back, chain_end words 20 p h]
/-- the target of a node on the stack -/
noncomputable def tg (words : Bool) (t : Tr) : Tr := jn words 30 true t
theorem tg_leaf (words : Bool) (c : Str) : tg words (.leaf c) = .leaf c := jn_leaf _ _ _ _
theorem tg_step {words : Bool} {lab : Str} {cs : List Tr} (h : hts cs ≤ 20) : tg words (.node (stepC words (lab, cs)).1 (stepC words (lab, cs)).2) = tg words (.node lab cs) := by
  unfold tg
  have e : ((stepC words (lab, cs)).1, (stepC words (lab, cs)).2) = stepC words (lab, cs) := rfl
  rw [jn_true, jn_true, e, chain20 h]
theorem tg_stop {words : Bool} {lab : Str} {cs : List Tr} (h : hts cs ≤ 20) (e : stepC words (lab, cs) = (lab, cs)) : tg words (.node lab cs) = .node lab (cs.map (tg words)) := by
  unfold tg
  rw [jn_true, chain_fix e, map_congr_ht h fun t ht' => jn_fuel words 29 30 true t (by exact bk6 (by assumption) rfl) (by exact bk6 (by assumption) rfl)]
end
-- P7
section
noncomputable def Wc : Tr → Prop
  | .leaf _ => True
  | .node lab cs => lab.length + 2 * hts cs ≤ 60 ∧ hts cs ≤ 20 ∧ 1 ≤ cs.length ∧ cs.length ≤ 4 ∧ Wfs cs
theorem Wc.child {lab : Str} {cs : List Tr} (h : Wc (.node lab cs)) {t : Tr} (ht' : t ∈ cs) : Wc t := by
  simp only [Wc] at h
  obtain ⟨i, hi, e⟩ := List.mem_iff_getElem.mp ht'
  have e' : cs[i]? = some t := by rw [List.getElem?_eq_getElem hi, e]
  have w := h.2.2.2.2.get e'
  have hh := hts_get e'
  induction t using TrEl with
  | leaf c => simp [Wc]
  | node l2 c2 =>
    simp only [Wf_e1, Wf_e2] at w
    simp only [ht] at hh
    simp only [Wc]
    have := w.1.len
    exact ⟨by lia, by lia, w.2.1, w.2.2.1, w.2.2.2⟩
theorem Wc.step {words : Bool} {lab l2 : Str} {c2 : Tr} {cs2 : List Tr} (h : Wc (.node lab [.node l2 (c2 :: cs2)])) : Wc (.node ((lab ++ plus) ++ l2) (c2 :: cs2)) := by
  have h' := h
  simp only [Wc, Wfs_e1, Wfs_e2, Wf_e1, Wf_e2] at h ⊢
  have e := h.2.2.2.2.1.1.len
  have e3 : plus.length = 1 := by decide +kernel
  have hh : hts [Tr.node l2 (c2 :: cs2)] = hts (c2 :: cs2) + 1 := by simp [hts, ht]
  rw [hh] at h
  refine ⟨by rw [Str.length_append', Str.length_append']; lia, by lia, h.2.2.2.2.1.2.1, h.2.2.2.2.1.2.2.1, h.2.2.2.2.1.2.2.2⟩
/-- what the objects come to when all trees on the stack are done -/
structure Cu (words : Bool) (K : Hp → Prop) (NL : Addr) (H : Hp) (ts : List Tr) (vs : List Value) (F : List Addr) : Prop where
  tr : TRs H ts vs F
  nd : F.Nodup
  nl : NL ∉ F
  nlin : H NL ≠ none
  wf : ∀ t, t ∈ ts → Wc t
  out : ∀ H' F', (∀ a o, H a = some o → a ∉ F → a ≠ NL → H' a = some o) → TRs H' (ts.map (tg words)) vs F' → F'.Nodup → (∀ a, a ∈ F' → a ∈ F ∨ H a = none) → K H'
theorem Cu.mod {words : Bool} {K : Hp → Prop} {NL : Addr} {H H2 : Hp} {ts : List Tr} {vs : List Value} {F : List Addr} (h : Cu words K NL H ts vs F) (k : ∀ a o, H a = some o → a ≠ NL → H2 a = some o) (n : H2 NL ≠ none) : Cu words K NL H2 ts vs F where
  tr := h.tr.on fun a ha o e => k a o e fun q => h.nl (q ▸ ha)
  nd := h.nd
  nl := h.nl
  nlin := n
  wf := h.wf
  out := fun H' F' p1 p2 p3 p4 => h.out H' F' (fun a o e n1 n2 => p1 a o (k a o e n2) n1 n2) p2 p3 fun a ha => by
    rcases p4 a ha with q | q
    · exact .inl q
    · refine .inr ?_
      cases e : H a with
      | none => rfl
      | some o =>
        by_cases z : a = NL
        · subst z; exact absurd q n
        · rw [k a o e z] at q; cases q
theorem Cu.leaf {words : Bool} {K : Hp → Prop} {NL : Addr} {H : Hp} {ts : List Tr} {c : Str} {vs ws : List Value} {F : List Addr} (h : Cu words K NL H (ts ++ [.leaf c]) ws F) (e : ws = vs ++ [v]) : Cu words K NL H ts vs F := by
  subst e
  refine ea_EEAA (h.tr.last) ?_
  intro F1 G1 zq406 h1 h2
  obtain rfl := zq406
  simp only [TR_e1, TR_e2] at h2
  obtain ⟨rfl, hu⟩ := h2
  try simp only [List.append_nil] at h ⊢
  refine ⟨h1, h.nd, h.nl, h.nlin, fun t ht => h.wf t (by simp [ht]), fun H' F' p1 p2 p3 p4 => h.out H' F' p1 ?_ p3 p4⟩
  rw [List.map_append, List.map_cons, List.map_nil, tg_leaf]
  have : TRs H' [Tr.leaf c] [v] [] := TRs.one (by simp only [TR_e1, TR_e2, true_and]; exact hu)
  simpa using p2.append this
theorem Nd.same {H : Hp} {x dx cl dx' cl' : Addr} {lab lab' : Str} {us us' : List Value} (h : Nd H x dx cl lab us) (k : Nd H x dx' cl' lab' us') : dx' = dx ∧ cl' = cl ∧ lab' = lab ∧ us' = us := by
  have e3 : dx' = dx := by have := k.hx; rw [h.hx] at this; cases this; rfl
  subst e3
  refine ea_EAEEEEEE (h.hd) ?_
  intro o p q1 q2 r1 r2 r3 m zq422
  obtain rfl := zq422
  refine ea_EAEEEEEE (k.hd) ?_
  intro o' p' q1' q2' r1' r2' r3' m' e
  rw [p] at p'; cases p'; cases e
  refine ⟨rfl, rfl, rfl, ?_⟩
  obtain ⟨n, p⟩ := h.hl
  obtain ⟨n', p'⟩ := k.hl
  rw [p] at p'
  have := Option.some.inj p'
  simp only [PySem.W.listOf, Obj.mk.injEq, Data.seq.injEq] at this
  simpa using this.2.2.1.1.symm
theorem Cu.stop {words : Bool} {K : Hp → Prop} {NL : Addr} {H : Hp} {ts cs : List Tr} {lab : Str} {vs us ws : List Value} {x dx cl : Addr} {F : List Addr} (h : Cu words K NL H (ts ++ [.node lab cs]) ws F) (e : ws = vs ++ [.ref x]) (hN : Nd H x dx cl lab us) (hs : stepC words (lab, cs) = (lab, cs)) : ∃ F', Cu words K NL H (ts ++ cs) (vs ++ us) F' := by
  subst e
  have hw := h.wf (.node lab cs) (by simp)
  refine ea_EEAA (h.tr.last) ?_
  intro F1 G1 zq412 h1 h2
  obtain rfl := zq412
  refine ea_EEEEAA (TR.nd h2) ?_
  try clear h2
  intro dx' cl' us' G zq419 hN' hC
  obtain rfl := zq419
  refine ea_AAA (hN.same hN') ?_
  intro zr1 zr2 zr3 zr4
  obtain rfl := zr1
  obtain rfl := zr2
  clear zr3
  obtain rfl := zr4
  try simp only [List.append_nil] at h ⊢
  have nd := h.nd
  rw [List.nodup_append] at nd
  refine ea_AA (nd) ?_
  try clear nd
  intro n1 n2 n3
  simp only [List.nodup_cons, List.mem_cons, not_or] at n2
  refine ⟨F1 ++ G, h1.append hC, List.nodup_append.mpr ⟨n1, n2.2.2.2, fun a ha b hb => n3 a ha b (by simp [hb])⟩, fun hm => h.nl ?_, h.nlin, fun t ht => ?_, fun H' F' p1 p2 p3 p4 => ?_⟩
  · rcases List.mem_append.mp hm with q | q
    · simp [q]
    · simp [q]
  · rcases List.mem_append.mp ht with q | q
    · exact h.wf t (by simp [q])
    · exact hw.child q
  · rw [List.map_append] at p2
    refine ea_EEEEAAA (p2.split) ?_
    intro a1 a2 E1 E2 ea zq421 k1 k2
    obtain rfl := zq421
    have hl1 : a1.length = vs.length := by rw [k1.length, h1.length, List.length_map]
    obtain ⟨rfl, rfl⟩ := List.append_inj ea hl1.symm
    have notF : ∀ b, b = x ∨ b = dx' ∨ b = cl' → b ∉ F1 ++ G := by
      intro b hb hm
      rcases List.mem_append.mp hm with q | q
      · exact n3 b q b (by rcases hb with rfl | rfl | rfl <;> simp) rfl
      · rcases hb with rfl | rfl | rfl
        · exact n2.1.2.2 q
        · exact n2.2.1.2 q
        · exact n2.2.2.1 q
    have notL : ∀ b, b = x ∨ b = dx' ∨ b = cl' → b ≠ NL := fun b hb e => h.nl (by rw [← e]; rcases hb with rfl | rfl | rfl <;> simp)
    have k : ∀ b, b = x ∨ b = dx' ∨ b = cl' → ∀ o, H b = some o → H' b = some o := fun b hb o e => p1 b o e (notF b hb) (notL b hb)
    have hN2 : Nd H' x dx' cl' lab us' := ⟨k _ (.inl rfl) _ hN.hx, hN.hd.imp fun o z => ⟨k _ (.inr (.inl rfl)) _ z.1, z.2⟩, hN.hl.imp fun n e => k _ (.inr (.inr rfl)) _ e⟩
    have inH : ∀ b, b = x ∨ b = dx' ∨ b = cl' → H b ≠ none := fun b hb => by
      rcases hb with rfl | rfl | rfl
      · exact in_of hN.hx
      · obtain ⟨o, e, _⟩ := hN.hd; exact in_of e
      · obtain ⟨n, e⟩ := hN.hl; exact in_of e
    have notE : ∀ b, b = x ∨ b = dx' ∨ b = cl' → b ∉ E1 ++ E2 := fun b hb hm => by
      rcases p4 b hm with q | q
      · exact notF b hb q
      · exact inH b hb q
    refine h.out H' (E1 ++ (x :: dx' :: cl' :: E2)) (fun a o e na nb => p1 a o e (fun hm => na ?_) nb) ?_ ?_ ?_
    · rcases List.mem_append.mp hm with q | q <;> simp [q]
    · rw [List.map_append, List.map_cons, List.map_nil]
      simp only [Wc] at hw
      rw [tg_stop hw.2.1 hs]
      refine k1.append (TRs.one ?_)
      simp only [TR_e1, TR_e2]
      exact ia_EEEEEAAA x dx' cl' us' E2 rfl rfl hN2 k2
    · rw [List.nodup_append] at p3
      have q := hN.ne
      refine List.nodup_append.mpr ⟨p3.1, ?_, fun a ha b hb => ?_⟩
      · simp only [List.nodup_cons, List.mem_cons, not_or]
        exact ⟨⟨q.1, q.2.1, fun hm => notE x (.inl rfl) (by simp [hm])⟩, ⟨q.2.2, fun hm => notE dx' (.inr (.inl rfl)) (by simp [hm])⟩, fun hm => notE cl' (.inr (.inr rfl)) (by simp [hm]), p3.2.1⟩
      · simp only [List.mem_cons] at hb
        rcases hb with rfl | rfl | rfl | hb
        · rintro rfl; exact notE _ (.inl rfl) (by simp [ha])
        · rintro rfl; exact notE _ (.inr (.inl rfl)) (by simp [ha])
        · rintro rfl; exact notE _ (.inr (.inr rfl)) (by simp [ha])
        · exact p3.2.2 a ha b hb
    · intro a ha
      simp only [List.mem_append, List.mem_cons] at ha ⊢
      rcases ha with q | rfl | rfl | rfl | q
      · rcases p4 a (by simp [q]) with r | r
        · rcases List.mem_append.mp r with s | s <;> simp [s]
        · exact .inr r
      · simp
      · simp
      · simp
      · rcases p4 a (by simp [q]) with r | r
        · rcases List.mem_append.mp r with s | s <;> simp [s]
        · exact .inr r
theorem Cu.step {words : Bool} {K : Hp → Prop} {NL : Addr} {H H2 : Hp} {ts cs2 : List Tr} {c2 : Tr} {lab l2 : Str} {vs us2 ws : List Value} {x dx cl y dy cl2 D : Addr} {F : List Addr} (h : Cu words K NL H (ts ++ [.node lab [.node l2 (c2 :: cs2)]]) ws F) (e : ws = vs ++ [.ref x])
    (hN : Nd H x dx cl lab [.ref y]) (hM : Nd H y dy cl2 l2 us2) (hs : stepC words (lab, [.node l2 (c2 :: cs2)]) = ((lab ++ plus) ++ l2, c2 :: cs2)) (k : ∀ a o, H a = some o → a ≠ dx → a ≠ NL → H2 a = some o) (nl : H2 NL ≠ none) (hD : H D = none) (hN2 : Nd H2 x dx D ((lab ++ plus) ++ l2) us2) :
    ∃ F', Cu words K NL H2 (ts ++ [.node ((lab ++ plus) ++ l2) (c2 :: cs2)]) ws F' := by
  subst e
  have hw := h.wf (.node lab [.node l2 (c2 :: cs2)]) (by simp)
  refine ea_EEAA (h.tr.last) ?_
  intro F1 F2 zq423 h1 h4
  obtain rfl := zq423
  refine ea_EEEEAA (TR.nd h4) ?_
  try clear h4
  intro dx' cl' us' G zq428 hN' hC
  obtain rfl := zq428
  refine ea_AAA (hN.same hN') ?_
  intro zq429 zq430 zc431 zq432
  obtain rfl := zq429
  obtain rfl := zq430
  clear zc431
  obtain rfl := zq432
  simp only [TRs_e1, TRs_e2] at hC
  refine ea_EEEEAAAA (hC) ?_
  try clear hC
  intro u w G1 G2 e3 zq433 h5 zq434 zq435
  obtain rfl := zq433
  obtain rfl := zq434
  obtain rfl := zq435
  cases e3
  rw [show TR H (Tr.node l2 (c2 :: cs2)) (.ref y) G1 = _ from rfl] at h5
  have h6 := h5
  refine ea_EEEEAA (TR.nd h6) ?_
  try clear h6
  intro dy' cl2' us2' G3 zq436 hM' hC2
  obtain rfl := zq436
  refine ea_AAA (hM.same hM') ?_
  intro zq437 zq438 zc439 zq440
  obtain rfl := zq437
  obtain rfl := zq438
  clear zc439
  obtain rfl := zq440
  try simp only [List.append_nil] at h ⊢
  have nd := h.nd
  rw [List.nodup_append] at nd
  refine ea_AA (nd) ?_
  try clear nd
  intro n1 n2 n3
  simp only [List.nodup_cons, List.mem_cons, not_or] at n2
  have hDn : ∀ a, a ∈ F1 ++ (x :: dx' :: cl' :: y :: dy' :: cl2' :: G3) → a ≠ D := fun a ha e => h.tr.in (by simpa using ha) (e ▸ hD)
  have hdxF : dx' ∉ F1 := fun hm => n3 dx' hm dx' (by simp) rfl
  have up : ∀ a, a ∈ F1 ∨ a ∈ G3 → ∀ o, H a = some o → H2 a = some o := fun a ha o e => by
    refine k a o e ?_ ?_
    · rintro rfl
      rcases ha with q | q
      · exact hdxF q
      · exact n2.2.1.2.2.2.2 q
    · rintro rfl
      refine h.nl ?_
      rcases ha with q | q <;> simp [q]
  have inH : ∀ {a}, H2 a = none → H a = none := fun {a} e => by
    cases z : H a with
    | none => rfl
    | some o =>
      by_cases q1 : a = dx'
      · subst q1; obtain ⟨o', p, _⟩ := hN2.hd; rw [p] at e; cases e
      · by_cases q2 : a = NL
        · subst q2; exact absurd e nl
        · rw [k a o z q1 q2] at e; cases e
  refine ⟨F1 ++ (x :: dx' :: D :: G3), ?_, ?_, ?_, nl, ?_, ?_⟩
  · refine (h1.on fun a ha => up a (.inl ha)).append (TRs.one ?_)
    simp only [TR_e1, TR_e2]
    exact ia_EEEEEAAA x dx' D us2' G3 rfl rfl hN2 (hC2.on fun a ha => up a (.inr ha))
  · refine List.nodup_append.mpr ⟨n1, ?_, fun a ha b hb => ?_⟩
    · simp only [List.nodup_cons, List.mem_cons, not_or]
      exact ⟨⟨n2.1.1, hDn x (by simp), n2.1.2.2.2.2.2⟩, ⟨hDn dx' (by simp), n2.2.1.2.2.2.2⟩, fun hm => hDn D (by simp [hm]) rfl, n2.2.2.2.2.2.2⟩
    · simp only [List.mem_cons] at hb
      rcases hb with rfl | rfl | rfl | hb
      · exact n3 a ha _ (by simp)
      · exact n3 a ha _ (by simp)
      · exact hDn a (by simp [ha])
      · exact n3 a ha _ (by simp [hb])
  · intro hm
    simp only [List.mem_append, List.mem_cons] at hm
    rcases hm with q | rfl | rfl | rfl | q
    · exact h.nl (by simp [q])
    · exact h.nl (by simp)
    · exact h.nl (by simp)
    · exact h.nlin hD
    · exact h.nl (by simp [q])
  · intro t ht'
    rcases List.mem_append.mp ht' with q | q
    · exact h.wf t (by simp [q])
    · rw [List.mem_singleton.mp q]; exact hw.step (words := words)
  · intro H' F' p1 p2 p3 p4
    refine h.out H' F' (fun a o e na nb => p1 a o (k a o e (fun q => na (by simp [q])) nb) (fun hm => ?_) nb) ?_ p3 (fun a ha => ?_)
    · simp only [List.mem_append, List.mem_cons] at hm na
      rcases hm with q | q | q | q | q
      · exact na (.inl q)
      · exact na (.inr (.inl q))
      · exact na (.inr (.inr (.inl q)))
      · subst q; rw [hD] at e; cases e
      · exact na (.inr (by simp [q]))
    · rw [List.map_append, List.map_cons, List.map_nil] at p2 ⊢
      simp only [Wc] at hw
      have := tg_step (words := words) (lab := lab) (cs := [.node l2 (c2 :: cs2)]) hw.2.1
      rw [hs] at this
      rw [← this]; exact p2
    · rcases p4 a ha with q | q
      · simp only [List.mem_append, List.mem_cons] at q ⊢
        rcases q with r | r | r | r | r
        · simp [r]
        · simp [r]
        · simp [r]
        · subst r; exact .inr hD
        · simp [r]
      · exact .inr (inH q)
noncomputable def CuK (x : Addr) (H : Hp) (t : Tr) (F : List Addr) (H' : Hp) : Prop := ∃ F', (∀ a o, H a = some o → a ∉ F → H' a = some o) ∧ TR H' t (.ref x) F' ∧ F'.Nodup ∧ ∀ a, a ∈ F' → a ∈ F ∨ H a = none
theorem Cu.start {words : Bool} {H H1 : Hp} {lab : Str} {cs : List Tr} {x NL : Addr} {F : List Addr} (h : TR H (.node lab cs) (.ref x) F) (nd : F.Nodup) (wf : Wc (.node lab cs)) (le : Le H H1) (fr : H NL = none) (nl : H1 NL ≠ none) :
    Cu words (CuK x H (jn words 30 true (.node lab cs)) F) NL H1 [.node lab cs] [.ref x] F where
  tr := TRs.one (h.le le)
  nd := nd
  nl := fun hm => h.in hm fr
  nlin := nl
  wf := fun t ht => by rw [List.mem_singleton.mp ht]; exact wf
  out := fun H' F' p1 p2 p3 p4 => by
    simp only [List.map_cons, List.map_nil, TRs_e1, TRs_e2] at p2
    obtain ⟨v, ws, F1, F2, e, rfl, q, e2, rfl⟩ := p2
    cases e
    simp only [List.append_nil] at p3 p4
    exact ⟨F1, fun a o e n => p1 a o (le a o e) n (fun z => by rw [z, fr] at e; cases e), q, p3, fun a ha => (p4 a ha).imp id le.none⟩
theorem Cu.startUnder {words : Bool} {H H1 : Hp} {lab : Str} {c : Tr} {v : Value} {x dx cl NL : Addr} {F : List Addr} (h : TR H (.node lab [c]) (.ref x) F) (nd : F.Nodup) (wf : Wc (.node lab [c])) (hN : Nd H x dx cl lab [v]) (le : Le H H1) (fr : H NL = none) (nl : H1 NL ≠ none) :
    ∃ F', Cu words (CuK x H (jn words 30 false (.node lab [c])) F) NL H1 [c] [v] F' := by
  have h0 := h
  refine ea_EEEEAA (TR.nd h) ?_
  try clear h
  intro dx' cl' us G zq441 hN' hC
  obtain rfl := zq441
  refine ea_AAA (hN.same hN') ?_
  intro zq442 zq443 zc444 zq445
  obtain rfl := zq442
  obtain rfl := zq443
  clear zc444
  obtain rfl := zq445
  simp only [List.nodup_cons, List.mem_cons, not_or] at nd
  refine ⟨G, hC.le le, nd.2.2.2, fun hm => hC.in hm fr, nl, fun t ht => by rw [List.mem_singleton.mp ht]; exact wf.child (by simp), fun H' F' p1 p2 p3 p4 => ?_⟩
  have notG : ∀ b, b = x ∨ b = dx' ∨ b = cl' → b ∉ G := by
    rintro b (rfl | rfl | rfl)
    · exact nd.1.2.2
    · exact nd.2.1.2
    · exact nd.2.2.1
  have inH : ∀ b, b = x ∨ b = dx' ∨ b = cl' → H b ≠ none := fun b hb => h0.in (by rcases hb with rfl | rfl | rfl <;> simp)
  have kk : ∀ b, b = x ∨ b = dx' ∨ b = cl' → ∀ o, H b = some o → H' b = some o := fun b hb o e => p1 b o (le _ _ e) (notG b hb) (fun z => inH b hb (z ▸ fr))
  have hN2 : Nd H' x dx' cl' lab [v] := ⟨kk _ (.inl rfl) _ hN.hx, hN.hd.imp fun o z => ⟨kk _ (.inr (.inl rfl)) _ z.1, z.2⟩, hN.hl.imp fun n e => kk _ (.inr (.inr rfl)) _ e⟩
  have notF : ∀ b, b = x ∨ b = dx' ∨ b = cl' → b ∉ F' := fun b hb hm => by
    rcases p4 b hm with q | q
    · exact notG b hb q
    · exact inH b hb (le.none q)
  have ne := hN.ne
  refine ⟨x :: dx' :: cl' :: F', fun a o e n => p1 a o (le a o e) (fun hm => n (by simp [hm])) (fun z => by rw [z, fr] at e; cases e), ?_, ?_, ?_⟩
  · simp only [Wc, hts] at wf
    have hh : ht c ≤ 20 := by lia
    rw [jn_false, List.map_cons, List.map_nil, jn_fuel words 29 30 true c (by exact bk6 (by assumption) rfl) (by exact bk6 (by assumption) rfl)]
    simp only [TR_e1, TR_e2]
    exact ia_EEEEEAAA x dx' cl' ([v]) F' rfl rfl hN2 p2
  · simp only [List.nodup_cons, List.mem_cons, not_or]
    exact ⟨⟨ne.1, ne.2.1, notF _ (.inl rfl)⟩, ⟨ne.2.2, notF _ (.inr (.inl rfl))⟩, notF _ (.inr (.inr rfl)), p3⟩
  · intro a ha
    simp only [List.mem_cons] at ha ⊢
    rcases ha with q | q | q | q
    · exact .inl (.inl q)
    · exact .inl (.inr (.inl q))
    · exact .inl (.inr (.inr (.inl q)))
    · rcases p4 a q with r | r
      · exact .inl (.inr (.inr (.inr r)))
      · exact .inr (le.none r)
end
-- B14
section
open PySem.SeqAt
theorem all_true (n : Nat) : (List.range n).all (fun _ => true) = true := by simp
theorem eqPL {s : Shared} {H : Hp} (cov : ∀ a o, H a = some o → s.heap.get? a = some o) : (∀ t v w (A : Around), A.units + 2 * ht t + 2 < cLine → PL H t v → PL H t w → EqAt A s v w true) ∧
    ∀ ts vs ws (A : Around), A.units + 2 * hts ts + 2 < cLine → PLs H ts vs → PLs H ts ws → ∀ j (h1 : j < vs.length) (h2 : j < ws.length), EqAt A s vs[j] ws[j] true := by
  refine Tr.ind (P := fun t => ∀ v w (A : Around), A.units + 2 * ht t + 2 < cLine → PL H t v → PL H t w → EqAt A s v w true)
    (R := fun ts => ∀ vs ws (A : Around), A.units + 2 * hts ts + 2 < cLine → PLs H ts vs → PLs H ts ws → ∀ j (h1 : j < vs.length) (h2 : j < ws.length), EqAt A s vs[j] ws[j] true) ?_ ?_ ?_ ?_
  · intro c v w A _ h k
    simp only [PL_e1, PL_e2] at h k
    obtain ⟨t, rfl⟩ := h
    obtain ⟨u, rfl⟩ := k
    have := EqAt.str_str (A := A) (s := s) c t c u
    rwa [beq_self_eq_true] at this
  · intro lab cs ih v w A hA h k
    simp only [PL_e1, PL_e2] at h k
    simp only [ht] at hA
    refine ea_EEEEEEAAA (h) ?_
    try clear h
    intro a b t n m vs zq12 h1 h2 h3
    obtain rfl := zq12
    refine ea_EEEEEEAAA (k) ?_
    try clear k
    intro a' b' t' n' m' vs' zq13 k1 k2 k3
    obtain rfl := zq13
    have hl := h3.length
    have kl := k3.length
    by_cases e : a = a'
    · subst e; exact EqAt.same _
    refine EqAt.of_refs e ?_
    have R := RcAt.lists (A := A) (s := s) (items := [Value.str lab t, Value.ref b].toArray) (items2 := [Value.str lab t', Value.ref b'].toArray) (e := fun _ => true) ⟨_, cov _ _ h1, rfl, n, rfl⟩ ⟨_, cov _ _ k1, rfl, n', rfl⟩ rfl (by lia) ?_
    · rwa [all_true] at R
    · intro j j1 j2
      match j, j1, j2 with
      | 0, _, _ =>
        have := EqAt.str_str (A := A.in1) (s := s) lab t lab t'
        rwa [beq_self_eq_true] at this
      | 1, _, _ =>
        show EqAt A.in1 s (.ref b) (.ref b') true
        by_cases e : b = b'
        · subst e; exact EqAt.same _
        refine EqAt.of_refs e ?_
        have R := RcAt.lists (A := A.in1) (s := s) (items := vs.toArray) (items2 := vs'.toArray) (e := fun _ => true) ⟨_, cov _ _ h2, rfl, m, rfl⟩ ⟨_, cov _ _ k2, rfl, m', rfl⟩ (by simp; lia) (by show A.units + 1 < _; lia) (fun j j1 j2 => by
          simpa using ih vs vs' A.in1.in1 (by show A.units + 1 + 1 + _ + 2 < _; lia) h3 k3 j (by simpa using j1) (by simpa using j2))
        rwa [all_true] at R
      | j + 2, j1, _ => exact absurd j1 (by simp)
  · intro vs ws A _ h k j h1
    simp only [PLs_e1, PLs_e2] at h; subst h; simp at h1
  · intro c cs i1 i2 vs ws A hA h k j h1 h2
    simp only [PLs_e1, PLs_e2] at h k
    simp only [hts] at hA
    refine ea_EEAA (h) ?_
    try clear h
    intro v vs zq14 p1 p2
    obtain rfl := zq14
    refine ea_EEAA (k) ?_
    try clear k
    intro w ws zq15 q1 q2
    obtain rfl := zq15
    induction j using NatEl with
    | zero => exact i1 v w A (by lia) p1 q1
    | succ j => exact i2 vs ws A (by lia) p2 q2 j (by simpa using h1) (by simpa using h2)
section
variable {f : Fm} {l : Locs} {X : St} {env : Env} {k : Nat}
theorem pl_lists {s : Shared} {H : Hp} (cov : ∀ a o, H a = some o → s.heap.get? a = some o) {A : Around} {lab : Str} {cs : List Tr} {v w : Value} (hA : A.units + 2 * hts cs + 8 < cLine) (h : PL H (.node lab cs) v) (k : PL H (.node lab cs) w) :
    ∃ a a' i1 i2, v = .ref a ∧ w = .ref a' ∧ s.heap.IsList a i1 ∧ s.heap.IsList a' i2 ∧ ∃ hsz : i1.size = i2.size, ∀ j (h1 : j < i1.size) (h2 : j < i2.size), EqAt A.in1 s i1[j] i2[j] true := by
  simp only [PL_e1, PL_e2] at h k
  refine ea_EEEEEEAAA (h) ?_
  try clear h
  intro a b t n m vs zq16 h1 h2 h3
  obtain rfl := zq16
  refine ea_EEEEEEAAA (k) ?_
  try clear k
  intro a' b' t' n' m' vs' zq17 k1 k2 k3
  obtain rfl := zq17
  have hl := h3.length
  have kl := k3.length
  refine ⟨a, a', _, _, rfl, rfl, ⟨_, cov _ _ h1, rfl, n, rfl⟩, ⟨_, cov _ _ k1, rfl, n', rfl⟩, rfl, ?_⟩
  intro j j1 j2
  match j, j1, j2 with
  | 0, _, _ =>
    have := EqAt.str_str (A := A.in1) (s := s) lab t lab t'
    rwa [beq_self_eq_true] at this
  | 1, _, _ =>
    show EqAt A.in1 s (.ref b) (.ref b') true
    by_cases e : b = b'
    · subst e; exact EqAt.same _
    refine EqAt.of_refs e ?_
    have R := RcAt.lists (A := A.in1) (s := s) (items := vs.toArray) (items2 := vs'.toArray) (e := fun _ => true) ⟨_, cov _ _ h2, rfl, m, rfl⟩ ⟨_, cov _ _ k2, rfl, m', rfl⟩ (by simp; lia) (by show A.units + 1 < _; lia) (fun j j1 j2 => by
      simpa using (eqPL cov).2 cs vs vs' A.in1.in1 (by show A.units + 1 + 1 + _ + 2 < _; lia) h3 k3 j (by simpa using j1) (by simpa using j2))
    rwa [all_true] at R
  | j + 2, j1, _ => exact absurd j1 (by simp)
theorem T_eqPL (O : Ok f k) {lab : Str} {cs : List Tr} {v w : Value} {Q : Value → Locs → St → Prop} (hh : hts cs ≤ 100) (h : PL X.h (.node lab cs) v) (hw : PL X.h (.node lab cs) w) (q : Q (.bool true) l X) : T f (compareOp .Eq v w) l X Q := fun s hs => by
  have := O.uni; have := O.low
  obtain ⟨a, a', i1, i2, rfl, rfl, I1, I2, hsz, he⟩ := pl_lists (s := s) (A := f.A) (fun a o e => (hs.cov a o e).1) (by unfold cLine; lia) h hw
  refine eq_listAt I1 I2 hsz O.units he ?_
  rw [all_true]; exact ⟨l, X, hs, q⟩
theorem T_nePL (O : Ok f k) {lab : Str} {cs : List Tr} {v w : Value} {Q : Value → Locs → St → Prop} (hh : hts cs ≤ 100) (h : PL X.h (.node lab cs) v) (hw : PL X.h (.node lab cs) w) (q : Q (.bool false) l X) : T f (compareOp .NotEq v w) l X Q := fun s hs => by
  have := O.uni; have := O.low
  obtain ⟨a, a', i1, i2, rfl, rfl, I1, I2, hsz, he⟩ := pl_lists (s := s) (A := f.A) (fun a o e => (hs.cov a o e).1) (by unfold cLine; lia) h hw
  have R := RcNeAt.lists I1 I2 hsz O.units he
  rw [all_true] at R
  exact R _ _ _ _ ⟨l, X, hs, q⟩
theorem T_neSV (O : Ok f k) {a b : Addr} {vs ws : List Value} {n m : Nat} {ns : List Str} {Q : Value → Locs → St → Prop} (ha : X.h a = some (listOf vs.toArray n)) (hb : X.h b = some (listOf ws.toArray m)) (h1 : SV vs ns) (h2 : SV ws ns) (q : Q (.bool false) l X) : T f (compareOp .NotEq (.ref a) (.ref b)) l X Q := fun s hs => by
  have e1 := h1.length; have e2 := h2.length
  have R := RcNeAt.lists (A := f.A) (s := s) (e := fun _ => true) (isList_at hs ha) (isList_at hs hb) (by simp; lia) O.units (fun j j1 j2 => by
    have hj : j < ns.length := by simp at j1; lia
    obtain ⟨t, p1⟩ := h1.get (List.getElem?_eq_getElem hj)
    obtain ⟨u, p2⟩ := h2.get (List.getElem?_eq_getElem hj)
    have p1' := (List.getElem?_eq_some_iff.mp p1).2
    have p2' := (List.getElem?_eq_some_iff.mp p2).2
    have := EqAt.str_str (A := f.A.in1) (s := s) ns[j] t ns[j] u
    rw [beq_self_eq_true, ← p1', ← p2'] at this
    simpa using this)
  rw [all_true] at R
  exact R _ _ _ _ ⟨l, X, hs, q⟩
theorem T_neNil (O : Ok f k) {a b : Addr} {vs : List Value} {n m : Nat} {Q : Value → Locs → St → Prop} (ha : X.h a = some (listOf vs.toArray n)) (hb : X.h b = some (listOf [].toArray m)) (q : Q (.bool (!vs.isEmpty)) l X) : T f (compareOp .NotEq (.ref a) (.ref b)) l X Q := fun s hs => by
  induction vs using LsEl with
  | nil =>
    have R := RcNeAt.lists (A := f.A) (s := s) (e := fun _ => true) (isList_at hs ha) (isList_at hs hb) rfl O.units (fun j j1 j2 => by simp at j1)
    rw [all_true] at R
    exact R _ _ _ _ ⟨l, X, hs, q⟩
  | cons v vs =>
    have R := RcNeAt.lists_lengths (A := f.A) (s := s) (isList_at hs ha) (isList_at hs hb) (by simp) O.units
    exact R _ _ _ _ ⟨l, X, hs, q⟩
end
end
-- B15
section
section
variable {f : Fm} {l : Locs} {X : St} {env : Env} {k : Nat}
theorem T_lenTup {D : Addr} {vs : List Value} {n : Nat} {Q : Value → Locs → St → Prop} (hD : X.h D = some (tupOf vs.toArray n)) (hz : vs.length ≤ sizeLine) (h : ∀ t', Q (.int vs.length t') l X) : T f (call (.builtin "len") [.ref D]) l X Q :=
  fun s hs => PyProof.Rows.len_tuple (isTup_at hs hD) (by rw [sizeLine_eq] at hz; simp; lia) ⟨l, X, hs.toks, by simpa using h _⟩
theorem T_tupFrom {value : Expr} {lower : Option Expr} {p pos : Pos} {Q : Value → Locs → St → Prop}
    (h : T f (eval value env) l X (fun o l1 X1 => T f (evalPart lower env) l1 X1 (fun vl l2 X2 => ∃ (D : Addr) (vs : List Value) (n a : Nat) (u : Tok), o = .ref D ∧ vl = .int (a : Nat) u ∧ X2.h D = some (tupOf vs.toArray n) ∧ vs.length ≤ sizeLine ∧ 1 ≤ a ∧ a ≤ vs.length ∧ ∀ b, X2.h b = none → Q (.ref b) l2 ⟨upd X2.h b (tupOf (vs.drop a).toArray 0), X2.g⟩)))
    (ht : ∀ o r, letTemporaryGo value o r = pure ()) : T f (eval (.Subscript value (.Slice lower none none p) pos) env) l X Q := fun s hs => by
  refine wpAny_Subscript_Slice (T := "tuple") slot_tuple_getitem.lookup (h.use hs fun o l1 X1 s1 a b => wpAny_Slice (b.use a fun vl l2 X2 s2 a b => ?_)) ht
  refine ea_EEEEEAAAAAA (b) ?_
  try clear b
  intro D vs n i u zq18 zq19 hD hz h1 h2 q
  obtain rfl := zq18
  obtain rfl := zq19
  have S1 := a.grow { cls := .type "slice", data := .fields #[.int (i : Nat) u, .none, .none] }
  have S2 := S1.push (o := tupOf (vs.drop i).toArray 0) rfl S1.fresh
  have T1 := isTup_at S1 hD
  refine wpAny_pure (wpAny_pure ⟨T1.typeIs, getItem_tuple_from T1 (Heap.IsSliceOf.new ..) h1 (by simpa using h2) ⟨l2, _, ?_, q _ S1.fresh⟩ (by simpa using hz)⟩)
  simpa using S2
end
end
-- F11
section
section
variable {f : Fm} {l : Locs} {X : St} {env : Env} {k : Nat}
theorem get00_ok (O : Ok f k) (hk : k < 290) {x dx cl y dy cl' tp : Addr} {lab lab' : Str} {vs us : List Value} {t1 t2 : Tok} {nt : Nat} {v : Value} {value slice : Expr} {Q : Value → Locs → St → Prop} (h : Nd X.h x dx cl lab (.ref y :: vs)) (h' : Nd X.h y dy cl' lab' (v :: us)) (htp : X.h tp = some (tupOf [Value.int 0 t1, Value.int 0 t2].toArray nt))
    (hq : ∀ H', Le X.h H' → Q v l ⟨H', X.g⟩) (hsl : subscripted slice true (.ref x) (.ref tp) = runValue (.builtin "lifetime.subscript" ⟨[.ref x, .ref tp], []⟩)) : T f (subscriptTail value slice (.ref x) (.ref tp)) l X Q := by
  refine T_sub_tree O (by exact bk1 (by assumption) rfl) h (fun A1 O1 => ?_) hsl
  walk_at "m:enter"
  intro f' O'
  refine T_sub (l' := [(Str.ofString "self", .ref x), (Str.ofString "index", .ref tp)]) (by walk_at "m:sub") ?_
  walk_at "m:go"
  refine T_if0 ?_
  walk_at "m:go"
  refine ⟨rfl, ?_⟩
  walk_at "m:go"
  refine T_if1 ?_
  walk_at "m:go"
  refine inT rfl fun E hE => ?_
  walk_at "m:go"
  refine T_isi_tt O' (by walk_at "m:h") (upd_self _ _ _) ?_
  walk_at "m:go"
  refine ⟨rfl, ?_⟩
  walk_at "m:go"
  refine T_if0 ?_
  walk_at "m:go"
  refine T_lenTup (by walk_at "m:h") (lsz rfl) fun t3 => ?_
  walk_at "m:go"
  refine ⟨rfl, ?_⟩
  walk_at "m:go"
  refine T_if0 ?_
  walk_at "m:go"
  refine T_lenTup (by walk_at "m:h") (lsz rfl) fun t4 => ?_
  walk_at "m:go"
  refine ⟨rfl, ?_⟩
  have hE' := Le.upd (o := tupOf [Value.type "list", Value.type "tuple"].toArray 0) hE
  have hx2 := h.le hE'
  have hy2 := h'.le hE'
  walk_at "m:go"
  refine get_ok O' (by exact bk5 (by assumption) rfl) hx2 (v := .ref y) (by decide) (by decide) rfl ?_ (by with_unfolding_all rfl)
  refine T_tupFrom ?_ (by exact fun _ _ => rfl)
  walk_at "m:go"
  refine ie5 tp [Value.int 0 t1, Value.int 0 t2] nt 1 _ ⟨rfl, rfl, by walk_at "m:h", lsz rfl, Nat.le_refl _, Nat.le_of_ble_eq_true rfl, fun G hG => ?_⟩
  dsimp only at hG ⊢
  have leG := Le.upd (o := tupOf ([Value.int 0 t1, Value.int 0 t2].drop 1).toArray 0) hG
  have hy3 := hy2.le leG
  have hg : upd (upd X.h E (tupOf [Value.type "list", Value.type "tuple"].toArray 0)) G (tupOf ([Value.int 0 t1, Value.int 0 t2].drop 1).toArray 0) G = some (tupOf [Value.int 0 t2].toArray 0) := upd_self _ _ _
  refine T_hp (fun H => Le X.h H ∧ Nd H y dy cl' lab' (v :: us) ∧ H G = some (tupOf [Value.int 0 t2].toArray 0)) ⟨hE'.trans leG, hy3, hg⟩ ?_
  intro H1 zz1
  refine ea_AA (zz1) ?_
  try clear zz1
  intro le1 hy4 hG1
  refine T_sub_tree O' (by exact bk5 (by assumption) rfl) hy4 (fun A2 O2 => ?_) (by with_unfolding_all rfl)
  walk_at "m:enter"
  intro f3' O3
  refine T_sub (l' := [(Str.ofString "self", .ref y), (Str.ofString "index", .ref G)]) (by walk_at "m:sub") ?_
  walk_at "m:go"
  refine T_if0 ?_
  walk_at "m:go"
  refine ⟨rfl, ?_⟩
  walk_at "m:go"
  refine T_if1 ?_
  walk_at "m:go"
  refine inT rfl fun E2 hE2 => ?_
  walk_at "m:go"
  refine T_isi_tt O3 (by walk_at "m:h") (upd_self _ _ _) ?_
  walk_at "m:go"
  refine ⟨rfl, ?_⟩
  walk_at "m:go"
  refine T_if0 ?_
  walk_at "m:go"
  refine T_lenTup (by walk_at "m:h") (lsz rfl) fun t5 => ?_
  walk_at "m:go"
  refine ⟨rfl, ?_⟩
  walk_at "m:go"
  refine T_if1 ?_
  walk_at "m:go"
  refine T_lenTup (by walk_at "m:h") (lsz rfl) fun t6 => ?_
  walk_at "m:go"
  refine ⟨rfl, ?_⟩
  walk_at "m:go"
  refine get_ok O3 (by lia) (hy4.le (Le.upd hE2)) (v := v) (by decide) (by decide) rfl ?_ (by with_unfolding_all rfl)
  walk_at "m:go"
  exact hq _ (le1.trans (Le.upd hE2))
end
end
-- F12
section
theorem len_nszs : ∀ ts : List Tr, ts.length ≤ nszs ts
  | [] => Nat.le_refl _
  | c :: cs => by have := len_nszs cs; have := nsz_pos c; simp only [List.length_cons, nszs_e1, nszs_e2]; lia
section
variable {f : Fm} {l : Locs} {X : St} {env : Env} {k : Nat}
theorem collapse_ok (O : Ok f k) (hk : k < 250) {x : Addr} {lab : Str} {cs : List Tr} {words root : Bool} {F : List Addr} {Q : Value → Locs → St → Prop} (hT : TR X.h (.node lab cs) (.ref x) F) (hnd : F.Nodup) (hw : Wc (.node lab cs)) (hz : nszs cs ≤ 50000)
    (hq : ∀ H' F', (∀ a o, X.h a = some o → a ∉ F → H' a = some o) → TR H' (jn words 30 (root || cs.length != 1) (.node lab cs)) (.ref x) F' → F'.Nodup → (∀ a, a ∈ F' → a ∈ F ∨ X.h a = none) → Q .none l ⟨H', X.g⟩) :
    T f (call (.ref 305) [.ref x, .bool words, .bool root]) l X Q := by
  walk_at "m:enter"
  intro f' O'
  refine T_sub (l' := [(Str.ofString "tree", .ref x), (Str.ofString "collapsePOS", .bool words), (Str.ofString "collapseRoot", .bool root), (Str.ofString "joinChar", .str (Str.ofString "+") _)]) (by walk_at "m:sub") ?_
  have hT0 := hT
  refine ea_EEEEAA (TR.nd hT) ?_
  try clear hT
  intro dx cl us G zq66 hN hC
  obtain rfl := zq66
  walk_at "m:go"
  have hlen := hC.length
  have hw' := hw
  simp only [Wc] at hw'
  have hzu : us.length ≤ sizeLine := by rw [sizeLine_eq]; lia
  refine T_cut (fun l' X' => X'.g = X.g ∧ ∃ tj NL ts vs n F0, X'.h NL = some (listOf vs.toArray n) ∧ Cu words (CuK x X.h (jn words 30 (root || cs.length != 1) (.node lab cs)) (x :: dx :: cl :: G)) NL X'.h ts vs F0 ∧ nszs ts ≤ 50001 ∧
    Sub [(Str.ofString "nodeList", .ref NL), (Str.ofString "collapsePOS", .bool words), (Str.ofString "joinChar", .str (Str.ofString "+") tj)] l') ?_ ?_
  · refine T_ifc (fun b l' X' => (∃ tj, l' = [(Str.ofString "tree", .ref x), (Str.ofString "collapsePOS", .bool words), (Str.ofString "collapseRoot", .bool root), (Str.ofString "joinChar", .str (Str.ofString "+") tj)]) ∧ X' = X ∧ b = (!root && us.length == 1)) ?_ ?_ ?_
    · walk_at "m:go"
      induction root using BoolEl with
      | true => walk_at "m:go"; exact ⟨⟨_, rfl⟩, rfl, rfl⟩
      | false =>
        walk_at "m:go"
        refine len_ok O' (by exact bk2 (by assumption) rfl) hN hzu fun t1 => ?_
        walk_at "m:go"
        by_cases h1 : us.length = 1
        · refine ite_t (by simp [h1]) ?_
          walk_at "m:go"
          exact ⟨⟨_, rfl⟩, rfl, by simp [h1]⟩
        · refine ite_f (by simp; lia) ?_
          exact ⟨⟨_, rfl⟩, rfl, by simp [h1]⟩
    · intro l' X' zz2
      refine ea_AA (zz2) ?_
      try clear zz2
      intro zq67 zq68 hb
      obtain ⟨tj, rfl⟩ := zq67
      obtain rfl := zq68
      obtain ⟨rfl, h1⟩ := (by simpa using hb.symm : root = false ∧ us.length = 1)
      obtain ⟨v, rfl⟩ := List.length_eq_one_iff.mp h1
      obtain ⟨c, rfl⟩ := List.length_eq_one_iff.mp (hlen ▸ h1 : cs.length = 1)
      walk_at "m:go"
      refine get_ok O' (by exact bk2 (by assumption) rfl) hN (v := v) (by decide) (by decide) rfl ?_ (by with_unfolding_all rfl)
      walk_at "m:go"
      refine inL rfl fun NL hNL => ?_
      walk_at "m:go"
      obtain ⟨F0, C0⟩ := Cu.startUnder (words := words) hT0 hnd hw hN (Le.upd (o := listOf [v].toArray 0) hNL) hNL (by rw [upd_self]; simp)
      refine ⟨rfl, rfl, tj, NL, _, _, 0, F0, upd_self _ _ _, C0, ?_, ?_⟩
      · simp only [nszs_e1, nszs_e2] at hz ⊢; exact bk6 (by assumption) rfl
      · walk_at "m:sub"
    · intro l' X' zz2
      refine ea_AA (zz2) ?_
      try clear zz2
      intro zq69 zq70 hb
      obtain ⟨tj, rfl⟩ := zq69
      obtain rfl := zq70
      walk_at "m:go"
      refine inL rfl fun NL hNL => ?_
      walk_at "m:go"
      have hj : (root || cs.length != 1) = true := by
        rw [← hlen]
        induction root using BoolEl with
        | true => rfl
        | false => simpa using hb
      rw [hj]
      refine ⟨rfl, rfl, tj, NL, _, _, 0, _, upd_self _ _ _, Cu.start hT0 hnd hw (Le.upd (o := listOf [Value.ref x].toArray 0) hNL) hNL (in_of (upd_self _ _ _)), ?_, ?_⟩
      · simp only [nszs_e1, nszs_e2, nsz_e1, nsz_e2]; exact bk9 (by assumption) rfl
      · walk_at "m:sub"
  intro l' zz1 zz2
  have zze := zz2.1
  revert zz2
  refine StElR zz1 zze ?_
  clear zze
  clear zz1
  intro H1 zz2
  refine ea_AEEEEEEAAA (zz2) ?_
  try clear zz2
  intro eg tj NL ts vs n F0 hNL C0 hz0 sb
  clear eg
  dsimp only at hNL C0 ⊢
  refine T_sub sb ?_
  walk_at "m:go"
  revert C0
  refine gen_e (CuK x X.h (jn words 30 (root || cs.length != 1) (.node lab cs)) (x :: dx :: cl :: G)) ?_
  intro K hK C0
  refine T_while (ι := List Tr) (fun _ => [(Str.ofString "nodeList", .ref NL), (Str.ofString "collapsePOS", .bool words), (Str.ofString "joinChar", .str (Str.ofString "+") tj)]) (fun ts X' => ∃ vs n F, X'.g = X.g ∧ X'.h NL = some (listOf vs.toArray n) ∧ Cu words K NL X'.h ts vs F ∧ nszs ts ≤ 50001) nszs ?_ ts ⟨vs, n, F0, rfl, hNL, C0, hz0⟩ (Sub.refl _)
  intro ts zz1 zz2
  obtain ⟨H2, g2⟩ := zz1
  refine ea_EEEAAA (zz2) ?_
  try clear zz2
  intro vs n F1 eg hNL C1 hz1
  obtain rfl : g2 = X.g := eg
  dsimp only at hNL C1 ⊢
  walk_at "m:go"
  refine inL rfl fun E hE => ?_
  have hNE : NL ≠ E := ne_of_some hNL hE
  refine T_neNil O' (upd_other hNE hNL) (upd_self _ _ _) ?_
  walk_at "m:go"
  have le2 := Le.upd (o := listOf [].toArray 0) hE
  dsimp only at le2 hE ⊢
  replace C1 := C1.mod (fun a o e _ => le2 a o e) (in_of (le2 _ _ hNL))
  replace hNL := le2 _ _ hNL
  revert hNL; revert C1
  refine gen_x (upd H2 E (listOf [].toArray 0)) ?_
  intro H3 C1 hNL
  clear le2 hE
  have hlv := C1.tr.length
  rcases List.eq_nil_or_concat ts with rfl | ⟨ts, t, rfl⟩
  · obtain rfl : vs = [] := List.eq_nil_of_length_eq_zero (by simpa using hlv)
    refine ite_f (by simp) ?_
    walk_at "m:go"
    have hF := C1.tr
    simp only [TRs_e1, TRs_e2] at hF
    obtain ⟨-, rfl⟩ := hF
    have hKH := C1.out H3 [] (fun a o e _ _ => e) (by simp [TRs_e1, TRs_e2]) .nil (fun a h => nomatch h)
    rw [← hK] at hKH
    refine ea_EAAA (hKH) ?_
    try clear hKH
    intro F' k1 k2 k3 k4
    exact hq H3 F' k1 k2 k3 k4
  rw [List.concat_eq_append] at C1 hz1 hlv ⊢
  obtain ⟨vs, v, rfl⟩ : ∃ ws v, vs = ws ++ [v] := by
    rcases List.eq_nil_or_concat vs with rfl | ⟨ws, v, rfl⟩
    · simp at hlv
    · exact ⟨ws, v, List.concat_eq_append⟩
  have hln := len_nszs (ts ++ [t])
  have hnp := nsz_pos t
  have hns : nszs (ts ++ [t]) = nszs ts + nsz t := by rw [nszs_append]; simp [nszs_e1, nszs_e2]
  have hlts : vs.length = ts.length := by simpa using hlv
  have hlt2 := len_nszs ts
  refine ite_t (by cases vs <;> rfl) ?_
  walk_at "m:go"
  refine T_pop hNL (by rw [sizeLine_eq]; lia) fun n2 => ?_
  walk_at "m:go"
  have hNL4 : upd H3 NL (listOf vs.toArray n2) NL = some (listOf vs.toArray n2) := upd_self _ _ _
  replace C1 := C1.mod (H2 := upd H3 NL (listOf vs.toArray n2)) (fun a o e q => upd_other q e) (in_of hNL4)
  dsimp only
  revert hNL4; revert C1
  refine gen_x (upd H3 NL (listOf vs.toArray n2)) ?_
  intro H4 C1 hNL4
  induction t using TrEl with
  | leaf c =>
    have C2 := C1.leaf rfl
    refine ea_EEAA (C1.tr.last) ?_
    intro E1 E2 zc71 zc72 h2
    clear zc71
    clear zc72
    simp only [TR_e1, TR_e2] at h2
    refine ea_AE (h2) ?_
    try clear h2
    intro zc78 tc zq79
    clear zc78
    obtain rfl := zq79
    refine T_if0 ?_
    walk_at "m:go"
    refine ⟨rfl, ?_⟩
    walk_at "m:go"
    exact ⟨ts, by lia, ⟨_, n2, _, rfl, hNL4, C2, by lia⟩, by walk_at "m:sub"⟩
  | node lb cs2 =>
    refine ea_EEAA (C1.tr.last) ?_
    intro E1 E2 zc80 zc81 h2
    clear zc80
    clear zc81
    simp only [TR_e1, TR_e2] at h2
    refine ea_EEEEEAAA (h2) ?_
    try clear h2
    intro y dy cy us2 G3 zq87 zc88 hNy hCy
    obtain rfl := zq87
    clear zc88
    have hwc := C1.wf (.node lb cs2) (by simp)
    refine T_if1 ?_
    walk_at "m:go"
    refine ⟨rfl, ?_⟩
    walk_at "m:go"
    have hly := hCy.length
    have hwc' := hwc
    simp only [Wc] at hwc'
    have hzy : us2.length ≤ sizeLine := by rw [sizeLine_eq]; lia
    refine T_cut (fun l' X' => Sub [(Str.ofString "nodeList", .ref NL), (Str.ofString "collapsePOS", .bool words), (Str.ofString "joinChar", .str (Str.ofString "+") tj)] l' ∧ ∃ ts' vs n F, nszs ts' < nszs (ts ++ [.node lb cs2]) ∧ X'.g = X.g ∧ X'.h NL = some (listOf vs.toArray n) ∧ Cu words K NL X'.h ts' vs F) ?_ ?_
    · refine T_ifc (fun b l' X' => l' = [(Str.ofString "node", .ref y), (Str.ofString "nodeList", .ref NL), (Str.ofString "collapsePOS", .bool words), (Str.ofString "joinChar", .str (Str.ofString "+") tj)] ∧ X'.g = X.g ∧ Le H4 X'.h ∧ (b = false → stepC words (lb, cs2) = (lb, cs2)) ∧
        (b = true → ∃ z l3 c3 cs3, cs2 = [.node l3 (c3 :: cs3)] ∧ us2 = [.ref z] ∧ stepC words (lb, cs2) = ((lb ++ plus) ++ l3, c3 :: cs3))) ?_ ?_ ?_
      · walk_at "m:go"
        refine len_ok O' (by exact bk2 (by assumption) rfl) hNy hzy fun t1 => ?_
        walk_at "m:go"
        revert hwc'; revert hly; revert hCy
        refine Ls3El cs2 ?_ ?_ ?_
        · intro _ _ hw; simp at hw
        · intro t1 t2 r hCy hly _
          simp only [List.length_cons] at hly
          refine ite_f (by simp; lia) ?_
          exact ⟨rfl, rfl, Le.refl _, fun _ => by simp [stepC], nofun⟩
        · intro t1 hCy hly hw
          simp only [TRs_e1, TRs_e2] at hCy
          refine ea_EEEEAAAA (hCy) ?_
          try clear hCy
          intro u ws G4 G5 zq89 zq90 hu zq91 zq92
          obtain rfl := zq89
          obtain rfl := zq90
          obtain rfl := zq91
          obtain rfl := zq92
          walk_at "m:go"
          refine get_ok O' (by exact bk2 (by assumption) rfl) hNy (v := u) (by decide) (by decide) rfl ?_ (by with_unfolding_all rfl)
          induction t1 using TrEl with
          | leaf c =>
            simp only [TR_e1, TR_e2] at hu
            refine ea_AE (hu) ?_
            try clear hu
            intro zc93 tc zq94
            clear zc93
            obtain rfl := zq94
            walk_at "m:go"
            exact ⟨rfl, rfl, Le.refl _, fun _ => by simp [stepC], nofun⟩
          | node l3 cs3 =>
            simp only [TR_e1, TR_e2] at hu
            refine ea_EEEEEAAA (hu) ?_
            try clear hu
            intro z dz cz us3 G6 zq95 zq96 hNz hCz
            obtain rfl := zq95
            obtain rfl := zq96
            simp only [Wfs_e1, Wfs_e2, Wf_e1, Wf_e2] at hw
            revert hw; revert hCz
            refine LsEl cs3 (fun _ hw => by simp at hw) ?_
            intro c3 cs3 hCz hw
            simp only [TRs_e1, TRs_e2] at hCz
            refine ea_EEEEAAA (hCz) ?_
            try clear hCz
            intro u3 ws3 G7 G8 zq97 zq98 hu3 zc99
            obtain rfl := zq97
            obtain rfl := zq98
            clear zc99
            walk_at "m:go"
            induction words using BoolEl with
            | true =>
              walk_at "m:go"
              exact ⟨rfl, rfl, Le.refl _, nofun, fun _ => ⟨z, l3, c3, cs3, rfl, rfl, rfl⟩⟩
            | false =>
              walk_at "m:go"
              refine inT rfl fun TP hTP => ?_
              dsimp only at hTP ⊢
              have leT := fun o => Le.upd (o := o) hTP
              walk_at "m:go"
              refine get00_ok O' (by exact bk2 (by assumption) rfl) (hNy.le (leT _)) (hNz.le (leT _)) (upd_self _ _ _) (fun H6 le6 => ?_) (by with_unfolding_all rfl)
              induction c3 using TrEl with
              | leaf c =>
                simp only [TR_e1, TR_e2] at hu3
                refine ea_AE (hu3) ?_
                try clear hu3
                intro zc100 tc zq101
                clear zc100
                obtain rfl := zq101
                walk_at "m:go"
                exact ⟨rfl, rfl, (leT _).trans le6, fun _ => by simp [stepC, isNode], nofun⟩
              | node l4 cs4 =>
                simp only [TR_e1, TR_e2] at hu3
                refine ea_EEEEEAAA (hu3) ?_
                try clear hu3
                intro z4 dz4 cz4 us4 G9 zq102 zc103 hN4 zc104
                obtain rfl := zq102
                clear zc103
                clear zc104
                have hN6 := (hN4.le (leT _)).le le6
                walk_at "m:go"
                exact ⟨rfl, rfl, (leT _).trans le6, nofun, fun _ => ⟨z, l3, _, cs3, rfl, rfl, by simp [stepC, isNode]⟩⟩
      · intro l' zz1 zz2
        have zze := zz2.2.1
        revert zz2
        refine StElR zz1 zze ?_
        clear zze
        clear zz1
        intro H5 zz2
        refine ea_AAAA (zz2) ?_
        try clear zz2
        intro zq105 eg5 le5 zc106 hb
        obtain rfl := zq105
        clear zc106
        clear eg5
        dsimp only at le5 ⊢
        refine ea_EEEEAA (hb rfl) ?_
        intro z l3 c3 cs3 zq107 zq108 hs
        obtain rfl := zq107
        obtain rfl := zq108
        replace hNy := hNy.le le5
        replace C1 := C1.mod (fun a o e _ => le5 a o e) (in_of (le5 _ _ hNL4))
        replace hNL4 := le5 _ _ hNL4
        simp only [TRs_e1, TRs_e2, TR_e1, TR_e2] at hCy
        refine ea_EEEEAAAA (hCy) ?_
        try clear hCy
        intro u ws G4 G5 e1 zq109 zq110 zq111 zq112
        obtain rfl := zq109
        refine ea_EEEEEAAA (zq110) ?_
        try clear zq110
        intro z' dz cz us3 G6 zq113 zq114 hNz hCz
        obtain rfl := zq113
        obtain rfl := zq114
        obtain rfl := zq111
        obtain rfl := zq112
        cases e1
        replace hNz := hNz.le le5
        have hl3 : l3.length = 1 := by
          have w := hwc'.2.2.2.2
          simp only [Wfs_e1, Wfs_e2, Wf_e1, Wf_e2] at w; exact w.1.1.len
        walk_at "m:go"
        refine label_ok O' (by exact bk2 (by assumption) rfl) hNy fun t1 => ?_
        walk_at "m:go"
        have q1 : (Str.ofString "+").length = 1 := by decide +kernel
        refine T_cat (by rw [sizeLine_eq, q1]; lia) fun t2 => ?_
        walk_at "m:go"
        refine get_ok O' (by exact bk2 (by assumption) rfl) hNy (v := .ref z) (by decide) (by decide) rfl ?_ (by with_unfolding_all rfl)
        walk_at "m:go"
        refine label_ok O' (by exact bk2 (by assumption) rfl) hNz fun t3 => ?_
        walk_at "m:go"
        refine T_cat (by rw [Str.length_append', sizeLine_eq, q1]; lia) fun t4 => ?_
        walk_at "m:go"
        refine set_label_ok O' (by exact bk2 (by assumption) rfl) hNy fun o1 ho1 => ?_
        refine ⟨rfl, ?_⟩
        have hdz : dz ≠ dy := by
          rintro rfl
          have nd := C1.nd
          refine ea_EEAA (C1.tr.last) ?_
          intro E1 E2 zq115 zc116 h2
          obtain rfl := zq115
          clear zc116
          have := (List.nodup_append.mp nd).2.1
          refine ea_EEEEAA (TR.nd h2) ?_
          try clear h2
          intro dy' cy' us2' G3' zq117 hNy' h3
          obtain rfl := zq117
          refine ea_AAA (hNy.same hNy') ?_
          intro zq118 zc119 zc120 zq121
          obtain rfl := zq118
          clear zc119
          clear zc120
          obtain rfl := zq121
          simp only [TRs_e1, TRs_e2, TR_e1, TR_e2] at h3
          refine ea_EEEEAAA (h3) ?_
          try clear h3
          intro u' w' G1' G2' e4 zq122 zq123 zc124
          obtain rfl := zq122
          refine ea_EEEEEAAA (zq123) ?_
          try clear zq123
          intro z' dz' cz' us3' G6' zq125 zq126 hNz' zc127
          obtain rfl := zq125
          obtain rfl := zq126
          clear zc127
          clear zc124
          cases e4
          obtain ⟨e5, -⟩ := hNz.same hNz'
          subst e5
          simp at this
        refine Then_next ?_
        have hNy2 : Nd (upd H5 dy o1) y dy cy ((lb ++ plus) ++ l3) [.ref z] := by
          have ne := hNy.ne
          exact ⟨upd_other ne.1 hNy.hx, ⟨o1, upd_self _ _ _, ho1⟩, hNy.hl.imp fun n e => upd_other (Ne.symm ne.2.2) e⟩
        have hNz2 : Nd (upd H5 dy o1) z dz cz l3 us3 := by
          have ne := hNz.ne
          refine ea_EA (hNy.hd) ?_
          intro oy hoy hoy2
          refine ⟨upd_other ?_ hNz.hx, hNz.hd.imp fun o z => ⟨upd_other hdz z.1, z.2⟩, hNz.hl.imp fun n e => upd_other ?_ e⟩
          · rintro rfl
            rw [hNz.hx] at hoy; cases hoy
            refine ea_EEEEEE (hoy2) ?_
            try clear hoy2
            intro _ _ _ _ _ _ e
            have := congrArg Obj.cls e; simp at this
          · rintro rfl
            rw [e] at hoy; cases hoy
            exact hoy2.noList _ _ rfl
        dsimp only
        revert hNy2; revert hNz2
        refine gen_e (upd H5 dy o1) ?_
        intro H6 hH6 hNz2 hNy2
        have hk6 : ∀ a o, H5 a = some o → a ≠ dy → H6 a = some o := fun a o e n => by rw [← hH6]; exact upd_other n e
        have hl6 : us3.length ≤ sizeLine := by
          have hCz' : TRs H4 (c3 :: cs3) us3 G6 := by simp only [TRs_e1, TRs_e2]; exact hCz
          rw [hCz'.length, sizeLine_eq]
          have w := hwc'.2.2.2.2
          simp only [Wfs_e1, Wfs_e2, Wf_e1, Wf_e2] at w; lia
        walk_at "m:go"
        refine get_ok O' (by exact bk2 (by assumption) rfl) hNy2 (v := .ref z) (by decide) (by decide) rfl ?_ (by with_unfolding_all rfl)
        walk_at "m:go"
        obtain ⟨ncz, hcz⟩ := hNz2.hl
        refine CompSrc_list O' (vs := us3) (fun i ys X' => X' = ⟨H6, X.g⟩ ∧ ys = us3.take i ∧ i ≤ us3.length) hl6 ?_ ?_ ?_ ?_
        · intro i ys X' zz3
          refine ea_AA (zz3) ?_
          try clear zz3
          intro zq128 zq129 _
          obtain rfl := zq128
          obtain rfl := zq129
          exact ⟨⟨ncz, hcz⟩, by simp; lia⟩
        · exact ⟨rfl, rfl, Nat.zero_le _⟩
        · intro hb' C i v ys X' O1 hi hv zz9
          refine ea_AA (zz9) ?_
          try clear zz9
          intro zq130 zq131 _
          obtain rfl := zq130
          obtain rfl := zq131
          walk_at "m:go"
          exact ⟨rfl, (take_get hv).symm, hi⟩
        intro ys X' zz2 D nD hD
        refine ea_AA (zz2) ?_
        try clear zz2
        intro zq132 zq133 _
        obtain rfl := zq132
        obtain rfl := zq133
        rw [List.take_length]
        dsimp only at hD ⊢
        have leD := Le.upd (o := listOf us3.toArray nD) hD
        have hD5 : H5 D = none := by
          cases e : H5 D with
          | none => rfl
          | some o =>
            by_cases q : D = dy
            · subst q; obtain ⟨o', e', _⟩ := hNy2.hd; rw [hD] at e'; cases e'
            · rw [hk6 _ _ e q] at hD; cases hD
        have hDD : upd H6 D (listOf us3.toArray nD) D = some (listOf us3.toArray nD) := upd_self _ _ _
        refine T_hp (fun H => Le H6 H ∧ H D = some (listOf us3.toArray nD)) ⟨leD, hDD⟩ ?_
        intro H7 zz1
        obtain ⟨le7, hD7⟩ := zz1
        have hNy7 := hNy2.le le7
        walk_at "m:go"
        refine T_set_children O' hNy7 fun o2 ho2 => ?_
        have ne := hNy7.ne
        have hNy8 : Nd (upd H7 dy o2) y dy D ((lb ++ plus) ++ l3) us3 := ⟨upd_other ne.1 hNy7.hx, ⟨o2, upd_self _ _ _, ho2⟩, ⟨nD, upd_other (by
          rintro rfl
          refine ea_EA (hNy7.hd) ?_
          intro o' e' r
          rw [hD7] at e'; cases e'
          exact r.noList _ _ rfl) hD7⟩⟩
        have hdL : dy ≠ NL := by
          rintro rfl
          refine ea_EA (hNy.hd) ?_
          intro o' e' r
          rw [hNL4] at e'; cases e'
          exact r.noList _ _ rfl
        have hk8 : ∀ a o, H5 a = some o → a ≠ dy → upd H7 dy o2 a = some o := fun a o e n => upd_other n (le7 _ _ (hk6 a o e n))
        have hNL8 := hk8 _ _ hNL4 hdL.symm
        obtain ⟨F6, C6⟩ := C1.step rfl hNy hNz hs (fun a o e n _ => hk8 a o e n) (in_of hNL8) hD5 hNy8
        refine T_hp (fun H => H NL = some (listOf vs.toArray n2) ∧ Cu words K NL H (ts ++ [.node ((lb ++ plus) ++ l3) (c3 :: cs3)]) (vs ++ [.ref y]) F6) ⟨hNL8, C6⟩ ?_
        intro H9 zz1
        obtain ⟨hNL9, C9⟩ := zz1
        have hzz : vs.length ≤ sizeLine := by rw [sizeLine_eq]; lia
        walk_at "m:go"
        refine ⟨rfl, ?_⟩
        walk_at "m:go"
        refine ⟨rfl, by walk_at "m:sub", ts ++ [.node ((lb ++ plus) ++ l3) (c3 :: cs3)], _, _, F6, ?_, rfl, upd_self _ _ _, C9.mod (fun a o e q => upd_other q e) (in_of (upd_self _ _ _))⟩
        rw [nszs_append, nszs_append]
        simp only [nszs_e1, nszs_e2, nsz_e1, nsz_e2]; lia
      · intro l' zz1 zz2
        have zze := zz2.2.1
        revert zz2
        refine StElR zz1 zze ?_
        clear zze
        clear zz1
        intro H5 zz2
        refine ea_AAAA (zz2) ?_
        try clear zz2
        intro zq134 eg5 le5 hb zc135
        obtain rfl := zq134
        clear zc135
        clear eg5
        dsimp only at le5 ⊢
        have hs := hb rfl
        replace hNy := hNy.le le5
        replace C1 := C1.mod (fun a o e _ => le5 a o e) (in_of (le5 _ _ hNL4))
        replace hNL4 := le5 _ _ hNL4
        obtain ⟨F6, C6⟩ := C1.stop rfl hNy hs
        have hNLc : NL ≠ cy := by
          rintro rfl
          refine C1.nl ?_
          refine ea_EEAA (C1.tr.last) ?_
          intro E1 E2 e2 zc136 h2
          clear zc136
          refine ea_EEEEAA (TR.nd h2) ?_
          try clear h2
          intro dy' cy' us2' G3' zq137 hNy' zc138
          obtain rfl := zq137
          clear zc138
          refine ea_AAA (hNy.same hNy') ?_
          intro zq139 zq140 zc141 zc142
          obtain rfl := zq139
          obtain rfl := zq140
          clear zc141
          clear zc142
          rw [e2]; simp
        walk_at "m:go"
        refine TFor_list O' (n := 0) (vs := us2) (fun i l' X' => Sub [(Str.ofString "nodeList", .ref NL), (Str.ofString "collapsePOS", .bool words), (Str.ofString "joinChar", .str (Str.ofString "+") tj)] l' ∧ X'.g = X.g ∧ (∀ a o, H5 a = some o → a ≠ NL → X'.h a = some o) ∧ ∃ n, X'.h NL = some (listOf (vs ++ us2.take i).toArray n)) ?_ ?_ ?_ ?_
        · intro i l' X' zz3
          refine ea_AAA (zz3) ?_
          try clear zz3
          intro _ _ h _
          obtain ⟨n, e⟩ := hNy.hl; exact ⟨n, h _ _ e hNLc.symm⟩
        · exact ia_AAAE (by walk_at "m:sub") rfl (fun a o e _ => e) n2 (by simpa using hNL4)
        · intro i v l2 zz3 it o hv zz7 hit
          have zze := zz7.2.1
          revert hit; revert zz7
          refine StElR zz3 zze ?_
          clear zze
          clear zz3
          intro H6 zz7 hit
          refine ea_AAAE (zz7) ?_
          try clear zz7
          intro sb eg6 k6 n6 hN6
          clear eg6
          dsimp only at k6 hN6 hit ⊢
          have hNi : NL ≠ it := ne_of_some hN6 hit
          have hN7 : upd H6 it o NL = some (listOf (vs ++ us2.take i).toArray n6) := upd_other hNi hN6
          have hlt : i < us2.length := (List.getElem?_eq_some_iff.mp hv).1
          have hzz : (vs ++ us2.take i).length ≤ sizeLine := by rw [sizeLine_eq, List.length_append, List.length_take]; lia
          refine T_sub sb ?_
          walk_at "m:go"
          refine ⟨rfl, ?_⟩
          walk_at "m:go"
          refine ⟨upd_other hNi.symm (upd_self _ _ _), (Sub.refl _).skip rfl, rfl, fun a o e n => ?_, ?_⟩
          · have hai := ne_of_some (k6 a o e n) hit
            exact (del_ne hai).trans (upd_other n (upd_other hai (k6 a o e n)))
          · rw [take_get hv, ← List.append_assoc]
            exact ⟨_, (del_ne hNi).trans (upd_self _ _ _)⟩
        · intro l2 zz1 zz2
          have zze := zz2.2.1
          revert zz2
          refine StElR zz1 zze ?_
          clear zze
          clear zz1
          intro H6 zz2
          refine ea_AAAE (zz2) ?_
          try clear zz2
          intro sb eg6 k6 n6 hN6
          clear eg6
          rw [List.take_length] at hN6
          walk_at "m:go"
          refine ⟨rfl, sb, ts ++ cs2, _, n6, F6, ?_, rfl, hN6, C6.mod k6 (in_of hN6)⟩
          rw [nszs_append, hns]; simp only [nsz_e1, nsz_e2]; lia
    · intro l' zz1 zz2
      obtain ⟨H5, g5⟩ := zz1
      refine ea_AEEEEAAA (zz2) ?_
      try clear zz2
      intro sb ts' vs' n5 F5 h1 eg5 h2 h3
      walk_at "m:go"
      exact ⟨ts', h1, ⟨vs', n5, F5, eg5, h2, h3, by lia⟩, sb⟩
end
end
-- Hk
section
noncomputable def TabsOk (h : Heap) : Prop := h.get? 162 = some (tabObj #[]) ∧ h.get? 296 = some (tabObj #[])
theorem TabsOk.keeps {h h' : Heap} (t : TabsOk h) (k : ∀ b o, h.get? b = some o → h'.get? b = some o) : TabsOk h' := ⟨k _ _ t.1, k _ _ t.2⟩
noncomputable abbrev loose : List Str := [Str.ofString "chomsky_normal_form", Str.ofString "un_chomsky_normal_form", Str.ofString "collapse_unary"]
noncomputable abbrev ads : List Addr := [3, 153, 159, 160, 166, 167, 173, 174, 180, 181, 194, 195, 201, 202, 208, 209, 237, 238, 267, 268, 269, 270, 271, 286, 287, 288, 292, 293, 294, 298, 299, 300, 304, 305, 309, 310, 316, 317, 323, 324, 328, 329, 333, 334, 338, 339, 343, 344, 348, 349]
theorem ads_eq (P : Params) : ads = (Kh P).map (·.1) := rfl
noncomputable abbrev Xt (s : Shared) : Bool := xlAt Vw [] s && recOk PySem.Challenge.rw_je0024_01.row.records s
noncomputable abbrev Yf (s : Shared) := ((kHook Kh ads ads_eq).obs s, s.heap.get? 162, s.heap.get? 296)
noncomputable abbrev Ya (w : World) := ((kHook Kh ads ads_eq).val w, some (tabObj #[]), some (tabObj #[]))
noncomputable abbrev s0 (w : World) (os : OsState) : Shared := ⟨boot_heap w.params, Array.mk [], boot_drawn, boot_toks, os⟩
theorem ev (w : World) (os : OsState) : ((PySem.W.Fast.tw14082659384304107361 PySem.W.Fast.tw14364793385576792824 Pg w (boot_heap w.params).objs.size ((boot_heap w.params).nsMap mainGlobals "__annotations__") 4084 (s0 w os) (topStub Pg)).map fun s =>
    ((boot_heap w.params).isNs mainGlobals, staticsOk (importedModules Pg.main.body) (boot_heap w.params) s.heap && namesBound Pg s.heap && gensDone s && laidKept (boot_heap w.params) s.heap, PySem.W.Fast.tw4187177175401517315 Vw loose (importedModules Pg.main.body) Xt true s, Yf s)) = some (true, true, openGood Vw loose, Ya w) := by kernel_rfl
theorem topFrom_of {tb : String → Option Builtin} {p : Program} {w : World} {N : Nat} {s₀ s : Shared} (h1 : s₀.heap.isNs mainGlobals = true) (h2 : s₀.gens.size = 0)
    (h3 : topRun tb p w s₀.heap.objs.size (s₀.heap.nsMap mainGlobals "__annotations__") N s₀ (topStub p) = some s) (h4 : (staticsOk (importedModules p.main.body) s₀.heap s.heap && namesBound p s.heap && gensDone s && laidKept s₀.heap s.heap) = true) : topFrom tb p w N s₀ = some s := by
  unfold topFrom
  simp only [h1, h2, h3, h4, Bool.true_and, beq_self_eq_true, Option.bind_some]
theorem openEnds_of {p : Program} {w : World} {N : Nat} {s₀ s : Shared} (h1 : fencedOpening treeTable p w N = some s₀) (h2 : topFrom treeTable p w N s₀ = some s) : openEnds treeTable p w N = some s := by
  unfold openEnds; rw [h1]; exact h2
theorem op1 : opening Pg = plainProg Pg.main.scope.names := rfl
theorem op2 (s : Shared) : fenceModules? Pg s = some s := rfl
theorem open_at (w : World) : ∃ os, fencedOpening treeTable Pg w 4084 = some (s0 w os) := by
  obtain ⟨⟨h, gs, d, k, os⟩, a, b⟩ := Option.map_eq_some_iff.mp (boot_open (p := Pg) (N := 4084) op1 (by decide) op2 w)
  obtain ⟨rfl, rfl, rfl, rfl⟩ : h = boot_heap w.params ∧ gs = Array.mk [] ∧ d = boot_drawn ∧ k = boot_toks := by simpa only [Prod.mk.injEq] using b
  exact ⟨os, a⟩
theorem pair4 {α β γ δ : Type} {a a' : α} {b b' : β} {c c' : γ} {d d' : δ} (h : (a, b, c, d) = (a', b', c', d')) : a = a' ∧ b = b' ∧ c = c' ∧ d = d' := by
  cases h; exact ⟨rfl, rfl, rfl, rfl⟩
theorem left3 : LeftO Pg Vw loose Xt Yf Ya 4084 := fun w => by
  obtain ⟨os, a⟩ := open_at w
  obtain ⟨s, hs, e⟩ := Option.map_eq_some_iff.mp (ev w os)
  rw [← PySem.W.Fast.te14082659384304107361, ← PySem.W.Fast.te14364793385576792824] at hs
  rw [← PySem.W.Fast.te4187177175401517315] at e
  obtain ⟨e1, e2, e3, e4⟩ := pair4 e
  rw [openEnds_of a (topFrom_of e1 rfl hs e2)]
  exact congrArg some (congr (congrArg Prod.mk e3) e4)
theorem hd_a : (chainsOk Vw && opensWell PySem.Challenge.rw_je0024_01.row.prog && (frees PySem.Challenge.rw_je0024_01.row.toRowW && PySem.Challenge.rw_je0024_01.row.within.isEmpty)) = true := by kernel_rfl
theorem hd_b : PySem.Challenge.rw_je0024_01.row.prog.tablesWhole = true := by kernel_rfl
theorem hd_c : PySem.Challenge.rw_je0024_01.row.claim.pre [WData.list []] = true := by kernel_rfl
theorem hd_d : (WData.layableAll [WData.list []] && PySem.Challenge.rw_je0024_01.row.returnsAt [WData.list []]) = true := by kernel_rfl
theorem hd2 {d : DefRec} {kwd : List (Str × PySem.Expr)} (hdef : defOf Vw PySem.Challenge.rw_je0024_01.row.name = some (d, kwd)) (hp : PySem.Challenge.rw_je0024_01.row.prog.theDef PySem.Challenge.rw_je0024_01.row.name = some (d.params, d.body, d.scope)) (hk : kwWritten? d.params.kwonlyargs d.params.kw_defaults = some kwd)
    (walk : WalkO Vw loose (XL Vw []) (fun w h => (Kh w.params).In h ∧ TabsOk h) PySem.Challenge.rw_je0024_01.row.toRowW d kwd fun f vs => PySem.call f vs) : PySem.Challenge.rw_je0024_01.Holds := by
  refine holds_law (l := PySem.Challenge.rw_je0024_01) ?_ (fun said => PySem.W.holds_open left3 (fun w s h => ⟨kIn_of (e := ads_eq) ((kHook Kh ads ads_eq).of w s (congrArg (·.1) h)), congrArg (·.2.1) h, congrArg (·.2.2) h⟩) (fun w h h' t k => ⟨Frag.In.keeps t.1 k, t.2.keeps k⟩)
    (fun s e => xl_of s (Bool.and_eq_true_iff.mp e).left) XL.keeps hdef hp hk (fun s e => recFacts_of (Bool.and_eq_true_iff.mp e).right) rfl said hd_a ⟨rfl, ⟨rfl, ⟨rfl, ⟨rfl, ⟨rfl, hd_b⟩⟩⟩⟩⟩ ⟨[WData.list []], hd_c, hd_d⟩ walk)
  rw [PySem.W.Fast.te9446332074065402090]; kernel_rfl
end
-- B16
section
section
theorem code166 {P : Params} {h : Heap} (X : (Kh P).In h) : CodeHd h 166 162 :=
  ⟨_, _, _, _, _, _, _, _, _, X 166 _ rfl, rfl, rfl, rfl, rfl, rfl, rfl, rfl, rfl, by decide⟩
theorem code298 {P : Params} {h : Heap} (X : (Kh P).In h) : CodeHd h 298 296 :=
  ⟨_, _, _, _, _, _, _, _, _, X 298 _ rfl, rfl, rfl, rfl, rfl, rfl, rfl, rfl, rfl, by decide⟩
variable {f : Fm} {l : Locs} {X : St} {env : Env} {k : Nat}
/-- a code's table -/
noncomputable def Tab (H : Hp) (P : Addr) : Prop := ∃ ps : Array Value, H P = some (tabObj ps) ∧ TriplesOk ps.toList
noncomputable def NsO (o : Obj) (m : Str → Option Value) : Prop := ∃ es ep, o.data = .dict es ep ∧ StrKeys es ∧ ∀ name, nsFind es name = m name
theorem NsO.ns {h : Heap} {a : Addr} {o : Obj} {m : Str → Option Value} (x : NsO o m) (e : h.get? a = some o) : h.Ns a m := ⟨o, x.imp fun _ z => z.imp fun _ r => ⟨e, r⟩⟩
theorem NsO.of {h : Heap} {a : Addr} {m : Str → Option Value} (x : h.Ns a m) : ∃ o, h.get? a = some o ∧ NsO o m := x.imp fun _ z => z.elim fun _ y => y.elim fun _ y => ⟨y.1, z.imp fun _ z => z.imp fun _ z => z.2⟩
noncomputable abbrev genObj (g : Nat) (nm qn : Value) : Obj := { cls := .type "generator", data := .fields #[.int g 0, nm, qn] }
theorem Sim.extBut {s : Shared} {d : Addr} {o o' : Obj} {h' : Heap} {tk : Nat} (hs : Sim f l X s) (hd : X.h d = some o) (eb : Heap.ExtBut d s.heap h') (ho : h'.get? d = some o') : Sim f l ⟨upd X.h d o', X.g⟩ { s with heap := h', toks := tk } := by
  refine ea_EA (hs.fr) ?_
  intro m F e
  have D := hs.cov d o hd
  refine ea_EEEA (F.ns) ?_
  intro oL es ep hL r
  refine ⟨⟨m, ⟨⟨oL, es, ep, eb _ _ (Ne.symm D.2.1) hL, r⟩, fun b x q => eb b _ (fun z => ?_) (F.keep b x q), F.above⟩, e⟩, fun a x q => ?_, hs.gens, hs.os⟩
  · have := D.2.2; rw [← z, q] at this; cases this
  · dsimp only [upd] at q
    split at q
    · rename_i z; subst z; cases q; exact ⟨ho, D.2⟩
    · rename_i z; exact ⟨eb a _ z (hs.cov a x q).1, (hs.cov a x q).2⟩
theorem T_genexp (O : Ok f k) {elt target iter : PySem.Expr} {ifs : List PySem.Expr} {scope : Scope} {cl : List (Str × Addr)} {pos : Pos} {c P : Addr} {Q : Value → Locs → St → Prop}
    (hco : scope.isCoroutine = false) (hclos : closureFor scope env = pure cl) (hcell : ∀ y ∈ scope.names, y.2 ≠ .cell) (h0 : scope.names.lookup (".0" : Str) = some NameKind.local) (hkind : scope.kind = .function)
    (hcode : env.code = .ref c) (hC : ∀ h, (Kh f.w.params).In h → CodeHd h c P) (hg : env.globals = mainGlobals)
    (h : T f (eval iter env) l X (fun xv l1 X1 => T f (pyIter xv) l1 X1 (fun it l2 X2 => Tab X2.h P ∧
      ∀ o' code C a oC nm qn, Tab (upd X2.h P o') P → C ≠ a → X2.h C = none → X2.h a = none → (∀ b o, X2.h b = some o → b < C) → f.L < C → NsO oC (fun y => if y = ".0" then some it else none) →
        Q (.ref a) l2 ⟨upd (upd (upd X2.h P o') C oC) a (genObj X2.g.size nm qn), X2.g.push (.fresh (.compStart (.GeneratorExp elt [⟨target, iter, ifs, 0⟩] scope pos) 0 it .none (genEnv scope cl C code builtinsNs env)))⟩)))
    (hs : ∀ x, genFold iter env x = pure x) : T f (eval (.GeneratorExp elt [⟨target, iter, ifs, 0⟩] scope pos) env) l X Q := fun s hs' => by
  refine wpAny_GeneratorExp_make hco hclos hcell h0 hkind O.room (h.use hs' fun xv l1 X1 s1 S1 b => b.use S1 fun it l2 X2 s2 S2 b => ?_) hs
  obtain ⟨⟨ps, hP, hps⟩, q⟩ := b
  refine ea_EEEEE (O.T) ?_
  intro _ _ _ _ _ T
  refine ea_EA (id S2.fr) ?_
  intro m2 F2 _
  have CH := hC _ (O.K_in S2)
  have hPs := (S2.cov _ _ hP).1
  have tail : ∀ code o' s₄, Sim f l2 ⟨upd X2.h P o', X2.g⟩ s₄ → Tab (upd X2.h P o') P → wpAny (model Pg f.w) f.A (builtinsFor env.globals env.builtins) (fun bi s₄ =>
        ∀ h', h'.Ns s₄.heap.objs.size (fun y => if y = ".0" then some it else none) → Heap.SameBut s₄.heap.objs.size (s₄.heap.push { cls := .type "frame", data := .dict #[] }) h' →
          ∃ l' X', Sim f l' X' { s₄ with
            gens := s₄.gens.push (.fresh (.compStart (.GeneratorExp elt [⟨target, iter, ifs, 0⟩] scope pos) 0 it .none (genEnv scope cl s₄.heap.objs.size code bi env))),
            toks := s₄.toks + 1 + 1 + 1,
            heap := h'.push { cls := .type "generator", data := .fields #[.int s₄.gens.size 0, .str "<genexpr>" (s₄.toks + 1), .str (env.qual ++ "<genexpr>") (s₄.toks + 1 + 1)] } } ∧ Q (.ref h'.objs.size) l' X') (fun _ _ => False) s₄ := by
    intro code o' s₄ S4 hT
    refine ea_EA (id S4.fr) ?_
    intro m4 F4 _
    refine ea_EEAAAAA (T.bmain) ?_
    intro bm ob b1 b2 b3 b4 b5 b6
    rw [hg]
    refine wpAny_builtinsFor (T.g.keeps F4.keep) b1 b2 (F4.keep _ _ b3) b4 b5 b6 fun h' hn hsb => ?_
    refine ea_EA (NsO.of hn) ?_
    intro oC hoC nC
    refine ea_AA (S4.newAddr) ?_
    intro n1 n2 n3
    have S5 := (S4.grow { cls := .type "frame", data := .dict #[] }).take (tk := s₄.toks) n1 n2 n3 hsb hoC
    have nC0 : X2.h s₄.heap.objs.size = none := (upd_none n1).2
    have hsz : h'.objs.size = s₄.heap.objs.size + 1 := by rw [hsb.1, Heap.size_push]
    have n5 := S5.fresh
    dsimp only at n5
    have S6 := S5.push (o := genObj s₄.gens.size (.str "<genexpr>" (s₄.toks + 1)) (.str (env.qual ++ "<genexpr>") (s₄.toks + 1 + 1))) rfl S5.fresh
    refine ia_EEA l2 ⟨_, X2.g.push (.fresh (.compStart (.GeneratorExp elt [⟨target, iter, ifs, 0⟩] scope pos) 0 it .none (genEnv scope cl s₄.heap.objs.size code builtinsNs env)))⟩ ⟨S6.fr, S6.cov, ?_, S6.os⟩ ?_
    · show s₄.gens.push _ = X2.g.push _
      rw [S4.gens]
    · have := q o' code s₄.heap.objs.size h'.objs.size oC (.str "<genexpr>" (s₄.toks + 1)) (.str (env.qual ++ "<genexpr>") (s₄.toks + 1 + 1)) hT (by rw [hsz]; exact Nat.ne_of_lt (Nat.lt_succ_self _)) nC0 (upd_none (upd_none n5).2).2 (fun b ob e => by
        by_cases z : b = P
        · subst z; exact cov_lt S4.cov (upd_self _ _ _)
        · exact cov_lt S4.cov (upd_other z e)) F4.ns.lt nC
      rw [S4.gens]
      exact this
  refine ⟨T.nolimit.keeps F2.keep, ?_⟩
  cases hf : codeAmong pos ps.toList with
  | some code =>
    exact wpAny_genexprCode_hit hcode (CH.code hPs hps) hf (tail code (tabObj ps) s2 (S2.take' (S2.cov _ _ hP).2.1 (S2.cov _ _ hP).2.2 hPs) ⟨ps, upd_self _ _ _, hps⟩)
  | none =>
    refine wpAny_genexprCodeX hcode (CH.code hPs hps) (CH.tab hPs) hf fun c' h' tk eb _ _ ic _ ta _ => ?_
    refine ea_EEEEEEEEEE (ic) ?_
    try clear ic
    intro _ _ _ _ _ _ _ _ _ op zp6
    refine ea_AAAAAAAAAA (zp6) ?_
    clear zp6
    intro _ _ _ _ _ _ _ hop hod htr _
    exact tail _ (tabObj (ps ++ #[rawInt pos.line, rawInt pos.col, .ref c'])) _ (S2.extBut (tk := tk) hP eb ta.2) ⟨_, upd_self _ _ _, htr⟩
end
end
-- B17
section
section
variable {f : Fm} {l : Locs} {X : St} {env : Env} {k : Nat}
noncomputable abbrev liter (a : Addr) (i : Nat) : Obj := { cls := .type "list_iterator", data := .fields #[.ref a, .int (i : Int) 0] }
theorem T_iterList {a : Addr} {vs : List Value} {n : Nat} {Q : Value → Locs → St → Prop} (ha : X.h a = some (listOf vs.toArray n)) (q : ∀ it, X.h it = none → Q (.ref it) l ⟨upd X.h it (liter a 0), X.g⟩) : T f (pyIter (.ref a)) l X Q := fun s hs =>
  wpAny_pyIter_list (isList_at hs ha) ⟨l, _, hs.push (o := liter a 0) rfl hs.fresh, q _ hs.fresh⟩
noncomputable abbrev zipObj (TI TO : Addr) : Obj := { cls := .type "zip", dict := none, data := .fields #[.none, .bool false, .bool false, .ref TI, .ref TO], slots := #[] }
theorem Sim.keeps {s : Shared} {h' : Heap} {tk : Nat} (hs : Sim f l X s) (k : ∀ c o, s.heap.get? c = some o → h'.get? c = some o) : Sim f l X { s with heap := h', toks := tk } := by
  refine ea_EA (hs.fr) ?_
  intro m F e
  exact ⟨⟨m, F.keeps k, e⟩, fun a o q => ⟨k _ _ (hs.cov a o q).1, (hs.cov a o q).2⟩, hs.gens, hs.os⟩
/-- where a zip's parts lie -/
structure ZipAt (H : Hp) (z TI TO i1 i2 a b : Addr) (i : Nat) : Prop where
  z : H z = some (zipObj TI TO)
  TI : H TI = some (tupOf #[.ref i1, .ref i2] 0)
  TO : ∃ u v, H TO = some (tupOf #[u, v] 0)
  i1 : ∃ o, H i1 = some o ∧ o.cls = .type "list_iterator" ∧ o.data = .fields #[.ref a, .int (i : Int) 0]
  i2 : ∃ o, H i2 = some o ∧ o.cls = .type "list_iterator" ∧ o.data = .fields #[.ref b, .int (i : Int) 0]
theorem Sim.above {s : Shared} (hs : Sim f l X s) {x : Addr} (h : s.heap.objs.size ≤ x) : X.h x = none ∧ x ≠ f.L ∧ f.hb.get? x = none := by
  refine ea_EA (hs.fr) ?_
  intro m F e
  refine ⟨?_, fun z => ?_, ?_⟩
  · cases q : X.h x with
    | none => rfl
    | some o => exact absurd (cov_lt hs.cov q) (Nat.not_lt.mpr h)
  · have := F.ns.lt; rw [← z] at this; exact absurd this (Nat.not_lt.mpr h)
  · cases q : f.hb.get? x with
    | none => rfl
    | some o => exact absurd (Heap.lt_size (F.keep _ _ q)) (Nat.not_lt.mpr h)
theorem T_zip {a b : Addr} {vs us : List Value} {n m : Nat} {Q : Value → Locs → St → Prop} (ha : X.h a = some (listOf vs.toArray n)) (hb : X.h b = some (listOf us.toArray m))
    (q : ∀ z TI TO i1 i2 H, Le X.h H → ZipAt H z TI TO i1 i2 a b 0 → X.h z = none → X.h TI = none → X.h TO = none → X.h i1 = none → X.h i2 = none → TI ≠ z → TO ≠ z → i1 ≠ z → i2 ≠ z → TI ≠ TO → TI ≠ i1 → TI ≠ i2 → TO ≠ i1 → TO ≠ i2 → i1 ≠ i2 → Q (.ref z) l ⟨H, X.g⟩) : T f (call (.type "zip") [.ref a, .ref b]) l X Q := fun s hs => by
  refine call_zip_2 (isList_at hs ha) (isList_at hs hb) fun h' z1 z2 z3 z4 z5 z6 hk => ?_
  refine ea_EAA (z4) ?_
  try clear z4
  intro o1 y1 y2 y3
  refine ea_EAA (z5) ?_
  try clear z5
  intro o2 w1 w2 w3
  revert z1; revert z2; revert z3; revert y1; revert w1; revert z6
  refine gen_e (s.heap.objs.size) ?_
  intro N hz z6 w1 y1 z3 z2 z1
  have up := fun j => hs.above (x := N + j) (by rw [hz]; exact Nat.le_add_right _ _)
  have S0 := hs.keeps (tk := s.toks) hk
  have S1 := S0.take' (up 0).2.1 (up 0).2.2 y1
  have S2 := S1.take' (up 1).2.1 (up 1).2.2 w1
  have S3 := S2.take' (up 2).2.1 (up 2).2.2 z2
  have S4 := S3.take' (up 3).2.1 (up 3).2.2 z3
  have S5 := S4.take' (up 4).2.1 (up 4).2.2 z1
  refine ia_EEA l _ S5 (q _ (N + 2) (N + 3) N (N + 1) _ (fun c o e => ?_) ⟨upd_self _ _ _, ?_, ⟨.none, .none, ?_⟩, ⟨o1, ?_, y2, y3⟩, ⟨o2, ?_, w2, w3⟩⟩ (up 4).1 (up 2).1 (up 3).1 (up 0).1 (up 1).1 ?_ ?_ ?_ ?_ ?_ ?_ ?_ ?_ ?_ ?_)
  · have ne := fun j => ne_of_some e (up j).1
    exact upd_other (ne 4) (upd_other (ne 3) (upd_other (ne 2) (upd_other (ne 1) (upd_other (ne 0) e))))
  · exact upd_other (by simp) (upd_other (by simp) (upd_self _ _ _))
  · exact upd_other (by simp) (upd_self _ _ _)
  · exact upd_other (by simp) (upd_other (by simp) (upd_other (by simp) (upd_other (by simp) (upd_self _ _ _))))
  · exact upd_other (by simp) (upd_other (by simp) (upd_other (by simp) (upd_self _ _ _)))
  all_goals simp
end
end
-- B18
section
section
variable {f : Fm} {l : Locs} {X : St} {env : Env} {k : Nat}
/-- a generator expression's insides, outside the state: its names' object, and what its source stands on -/
structure GI (f : Fm) (l : Locs) (g : Nat) (C : Addr) (S : Nat → Heap → Prop) (own : List Addr) (J : Nat → St → Prop) (i : Nat) (s : Shared) : Prop where
  ex : ∃ X, Sim f l X s ∧ X.g[g]? = some .running ∧ J i X ∧ (∀ b ∈ C :: own, X.h b = none)
  src : S i s.heap
  ns : ∃ m, s.heap.Ns C m
/-- what the insides ask of their places -/
structure GP (f : Fm) (C : Addr) (own : List Addr) : Prop where
  out : ∀ b ∈ C :: own, b ≠ f.L ∧ f.hb.get? b = none
  lt : ∀ b ∈ own, b < C
  fL : f.L < C
theorem Sim.lostL {s : Shared} {wr : List Addr} {h' : Heap} {tk : Nat} (hs : Sim f l X s) (hn : ∀ b ∈ wr, X.h b = none) (hL : ∀ b ∈ wr, b ≠ f.L) (hb : ∀ b ∈ wr, f.hb.get? b = none) (eb : ∀ b o, b ∉ wr → s.heap.get? b = some o → h'.get? b = some o) : Sim f l X { s with heap := h', toks := tk } := by
  refine ea_EA (hs.fr) ?_
  intro m F e
  refine ea_EEEA (F.ns) ?_
  intro oL es ep hL' r
  refine ⟨⟨m, ⟨⟨oL, es, ep, eb _ _ (fun z => hL _ z rfl) hL', r⟩, fun b x q => eb b _ (fun z => ?_) (F.keep b x q), F.above⟩, e⟩, fun a x q => ⟨eb a _ (fun z => ?_) (hs.cov a x q).1, (hs.cov a x q).2⟩, hs.gens, hs.os⟩
  · rw [hb _ z] at q; cases q
  · rw [hn _ z] at q; cases q
theorem Sim.same {s s' : Shared} (hs : Sim f l X s) (h : s'.heap = s.heap) (g : s'.gens = s.gens) (o : s'.os = s.os) : Sim f l X s' := by
  obtain ⟨fr, cov, gs, os⟩ := hs
  exact ⟨h ▸ fr, h ▸ cov, g.trans gs, o.trans os⟩
/-- what a turn of the generator hands out, and on which terms it goes on -/
noncomputable def GY (G : Nat → Shared → Prop) (Rr : Shared → Prop) (go : Bool) (N : Nat) : Protocol := fun m _ v s kap =>
  ∃ b i, v = .bool b ∧ i < N ∧ m = N - (i + 1) ∧ (b = !go → Rr s) ∧ (b = go → G (i + 1) s ∧ ∀ s'' : Shared, s''.heap = s.heap → s''.gens = s.gens → s''.os = s.os → kap (.send .none) s'')
noncomputable def GEnd (G : Shared → Prop) : GenEnd := fun _ _ r s => r = .ok .next ∧ G s
noncomputable abbrev zipSt (z TI TO i1 i2 la lb : Addr) (i : Nat) (h : Heap) : Prop := IsZip h z TI TO .none ∧ IsPair h TI (.ref i1) (.ref i2) ∧ (∃ a b, IsPair h TO a b) ∧ h.IsListIter i1 la i ∧ h.IsListIter i2 lb i
noncomputable def GR (f : Fm) (l : Locs) (g : Nat) (R : St → Prop) (s : Shared) : Prop := ∃ X, Sim f l X s ∧ X.g[g]? = some .running ∧ R X
set_option maxHeartbeats 4000000 in
theorem seg_zip (O : Ok f k) (hk : k + 3 ≤ 300) {elt iter : PySem.Expr} {xa xb : Str} {pa pb pt : Pos} {kt : Nat} {scope : Scope} {pos : Pos} {z TI TO i1 i2 la lb C : Addr} {g : Nat} {xs ys : List Value} {cenv : Env} {go : Bool} {J : Nat → St → Prop} {R : St → Prop} (hlen : xs.length = ys.length)
    (D : ZipApart z TI TO i1 i2 la lb) (P : GP f C [z, TI, TO, i1, i2]) (hC : cenv.locals = C) (hxa : cenv.kindOf xa = some .local) (hxb : cenv.kindOf xb = some .local) (hab : xa ≠ xb) (hp : (cenv.scope.kind == .class || (cenv.scope.kind == .module && cenv.locals != cenv.globals)) = false) (hco : cenv.scope.isCoroutine = false)
    (hJ : ∀ i X, J i X → (∃ n, X.h la = some (listOf xs.toArray n)) ∧ ∃ n, X.h lb = some (listOf ys.toArray n))
    (turn : ∀ i va vb hb' A' X, xs[i]? = some va → ys[i]? = some vb → Ok (f.sub hb' A' C) (k + 3) → J i X → X.g[g]? = some .running →
      T (f.sub hb' A' C) (eval elt cenv) [(xb, vb), (xa, va)] X (fun y _ X2 => ∃ b, y = .bool b ∧ X2.g[g]? = some .running ∧ (b = go → J (i + 1) X2) ∧ (b = !go → R X2))) :
    ∀ (j i : Nat) (s₀ s : Shared), xs.length - i = j → i ≤ xs.length → GI f l g C (zipSt z TI TO i1 i2 la lb) [z, TI, TO, i1, i2] J i s →
      Seg (model Pg f.w) f.A.in1.in1 (GEnd (GR f l g (J xs.length))) (GY (GI f l g C (zipSt z TI TO i1 i2 la lb) [z, TI, TO, i1, i2] J) (GR f l g R) go xs.length) (xs.length - i) s₀
        (.compLoop (.GeneratorExp elt [⟨.Tuple [.Name xa pa, .Name xb pb] kt pt, iter, [], 0⟩] scope pos) 0 (.ref z) .none cenv)
        ((model Pg f.w).den (.compLoop (.GeneratorExp elt [⟨.Tuple [.Name xa pa, .Name xb pb] kt pt, iter, [], 0⟩] scope pos) 0 (.ref z) .none cenv)) [] s := by
  have W := fun (A' : Around) (hA : A'.handled = none) => (WalksT.zip2 (prog := Pg) (w := f.w) hA z TI TO i1 i2 la lb D xs.toArray ys.toArray).toU
  have hmin : min xs.toArray.size ys.toArray.size = xs.length := by simp [hlen]
  have hh' : (f.A.in1.in1.over (.compLoop (.GeneratorExp elt [⟨.Tuple [.Name xa pa, .Name xb pb] kt pt, iter, [], 0⟩] scope pos) 0 (.ref z) .none cenv) []).handled = none := O.hh
  have own : ∀ b ∈ [z, TO, i1, i2], b ∈ C :: [z, TI, TO, i1, i2] := all4 m1 m3 m4 m5
  intro j
  induction j with
  | zero =>
    intro i s₀ s hj hi G
    obtain rfl : i = xs.length := by lia
    show Seg _ _ _ _ _ s₀ _ ((compTurn (.GeneratorExp elt [⟨.Tuple [.Name xa pa, .Name xb pb] kt pt, iter, [], 0⟩] scope pos) 0 (.ref z) .none cenv).onRaise (leaving cenv)) [] s
    rw [compTurn_gen, Sem.onRaise_eq_wrap]
    refine ea_EAAA (G.ex) ?_
    intro X S hr hj0 hout
    obtain ⟨⟨n1, e1⟩, ⟨n2, e2⟩⟩ := hJ _ _ hj0
    refine ea_AAAA (G.src) ?_
    intro w1 w2 w3 w4 w5
    refine seg_bind_wrap (wpAny_standAt ?_)
    refine seg_bind_wrap ((W _ hh').done s _ _ (by rw [hmin]; exact ⟨w1, w2, w3, w4, w5, isList_at S e1, isList_at S e2⟩) fun h' tk hk' => ?_)
    exact seg_end (.ok .next) ⟨rfl, X, S.lostL (wr := [z, TO, i1, i2]) (fun b hb => hout b (own b hb)) (fun b hb => (P.out b (own b hb)).1) (fun b hb => (P.out b (own b hb)).2) hk', hr, hj0⟩
  | succ j ih =>
    intro i s₀ s hj hi G
    have hlt : i < xs.length := by lia
    rw [show xs.length - i = (xs.length - (i + 1)) + 1 by lia]
    show Seg _ _ _ _ _ s₀ _ ((compTurn (.GeneratorExp elt [⟨.Tuple [.Name xa pa, .Name xb pb] kt pt, iter, [], 0⟩] scope pos) 0 (.ref z) .none cenv).onRaise (leaving cenv)) [] s
    rw [compTurn_gen, Sem.onRaise_eq_wrap]
    refine ea_EAAA (G.ex) ?_
    intro X S hr hj0 hout
    obtain ⟨⟨n1, e1⟩, ⟨n2, e2⟩⟩ := hJ _ _ hj0
    refine ea_AAAA (G.src) ?_
    intro w1 w2 w3 w4 w5
    obtain ⟨mC, hns⟩ := G.ns
    refine seg_bind_wrap (wpAny_standAt ?_)
    refine seg_bind_wrap ((W _ hh').item i s _ _ (by rw [hmin]; exact hlt) ⟨w1, w2, w3, w4, w5, isList_at S e1, isList_at S e2⟩ fun T vals h₁ tk₁ hPv hT₁ hmid hk₁ => ?_)
    refine ea_EEAA (hPv) ?_
    try clear hPv
    intro va vb hva hvb zq20
    obtain rfl := zq20
    have wrX : ∀ b ∈ [z, TO, i1, i2], X.h b = none := fun b hb => hout b (own b hb)
    have wrL : ∀ b ∈ [z, TO, i1, i2], b ≠ f.L := fun b hb => (P.out b (own b hb)).1
    have wrB : ∀ b ∈ [z, TO, i1, i2], f.hb.get? b = none := fun b hb => (P.out b (own b hb)).2
    have PCo : C ∉ [z, TI, TO, i1, i2] := fun hm => Nat.lt_irrefl _ (P.lt C hm)
    have CX : X.h C = none := hout C m0
    have CL : C ≠ f.L := (P.out C m0).1
    have CB : f.hb.get? C = none := (P.out C m0).2
    have Cwr : C ∉ [z, TO, i1, i2] := fun hm => PCo (all4 (P := fun c => c ∈ [z, TI, TO, i1, i2]) m0 m2 m3 m4 C hm)
    have S1 := S.lostL (tk := tk₁) wrX wrL wrB hk₁
    refine seg_bind_wrap ((W _ hh').go _ _ _ i T _ _ _ hmid fun h₁' hst₁ hk₁' => ?_)
    have S2 := S1.lostL (tk := tk₁) wrX wrL wrB hk₁'
    have hT₁' : h₁'.IsTuple T #[va, vb] := hT₁.imp fun o z => ⟨hk₁' _ o ((W _ hh').apart i T _ hmid) z.1, z.2⟩
    refine seg_bind_wrap (wpAny_assign_Tuple hh' hT₁' rfl rfl fun h₁'' hx₁ => ?_)
    replace hx₁ : Heap.ExtBut h₁'.objs.size h₁' h₁'' := hx₁
    have old₁ : ∀ b o, h₁'.get? b = some o → h₁''.get? b = some o := fun b o e => hx₁ b o (Nat.ne_of_lt (Heap.lt_size e)) e
    have S3 := S2.keeps (tk := tk₁) old₁
    have hn1 : h₁''.Ns cenv.locals mC := hC ▸ hns.at' fun o e => old₁ _ o (hk₁' _ o Cwr (hk₁ _ o Cwr e))
    show wpAny _ _ (do holding [vb] (assign (.Name xa pa) cenv va); do holding [] (assign (.Name xb pb) cenv vb); pure ()) _ _ _
    refine wpAny_bind (wpAny_holding (wpAny_assign_Name (wpAny_storeName_local hxa hn1 (fun h₂a hn₂a hs₂a => ?_) hp)))
    replace hs₂a : Heap.SameBut C h₁'' h₂a := hC ▸ hs₂a
    have S4 := S3.lost (tk := tk₁ + 1) CX CL CB hs₂a.extBut
    refine wpAny_bind (wpAny_holding (wpAny_assign_Name (wpAny_storeName_local hxb hn₂a (fun h₂ hn₂ hs₂ => wpAny_pure ?_) hp)))
    replace hs₂ : Heap.SameBut C h₂a h₂ := hC ▸ hs₂
    have S5 := S4.lost (tk := tk₁ + 1 + 1) CX CL CB hs₂.extBut
    have up : ∀ b o, b ≠ C → h₁'.get? b = some o → h₂.get? b = some o := fun b o hb e => hs₂.extBut b o hb (hs₂a.extBut b o hb (old₁ b o e))
    have up0 : ∀ b o, b ≠ C → b ∉ [z, TO, i1, i2] → s.heap.get? b = some o → h₂.get? b = some o := fun b o hb hw e => up b o hb (hk₁' b o hw (hk₁ b o hw e))
    refine ea_AAAAAA (hst₁) ?_
    try clear hst₁
    intro u1 u2 zq21 u4 u5 u6 u7
    refine ea_EE (zq21) ?_
    try clear zq21
    intro ua ub u3
    have oC : ∀ b ∈ [z, TI, TO, i1, i2], b ≠ C := fun b hb e => PCo (e ▸ hb)
    have zs2 : zipSt z TI TO i1 i2 la lb (i + 1) h₂ := ⟨up _ _ (oC _ m0) u1, up _ _ (oC _ m1) u2, ⟨ua, ub, up _ _ (oC _ m2) u3⟩, u4.at fun o e => up _ o (oC _ m3) e, u5.at fun o e => up _ o (oC _ m4) e⟩
    refine seg_bind_wrap (wpAny_of_eq List.forIn_nil ?_)
    simp only [if_true]
    have hy : ∀ v, yieldOut cenv v = yieldValue v := fun v => by simp only [yieldOut, hco, Bool.false_eq_true, if_false]
    simp only [hy]
    rw [Sem.bind_eq_wrap', Sem.bind_eq_wrap', Sem.wrap_wrap, Sem.wrap_wrap]
    refine ea_EAAAAA (ground2 S5 P.fL) ?_
    intro gb st gsz gin gnone gall back
    have O' : Ok (f.sub gb (f.A.in1.in1.over (.compLoop (.GeneratorExp elt [⟨.Tuple [.Name xa pa, .Name xb pb] kt pt, iter, [], 0⟩] scope pos) 0 (.ref z) .none cenv) []) C) (k + 3) := by
      refine O.sub (j := 3) st rfl ?_ ?_ hk
      · show f.A.depth + 0 + _ ≤ f.A.depth + 2 * 3
        have : (Code.compLoop (.GeneratorExp elt [⟨.Tuple [.Name xa pa, .Name xb pb] kt pt, iter, [], 0⟩] scope pos) 0 (.ref z) .none cenv).weight ≤ 2 := Nat.le_of_ble_eq_true rfl
        lia
      · show f.A.units + 1 + 1 + 0 + _ ≤ f.A.units + 20 * 3
        have : (Code.compLoop (.GeneratorExp elt [⟨.Tuple [.Name xa pa, .Name xb pb] kt pt, iter, [], 0⟩] scope pos) 0 (.ref z) .none cenv).cUnits ≤ 20 := Nat.le_of_ble_eq_true rfl
        lia
    have S' : Sim (f.sub gb (f.A.in1.in1.over (.compLoop (.GeneratorExp elt [⟨.Tuple [.Name xa pa, .Name xb pb] kt pt, iter, [], 0⟩] scope pos) 0 (.ref z) .none cenv) []) C) [(xb, vb), (xa, va)] X { s with heap := h₂, toks := tk₁ + 1 + 1 } :=
      ⟨⟨_, ⟨hC ▸ hn₂, fun b o q => gin b o q, gsz⟩, fun y u q => by
          rw [List.lookup_cons] at q
          split at q
          · rename_i r; cases q; rw [if_pos (beq_iff_eq.mp r)]
          · rename_i r
            have r' : y ≠ xb := by simpa using r
            rw [if_neg r']
            rw [List.lookup_cons] at q
            split at q
            · rename_i r; cases q; rw [if_pos (beq_iff_eq.mp r)]
            · cases q⟩, fun a o q => ⟨(S5.cov a o q).1, fun z => (by rw [show a = C from z, CX] at q; cases q), gnone a o q⟩, S5.gens, S5.os⟩
    have gOwn : ∀ b ∈ [z, TI, TO, i1, i2], ∀ o, h₂.get? b = some o → gb.get? b = some o := fun b hb o e => gall b o (P.lt b hb) e (hout b (List.mem_cons_of_mem _ hb))
    refine seg_wrap ((turn i va vb gb _ X (by simpa using hva) (by simpa using hvb) O' hj0 hr).useE S' fun y l2 X2 s₄ Z zr => ?_)
    refine ea_EAAA (zr) ?_
    clear zr
    intro b hb hr2 q1 q2
    subst hb
    have S6 := back _ _ _ _ _ Z
    refine ea_EA (id Z.fr) ?_
    intro m3 F3 _
    have out2 : ∀ b ∈ C :: [z, TI, TO, i1, i2], X2.h b = none := fun b hb => by
      cases q : X2.h b with
      | none => rfl
      | some o =>
        have c := Z.cov _ _ q
        rcases List.mem_cons.mp hb with e | hb'
        · exact absurd e c.2.1
        · exfalso
          have ex : ∃ o', h₂.get? b = some o' := by
            refine ea_AAAA (zs2) ?_
            try clear zs2
            intro v1 v2 zq22 v4 v5
            refine ea_EE (zq22) ?_
            try clear zq22
            intro _ _ v3
            exact all5 (P := fun b => ∃ o', h₂.get? b = some o') ⟨_, v1⟩ ⟨_, v2⟩ ⟨_, v3⟩ (v4.imp fun _ z => z.1) (v5.imp fun _ z => z.1) b hb'
          obtain ⟨o', ho'⟩ := ex
          have := c.2.2
          rw [show (f.sub gb _ C).hb.get? b = some o' from gOwn b hb' o' ho'] at this
          cases this
    have zs4 : zipSt z TI TO i1 i2 la lb (i + 1) s₄.heap := by
      refine ea_AAAA (zs2) ?_
      try clear zs2
      intro v1 v2 zq23 v4 v5
      refine ea_EE (zq23) ?_
      try clear zq23
      intro va' vb' v3
      exact ⟨F3.keep _ _ (gOwn _ m0 _ v1), F3.keep _ _ (gOwn _ m1 _ v2), ⟨va', vb', F3.keep _ _ (gOwn _ m2 _ v3)⟩, v4.at fun o e => F3.keep _ _ (gOwn _ Mine.m3 _ e), v5.at fun o e => F3.keep _ _ (gOwn _ m4 _ e)⟩
    refine seg_at (seg_yield rfl rfl rfl ⟨b, i, rfl, hlt, rfl, fun e => ⟨X2, S6, hr2, q2 e⟩, fun e => ⟨⟨⟨X2, S6, hr2, q1 e, out2⟩, zs4, m3, F3.ns⟩, fun s'' eh eg eo => ?_⟩⟩)
    exact seg_again rfl (ih (i + 1) s'' s'' (by omega) hlt ⟨⟨X2, S6.same eh eg eo, hr2, q1 e, out2⟩, eh ▸ zs4, ⟨m3, eh ▸ F3.ns⟩⟩)
theorem seg_zipStart (O : Ok f k) (hk : k + 3 ≤ 300) {elt iter : PySem.Expr} {xa xb : Str} {pa pb pt : Pos} {kt : Nat} {scope : Scope} {pos : Pos} {z TI TO i1 i2 la lb C : Addr} {g : Nat} {xs ys : List Value} {cenv : Env} {go : Bool} {J : Nat → St → Prop} {R : St → Prop} (hlen : xs.length = ys.length)
    (D : ZipApart z TI TO i1 i2 la lb) (P : GP f C [z, TI, TO, i1, i2]) (hC : cenv.locals = C) (hxa : cenv.kindOf xa = some .local) (hxb : cenv.kindOf xb = some .local) (hab : xa ≠ xb) (hp : (cenv.scope.kind == .class || (cenv.scope.kind == .module && cenv.locals != cenv.globals)) = false) (hco : cenv.scope.isCoroutine = false)
    (hJ : ∀ i X, J i X → (∃ n, X.h la = some (listOf xs.toArray n)) ∧ ∃ n, X.h lb = some (listOf ys.toArray n))
    (turn : ∀ i va vb hb' A' X, xs[i]? = some va → ys[i]? = some vb → Ok (f.sub hb' A' C) (k + 3) → J i X → X.g[g]? = some .running →
      T (f.sub hb' A' C) (eval elt cenv) [(xb, vb), (xa, va)] X (fun y _ X2 => ∃ b, y = .bool b ∧ X2.g[g]? = some .running ∧ (b = go → J (i + 1) X2) ∧ (b = !go → R X2)))
    (s₀ s : Shared) (G : GI f l g C (zipSt z TI TO i1 i2 la lb) [z, TI, TO, i1, i2] J 0 s) :
      Seg (model Pg f.w) f.A.in1.in1 (GEnd (GR f l g (J xs.length))) (GY (GI f l g C (zipSt z TI TO i1 i2 la lb) [z, TI, TO, i1, i2] J) (GR f l g R) go xs.length) xs.length s₀
        (.compStart (.GeneratorExp elt [⟨.Tuple [.Name xa pa, .Name xb pb] kt pt, iter, [], 0⟩] scope pos) 0 (.ref z) .none cenv)
        ((model Pg f.w).den (.compStart (.GeneratorExp elt [⟨.Tuple [.Name xa pa, .Name xb pb] kt pt, iter, [], 0⟩] scope pos) 0 (.ref z) .none cenv)) [] s := by
  have loop := seg_zip (iter := iter) (pa := pa) (pb := pb) (pt := pt) (kt := kt) (scope := scope) (pos := pos) O hk hlen D P hC hxa hxb hab hp hco hJ turn xs.length 0 s₀ s rfl (Nat.zero_le _) G
  rw [Nat.sub_zero] at loop
  show Seg _ _ _ _ _ s₀ _ ((compStart (.GeneratorExp elt [⟨.Tuple [.Name xa pa, .Name xb pb] kt pt, iter, [], 0⟩] scope pos) 0 (.ref z) .none cenv).onRaise (leaving cenv)) [] s
  unfold compStart
  rw [Sem.onRaise_eq_wrap]
  show Seg _ _ _ _ _ s₀ _ ((ask >>= _).wrap _ _ _ _) [] s
  refine seg_bind_wrap (wpAny_askSetting ?_)
  split
  · exact seg_again rfl loop
  · exact seg_bind_wrap (wpAny_rule (seg_bind_wrap (wpAny_standAt (seg_bind_wrap (wpAny_pyIter_zip G.src.1 (seg_again rfl loop))))))
end
end
-- B19
section
section
variable {f : Fm} {l : Locs} {X : St} {env : Env} {k : Nat}
theorem setGen_back {s : Shared} {g : Nat} {gs : GenState} (h : s.gens[g]? = some .running) : ((s.setGen g gs).setGen g .running).gens = s.gens := by
  have hlt : g < s.gens.size := by
    rcases Nat.lt_or_ge g s.gens.size with h' | h'
    · exact h'
    · rw [Array.getElem?_eq_none h'] at h; cases h
  apply Array.ext_getElem?
  intro i
  simp only [Shared.setGen, Array.getElem?_setIfInBounds, Array.size_setIfInBounds]
  by_cases e : g = i
  · obtain ⟨_, h2⟩ := Array.getElem?_eq_some_iff.mp h
    subst e; simp [hlt, h2]
  · simp [e]
theorem all_loop (hh : f.A.handled = none) (room : f.A.depth < recursionLimit) {N g : Nat} {gen : Addr} {Gst : Nat → Shared → Prop} {Rr Ee : Shared → Prop} (hI : ∀ i s, Gst i s → s.heap.IsGen gen g ∧ s.heap.NoLimit ∧ s.gens[g]? = some .running) {RR : Result → Shared → Prop}
    (stop : ∀ s gs', gs'.bare = true → Rr s → RR (.ok (.ret (.bool false))) (s.setGen g gs')) (fin : ∀ s h', Ee s → (∀ b o, s.heap.get? b = some o → h'.get? b = some o) → RR (.ok (.ret (.bool true))) { s.setGen g .finished with heap := h' }) :
    ∀ (j i : Nat) (s : Shared) (gs : GenState), N - i = j → i ≤ N → s.heap.IsGen gen g → s.heap.NoLimit → s.gens[g]? = some gs → gs.Goes (model Pg f.w) f.A.in1.in1 (GEnd Ee) (GY Gst Rr true N) (N - i) (.send .none) (s.setGen g .running) → codeAny (model Pg f.w) f.A (.builtin "all.loop" ⟨[.ref gen], []⟩) RR s := by
  intro j
  induction j with
  | zero =>
    intro i s gs hj hi hg hl hgs hgo
    rw [hj] at hgo
    refine codeAny_builtin F.entry_all_loop ?_
    rw [Around.under_plainId F.plain_all_loop _]
    show wpAny _ f.A.in1 (pyNext (.ref gen) >>= _) _ _ s
    refine wpAny_bind (wpAny_pyNext_genexpQ (P := fun _ _ s => Ee s) hh hl room hg hgs hgo (fun v s₁ gs' hb hv => ?_) fun s₁ he h' hk => wpAny_bind (wpAny_rule (wpAny_pure (fin s₁ h' he hk))))
    refine ea_EEAAAA (hv) ?_
    try clear hv
    intro b i' zq24 hi' hm hR hG
    obtain rfl := zq24
    refine wpAny_bind (wpAny_holding (wpAny_truthy_bool ?_))
    refine wpAny_bind (wpAny_letGo ?_)
    induction b using BoolEl with
    | true => exact absurd ((hG rfl).2 _ rfl rfl rfl) id
    | false =>
      simp only [Bool.false_eq_true, if_false]
      exact wpAny_bind (wpAny_rule (wpAny_pure (stop s₁ gs' hb (hR rfl))))
  | succ j ih =>
    intro i s gs hj hi hg hl hgs hgo
    rw [hj] at hgo
    refine codeAny_builtin F.entry_all_loop ?_
    rw [Around.under_plainId F.plain_all_loop _]
    show wpAny _ f.A.in1 (pyNext (.ref gen) >>= _) _ _ s
    refine wpAny_bind (wpAny_pyNext_genexpQ (P := fun _ _ s => Ee s) hh hl room hg hgs hgo (fun v s₁ gs' hb hv => ?_) fun s₁ he h' hk => wpAny_bind (wpAny_rule (wpAny_pure (fin s₁ h' he hk))))
    refine ea_EEAAAA (hv) ?_
    try clear hv
    intro b i' zq25 hi' hm hR hG
    obtain rfl := zq25
    obtain rfl : i' = i := by lia
    refine wpAny_bind (wpAny_holding (wpAny_truthy_bool ?_))
    refine wpAny_bind (wpAny_letGo ?_)
    induction b using BoolEl with
    | true =>
      simp only [if_true]
      obtain ⟨hg1, hk1⟩ := hG rfl
      refine ea_AA (hI _ _ hg1) ?_
      intro q1 q2 q3
      refine wpAny_pure ⟨plainId_quiet F.plain_all_loop _, ih (i' + 1) _ gs' (by lia) (by lia) q1 q2 (setGen_self q3) ?_⟩
      rw [show N - (i' + 1) = j by omega]
      exact hk1 _ rfl (setGen_back q3) rfl
    | false =>
      simp only [Bool.false_eq_true, if_false]
      exact wpAny_bind (wpAny_rule (wpAny_pure (stop s₁ gs' hb (hR rfl))))
end
end
-- B20
section
section
variable {f : Fm} {l : Locs} {X : St} {env : Env} {k : Nat}
theorem Sim.wo {s : Shared} {S : Addr → Prop} (hs : Sim f l X s) : Sim f l ⟨Mine.wo X.h S, X.g⟩ s := ⟨hs.fr, fun a o e => hs.cov a o (wo_some.mp e).1, hs.gens, hs.os⟩
theorem Sim.setGen {s : Shared} {g : Nat} {gs : GenState} (hs : Sim f l X s) : Sim f l ⟨X.h, X.g.setIfInBounds g gs⟩ (s.setGen g gs) := ⟨hs.fr, hs.cov, by show s.gens.setIfInBounds g gs = _; rw [hs.gens], hs.os⟩
theorem T_allZip (O : Ok f k) (hk : k + 3 ≤ 300) {elt iter : PySem.Expr} {xa xb : Str} {pa pb pt : Pos} {kt : Nat} {scope : Scope} {pos : Pos} {z TI TO i1 i2 la lb gen C : Addr} {g : Nat} {nm qn : Value} {oC : Obj} {m0 : Str → Option Value} {xs ys : List Value} {cenv : Env} {J : Nat → St → Prop} {R : St → Prop} {Q : Value → Locs → St → Prop} (hlen : xs.length = ys.length)
    (hgen : X.h gen = some (genObj g nm qn)) (hg : X.g[g]? = some (.fresh (.compStart (.GeneratorExp elt [⟨.Tuple [.Name xa pa, .Name xb pb] kt pt, iter, [], 0⟩] scope pos) 0 (.ref z) .none cenv)))
    (hz : ZipAt X.h z TI TO i1 i2 la lb 0) (hCo : X.h C = some oC) (nC : NsO oC m0) (D : ZipApart z TI TO i1 i2 la lb) (lt : ∀ b ∈ [z, TI, TO, i1, i2], b < C) (fL : f.L < C)
    (hC : cenv.locals = C) (hxa : cenv.kindOf xa = some .local) (hxb : cenv.kindOf xb = some .local) (hab : xa ≠ xb) (hp : (cenv.scope.kind == .class || (cenv.scope.kind == .module && cenv.locals != cenv.globals)) = false) (hco : cenv.scope.isCoroutine = false)
    (hJ : ∀ i X, J i X → (∃ n, X.h la = some (listOf xs.toArray n)) ∧ ∃ n, X.h lb = some (listOf ys.toArray n)) (hJg : ∀ i X, J i X → X.h gen = some (genObj g nm qn))
    (h0 : J 0 ⟨wo X.h (fun b => b ∈ C :: [z, TI, TO, i1, i2]), X.g.setIfInBounds g .running⟩)
    (turn : ∀ i va vb hb' A' X, xs[i]? = some va → ys[i]? = some vb → Ok (f.sub hb' A' C) (k + 3) → J i X → X.g[g]? = some .running →
      T (f.sub hb' A' C) (eval elt cenv) [(xb, vb), (xa, va)] X (fun y _ X2 => ∃ b, y = .bool b ∧ X2.g[g]? = some .running ∧ (b = true → J (i + 1) X2) ∧ (b = !true → R X2)))
    (fin : ∀ X', J xs.length X' → X'.g[g]? = some .running → Q (.bool true) l ⟨X'.h, X'.g.setIfInBounds g .finished⟩)
    (stop : ∀ X' gs', gs'.bare = true → R X' → X'.g[g]? = some .running → Q (.bool false) l ⟨X'.h, X'.g.setIfInBounds g gs'⟩) : T f (call (.builtin "all") [.ref gen]) l X Q := fun s hs => by
  have P : GP f C [z, TI, TO, i1, i2] := by
    refine ⟨fun b hb => ?_, lt, fL⟩
    have ex : ∃ o, X.h b = some o := by
      simp only [List.mem_cons, List.not_mem_nil, or_false] at hb
      rcases hb with rfl | rfl | rfl | rfl | rfl | rfl
      · exact ⟨_, hCo⟩
      · exact ⟨_, hz.z⟩
      · exact ⟨_, hz.TI⟩
      · exact hz.TO.elim fun _ z => z.elim fun _ e => ⟨_, e⟩
      · exact hz.i1.imp fun _ z => z.1
      · exact hz.i2.imp fun _ z => z.1
    obtain ⟨o, e⟩ := ex
    exact (hs.cov _ _ e).2
  have isGen : ∀ {X' s'}, Sim f l X' s' → X'.h gen = some (genObj g nm qn) → s'.heap.IsGen gen g := fun S e => ⟨_, nm, qn, (S.cov _ _ e).1, rfl, rfl, rfl⟩
  have noLim : ∀ {X' s'}, Sim f l X' s' → s'.heap.NoLimit := fun S => by
    refine ea_EEEEE (O.T) ?_
    intro _ _ _ _ _ T
    refine ea_EA (S.fr) ?_
    intro _ F _
    exact T.nolimit.keeps F.keep
  have hlt : g < X.g.size := by
    rcases Nat.lt_or_ge g X.g.size with h' | h'
    · exact h'
    · rw [Array.getElem?_eq_none h'] at hg; cases hg
  refine call_function_tree F.kind_all F.plain_all F.entry_all (F.args_all1 _) ?_
  unfold Builtin.«all»
  refine wpAny_bind (m := oneArg "all" _) (wpAny_pure ?_)
  refine wpAny_bind (wpAny_pyIter_gen (isGen hs hgen) ?_)
  refine wpAny_pure ⟨plainId_quiet F.plain_all_loop _, ?_⟩
  refine all_loop (N := xs.length) (g := g) (gen := gen) (Gst := GI f l g C (zipSt z TI TO i1 i2 la lb) [z, TI, TO, i1, i2] J) (Rr := GR f l g R) (Ee := GR f l g (J xs.length)) O.hh O.room (fun i s' G => ?_) (fun s' gs' hb q => ?_) (fun s' h' q hk' => ?_) xs.length 0 s _ rfl (Nat.zero_le _) (isGen hs hgen) (noLim hs) (by rw [hs.gens]; exact hg) ?_
  · refine ea_EAAA (G.ex) ?_
    intro X' S hr hj _
    exact ⟨isGen S (hJg _ _ hj), noLim S, by rw [S.gens]; exact hr⟩
  · refine ea_EAA (q) ?_
    try clear q
    intro X' S hr hR
    exact ⟨l, _, S.setGen, stop X' gs' hb hR hr⟩
  · refine ea_EAA (q) ?_
    try clear q
    intro X' S hr hR
    exact ⟨l, _, (S.setGen (gs := .finished)).keeps (tk := s'.toks) hk', fin X' hR hr⟩
  · rw [Nat.sub_zero]
    refine ⟨rfl, seg_zipStart O hk hlen D P hC hxa hxb hab hp hco hJ turn _ _ ⟨⟨_, (hs.setGen (gs := .running)).wo, ?_, h0, fun b hb => ?_⟩, ?_, m0, nC.ns (hs.cov _ _ hCo).1⟩⟩
    · simp [hlt]
    · cases e : wo X.h (fun b => b ∈ C :: [z, TI, TO, i1, i2]) b with
      | none => exact e
      | some o => exact absurd hb (wo_some.mp e).2
    · refine ea_EE (hz.TO) ?_
      intro ua ub e3
      refine ea_EA (hz.i1) ?_
      intro o1 e4 r4
      refine ea_EA (hz.i2) ?_
      intro o2 e5 r5
      exact ⟨(hs.cov _ _ hz.z).1, (hs.cov _ _ hz.TI).1, ⟨ua, ub, (hs.cov _ _ e3).1⟩, ⟨o1, (hs.cov _ _ e4).1, r4⟩, ⟨o2, (hs.cov _ _ e5).1, r5⟩⟩
end
end
-- B21
section
section
variable {f : Fm} {l : Locs} {X : St} {env : Env} {k : Nat}
theorem T_bop {op : BoolOp} {values : List PySem.Expr} {pos : Pos} {Q : Value → Locs → St → Prop} (h : T f (boolOp pos op (evalEach values env)) l X Q) : T f (eval (.BoolOp op values pos) env) l X Q := h
theorem T_bop1 {op : BoolOp} {x : PySem.Expr} {pos : Pos} {Q : Value → Locs → St → Prop} (h : T f (eval x env) l X Q) : T f (boolOp pos op (evalEach [x] env)) l X Q := h
theorem T_bopAnd {x y : PySem.Expr} {rest : List PySem.Expr} {pos : Pos} {Q : Value → Locs → St → Prop} (h : T f (eval x env) l X (fun v l1 X1 => T f (truthy v) l1 X1 (fun t l2 X2 => if t then T f (boolOp pos .And (evalEach (y :: rest) env)) l2 X2 Q else Q v l2 X2))) :
    T f (boolOp pos .And (evalEach (x :: y :: rest) env)) l X Q := fun s hs => by
  show wpAny (model Pg f.w) f.A (do
    let v ← eval x env
    standAt pos
    let t ← holding [v] (truthy v)
    match BoolOp.And, t with
    | .And, false | .Or, true => pure v
    | _, _ => boolOp pos .And (evalEach (y :: rest) env)) _ _ s
  refine wpAny_bind (h.use hs fun v l1 X1 s1 a b => wpAny_bind (wpAny_standAt (wpAny_bind (wpAny_holding (b.use a fun t l2 X2 s2 a2 b2 => ?_)))))
  induction t using BoolEl with
  | false => exact wpAny_pure ⟨l2, X2, a2, b2⟩
  | true => exact b2 s2 a2
/-- the generators since: some more, none with a cleanup -/
noncomputable def GB (a b : Array GenState) : Prop := ∃ n : List GenState, b = a ++ n.toArray ∧ ∀ y ∈ n, y.bare = true
theorem GB.refl (a : Array GenState) : GB a a := ⟨[], by simp, by simp⟩
theorem GB.trans {a b c : Array GenState} (h : GB a b) (k : GB b c) : GB a c := by
  refine ea_EA (h) ?_
  try clear h
  intro n zq30 h1
  obtain rfl := zq30
  refine ea_EA (k) ?_
  try clear k
  intro m zq31 h2
  obtain rfl := zq31
  exact ⟨n ++ m, by simp [Array.append_assoc], fun y hy => (List.mem_append.mp hy).elim (h1 y) (h2 y)⟩
end
section
theorem GB.run {a b : Array GenState} {x y : GenState} (h : GB (a.push x) b) (hy : y.bare = true) : GB a (b.setIfInBounds a.size y) := by
  refine ea_EA (h) ?_
  try clear h
  intro n zq32 h1
  obtain rfl := zq32
  refine ⟨y :: n, ?_, fun z hz => ?_⟩
  · apply Array.ext_getElem?
    intro i
    simp only [Array.getElem?_setIfInBounds, Array.getElem?_append, Array.size_push, Array.getElem?_push, Array.size_append]
    by_cases e : a.size = i
    · subst e; simp; lia
    · rw [if_neg e]
      by_cases q : i < a.size
      · rw [if_pos (by lia), if_neg (by lia), if_pos q]
      · rw [if_neg (by lia), if_neg q]
        rw [show i - a.size = (i - (a.size + 1)) + 1 by lia]
        simp
  · rcases List.mem_cons.mp hz with rfl | q
    · exact hy
    · exact h1 z q
theorem GB.at {a b : Array GenState} (h : GB a b) {i : Nat} {x : GenState} (e : a[i]? = some x) : b[i]? = some x := by
  refine ea_EA (h) ?_
  try clear h
  intro n zq33 _
  obtain rfl := zq33
  have hlt := (Array.getElem?_eq_some_iff.mp e).1
  rw [Array.getElem?_append, if_pos hlt]; exact e
end
section
variable {f : Fm} {l : Locs} {X : St} {env : Env} {k : Nat}
theorem T_iterZip {z TI TO i1 i2 a b : Addr} {i : Nat} {Q : Value → Locs → St → Prop} (h : ZipAt X.h z TI TO i1 i2 a b i) (q : Q (.ref z) l X) : T f (pyIter (.ref z)) l X Q := fun s hs => wpAny_pyIter_zip (hs.cov _ _ h.z).1 ⟨l, X, hs, q⟩
theorem ZipAt.le {H H' : Hp} {z TI TO i1 i2 a b : Addr} {i : Nat} (h : ZipAt H z TI TO i1 i2 a b i) (k : ∀ c ∈ [z, TI, TO, i1, i2], ∀ o, H c = some o → H' c = some o) : ZipAt H' z TI TO i1 i2 a b i :=
  ⟨k _ m0 _ h.z, k _ m1 _ h.TI, h.TO.imp fun _ z => z.imp fun _ e => k _ m2 _ e, h.i1.imp fun o z => ⟨k _ m3 _ z.1, z.2⟩, h.i2.imp fun o z => ⟨k _ m4 _ z.1, z.2⟩⟩
end
end
-- B22
section
section
variable {f : Fm} {l : Locs} {X : St} {env : Env} {k : Nat}
noncomputable abbrev litSt (it la : Addr) (i : Nat) (h : Heap) : Prop := h.IsListIter it la i
theorem seg_list (O : Ok f k) (hk : k + 3 ≤ 300) {elt iter : PySem.Expr} {x : Str} {px : Pos} {scope : Scope} {pos : Pos} {it la C : Addr} {g : Nat} {xs : List Value} {cenv : Env} {go : Bool} {J : Nat → St → Prop} {R : St → Prop}
    (P : GP f C [it]) (hC : cenv.locals = C) (hx : cenv.kindOf x = some .local) (hp : (cenv.scope.kind == .class || (cenv.scope.kind == .module && cenv.locals != cenv.globals)) = false) (hco : cenv.scope.isCoroutine = false)
    (hJ : ∀ i X, J i X → ∃ n, X.h la = some (listOf xs.toArray n))
    (turn : ∀ i v hb' A' X, xs[i]? = some v → Ok (f.sub hb' A' C) (k + 3) → J i X → X.g[g]? = some .running →
      T (f.sub hb' A' C) (eval elt cenv) [(x, v)] X (fun y _ X2 => ∃ b, y = .bool b ∧ X2.g[g]? = some .running ∧ (b = go → J (i + 1) X2) ∧ (b = !go → R X2))) :
    ∀ (j i : Nat) (s₀ s : Shared), xs.length - i = j → i ≤ xs.length → GI f l g C (litSt it la) [it] J i s →
      Seg (model Pg f.w) f.A.in1.in1 (GEnd (GR f l g (J xs.length))) (GY (GI f l g C (litSt it la) [it] J) (GR f l g R) go xs.length) (xs.length - i) s₀
        (.compLoop (.GeneratorExp elt [⟨.Name x px, iter, [], 0⟩] scope pos) 0 (.ref it) .none cenv)
        ((model Pg f.w).den (.compLoop (.GeneratorExp elt [⟨.Name x px, iter, [], 0⟩] scope pos) 0 (.ref it) .none cenv)) [] s := by
  have hh' : (f.A.in1.in1.over (.compLoop (.GeneratorExp elt [⟨.Name x px, iter, [], 0⟩] scope pos) 0 (.ref it) .none cenv) []).handled = none := O.hh
  have itX : it ≠ f.L ∧ f.hb.get? it = none := P.out it m1
  have CC : C ≠ f.L ∧ f.hb.get? C = none := P.out C m0
  have itC : it ≠ C := Nat.ne_of_lt (P.lt it m0)
  intro j
  induction j with
  | zero =>
    intro i s₀ s hj hi G
    obtain rfl : i = xs.length := by lia
    show Seg _ _ _ _ _ s₀ _ ((compTurn (.GeneratorExp elt [⟨.Name x px, iter, [], 0⟩] scope pos) 0 (.ref it) .none cenv).onRaise (leaving cenv)) [] s
    rw [compTurn_gen, Sem.onRaise_eq_wrap]
    refine ea_EAAA (G.ex) ?_
    intro X S hr hj0 hout
    obtain ⟨n1, e1⟩ := hJ _ _ hj0
    refine seg_bind_wrap (wpAny_standAt ?_)
    refine seg_bind_wrap (wpAny_pyNext_list_end hh' G.src (isList_at S e1) (by simp) fun h' eb => ?_)
    exact seg_end (.ok .next) ⟨rfl, X, S.lost (tk := s.toks) (hout it m1) itX.1 itX.2 eb, hr, hj0⟩
  | succ j ih =>
    intro i s₀ s hj hi G
    have hlt : i < xs.length := by omega
    rw [show xs.length - i = (xs.length - (i + 1)) + 1 by lia]
    show Seg _ _ _ _ _ s₀ _ ((compTurn (.GeneratorExp elt [⟨.Name x px, iter, [], 0⟩] scope pos) 0 (.ref it) .none cenv).onRaise (leaving cenv)) [] s
    rw [compTurn_gen, Sem.onRaise_eq_wrap]
    refine ea_EAAA (G.ex) ?_
    intro X S hr hj0 hout
    obtain ⟨n1, e1⟩ := hJ _ _ hj0
    obtain ⟨mC, hns⟩ := G.ns
    refine seg_bind_wrap (wpAny_standAt ?_)
    have hv : xs[i]? = some xs[i] := List.getElem?_eq_getElem hlt
    refine seg_bind_wrap (wpAny_pyNext_list_item G.src (isList_at S e1) (x := xs[i]) (by simp [hlt]) fun h₁ hit₁ sb₁ => ?_)
    have S1 := S.lost (tk := s.toks) (hout it m1) itX.1 itX.2 sb₁.extBut
    have CX : X.h C = none := hout C m0
    refine seg_bind_wrap (wpAny_of_eq (rfl : letOwnedTupleGo (.Name x px) (.ref it) xs[i] = pure ()) ?_)
    have hn1 : h₁.Ns cenv.locals mC := hC ▸ hns.at' fun o e => (sb₁.2 C itC.symm).trans e
    refine seg_bind_wrap (wpAny_assign_Name (wpAny_storeName_local hx hn1 (fun h₂ hn₂ hs₂ => ?_) hp))
    replace hs₂ : Heap.SameBut C h₁ h₂ := hC ▸ hs₂
    have S5 := S1.lost (tk := s.toks + 1) CX CC.1 CC.2 hs₂.extBut
    have hit2 : h₂.IsListIter it la (i + 1) := hit₁.at fun o e => (hs₂.2 it itC).trans e
    refine seg_bind_wrap (wpAny_of_eq List.forIn_nil ?_)
    simp only [if_true]
    have hy : ∀ v, yieldOut cenv v = yieldValue v := fun v => by simp only [yieldOut, hco, Bool.false_eq_true, if_false]
    simp only [hy]
    rw [Sem.bind_eq_wrap', Sem.bind_eq_wrap', Sem.wrap_wrap, Sem.wrap_wrap]
    refine ea_EAAAAA (ground2 S5 P.fL) ?_
    intro gb st gsz gin gnone gall back
    have O' : Ok (f.sub gb (f.A.in1.in1.over (.compLoop (.GeneratorExp elt [⟨.Name x px, iter, [], 0⟩] scope pos) 0 (.ref it) .none cenv) []) C) (k + 3) := by
      refine O.sub (j := 3) st rfl ?_ ?_ hk
      · show f.A.depth + 0 + _ ≤ f.A.depth + 2 * 3
        have : (Code.compLoop (.GeneratorExp elt [⟨.Name x px, iter, [], 0⟩] scope pos) 0 (.ref it) .none cenv).weight ≤ 2 := Nat.le_of_ble_eq_true rfl
        lia
      · show f.A.units + 1 + 1 + 0 + _ ≤ f.A.units + 20 * 3
        have : (Code.compLoop (.GeneratorExp elt [⟨.Name x px, iter, [], 0⟩] scope pos) 0 (.ref it) .none cenv).cUnits ≤ 20 := Nat.le_of_ble_eq_true rfl
        lia
    have S' : Sim (f.sub gb (f.A.in1.in1.over (.compLoop (.GeneratorExp elt [⟨.Name x px, iter, [], 0⟩] scope pos) 0 (.ref it) .none cenv) []) C) [(x, xs[i])] X { s with heap := h₂, toks := s.toks + 1 } :=
      ⟨⟨_, ⟨hC ▸ hn₂, fun b o q => gin b o q, gsz⟩, fun y u q => by
          rw [List.lookup_cons] at q
          split at q
          · rename_i r; cases q; rw [if_pos (beq_iff_eq.mp r)]
          · cases q⟩, fun a o q => ⟨(S5.cov a o q).1, fun z => (by rw [show a = C from z, CX] at q; cases q), gnone a o q⟩, S5.gens, S5.os⟩
    refine ea_EA (id hit2) ?_
    intro oI hoI rI
    have gI := gall it _ (P.lt it m0) hoI (hout it m1)
    refine seg_wrap ((turn i xs[i] gb _ X hv O' hj0 hr).useE S' fun y l2 X2 s₄ Z zr => ?_)
    refine ea_EAAA (zr) ?_
    clear zr
    intro b hb hr2 q1 q2
    subst hb
    have S6 := back _ _ _ _ _ Z
    refine ea_EA (id Z.fr) ?_
    intro m3 F3 _
    have out2 : ∀ b ∈ C :: [it], X2.h b = none := fun b hb => by
      cases q : X2.h b with
      | none => rfl
      | some o =>
        have c := Z.cov _ _ q
        rcases List.mem_cons.mp hb with e | hb'
        · exact absurd e c.2.1
        · exfalso
          obtain rfl := List.mem_singleton.mp hb'
          have := c.2.2
          rw [show (f.sub gb _ C).hb.get? b = some oI from gI] at this
          cases this
    have it4 : litSt it la (i + 1) s₄.heap := hit2.at fun o e => by rw [hoI] at e; cases e; exact F3.keep _ _ gI
    refine seg_at (seg_yield rfl rfl rfl ⟨b, i, rfl, hlt, rfl, fun e => ⟨X2, S6, hr2, q2 e⟩, fun e => ⟨⟨⟨X2, S6, hr2, q1 e, out2⟩, it4, m3, F3.ns⟩, fun s'' eh eg eo => ?_⟩⟩)
    exact seg_again rfl (ih (i + 1) s'' s'' (by omega) hlt ⟨⟨X2, S6.same eh eg eo, hr2, q1 e, out2⟩, eh ▸ it4, ⟨m3, eh ▸ F3.ns⟩⟩)
theorem seg_listStart (O : Ok f k) (hk : k + 3 ≤ 300) {elt iter : PySem.Expr} {x : Str} {px : Pos} {scope : Scope} {pos : Pos} {it la C : Addr} {g : Nat} {xs : List Value} {cenv : Env} {go : Bool} {J : Nat → St → Prop} {R : St → Prop}
    (P : GP f C [it]) (hC : cenv.locals = C) (hx : cenv.kindOf x = some .local) (hp : (cenv.scope.kind == .class || (cenv.scope.kind == .module && cenv.locals != cenv.globals)) = false) (hco : cenv.scope.isCoroutine = false)
    (hJ : ∀ i X, J i X → ∃ n, X.h la = some (listOf xs.toArray n))
    (turn : ∀ i v hb' A' X, xs[i]? = some v → Ok (f.sub hb' A' C) (k + 3) → J i X → X.g[g]? = some .running →
      T (f.sub hb' A' C) (eval elt cenv) [(x, v)] X (fun y _ X2 => ∃ b, y = .bool b ∧ X2.g[g]? = some .running ∧ (b = go → J (i + 1) X2) ∧ (b = !go → R X2)))
    (s₀ s : Shared) (G : GI f l g C (litSt it la) [it] J 0 s) :
      Seg (model Pg f.w) f.A.in1.in1 (GEnd (GR f l g (J xs.length))) (GY (GI f l g C (litSt it la) [it] J) (GR f l g R) go xs.length) xs.length s₀
        (.compStart (.GeneratorExp elt [⟨.Name x px, iter, [], 0⟩] scope pos) 0 (.ref it) .none cenv)
        ((model Pg f.w).den (.compStart (.GeneratorExp elt [⟨.Name x px, iter, [], 0⟩] scope pos) 0 (.ref it) .none cenv)) [] s := by
  have loop := seg_list (iter := iter) (px := px) (scope := scope) (pos := pos) O hk P hC hx hp hco hJ turn xs.length 0 s₀ s rfl (Nat.zero_le _) G
  rw [Nat.sub_zero] at loop
  show Seg _ _ _ _ _ s₀ _ ((compStart (.GeneratorExp elt [⟨.Name x px, iter, [], 0⟩] scope pos) 0 (.ref it) .none cenv).onRaise (leaving cenv)) [] s
  unfold compStart
  rw [Sem.onRaise_eq_wrap]
  show Seg _ _ _ _ _ s₀ _ ((ask >>= _).wrap _ _ _ _) [] s
  refine seg_bind_wrap (wpAny_askSetting ?_)
  split
  · exact seg_again rfl loop
  · exact seg_bind_wrap (wpAny_rule (seg_bind_wrap (wpAny_standAt (seg_bind_wrap (wpAny_pyIter_listiter G.src (seg_again rfl loop))))))
theorem any_loop (hh : f.A.handled = none) (room : f.A.depth < recursionLimit) {N g : Nat} {gen : Addr} {Gst : Nat → Shared → Prop} {Rr Ee : Shared → Prop} (hI : ∀ i s, Gst i s → s.heap.IsGen gen g ∧ s.heap.NoLimit ∧ s.gens[g]? = some .running) {RR : Result → Shared → Prop}
    (stop : ∀ s gs', gs'.bare = true → Rr s → RR (.ok (.ret (.bool true))) (s.setGen g gs')) (fin : ∀ s h', Ee s → (∀ b o, s.heap.get? b = some o → h'.get? b = some o) → RR (.ok (.ret (.bool false))) { s.setGen g .finished with heap := h' }) :
    ∀ (j i : Nat) (s : Shared) (gs : GenState), N - i = j → i ≤ N → s.heap.IsGen gen g → s.heap.NoLimit → s.gens[g]? = some gs → gs.Goes (model Pg f.w) f.A.in1.in1 (GEnd Ee) (GY Gst Rr false N) (N - i) (.send .none) (s.setGen g .running) → codeAny (model Pg f.w) f.A (.builtin "any.loop" ⟨[.ref gen], []⟩) RR s := by
  intro j
  induction j with
  | zero =>
    intro i s gs hj hi hg hl hgs hgo
    rw [hj] at hgo
    refine codeAny_builtin F.entry_any_loop ?_
    rw [Around.under_plainId F.plain_any_loop _]
    show wpAny _ f.A.in1 (pyNext (.ref gen) >>= _) _ _ s
    refine wpAny_bind (wpAny_pyNext_genexpQ (P := fun _ _ s => Ee s) hh hl room hg hgs hgo (fun v s₁ gs' hb hv => ?_) fun s₁ he h' hk => wpAny_bind (wpAny_rule (wpAny_pure (fin s₁ h' he hk))))
    refine ea_EEAAAA (hv) ?_
    try clear hv
    intro b i' zq34 hi' hm hR hG
    obtain rfl := zq34
    refine wpAny_bind (wpAny_holding (wpAny_truthy_bool ?_))
    refine wpAny_bind (wpAny_letGo ?_)
    induction b using BoolEl with
    | false => exact absurd ((hG rfl).2 _ rfl rfl rfl) id
    | true =>
      simp only [if_true]
      exact wpAny_bind (wpAny_rule (wpAny_pure (stop s₁ gs' hb (hR rfl))))
  | succ j ih =>
    intro i s gs hj hi hg hl hgs hgo
    rw [hj] at hgo
    refine codeAny_builtin F.entry_any_loop ?_
    rw [Around.under_plainId F.plain_any_loop _]
    show wpAny _ f.A.in1 (pyNext (.ref gen) >>= _) _ _ s
    refine wpAny_bind (wpAny_pyNext_genexpQ (P := fun _ _ s => Ee s) hh hl room hg hgs hgo (fun v s₁ gs' hb hv => ?_) fun s₁ he h' hk => wpAny_bind (wpAny_rule (wpAny_pure (fin s₁ h' he hk))))
    refine ea_EEAAAA (hv) ?_
    try clear hv
    intro b i' zq35 hi' hm hR hG
    obtain rfl := zq35
    obtain rfl : i' = i := by lia
    refine wpAny_bind (wpAny_holding (wpAny_truthy_bool ?_))
    refine wpAny_bind (wpAny_letGo ?_)
    induction b using BoolEl with
    | false =>
      simp only [Bool.false_eq_true, if_false]
      obtain ⟨hg1, hk1⟩ := hG rfl
      refine ea_AA (hI _ _ hg1) ?_
      intro q1 q2 q3
      refine wpAny_pure ⟨plainId_quiet F.plain_any_loop _, ih (i' + 1) _ gs' (by lia) (by lia) q1 q2 (setGen_self q3) ?_⟩
      rw [show N - (i' + 1) = j by omega]
      exact hk1 _ rfl (setGen_back q3) rfl
    | true =>
      simp only [if_true]
      exact wpAny_bind (wpAny_rule (wpAny_pure (stop s₁ gs' hb (hR rfl))))
theorem T_anyList (O : Ok f k) (hk : k + 3 ≤ 300) {elt iter : PySem.Expr} {x : Str} {px : Pos} {scope : Scope} {pos : Pos} {it la gen C : Addr} {g : Nat} {nm qn : Value} {oC : Obj} {m0 : Str → Option Value} {xs : List Value} {cenv : Env} {J : Nat → St → Prop} {R : St → Prop} {Q : Value → Locs → St → Prop}
    (hgen : X.h gen = some (genObj g nm qn)) (hg : X.g[g]? = some (.fresh (.compStart (.GeneratorExp elt [⟨.Name x px, iter, [], 0⟩] scope pos) 0 (.ref it) .none cenv)))
    (hz : X.h it = some (liter la 0)) (hCo : X.h C = some oC) (nC : NsO oC m0) (lt : it < C) (fL : f.L < C)
    (hC : cenv.locals = C) (hx : cenv.kindOf x = some .local) (hp : (cenv.scope.kind == .class || (cenv.scope.kind == .module && cenv.locals != cenv.globals)) = false) (hco : cenv.scope.isCoroutine = false)
    (hJ : ∀ i X, J i X → ∃ n, X.h la = some (listOf xs.toArray n)) (hJg : ∀ i X, J i X → X.h gen = some (genObj g nm qn))
    (h0 : J 0 ⟨wo X.h (fun b => b ∈ C :: [it]), X.g.setIfInBounds g .running⟩)
    (turn : ∀ i v hb' A' X, xs[i]? = some v → Ok (f.sub hb' A' C) (k + 3) → J i X → X.g[g]? = some .running →
      T (f.sub hb' A' C) (eval elt cenv) [(x, v)] X (fun y _ X2 => ∃ b, y = .bool b ∧ X2.g[g]? = some .running ∧ (b = false → J (i + 1) X2) ∧ (b = !false → R X2)))
    (fin : ∀ X', J xs.length X' → X'.g[g]? = some .running → Q (.bool false) l ⟨X'.h, X'.g.setIfInBounds g .finished⟩)
    (stop : ∀ X' gs', gs'.bare = true → R X' → X'.g[g]? = some .running → Q (.bool true) l ⟨X'.h, X'.g.setIfInBounds g gs'⟩) : T f (call (.builtin "any") [.ref gen]) l X Q := fun s hs => by
  have P : GP f C [it] := by
    refine ⟨fun b hb => ?_, fun b hb => by rw [List.mem_singleton.mp hb]; exact lt, fL⟩
    simp only [List.mem_cons, List.not_mem_nil, or_false] at hb
    rcases hb with rfl | rfl
    · exact (hs.cov _ _ hCo).2
    · exact (hs.cov _ _ hz).2
  have isGen : ∀ {X' s'}, Sim f l X' s' → X'.h gen = some (genObj g nm qn) → s'.heap.IsGen gen g := fun S e => ⟨_, nm, qn, (S.cov _ _ e).1, rfl, rfl, rfl⟩
  have noLim : ∀ {X' s'}, Sim f l X' s' → s'.heap.NoLimit := fun S => by
    refine ea_EEEEE (O.T) ?_
    intro _ _ _ _ _ T
    refine ea_EA (S.fr) ?_
    intro _ F _
    exact T.nolimit.keeps F.keep
  have hlt : g < X.g.size := by
    rcases Nat.lt_or_ge g X.g.size with h' | h'
    · exact h'
    · rw [Array.getElem?_eq_none h'] at hg; cases hg
  refine call_function_tree F.kind_any F.plain_any F.entry_any (F.args_any1 _) ?_
  unfold Builtin.«any»
  refine wpAny_bind (m := oneArg "any" _) (wpAny_pure ?_)
  refine wpAny_bind (wpAny_pyIter_gen (isGen hs hgen) ?_)
  refine wpAny_pure ⟨plainId_quiet F.plain_any_loop _, ?_⟩
  refine any_loop (N := xs.length) (g := g) (gen := gen) (Gst := GI f l g C (litSt it la) [it] J) (Rr := GR f l g R) (Ee := GR f l g (J xs.length)) O.hh O.room (fun i s' G => ?_) (fun s' gs' hb q => ?_) (fun s' h' q hk' => ?_) xs.length 0 s _ rfl (Nat.zero_le _) (isGen hs hgen) (noLim hs) (by rw [hs.gens]; exact hg) ?_
  · refine ea_EAAA (G.ex) ?_
    intro X' S hr hj _
    exact ⟨isGen S (hJg _ _ hj), noLim S, by rw [S.gens]; exact hr⟩
  · refine ea_EAA (q) ?_
    try clear q
    intro X' S hr hR
    exact ⟨l, _, S.setGen, stop X' gs' hb hR hr⟩
  · refine ea_EAA (q) ?_
    try clear q
    intro X' S hr hR
    exact ⟨l, _, (S.setGen (gs := .finished)).keeps (tk := s'.toks) hk', fin X' hR hr⟩
  · rw [Nat.sub_zero]
    refine ⟨rfl, seg_listStart O hk P hC hx hp hco hJ turn _ _ ⟨⟨_, (hs.setGen (gs := .running)).wo, ?_, h0, fun b hb => ?_⟩, ?_, m0, nC.ns (hs.cov _ _ hCo).1⟩⟩
    · simp [hlt]
    · cases e : wo X.h (fun b => b ∈ C :: [it]) b with
      | none => exact e
      | some o => exact absurd hb (wo_some.mp e).2
    · exact ⟨_, (hs.cov _ _ hz).1, rfl, rfl⟩
theorem T_iterLit {it a : Addr} {i : Nat} {Q : Value → Locs → St → Prop} (h : X.h it = some (liter a i)) (q : Q (.ref it) l X) : T f (pyIter (.ref it)) l X Q := fun s hs => wpAny_pyIter_listiter (i := i) ⟨_, (hs.cov _ _ h).1, rfl, rfl⟩ ⟨l, X, hs, q⟩
end
end
-- B23
section
section
variable {M : Model} {A : Around} {R : GenEnd} {Y : Protocol} {n : Nat} {s₀ : Shared} {c : Code} {fs : List Frame} {s : Shared} {env : Env}
  {K : Flow → Sem Fin} {H : Value → Sem Fin} {gd : Bool → Bool} {lv : List Value → List Value}
/-- how a loop's own code comes back -/
noncomputable def backOf (env : Env) (K : Flow → Sem Fin) (H : Value → Sem Fin) (gd : Bool → Bool) (lv : List Value → List Value) : Result → Sem Fin := fun r => ((match r with | .ok f => (.pure f : Sem Flow) | .error e => .raise e).onRaise fun (x : Value) => do
        if (← field x 1) == Value.none then unsupported "frame.own-activation:exception-without-traceback"
        setFlight x env.frame).wrap K H gd lv
theorem seg_For {target iter : PySem.Expr} {body orelse : List Stmt} {pos : Pos}
    (h : wpAny M (A.over c fs) (eval iter env) (fun x s₁ => wpAny M (A.over c fs) (pyIter x) (fun it s₂ => ∀ p, Seg M A R Y n s₀ (.forLoop target it body orelse env) (M.den (.forLoop target it body orelse env)) (.ret (backOf env K H gd lv) none (gd false) (lv []) c p [] :: fs) s₂) (fun _ _ => False) s₁) (fun _ _ => False) s)
    (hs : ∀ x, foldedSetIterable iter env x = pure x) : Seg M A R Y n s₀ c ((exec (.For target iter body orelse pos) env).wrap K H gd lv) fs s := by
  rw [exec_For]
  refine seg_bind_wrap (wpAny_standAt ?_)
  refine seg_bind_wrap (wpAny_mono h (fun x s₁ h₁ => ?_) fun _ _ e => e.elim)
  refine seg_bind_wrap (wpAny_of_eq (hs x) ?_)
  refine seg_bind_wrap (wpAny_standAt ?_)
  refine seg_bind_wrap (wpAny_holding (wpAny_mono h₁ (fun it s₂ h₂ => ?_) fun _ _ e => e.elim))
  exact seg_call h₂
theorem seg_If {test : PySem.Expr} {body orelse : List Stmt} {pos : Pos}
    (h : wpAny M (A.over c fs) (isTrue test env (eval test env)) (fun b s₁ => if b = true then Seg M A R Y n s₀ c ((execs body env).wrap K H gd lv) fs s₁ else Seg M A R Y n s₀ c ((execs orelse env).wrap K H gd lv) fs s₁) (fun _ _ => False) s) :
    Seg M A R Y n s₀ c ((exec (.If test body orelse pos) env).wrap K H gd lv) fs s := by
  rw [exec_If]
  refine seg_bind_wrap (wpAny_standAt ?_)
  refine seg_bind_wrap (wpAny_mono h (fun b s₁ h₁ => ?_) fun _ _ e => e.elim)
  induction b using BoolEl with
  | true => rw [if_pos rfl] at h₁ ⊢; exact h₁
  | false => rw [if_neg Bool.false_ne_true] at h₁ ⊢; exact h₁
end
section
variable {prog : Program} {w : World} {A : Around} {R : GenEnd} {Y : Protocol} {n : Nat} {s₀ : Shared} {fs : List Frame} {s : Shared} {env : Env}
  {K : Flow → Sem Fin} {H : Value → Sem Fin} {gd : Bool → Bool} {lv : List Value → List Value}
noncomputable def nextOf (target : PySem.Expr) (it : Value) (body : List Stmt) (env : Env) : Flow → Sem Fin := fun f => match f with
            | .next | .cont => .pure (.again (.forLoop target it body [] env))
            | .brk => .pure (.done .next)
            | .ret v => .pure (.done (.ret v))
noncomputable def raiseOf (env : Env) : Value → Sem Fin := fun e => (do noteFrame e env; theTreesLotGoes e : Sem Unit).wrap (fun _ => .raise e) .raise id id
theorem seg_forLoop {x : Str} {px : Pos} {it : Value} {body : List Stmt} {h0 : Option Value} {g0 : Bool} {l0 : List Value} {c₁ : Code} {p₁ : Pos} {kp : List Value}
    (h : wpAny (model prog w) (A.over (.forLoop (.Name x px) it body [] env) (.ret (backOf env K H gd lv) h0 g0 l0 c₁ p₁ kp :: fs)) (pyNext it) (fun r s₁ => match r with
      | none => Seg (model prog w) A R Y n s₀ c₁ (K .next) fs s₁
      | some v => wpAny (model prog w) (A.over (.forLoop (.Name x px) it body [] env) (.ret (backOf env K H gd lv) h0 g0 l0 c₁ p₁ kp :: fs)) (assign (.Name x px) env v) (fun _ s₂ =>
          Seg (model prog w) A R Y n s₀ (.forLoop (.Name x px) it body [] env) ((execs body env).wrap (nextOf (.Name x px) it body env) (raiseOf env) id id) (.ret (backOf env K H gd lv) h0 g0 l0 c₁ p₁ kp :: fs) s₂) (fun _ _ => False) s₁) (fun _ _ => False) s) :
    Seg (model prog w) A R Y n s₀ (.forLoop (.Name x px) it body [] env) ((model prog w).den (.forLoop (.Name x px) it body [] env)) (.ret (backOf env K H gd lv) h0 g0 l0 c₁ p₁ kp :: fs) s := by
  show Seg _ A R Y n s₀ _ ((forTurn (.Name x px) it body [] env).onRaise (fun x => do noteFrame x env; theTreesLotGoes x)) _ s
  unfold forTurn
  rw [Sem.onRaise_eq_wrap]
  refine seg_bind_wrap (wpAny_standAt ?_)
  refine seg_bind_wrap (wpAny_onRaise (wpAny_mono h (fun r s₁ h₁ => ?_) fun _ _ e => e.elim))
  cases r with
  | none =>
    refine seg_again rfl ?_
    exact seg_leaf (.ok .next) h₁
  | some v =>
    refine seg_bind_wrap (wpAny_of_eq (rfl : letOwnedTupleGo (.Name x px) it v = pure ()) ?_)
    refine seg_bind_wrap (wpAny_mono h₁ (fun _ s₂ h₂ => ?_) fun _ _ e => e.elim)
    rw [Sem.bind_eq_wrap', Sem.wrap_wrap]
    rw [Sem.wrap_congr (execs body env) _ _ (K' := nextOf (.Name x px) it body env) (H' := raiseOf env)
        (fun f => by cases f <;> rfl)
        (fun e => by first | exact Sem.bind_eq_wrap _ _ | (show (do noteFrame e env; theTreesLotGoes e : Sem Unit).bind (fun _ => .raise e) = _; rw [Sem.bind_eq_wrap]; rfl))]
    exact h₂
end
end
-- B24
section
section
variable {f : Fm} {l : Locs} {X : St} {env : Env} {k : Nat}
theorem T_callGen (O : Ok f k) {name qual : Str} {params : Arguments} {body : List Stmt} {scope : Scope} {dV kV doc pm cdv ct oc : Value} {an od : Option Addr} {osl : Array (Option Value)} {fa : Addr} {args : List Value} {binds : Locs} {Q : Value → Locs → St → Prop}
    (ho : (Kh f.w.params).lookup fa = some ⟨oc, od, .func (fnOf name qual params body scope dV kV doc pm an cdv ct), osl⟩) (hcd : codeIn (Kh f.w.params) cdv qual = true)
    (hbind : ∀ s, (Kh f.w.params).In s.heap → BindsTo s (fnOf name qual params body scope dV kV doc pm an cdv ct) ⟨args, []⟩ binds) (hloc : ∀ y ∈ binds, scope.names.lookup y.1 = some .local)
    (hco : scope.isCoroutine = false) (hgen : scope.isGenerator = true) (hkf : scope.kind = .function) (hcell : ∀ x ∈ scope.names, x.2 ≠ .cell)
    (h : ∀ C a oC nm qn, C ≠ a → X.h C = none → X.h a = none → f.L < C → NsO oC (fun x => binds.reverse.lookup x) →
      Q (.ref a) l ⟨upd (upd X.h C oC) a (genObj X.g.size nm qn), X.g.push (.fresh (.func body (envX qual scope C fa cdv [])))⟩) :
    T f (call (.ref fa) args) l X Q := fun s hs => by
  refine ea_EA (id hs.fr) ?_
  intro m F e
  have KX := O.K_in hs
  refine ea_EEEEE (O.T) ?_
  intro _ _ _ _ _ T
  refine wpAny_call (codeAny_call_generator (fd := fnOf name qual params body scope dV kV doc pm an cdv ct) (body := body) O.room (KX _ _ ho) rfl hco hgen rfl (codeRec_of KX hcd) (hbind s KX _ _ _ _ ?_))
  refine wpAny_newFunctionEnv hcell hloc (fun h' hns hsb => ?_) hkf
  refine ea_EA (NsO.of hns) ?_
  intro oC hoC nC
  refine ea_AA (hs.newAddr) ?_
  intro n1 n2 n3
  have old : ∀ b o, s.heap.get? b = some o → h'.get? b = some o := fun b o e => hsb.extBut b o (Nat.ne_of_lt (Heap.lt_size e)) (Heap.get?_push_of_some _ e)
  have hsz : h'.objs.size = s.heap.objs.size + 1 := by rw [hsb.1, Heap.size_push]
  have S5 : Sim f l ⟨upd X.h s.heap.objs.size oC, X.g⟩ { s with heap := h', toks := s.toks + binds.length } := (hs.keeps (tk := s.toks + binds.length) old).take' n2 n3 hoC
  have n5 := S5.fresh
  dsimp only at n5
  refine ⟨T.nolimit.keeps fun b o q => old b o (F.keep b o q), ?_⟩
  have S6 := S5.push (o := genObj s.gens.size (.str name (s.toks + binds.length)) (.str qual (s.toks + binds.length + 1))) rfl S5.fresh
  refine ⟨l, ⟨_, X.g.push (.fresh (.func body (envX qual scope s.heap.objs.size fa cdv [])))⟩, ⟨S6.fr, S6.cov, ?_, S6.os⟩, ?_⟩
  · show s.gens.push _ = X.g.push _
    rw [hs.gens]
    rfl
  · have := h s.heap.objs.size h'.objs.size oC (.str name (s.toks + binds.length)) (.str qual (s.toks + binds.length + 1)) (by rw [hsz]; exact Nat.ne_of_lt (Nat.lt_succ_self _)) hs.fresh (upd_none n5).2 F.ns.lt nC
    rw [hs.gens]
    exact this
theorem T_callGenL (O : Ok f k) {name qual : Str} {p1 p2 p4 : List Arg} {p3 p6 : Option Arg} {p5 : List (Option PySem.Expr)} {p7 : List PySem.Expr} {st0 : Stmt} {rest0 : List Stmt} {s1 : ScopeKind} {s2 : List (Str × NameKind)} {s3 s4 : Bool} {s5 : List (Str × Const)} {dV kV doc pm cdv ct oc : Value} {an od : Option Addr} {osl : Array (Option Value)} {fa : Addr} {args : List Value} {binds : Locs} {Q : Value → Locs → St → Prop}
    (ho : (Kh f.w.params).lookup fa = some ⟨oc, od, .func (fnOf name qual (Arguments.mk p1 p2 p3 p4 p5 p6 p7) (st0 :: rest0) (Scope.mk s1 s2 s3 s4 s5) dV kV doc pm an cdv ct), osl⟩) (hcd : codeIn (Kh f.w.params) cdv qual = true)
    (hbind : ∀ s, (Kh f.w.params).In s.heap → BindsTo s (fnOf name qual (Arguments.mk p1 p2 p3 p4 p5 p6 p7) (st0 :: rest0) (Scope.mk s1 s2 s3 s4 s5) dV kV doc pm an cdv ct) ⟨args, []⟩ binds) (hloc : ∀ y ∈ binds, (Scope.mk s1 s2 s3 s4 s5).names.lookup y.1 = some .local)
    (hco : (Scope.mk s1 s2 s3 s4 s5).isCoroutine = false) (hgen : (Scope.mk s1 s2 s3 s4 s5).isGenerator = true) (hkf : (Scope.mk s1 s2 s3 s4 s5).kind = .function) (hcell : ∀ x ∈ (Scope.mk s1 s2 s3 s4 s5).names, x.2 ≠ .cell)
    (h : ∀ C a oC nm qn, C ≠ a → X.h C = none → X.h a = none → f.L < C → NsO oC (fun x => binds.reverse.lookup x) →
      Q (.ref a) l ⟨upd (upd X.h C oC) a (genObj X.g.size nm qn), X.g.push (.fresh (.func (st0 :: rest0) (envX qual (Scope.mk s1 s2 s3 s4 s5) C fa cdv [])))⟩) :
    T f (call (.ref fa) args) l X Q := T_callGen O ho hcd hbind hloc hco hgen hkf hcell h
/-- a generator function's next -/
theorem next_gen {prog : Program} {w : World} {A : Around} {E : Value → Shared → Prop} {s : Shared} {a : Addr} {g n : Nat} {gs : GenState} {P : Nat → Shared → Shared → Prop} {Y : Protocol} {Q : Option Value → Shared → Prop} (hh : A.handled = none) (hl : s.heap.NoLimit) (hroom : A.depth < recursionLimit)
    (hg : s.heap.IsGen a g) (hgs : s.gens[g]? = some gs) (hgo : gs.Goes (model prog w) A.in1 (fun n s₀ r s₁ => r = .ok (.ret .none) ∧ P n s₀ s₁) Y n (.send .none) (s.setGen g .running))
    (hY : ∀ v s₁ gs', gs'.bare = true → Y (n - 1) (s.setGen g .running) v s₁ (fun r' s'' => match n with
        | 0 => False
        | m + 1 => gs'.Goes (model prog w) A.in1 (fun n s₀ r s₁ => r = .ok (.ret .none) ∧ P n s₀ s₁) Y m r' s'') → Q (some v) (s₁.setGen g gs'))
    (hP : ∀ s₁, P n (s.setGen g .running) s₁ → ∀ h', (∀ b o, s₁.heap.get? b = some o → h'.get? b = some o) → Q none { s₁.setGen g .finished with heap := h' }) :
    wpAny (model prog w) A (pyNext (.ref a)) Q E s := by
  unfold pyNext
  refine wpAny_bind (wpAny_attempt (wpAny_callSpecial?_slot (name := Str.ofString "__next__") hg.typeIs slot_gen_next
    (wpAny_call_entry slot_gen_next hg.typeIs entry_gen_next ?_ (args_gen_next _))))
  show wpAny _ A.in1 (Builtin.Generator.genWake (.ref a) (.send .none)) _ _ s
  unfold Builtin.Generator.genWake
  refine wpAny_bind (wpAny_holding (wpAny_genNumber hg (wpAny_bind (wpAny_genState hgs ?_))))
  cases gs with
  | running => exact hgo.elim
  | finished => exact hgo.elim
  | _ =>
    refine wpAny_bind (wpAny_roomToWake hl hroom ?_)
    show wpAny _ A.in1 (.resume g (.send .none) [] _) _ _ s
    refine wpAny_resumeQ hgs hgo (fun x s₁ hx => ?_) (fun v s₁ gs' hb hv => wpAny_pure ⟨v, rfl, wpAny_pure (hY v s₁ gs' hb hv)⟩)
    obtain ⟨rfl, hp⟩ := hx
    show wpAny _ A.in1 (newExc (.type "StopIteration") [] >>= _) _ _ _
    refine wpAny_bind ?_
    simp only [newExc, newTuple]
    refine wpAny_bind (wpAny_newObj_type ?_ (by size_fits))
    refine wpAny_bind (m := firstArgMember _ _) (wpAny_of_eq (a := Value.none) (by first | rfl | (simp only [firstArgMember]; rfl)) ?_)
    refine wpAny_newObj_type ?_ (by size_fits)
    simp only [raiseNew]
    refine wpAny_bind (wpAny_bind (wpAny_handled ?_))
    first | rw [show A.in1.handled = none from hh] | rw [hh]
    refine wpAny_throw ?_
    refine wpAny_bind (wpAny_isInstance (T := "StopIteration") (b := true) ⟨_, Heap.get?_push_size _ rfl, rfl⟩ isSubtype_stop ?_)
    exact wpAny_pure (hP s₁ hp _ fun b o hb => Heap.get?_push_of_some _ (Heap.get?_push_of_some _ hb))
end
end
-- B25
section
section
variable {f : Fm} {l : Locs} {X : St} {env : Env} {k : Nat}
/-- a state, whole, but for the frame's names and the ground -/
noncomputable def XF (f : Fm) (s : Shared) : St := ⟨fun b => open Classical in if b = f.L ∨ f.hb.get? b ≠ none then none else s.heap.get? b, s.gens⟩
theorem XF_some {s : Shared} {b : Addr} {o : Obj} : (XF f s).h b = some o ↔ (b ≠ f.L ∧ f.hb.get? b = none) ∧ s.heap.get? b = some o := by
  unfold XF
  dsimp only
  split
  · rename_i h
    constructor
    · intro e; cases e
    · intro zz0
      obtain ⟨⟨h1, h2⟩, _⟩ := zz0
      rcases h with q | q
      · exact absurd q h1
      · exact absurd h2 q
  · rename_i h
    rw [not_or] at h
    have : f.hb.get? b = none := by
      cases e : f.hb.get? b with
      | none => rfl
      | some o' => exact absurd (by rw [e]; simp) h.2
    exact ⟨fun e => ⟨⟨h.1, this⟩, e⟩, fun e => e.2⟩
theorem XF_none {s : Shared} {b : Addr} (h : (XF f s).h b = none) (h1 : b ≠ f.L) (h2 : f.hb.get? b = none) : s.heap.get? b = none := by
  cases e : s.heap.get? b with
  | none => rfl
  | some o => rw [XF_some.mpr ⟨⟨h1, h2⟩, e⟩] at h; cases h
/-- a generator that runs: what holds of the state since it woke -/
structure GV (f : Fm) (g : Nat) (Ks : Addr → Prop) (Ht : Hp) (l : Locs) (s₀ s : Shared) : Prop where
  base : f.hb.StaysIn s.heap
  ns : ∃ m, s.heap.Ns f.L m ∧ ∀ x v, l.lookup x = some v → m x = some v
  tree : ∀ b o, Ht b = some o → s.heap.get? b = some o
  os : s.os = f.o
  run : s.gens[g]? = some .running
  bare : ∀ i y, g < i → s.gens[i]? = some y → y.bare = true
  keep : ∀ b o, Ks b → s₀.heap.get? b = some o → s.heap.get? b = some o
  gens : ∀ i, i < g → s.gens[i]? = s₀.gens[i]?
  alive : ∀ b, Ks b → s.heap.get? b ≠ none
/-- what does not change -/
structure GFx (f : Fm) (Ks : Addr → Prop) (Ht : Hp) : Prop where
  ab : f.hb.objs.size ≤ f.L
  L : ¬ Ks f.L
  t : ∀ b o, Ht b = some o → b ≠ f.L ∧ f.hb.get? b = none
theorem GFx.hbL {Ks : Addr → Prop} {Ht : Hp} (Fx : GFx f Ks Ht) : f.hb.get? f.L = none := by
  cases e : f.hb.get? f.L with
  | none => rfl
  | some o => exact absurd (Heap.lt_size e) (Nat.not_lt.mpr Fx.ab)
/-- what must hold when it is woken again -/
structure GC (f : Fm) (g : Nat) (Ks : Addr → Prop) (Ht own : Hp) (G : Array GenState) (s : Shared) : Prop where
  base : f.hb.StaysIn s.heap
  tree : ∀ b o, Ht b = some o → s.heap.get? b = some o
  own : ∀ b o, own b = some o → s.heap.get? b = some o
  os : s.os = f.o
  run : s.gens[g]? = some .running
  gens : ∀ i, g < i → s.gens[i]? = G[i]?
  alive : ∀ b, Ks b → s.heap.get? b ≠ none
noncomputable def GY2 (f : Fm) (g : Nat) (Ks : Addr → Prop) (Ht : Hp) (P : Value → Prop) : Protocol := fun _ s₀ v s kap =>
  P v ∧ (∃ l, GV f g Ks Ht l s₀ s) ∧ ∃ own : Hp, (∀ b o, own b = some o → s.heap.get? b = some o ∧ ¬ Ks b ∧ f.hb.get? b = none) ∧ ∀ s'' : Shared, GC f g Ks Ht own s.gens s'' → kap (.send .none) s''
noncomputable def GE2 (f : Fm) (g : Nat) (Ks : Addr → Prop) (Ht : Hp) : Nat → Shared → Shared → Prop := fun n s₀ s => n = 0 ∧ ∃ l, GV f g Ks Ht l s₀ s
noncomputable abbrev GR2 (f : Fm) (g : Nat) (Ks : Addr → Prop) (Ht : Hp) : GenEnd := fun n s₀ r s₁ => r = .ok (.ret .none) ∧ GE2 f g Ks Ht n s₀ s₁
noncomputable def Ready (f : Fm) (g : Nat) (Ks : Addr → Prop) (Ht : Hp) (P : Value → Prop) (n : Nat) (own : Hp) (G : Array GenState) (gs : GenState) : Prop :=
  ∀ s, GC f g Ks Ht own G s → gs.Goes (model Pg f.w) f.A (GR2 f g Ks Ht) (GY2 f g Ks Ht P) n (.send .none) s
variable {g : Nat} {Ks : Addr → Prop} {Ht : Hp} {s₀ s : Shared}
theorem GV.sim (V : GV f g Ks Ht l s₀ s) (Fx : GFx f Ks Ht) (A' : Around) : Sim { f with A := A' } l (XF f s) s := by
  refine ea_EA (V.ns) ?_
  intro m hm hl
  exact ⟨⟨m, ⟨hm, V.base, Fx.ab⟩, hl⟩, fun a o e => let ⟨⟨h1, h2⟩, h3⟩ := XF_some.mp e; ⟨h3, h1, h2⟩, rfl, V.os⟩
theorem GV.sub {l' : Locs} (V : GV f g Ks Ht l s₀ s) (h : Sub l' l) : GV f g Ks Ht l' s₀ s :=
  ⟨V.base, V.ns.imp fun _ z => ⟨z.1, fun x v e => z.2 x v (h x v e)⟩, V.tree, V.os, V.run, V.bare, V.keep, V.gens, V.alive⟩
theorem GV.step (V : GV f g Ks Ht l s₀ s) (Fx : GFx f Ks Ht) {A' : Around} {l' : Locs} {X' : St} {s' : Shared} (S : Sim { f with A := A' } l' X' s') (le : Le (XF f s).h X'.h) (gb : GB s.gens X'.g) :
    GV f g Ks Ht l' s₀ s' ∧ ∀ b o, b ≠ f.L → s.heap.get? b = some o → s'.heap.get? b = some o := by
  refine ea_EA (S.fr) ?_
  intro m F hl
  have kc : ∀ b o, b ≠ f.L → s.heap.get? b = some o → s'.heap.get? b = some o := fun b o n e => by
    cases q : f.hb.get? b with
    | none => exact (S.cov _ _ (le _ _ (XF_some.mpr ⟨⟨n, q⟩, e⟩))).1
    | some o' => have := V.base _ _ q; rw [e] at this; cases this; exact F.keep _ _ q
  have gt := S.gens
  refine ea_EA (id gb) ?_
  intro n hn hb
  have lt : g < s.gens.size := (Array.getElem?_eq_some_iff.mp V.run).1
  refine ⟨⟨F.keep, ⟨m, F.ns, hl⟩, fun b o e => kc b o (Fx.t _ _ e).1 (V.tree _ _ e), S.os, by rw [gt]; exact gb.at V.run, fun i y hi e => ?_, fun b o hb e => kc b o (fun z => Fx.L (z ▸ hb)) (V.keep b o hb e), fun i hi => ?_, fun b hb z => ?_⟩, kc⟩
  · rw [gt, hn, Array.getElem?_append] at e
    split at e
    · exact V.bare i y hi e
    · exact hb y (by simpa using List.mem_of_getElem? (by simpa using e))
  · rw [gt, ← V.gens i hi, hn, Array.getElem?_append, if_pos (by lia)]
  · cases q : s.heap.get? b with
    | none => exact V.alive b hb q
    | some o => rw [kc b o (fun z => Fx.L (z ▸ hb)) q] at z; cases z
/-- an object of the generator's own that turns -/
theorem GV.turn (V : GV f g Ks Ht l s₀ s) {it : Addr} {h' : Heap} {tk : Nat} (eb : Heap.ExtBut it s.heap h') (h1 : ¬ Ks it) (h2 : f.hb.get? it = none) (h3 : it ≠ f.L) (h4 : Ht it = none) : GV f g Ks Ht l s₀ { s with heap := h', toks := tk } where
  base := fun b o e => eb b o (fun z => by rw [z, h2] at e; cases e) (V.base b o e)
  ns := V.ns.imp fun m z => ⟨z.1.at' fun o e => eb _ o (Ne.symm h3) e, z.2⟩
  tree := fun b o e => eb b o (fun z => by rw [z, h4] at e; cases e) (V.tree b o e)
  os := V.os
  run := V.run
  bare := V.bare
  keep := fun b o hb e => eb b o (fun z => h1 (z ▸ hb)) (V.keep b o hb e)
  gens := V.gens
  alive := fun b hb z => by
    cases q : s.heap.get? b with
    | none => exact V.alive b hb q
    | some o => rw [eb b o (fun z => h1 (z ▸ hb)) q] at z; cases z
/-- woken again -/
theorem GC.start {own : Hp} {G : Array GenState} {m : Str → Option Value} {oC : Obj} (c : GC f g Ks Ht own G s) (hC : own f.L = some oC) (nC : NsO oC m) (hl : ∀ x v, l.lookup x = some v → m x = some v) (hb : ∀ i y, g < i → G[i]? = some y → y.bare = true) : GV f g Ks Ht l s s :=
  ⟨c.base, ⟨m, nC.ns (c.own _ _ hC), hl⟩, c.tree, c.os, c.run, fun i y hi e => hb i y hi (by rw [← c.gens i hi]; exact e), fun _ _ _ e => e, fun _ _ => rfl, c.alive⟩
end
end
-- B26
section
section
variable {f : Fm} {l : Locs} {X : St} {env : Env} {k : Nat} {g : Nat} {Ks : Addr → Prop} {Ht : Hp} {s₀ s : Shared} {P : Value → Prop}
theorem setGen_ne {s : Shared} {g i : Nat} {x : GenState} (h : i ≠ g) : (s.setGen g x).gens[i]? = s.gens[i]? := by
  simp [Shared.setGen, Ne.symm h]
theorem setGen_at {s : Shared} {g : Nat} {x y : GenState} (h : (s.setGen g x).gens[g]? = some y) : y = x := by
  simp only [Shared.setGen, Array.getElem?_setIfInBounds, if_pos] at h
  split at h <;> cases h
  rfl
theorem GV.inner {fi : Fm} {li : Locs} {g2 : Nat} {Ks2 : Addr → Prop} {s1 : Shared} {x : GenState} {h' : Heap} (V : GV f g Ks Ht l s₀ s) (V1 : GV fi g2 Ks2 Ht li (s.setGen g2 .running) s1) (hhb : fi.hb = f.hb) (ho : fi.o = f.o) (hg : g < g2) (hx : x.bare = true) (hk : ∀ b o, s1.heap.get? b = some o → h'.get? b = some o)
    (KL : Ks2 f.L) (KK : ∀ b, Ks b → Ks2 b) : GV f g Ks Ht l s₀ { s1.setGen g2 x with heap := h' } where
  base := fun b o e => hk b o (V1.base b o (hhb ▸ e))
  ns := V.ns.imp fun m z => ⟨z.1.at' fun o e => hk _ o (V1.keep _ o KL e), z.2⟩
  tree := fun b o e => hk b o (V1.tree b o e)
  os := V1.os.trans ho
  run := by
    show (s1.setGen g2 x).gens[g]? = _
    rw [setGen_ne (Nat.ne_of_lt hg), V1.gens g hg, setGen_ne (Nat.ne_of_lt hg)]; exact V.run
  bare := fun i y hi e => by
    replace e : (s1.setGen g2 x).gens[i]? = some y := e
    rcases Nat.lt_trichotomy i g2 with q | q | q
    · rw [setGen_ne (Nat.ne_of_lt q), V1.gens i q, setGen_ne (Nat.ne_of_lt q)] at e
      exact V.bare i y hi e
    · subst q; rw [setGen_at e]; exact hx
    · rw [setGen_ne (Nat.ne_of_gt q)] at e
      exact V1.bare i y q e
  keep := fun b o hb e => hk b o (V1.keep b o (KK b hb) (V.keep b o hb e))
  gens := fun i hi => by
    show (s1.setGen g2 x).gens[i]? = _
    rw [setGen_ne (Nat.ne_of_lt (Nat.lt_trans hi hg)), V1.gens i (Nat.lt_trans hi hg), setGen_ne (Nat.ne_of_lt (Nat.lt_trans hi hg))]; exact V.gens i hi
  alive := fun b hb z => by
    cases q : s1.heap.get? b with
    | none => exact V1.alive b (KK b hb) q
    | some o => rw [hk b o q] at z; cases z
noncomputable abbrev ysub (p1 p2 p3 : Pos) : List Stmt := [.Expr (.Yield (some (.Name (Str.ofString "subtree") p1)) p2) p3]
noncomputable abbrev sub2 (px p1 p2 p3 : Pos) (a2 : Addr) (env : Env) : Code := .forLoop (.Name (Str.ofString "subtree") px) (.ref a2) (ysub p1 p2 p3) [] env
noncomputable def Ks2 (Ks : Addr → Prop) (L : Addr) (E : Hp) : Addr → Prop := fun b => Ks b ∨ b = L ∨ E b ≠ none
noncomputable def ownOf (h : Heap) (S : Addr → Prop) : Hp := fun b => open Classical in if S b then h.get? b else none
theorem ownOf_some {h : Heap} {S : Addr → Prop} {b : Addr} {o : Obj} : ownOf h S b = some o ↔ S b ∧ h.get? b = some o := by
  unfold ownOf; split
  · rename_i q; simp [q]
  · rename_i q; simp [q]
theorem seg_sub2 (Fx : GFx f Ks Ht) {K : Flow → Sem Fin} {H : Value → Sem Fin} {gd : Bool → Bool} {lv : List Value → List Value} {h0 : Option Value} {g0 : Bool} {l0 kp : List Value} {c₁ : Code} {p₁ : Pos} {fs : List Frame} {px p1 p2 p3 : Pos} {a2 C2 : Addr} {g2 rest : Nat} {nm qn : Value} {E : Hp}
    (O : Ok { f with A := f.A.over (sub2 px p1 p2 p3 a2 env) (.ret (backOf env K H gd lv) h0 g0 l0 c₁ p₁ kp :: fs) } k) (hfs : splitAtGen (.ret (backOf env K H gd lv) h0 g0 l0 c₁ p₁ kp :: fs) = none) (hfg : (Frame.ret (backOf env K H gd lv) h0 g0 l0 c₁ p₁ kp :: fs).any Frame.guarded = false)
    (hL : env.locals = f.L) (hkf : env.scope.kind = .function) (hx : env.kindOf (Str.ofString "subtree") = some .local) (hco : env.scope.isCoroutine = false) (hint : interactive env = false) (hl : l.lookup (Str.ofString "subtree") = none)
    (hE : ∀ b o, E b = some o → ¬ Ks b ∧ b ≠ f.L ∧ f.hb.get? b = none) (ha2 : E a2 = some (genObj g2 nm qn)) (hg : g < g2)
    (after : ∀ s₀ s, GV f g Ks Ht l s₀ s → (∀ b o, E b = some o → s.heap.get? b = some o) → Seg (model Pg f.w) f.A (GR2 f g Ks Ht) (GY2 f g Ks Ht P) rest s₀ c₁ (K .next) fs s) :
    ∀ (n2 : Nat) (own2 : Hp) (G2 : Array GenState) (gs2 : GenState), Ready { f with A := (f.A.over (sub2 px p1 p2 p3 a2 env) (.ret (backOf env K H gd lv) h0 g0 l0 c₁ p₁ kp :: fs)).in1, L := C2 } g2 (Ks2 Ks f.L E) Ht P n2 own2 G2 gs2 →
      (∀ b o, own2 b = some o → ¬ Ks2 Ks f.L E b ∧ f.hb.get? b = none) →
      ∀ s₀ s, GV f g Ks Ht l s₀ s → (∀ b o, E b = some o → s.heap.get? b = some o) → (∀ b o, own2 b = some o → s.heap.get? b = some o) → s.gens[g2]? = some gs2 → (∀ i, g2 < i → s.gens[i]? = G2[i]?) →
      Seg (model Pg f.w) f.A (GR2 f g Ks Ht) (GY2 f g Ks Ht P) (n2 + rest) s₀ (sub2 px p1 p2 p3 a2 env) ((model Pg f.w).den (sub2 px p1 p2 p3 a2 env)) (.ret (backOf env K H gd lv) h0 g0 l0 c₁ p₁ kp :: fs) s := by
  have KL : Ks2 Ks f.L E f.L := .inr (.inl rfl)
  have KK : ∀ b, Ks b → Ks2 Ks f.L E b := fun b hb => .inl hb
  have KE : ∀ b o, E b = some o → Ks2 Ks f.L E b := fun b o e => .inr (.inr (by rw [e]; simp))
  have wake : ∀ {own2 : Hp} {G2 : Array GenState} {gs2 : GenState} {s₀ s : Shared}, GV f g Ks Ht l s₀ s → (∀ b o, E b = some o → s.heap.get? b = some o) → (∀ b o, own2 b = some o → s.heap.get? b = some o) → s.gens[g2]? = some gs2 → (∀ i, g2 < i → s.gens[i]? = G2[i]?) →
      s.heap.NoLimit ∧ GC { f with A := (f.A.over (sub2 px p1 p2 p3 a2 env) (.ret (backOf env K H gd lv) h0 g0 l0 c₁ p₁ kp :: fs)).in1, L := C2 } g2 (Ks2 Ks f.L E) Ht own2 G2 (s.setGen g2 .running) := fun {own2 G2 gs2 s₀ s} V hEs hos hgs hG => by
    refine ⟨?_, V.base, V.tree, hos, V.os, setGen_self hgs, fun i hi => by rw [setGen_ne (Nat.ne_of_gt hi)]; exact hG i hi, fun b hb z => ?_⟩
    · refine ea_EEEEE (O.T) ?_
      intro _ _ _ _ _ T
      exact T.nolimit.keeps V.base
    · rcases hb with q | q | q
      · exact V.alive b q z
      · refine ea_EA (V.ns) ?_
        intro m zq36 _
        refine ea_EEEA (zq36) ?_
        try clear zq36
        intro o es ep e _
        rw [q] at z; rw [show (s.setGen g2 .running).heap.get? f.L = s.heap.get? f.L from rfl, e] at z; cases z
      · cases e : E b with
        | none => exact q e
        | some o => rw [show (s.setGen g2 .running).heap.get? b = s.heap.get? b from rfl, hEs b o e] at z; cases z
  intro n2
  induction n2 with
  | zero =>
    intro own2 G2 gs2 hR hO2 s₀ s V hEs hos hgs hG
    refine seg_forLoop ?_
    obtain ⟨noLim, gc⟩ := wake V hEs hos hgs hG
    refine next_gen (A := f.A.over (sub2 px p1 p2 p3 a2 env) (.ret (backOf env K H gd lv) h0 g0 l0 c₁ p₁ kp :: fs)) O.hh noLim O.room ⟨_, nm, qn, hEs _ _ ha2, rfl, rfl, rfl⟩ hgs (hR _ gc) (fun v s1 gs' hb hv => ?_) (fun s1 hp h' hk => ?_)
    · refine ea_AAEA (hv) ?_
      try clear hv
      intro hP zq37 own2' ho' hkap
      obtain ⟨li, V1⟩ := zq37
      exact (hkap s1 ⟨V1.base, V1.tree, fun b o e => (ho' b o e).1, V1.os, V1.run, fun _ _ => rfl, V1.alive⟩).elim
    · refine ea_AE (hp) ?_
      try clear hp
      intro zc38 li V1
      clear zc38
      rw [Nat.zero_add]
      exact after _ _ (V.inner (x := .finished) (h' := h') V1 rfl rfl hg rfl hk KL KK) fun b o e => hk b o (V1.keep b o (KE b o e) (hEs b o e))
  | succ n2 ih =>
    intro own2 G2 gs2 hR hO2 s₀ s V hEs hos hgs hG
    refine seg_forLoop ?_
    obtain ⟨noLim, gc⟩ := wake V hEs hos hgs hG
    refine next_gen (A := f.A.over (sub2 px p1 p2 p3 a2 env) (.ret (backOf env K H gd lv) h0 g0 l0 c₁ p₁ kp :: fs)) O.hh noLim O.room ⟨_, nm, qn, hEs _ _ ha2, rfl, rfl, rfl⟩ hgs (hR _ gc) (fun v s1 gs' hb hv => ?_) (fun s1 hp h' hk => ?_)
    · refine ea_AAEA (hv) ?_
      try clear hv
      intro hP zq39 own2' ho' hkap
      obtain ⟨li, V1⟩ := zq39
      dsimp only at V1 ho' hkap
      have V2 : GV f g Ks Ht l s₀ (s1.setGen g2 gs') := V.inner (x := gs') (h' := s1.heap) V1 rfl rfl hg hb (fun _ _ e => e) KL KK
      have hE2 : ∀ b o, E b = some o → (s1.setGen g2 gs').heap.get? b = some o := fun b o e => V1.keep b o (KE b o e) (hEs b o e)
      have hO3 : ∀ b o, own2' b = some o → (s1.setGen g2 gs').heap.get? b = some o := fun b o e => (ho' b o e).1
      have gg : (s1.setGen g2 gs').gens[g2]? = some gs' := setGen_self V1.run
      have gG : ∀ i, g2 < i → (s1.setGen g2 gs').gens[i]? = s1.gens[i]? := fun i hi => setGen_ne (Nat.ne_of_gt hi)
      revert V2; revert hE2; revert hO3; revert gg; revert gG
      refine gen_x (s1.setGen g2 gs') ?_
      intro s2 gG gg hO3 hE2 V2
      refine wpAny_assign_Name ((T_storeName (f := { f with A := f.A.over (sub2 px p1 p2 p3 a2 env) (.ret (backOf env K H gd lv) h0 g0 l0 c₁ p₁ kp :: fs) }) (Q := fun _ l' X' => l' = (Str.ofString "subtree", v) :: l ∧ X' = XF f s2) ⟨rfl, rfl⟩ hkf hx hL).use (V2.sim Fx _) ?_)
      intro _ l' X' s3 S3 zz5
      obtain ⟨rfl, rfl⟩ := zz5
      obtain ⟨V3, k3⟩ := V2.step Fx S3 (Le.refl _) (GB.refl _)
      have g3 : s3.gens = s2.gens := S3.gens
      rw [show n2 + 1 + rest = (n2 + rest) + 1 by lia]
      refine seg_execs_cons (seg_Expr_Yield hfs rfl hfg ?_ hco hint)
      refine wpAny_mono ((T_name (f := { f with A := f.A.over (sub2 px p1 p2 p3 a2 env) (.ret (backOf env K H gd lv) h0 g0 l0 c₁ p₁ kp :: fs) }) (l := (Str.ofString "subtree", v) :: l) (Q := fun u l' X' => u = v ∧ l' = (Str.ofString "subtree", v) :: l ∧ X' = XF f s3) (v := v) (by rw [List.lookup_cons]; simp) ⟨rfl, rfl, rfl⟩ hkf hx hL (by decide)) s3 (V3.sim Fx _)) ?_ fun _ _ e => e.elim
      intro _ s4 zz2
      refine ea_EEAAA (zz2) ?_
      try clear zz2
      intro l' X' S4 zq40 zq41 zq42
      obtain rfl := zq40
      obtain rfl := zq41
      obtain rfl := zq42
      obtain ⟨V4, k4⟩ := V3.step Fx S4 (Le.refl _) (GB.refl _)
      have g4 : s4.gens = s2.gens := S4.gens.trans g3
      have hE4 : ∀ b o, E b = some o → s4.heap.get? b = some o := fun b o e => k4 b o (hE b o e).2.1 (k3 b o (hE b o e).2.1 (hE2 b o e))
      have hO4 : ∀ b o, own2' b = some o → s4.heap.get? b = some o := fun b o e => by
        have n : b ≠ f.L := fun z => (ho' b o e).2.1 (.inr (.inl z))
        exact k4 b o n (k3 b o n (hO3 b o e))
      intro kap hkk
      refine ⟨hP, ⟨_, V4⟩, ownOf s4.heap (fun b => b = f.L ∨ E b ≠ none ∨ own2' b ≠ none), fun b o e => ?_, fun s'' c => hkk .none s'' ?_⟩
      · obtain ⟨hS, hh⟩ := ownOf_some.mp e
        refine ⟨hh, ?_⟩
        rcases hS with q | q | q
        · rw [q]; exact ⟨Fx.L, Fx.hbL⟩
        · cases z : E b with
          | none => exact absurd z q
          | some o' => exact ⟨(hE b o' z).1, (hE b o' z).2.2⟩
        · cases z : own2' b with
          | none => exact absurd z q
          | some o' => exact ⟨fun hb => (ho' b o' z).2.1 (.inl hb), (ho' b o' z).2.2⟩
      · show Seg _ _ _ _ _ s'' _ ((execs [] env).wrap (nextOf _ _ _ env) (raiseOf env) id id) _ s''
        refine seg_execs_nil (seg_again rfl ?_)
        refine ea_EA (V4.ns) ?_
        intro m hns hm
        refine ea_EA (NsO.of hns) ?_
        intro oC hoC nC
        have V5 := (GC.start c (ownOf_some.mpr ⟨.inl rfl, hoC⟩) nC hm fun i y hi e => V4.bare i y hi e).sub ((Sub.refl l).skip hl)
        refine ih own2' s1.gens gs' hkap (fun b o e => (ho' b o e).2) s'' s'' V5 (fun b o e => c.own b o (ownOf_some.mpr ⟨.inr (.inl (by rw [e]; simp)), hE4 b o e⟩)) (fun b o e => c.own b o (ownOf_some.mpr ⟨.inr (.inr (by rw [e]; simp)), hO4 b o e⟩)) ?_ fun i hi => ?_
        · rw [c.gens g2 hg, g4]; exact gg
        · rw [c.gens i (Nat.lt_trans hg hi), g4]; exact gG i hi
    · refine ea_AE (hp) ?_
      try clear hp
      intro hn li V1
      exact absurd hn (Nat.succ_ne_zero _)
end
end
-- F15
section
mutual
noncomputable def W2 : Tr → Prop
  | .leaf _ => True
  | .node _ cs => cs.length ≤ 2 ∧ W2s cs
noncomputable def W2s : List Tr → Prop
  | [] => True
  | c :: cs => W2 c ∧ W2s cs
end
theorem W2_e1 {w1} : W2 (.leaf w1) = (True) := rfl
theorem W2_e2 {w1} {cs} : W2 (.node w1 cs) = (cs.length ≤ 2 ∧ W2s cs) := rfl
theorem W2s_e1 : W2s [] = (True) := rfl
theorem W2s_e2 {c} {cs} : W2s (c :: cs) = (W2 c ∧ W2s cs) := rfl
theorem W2s.get : ∀ {cs : List Tr} {i : Nat} {t : Tr}, W2s cs → cs[i]? = some t → W2 t
  | [], i, t, _, h => by simp at h
  | c :: cs, i, t, w, h => by
    simp only [W2s_e1, W2s_e2] at w
    induction i using NatEl with
    | zero => simp at h; subst h; exact w.1
    | succ i => simp only [List.getElem?_cons_succ] at h; exact W2s.get w.2 h
mutual
noncomputable def cn : Tr → Nat
  | .leaf _ => 0
  | .node _ cs => cns cs + 1
noncomputable def cns : List Tr → Nat
  | [] => 0
  | c :: cs => cn c + cns cs
end
theorem cn_e1 {w1} : cn (.leaf w1) = (0) := rfl
theorem cn_e2 {w1} {cs} : cn (.node w1 cs) = (cns cs + 1) := rfl
theorem cns_e1 : cns [] = (0) := rfl
theorem cns_e2 {c} {cs} : cns (c :: cs) = (cn c + cns cs) := rfl
theorem cns_drop : ∀ {cs : List Tr} {i : Nat} {t : Tr}, cs[i]? = some t → cns (cs.drop i) = cn t + cns (cs.drop (i + 1))
  | [], i, t, h => by simp at h
  | c :: cs, 0, t, h => by simp at h; subst h; simp [cns_e1, cns_e2]
  | c :: cs, i + 1, t, h => by simp only [List.getElem?_cons_succ] at h; simpa using cns_drop h
/-- what the generator hands out: a node with at most two children -/
noncomputable def PN (Ht : Hp) (v : Value) : Prop := ∃ y dy cy lab vs, v = .ref y ∧ Nd Ht y dy cy lab vs ∧ vs.length ≤ 2
section
variable {f : Fm} {l : Locs} {X : St} {env : Env} {k : Nat}
theorem Ok.over (O : Ok f k) (c : Code) (fs : List Frame) (j : Nat) (hk : k + j ≤ 300) (h0 : (marksOver fs (f.A.handled, f.A.handled)).1 = f.A.handled) (h1 : frameCount (fs.map Frame.where_) + c.weight ≤ 2 * j) (h2 : unitsOf (fs.map Frame.where_) + c.cUnits ≤ 20 * j) : Ok { f with A := f.A.over c fs } (k + j) where
  hh := h0.trans O.hh
  dep := by have := O.dep; show f.A.depth + frameCount (fs.map Frame.where_) + c.weight ≤ _; lia
  uni := by have := O.uni; show f.A.units + unitsOf (fs.map Frame.where_) + c.cUnits ≤ _; lia
  K := O.K
  T := O.T
  low := hk
/-- a generator of subtrees that has not begun -/
noncomputable def IsSub (f : Fm) (C : Addr) (gs : GenState) : Prop := ∃ (name qual : Str) (params : Arguments) (body : List Stmt) (scope : Scope) (dV kV doc pm cdv ct oc : Value) (an od : Option Addr) (osl : Array (Option Value)),
  (Kh f.w.params).lookup 238 = some ⟨oc, od, .func (fnOf name qual params body scope dV kV doc pm an cdv ct), osl⟩ ∧ gs = .fresh (.func body (envX qual scope C 238 cdv []))
theorem IsSub.of {C : Addr} {name qual : Str} {params : Arguments} {body : List Stmt} {scope : Scope} {dV kV doc pm cdv ct oc : Value} {an od : Option Addr} {osl : Array (Option Value)}
  (h : (Kh f.w.params).lookup 238 = some ⟨oc, od, .func (fnOf name qual params body scope dV kV doc pm an cdv ct), osl⟩) : IsSub f C (.fresh (.func body (envX qual scope C 238 cdv []))) := ⟨_, _, _, _, _, _, _, _, _, _, _, _, _, _, _, h, rfl⟩
theorem sub_call (O : Ok f k) {y : Addr} {Q : Value → Locs → St → Prop}
    (h : ∀ C a oC nm qn gs, IsSub f C gs → C ≠ a → X.h C = none → X.h a = none → f.L < C → NsO oC (fun x => [(Str.ofString "self", Value.ref y)].reverse.lookup x) → Q (.ref a) l ⟨upd (upd X.h C oC) a (genObj X.g.size nm qn), X.g.push gs⟩) : T f (call (.ref 238) [.ref y]) l X Q := by
  refine' T_callGenL (binds := [(Str.ofString "self", Value.ref y)]) O ?ho ?hcd ?hbind ?hloc ?hco ?hgen ?hkf ?hcell ?hb
  case ho => k_is
  case hcd => k_is
  case hbind => first | exact fun s _ => BindsTo.of_eq rfl | exact fun s X => binds_K X rfl (by k_is) rfl rfl rfl
  case hcell => decide
  case hloc => exact locs rfl
  case hco => exact rfl
  case hgen => exact rfl
  case hkf => exact rfl
  intro C a oC nm qn h1 h2 h3 h4 h5
  refine h C a oC nm qn _ ?_ h1 h2 h3 h4 h5
  refine' IsSub.of ?ho
  case ho => k_is
theorem Ok.in1L {A' : Around} {C : Addr} (O : Ok { f with A := A' } k) (hk : k + 1 ≤ 300) : Ok { f with A := A'.in1, L := C } (k + 1) :=
  ⟨O.hh, by have := O.dep; show A'.depth ≤ _; dsimp only at this; lia, by have := O.uni; show A'.units + 1 ≤ _; dsimp only at this; lia, O.K, O.T, hk⟩
theorem with_ok {α : Type} {t : Sem α} {Q : α → Locs → St → Prop} (O : Ok f k) (h : Ok f k → T f t l X Q) : T f t l X Q := h O
theorem sub_ready (d : Nat) : ∀ {f : Fm} {k g : Nat} {Ks : Addr → Prop} {Ht : Hp} {x : Addr} {lab : Str} {cs : List Tr} {F : List Addr} {G : Array GenState} {oC : Obj} (O : Ok f k) (hk : k + 12 * d < 280) (Fx : GFx f Ks Ht) (hT : TR Ht (.node lab cs) (.ref x) F) (hdd : hts cs ≤ d) (hw : W2 (.node lab cs))
    (nC : NsO oC (fun y => [(Str.ofString "self", Value.ref x)].reverse.lookup y)) (hb : ∀ i y, g < i → G[i]? = some y → y.bare = true) {gs : GenState} (hs : IsSub f f.L gs),
    Ready f g Ks Ht (PN Ht) (cn (.node lab cs)) (fun b => if b = f.L then some oC else none) G gs := by
  induction d using Nat.strongRecOn with
  | _ d ih =>
  intro f k g Ks Ht x lab cs F G oC O hk Fx hT hdd hw nC hb gs hs
  refine ea_EEEEEEEEEEEEEEEA (hs) ?_
  try clear hs
  intro name qual params body scope dV kV doc pm cdv ct oc an od osl ho zq166
  obtain rfl := zq166
  have key : ∀ {v : Obj}, (Kh f.w.params).lookup 238 = some v → (⟨oc, od, .func (fnOf name qual params body scope dV kV doc pm an cdv ct), osl⟩ : Obj) = v := fun h => Option.some.inj (ho.symm.trans h)
  refine' (fun e => ?main) (key ?hh)
  case hh => k_is
  cases e
  intro s c
  refine ⟨rfl, seg_func ?_⟩
  have V0 : GV f g Ks Ht [(Str.ofString "self", Value.ref x)] s s := GC.start c (if_pos rfl) nC (fun _ _ e => e) hb
  simp only [cn_e1, cn_e2]
  refine ea_EEEEAA (TR.nd hT) ?_
  try clear hT
  intro dx cl us G1 zq167 hN hC
  obtain rfl := zq167
  simp only [W2_e1, W2_e2] at hw
  have hlen := hC.length
  obtain ⟨ncl, hcl⟩ := hN.hl
  have inX : ∀ {l s₀ s}, GV f g Ks Ht l s₀ s → Le Ht (XF f s).h := fun V b o e => XF_some.mpr ⟨Fx.t b o e, V.tree b o e⟩
  -- yield self
  refine seg_execs_cons (seg_Expr_Yield rfl rfl rfl ?_ rfl rfl)
  refine wpAny_mono ((T_name (f := { f with A := f.A.over _ [] }) (l := [(Str.ofString "self", Value.ref x)]) (Q := fun u l' X' => u = .ref x ∧ l' = [(Str.ofString "self", Value.ref x)] ∧ X' = XF f s) rfl ⟨rfl, rfl, rfl⟩ rfl rfl rfl (by decide)) s (V0.sim Fx _)) ?_ fun _ _ e => e.elim
  intro _ s1 zz2
  refine ea_EEAAA (zz2) ?_
  try clear zz2
  intro l' X' S1 zq168 zq169 zq170
  obtain rfl := zq168
  obtain rfl := zq169
  obtain rfl := zq170
  obtain ⟨V1, -⟩ := V0.step Fx S1 (Le.refl _) (GB.refl _)
  intro kap hkk
  refine ⟨⟨x, dx, cl, lab, us, rfl, hN, by lia⟩, ⟨_, V1⟩, ownOf s1.heap (fun b => b = f.L), fun b o e => ?_, fun s'' c' => hkk .none s'' ?_⟩
  · obtain ⟨hS, hh⟩ := ownOf_some.mp e
    subst hS
    exact ⟨hh, Fx.L, Fx.hbL⟩
  have V2 : GV f g Ks Ht [(Str.ofString "self", Value.ref x)] s'' s'' := by
    refine ea_EA (V1.ns) ?_
    intro m hns hm
    refine ea_EA (NsO.of hns) ?_
    intro oC1 hoC nC1
    exact GC.start c' (ownOf_some.mpr ⟨rfl, hoC⟩) nC1 hm fun i y hi e => V1.bare i y hi e
  clear c' V1 S1 V0 c hkk
  -- the loop over the children
  refine seg_execs_cons (seg_For ?_ (by exact fun _ => rfl))
  refine' wpAny_mono ((?t1 : T { f with A := f.A.over _ _ } _ [(Str.ofString "self", Value.ref x)] (XF f s'') (fun v l' X' => v = Value.ref cl ∧ l' = [(Str.ofString "self", Value.ref x)] ∧ X' = XF f s'')) s'' (V2.sim Fx _)) ?_ fun _ _ e => e.elim
  case t1 =>
    refine with_ok (O.over _ _ 1 (by exact bk3 (by assumption) rfl) rfl (Nat.le_of_ble_eq_true rfl) (Nat.le_of_ble_eq_true rfl)) fun O1 => ?_
    have hNs := hN.le (inX V2)
    walk_at "m:go"
    exact ⟨rfl, rfl, rfl⟩
  intro _ s2 zz2
  refine ea_EEAAA (zz2) ?_
  try clear zz2
  intro l' X' S2 zq171 zq172 zq173
  obtain rfl := zq171
  obtain rfl := zq172
  obtain rfl := zq173
  obtain ⟨V3, -⟩ := V2.step Fx S2 (Le.refl _) (GB.refl _)
  refine wpAny_mono (T_iterList (f := { f with A := f.A.over _ _ }) (l := [(Str.ofString "self", Value.ref x)]) (X := XF f s2) (Q := fun u l' X' => ∃ it, u = .ref it ∧ l' = [(Str.ofString "self", Value.ref x)] ∧ (XF f s2).h it = none ∧ X' = ⟨upd (XF f s2).h it (liter cl 0), s2.gens⟩) (inX V3 _ _ hcl) (fun it hit => ⟨it, rfl, rfl, hit, rfl⟩) s2 (V3.sim Fx _)) ?_ fun _ _ e => e.elim
  intro _ s3 zz2
  refine ea_EEAEAAA (zz2) ?_
  try clear zz2
  intro l' X' S3 it zq174 zq175 hit zq176
  obtain rfl := zq174
  obtain rfl := zq175
  obtain rfl := zq176
  obtain ⟨V4, -⟩ := V3.step Fx S3 (Le.upd hit) (GB.refl _)
  refine ea_AA (S3.cov it _ (upd_self _ _ _)) ?_
  intro q1 itL itB
  replace itL : it ≠ f.L := itL
  replace itB : f.hb.get? it = none := itB
  have itN := XF_none hit itL itB
  have itK : ¬ Ks it := fun h => V3.alive it h itN
  have itT : Ht it = none := by
    cases z : Ht it with
    | none => rfl
    | some o => rw [V3.tree _ _ z] at itN; cases itN
  have lit : s3.heap.IsListIter it cl 0 := ⟨_, q1, rfl, rfl⟩
  clear q1 itN hit S3 S2 V3 V2
  intro p
  have hle : 0 ≤ us.length := Nat.zero_le _
  refine gen_e (cns cs) ?_
  intro N hcns
  rw [show N = cns (cs.drop 0) by rw [← hcns]; rfl]
  clear hcns
  revert hle; revert lit
  refine gen_e ((0 : Nat)) ?_
  intro i hi0 lit hle
  clear hi0
  refine gen_e (us.length - i) ?_
  intro j hj
  induction j generalizing i s'' s3 with
  | zero =>
    refine seg_forLoop ?_
    obtain rfl : i = us.length := by lia
    refine wpAny_pyNext_list_end (show _ = none from O.hh) lit ⟨_, V4.tree _ _ hcl, rfl, _, rfl⟩ (by simp) fun h' eb => ?_
    show Seg _ _ _ _ _ _ _ ((execs [] _).wrap _ _ _ _) [] _
    refine seg_execs_nil ?_
    refine seg_end (.ok (.ret .none)) ⟨rfl, ?_, _, V4.turn (tk := s3.toks) eb itK itB itL itT⟩
    rw [hlen, List.drop_length]; rfl
  | succ j ihj =>
    have hlt : i < us.length := by omega
    obtain ⟨v, hv⟩ : ∃ v, us[i]? = some v := ⟨_, List.getElem?_eq_getElem hlt⟩
    refine ea_EEAA (hC.get hv) ?_
    intro t F1 p1 hTR zc177
    clear zc177
    rw [cns_drop p1]
    refine seg_forLoop ?_
    refine wpAny_pyNext_list_item lit ⟨_, V4.tree _ _ hcl, rfl, _, rfl⟩ (x := v) (by simpa using hv) fun h' lit2 sb => ?_
    have V5 : GV f g Ks Ht _ s'' { s3 with heap := h' } := V4.turn (tk := s3.toks) sb.extBut itK itB itL itT
    replace lit2 : ({ s3 with heap := h' } : Shared).heap.IsListIter it cl (i + 1) := lit2
    revert V5; revert lit2
    refine gen_x (({ s3 with heap := h' } : Shared)) ?_
    intro s4 lit2 V5
    clear sb V4 lit
    refine wpAny_assign_Name (wpAny_mono ((T_storeName (f := { f with A := f.A.over _ _ }) (l := [(Str.ofString "self", Value.ref x)]) (X := XF f s4) (Q := fun _ l' X' => l' = [(Str.ofString "child", v), (Str.ofString "self", Value.ref x)] ∧ X' = XF f s4) ⟨rfl, rfl⟩ rfl rfl rfl) s4 (V5.sim Fx _)) ?_ fun _ _ e => e.elim)
    intro _ s5 zz2
    refine ea_EEAA (zz2) ?_
    try clear zz2
    intro l' X' S5 zq178 zq179
    obtain rfl := zq178
    obtain rfl := zq179
    obtain ⟨V6, k5⟩ := V5.step Fx S5 (Le.refl _) (GB.refl _)
    have lit5 : s5.heap.IsListIter it cl (i + 1) := lit2.at fun o e => k5 _ _ itL e
    clear S5 k5 V5 lit2
    refine seg_execs_cons (seg_If ?_)
    refine' wpAny_mono ((?t2 : T { f with A := f.A.over _ _ } _ [(Str.ofString "child", v), (Str.ofString "self", Value.ref x)] (XF f s5) (fun b l' X' => b = isNode t ∧ l' = [(Str.ofString "child", v), (Str.ofString "self", Value.ref x)] ∧ X' = XF f s5)) s5 (V6.sim Fx _)) ?_ fun _ _ e => e.elim
    case t2 =>
      refine with_ok (O.over _ _ 3 (by exact bk4 (by assumption) rfl) rfl (Nat.le_of_ble_eq_true rfl) (Nat.le_of_ble_eq_true rfl)) fun O1 => ?_
      induction t using TrEl with
      | leaf c =>
        simp only [TR_e1, TR_e2] at hTR
        refine ea_AE (hTR) ?_
        try clear hTR
        intro zc180 tc zq181
        clear zc180
        obtain rfl := zq181
        walk_at "m:go"
        exact ⟨rfl, rfl, rfl⟩
      | node l2 cs2 =>
        simp only [TR_e1, TR_e2] at hTR
        refine ea_EEEEEAAA (hTR) ?_
        try clear hTR
        intro y dy cy us2 G2 zq182 zc183 hN2 zc184
        obtain rfl := zq182
        clear zc183
        clear zc184
        have hNs := hN2.le (inX V6)
        walk_at "m:go"
        exact ⟨rfl, rfl, rfl⟩
    intro _ s6 zz2
    refine ea_EEAAA (zz2) ?_
    try clear zz2
    intro l' X' S6 zq185 zq186 zq187
    obtain rfl := zq185
    obtain rfl := zq186
    obtain rfl := zq187
    obtain ⟨V7, k6⟩ := V6.step Fx S6 (Le.refl _) (GB.refl _)
    have lit6 : s6.heap.IsListIter it cl (i + 1) := lit5.at fun o e => k6 _ _ itL e
    clear S6 k6 V6 lit5
    induction t using TrEl with
    | leaf c =>
      rw [if_neg (by simp [isNode])]
      refine seg_execs_nil ?_
      show Seg _ _ _ _ _ _ _ ((execs [] _).wrap _ _ _ _) _ _
      refine seg_execs_nil (seg_again rfl ?_)
      rw [show cn (Tr.leaf c) + cns (cs.drop (i + 1)) = cns (cs.drop (i + 1)) by simp [cn_e1, cn_e2]]
      exact ihj _ _ (V7.sub ((Sub.refl _).skip rfl)) (i + 1) lit6 hlt (by omega)
    | node l2 cs2 =>
      rw [if_pos (by simp [isNode])]
      have hTR' := hTR
      simp only [TR_e1, TR_e2] at hTR
      refine ea_EEEEEAAA (hTR) ?_
      try clear hTR
      intro y dy cy us2 G2 zq188 zc189 hN2 zc190
      obtain rfl := zq188
      clear zc189
      clear zc190
      refine seg_execs_cons (seg_For ?_ (by exact fun _ => rfl))
      refine' wpAny_mono ((?t3 : T { f with A := f.A.over _ _ } _ [(Str.ofString "child", Value.ref y), (Str.ofString "self", Value.ref x)] (XF f s6) (fun v l' X' => l' = [(Str.ofString "child", Value.ref y), (Str.ofString "self", Value.ref x)] ∧ ∃ C2 a2 oC2 nm qn gs, IsSub f C2 gs ∧ v = Value.ref a2 ∧ C2 ≠ a2 ∧ (XF f s6).h C2 = none ∧ (XF f s6).h a2 = none ∧ f.L < C2 ∧ NsO oC2 (fun z => [(Str.ofString "self", Value.ref y)].reverse.lookup z) ∧
        X' = ⟨upd (upd (XF f s6).h C2 oC2) a2 (genObj s6.gens.size nm qn), s6.gens.push gs⟩)) s6 (V7.sim Fx _)) ?_ fun _ _ e => e.elim
      case t3 =>
        refine with_ok (O.over _ _ 3 (by exact bk4 (by assumption) rfl) rfl (Nat.le_of_ble_eq_true rfl) (Nat.le_of_ble_eq_true rfl)) fun O1 => ?_
        have hNs := hN2.le (inX V7)
        walk_at "m:go"
        refine sub_call O1 fun C2 a2 oC2 nm qn gs hs h1 h2 h3 h4 h5 => ?_
        exact ⟨rfl, ie6 C2 a2 oC2 nm qn gs ⟨hs, rfl, h1, h2, h3, h4, h5, rfl⟩⟩
      intro _ s7 zz2
      refine ea_EEAAEEEEEEAAAAAAA (zz2) ?_
      try clear zz2
      intro l' X' S7 zq191 C2 a2 oC2 nm qn gs hs zq192 h1 h2 h3 h4 h5 zq193
      obtain rfl := zq191
      obtain rfl := zq192
      obtain rfl := zq193
      have leC : Le (XF f s6).h (upd (upd (XF f s6).h C2 oC2) a2 (genObj s6.gens.size nm qn)) := (Le.upd h2).trans (Le.upd (by rw [upd_ne h1.symm]; exact h3))
      refine ea_EEEEEEEEEEEEEEEA (id hs) ?_
      intro _ _ _ _ _ _ _ _ _ _ _ _ _ _ _ _ hgs
      obtain ⟨V8, k7⟩ := V7.step Fx S7 leC ⟨[gs], by simp, by rw [hgs]; simp [GenState.bare]⟩
      refine ea_AA (S7.cov C2 oC2 (upd_other h1 (upd_self _ _ _))) ?_
      intro c2 c2L c2B
      refine ea_AA (S7.cov a2 _ (upd_self _ _ _)) ?_
      intro ca caL caB
      replace c2L : C2 ≠ f.L := c2L
      replace c2B : f.hb.get? C2 = none := c2B
      replace caL : a2 ≠ f.L := caL
      replace caB : f.hb.get? a2 = none := caB
      have c2N := XF_none h2 c2L c2B
      have caN := XF_none h3 caL caB
      have g7 : s7.gens = s6.gens.push gs := S7.gens
      refine ea_EA (id (lit6.at fun o e => k7 _ _ itL e : s7.heap.IsListIter it cl (i + 1))) ?_
      intro oI hoI hoI2
      refine wpAny_pyIter_gen ⟨_, nm, qn, ca, rfl, rfl, rfl⟩ ?_
      intro p'
      have hE : ∀ b o, (fun b => if b = it then some oI else if b = a2 then some (genObj s6.gens.size nm qn) else none) b = some o → (b = it ∧ o = oI) ∨ (b = a2 ∧ o = genObj s6.gens.size nm qn) := fun b o e => by
        dsimp only at e
        split at e
        · cases e; exact .inl ⟨by assumption, rfl⟩
        · split at e
          · cases e; exact .inr ⟨by assumption, rfl⟩
          · cases e
      have a2K : ¬ Ks a2 := fun h => V7.alive a2 h caN
      have c2K : ¬ Ks C2 := fun h => V7.alive C2 h c2N
      have itS : s6.heap.get? it ≠ none := by obtain ⟨o, e, _⟩ := lit6; rw [e]; simp
      have ita : a2 ≠ it := fun z => itS (z ▸ caN)
      have itC : C2 ≠ it := fun z => itS (z ▸ c2N)
      have lt7 : g < s6.gens.size := (Array.getElem?_eq_some_iff.mp V7.run).1
      have hgs' : (s6.gens.push gs)[s6.gens.size]? = some gs := Array.getElem?_push_size ..
      have nKs2 : ∀ b o, (fun b => if b = C2 then some oC2 else none) b = some o → ¬ Ks2 Ks f.L (fun b => if b = it then some oI else if b = a2 then some (genObj s6.gens.size nm qn) else none) b ∧ f.hb.get? b = none := fun b o e => by
        try dsimp only at e
        split at e
        · rename_i z; subst z
          refine ⟨?_, c2B⟩
          rintro (q | q | q)
          · exact c2K q
          · exact c2L q
          · dsimp only at q; rw [if_neg itC, if_neg h1] at q; exact q rfl
        · cases e
      refine seg_sub2 (l := [(Str.ofString "child", Value.ref y), (Str.ofString "self", Value.ref x)]) (k := k + 10) (C2 := C2) (g2 := s6.gens.size) (nm := nm) (qn := qn) (E := fun b => if b = it then some oI else if b = a2 then some (genObj s6.gens.size nm qn) else none) Fx (O.over _ _ 10 (by exact bk4 (by assumption) rfl) rfl (Nat.le_of_ble_eq_true rfl) (Nat.le_of_ble_eq_true rfl)) rfl rfl rfl rfl rfl rfl rfl rfl ?_ ?_ lt7 ?_ (cn (.node l2 cs2)) (fun b => if b = C2 then some oC2 else none) s7.gens gs ?_ nKs2 s'' s7 V8 ?_ ?_ ?_ ?_
      · intro b o e
        rcases hE b o e with ⟨rfl, rfl⟩ | ⟨rfl, rfl⟩
        · exact ⟨itK, itL, itB⟩
        · exact ⟨a2K, caL, caB⟩
      · rw [if_neg ita, if_pos rfl]
      · intro s₀ s V hEs
        show Seg _ _ _ _ _ _ _ ((execs [] _).wrap _ _ _ _) _ _
        refine seg_execs_nil ?_
        show Seg _ _ _ _ _ _ _ ((execs [] _).wrap _ _ _ _) _ _
        refine seg_execs_nil (seg_again rfl ?_)
        exact ihj _ _ (V.sub ((Sub.refl _).skip rfl)) (i + 1) ⟨oI, hEs it oI (if_pos rfl), hoI2⟩ hlt (by lia)
      · have hh := hts_get p1
        simp only [ht] at hh
        refine ih (d - 1) (by lia) (k := k + 11) ((O.over _ _ 10 (by exact bk4 (by assumption) rfl) rfl (Nat.le_of_ble_eq_true rfl) (Nat.le_of_ble_eq_true rfl)).in1L (by exact bk4 (by assumption) rfl)) (by lia) ⟨Nat.le_of_lt (Nat.lt_of_le_of_lt Fx.ab h4), (nKs2 C2 oC2 (if_pos rfl)).1, fun b o e => ⟨fun z => ?_, (Fx.t b o e).2⟩⟩ hTR' (by lia) (hw.2.get p1) h5 (fun q z hq hz => ?_) hs
        · have := V7.tree _ _ e; rw [z, c2N] at this; cases this
        · rw [g7, Array.getElem?_eq_none (by simp; lia)] at hz; cases hz
      · intro b o e
        rcases hE b o e with ⟨rfl, rfl⟩ | ⟨rfl, rfl⟩
        · exact hoI
        · exact ca
      · intro b o e
        split at e
        · rename_i z; subst z; cases e; exact c2
        · cases e
      · rw [g7]; exact hgs'
      · intro q _; rfl
end
end
-- P8
section
theorem TRs.splitV {H : Hp} : ∀ {ts : List Tr} {vs ws : List Value} {F : List Addr}, TRs H ts (vs ++ ws) F → ∃ t1 t2 F1 F2, ts = t1 ++ t2 ∧ F = F1 ++ F2 ∧ t1.length = vs.length ∧ TRs H t1 vs F1 ∧ TRs H t2 ws F2
  | ts, [], ws, F, h => ⟨[], ts, [], F, rfl, rfl, rfl, by simp [TRs_e1, TRs_e2], h⟩
  | [], v :: vs, ws, F, h => by simp only [TRs_e1, TRs_e2] at h; exact absurd h.1 (by simp)
  | c :: cs, v :: vs, ws, F, h => by
    simp only [List.cons_append, TRs_e1, TRs_e2] at h
    refine ea_EEEEAAA (h) ?_
    try clear h
    intro u xs F1 F2 e zq451 h1 h2
    obtain rfl := zq451
    cases e
    refine ea_EEEEAAAA (TRs.splitV h2) ?_
    intro a b G1 G2 zq452 zq453 hl k1 k2
    obtain rfl := zq452
    obtain rfl := zq453
    exact ia_EEEEAAAA (c :: a) b (F1 ++ G1) G2 rfl (by simp) (by simp [hl]) (by simp only [TRs_e1, TRs_e2]; exact ⟨v, vs, F1, G1, rfl, rfl, h1, k1⟩) k2
/-- a node whose children are drawn out into a chain -/
noncomputable def Ch (left : Bool) (H : Hp) : List Str → Addr → Str → List Value → List Addr → Prop
  | [], cur, L, us, N => ∃ d c, Nd H cur d c L us ∧ N = [cur, d, c]
  | V :: r, cur, L, us, N => ∃ d c y N' u us', us = (if left then us' ++ [u] else u :: us') ∧ Nd H cur d c L (if left then [.ref y, u] else [u, .ref y]) ∧ Ch left H r y V us' N' ∧ N = cur :: d :: c :: N'
theorem Ch_e1 {left : Bool} {H : Hp} {cur} {L} {us} {N} : Ch left H [] cur L us N = (∃ d c, Nd H cur d c L us ∧ N = [cur, d, c]) := rfl
theorem Ch_e2 {left : Bool} {H : Hp} {V} {r} {cur} {L} {us} {N} : Ch left H (V :: r) cur L us N = (∃ d c y N' u us', us = (if left then us' ++ [u] else u :: us') ∧ Nd H cur d c L (if left then [.ref y, u] else [u, .ref y]) ∧ Ch left H r y V us' N' ∧ N = cur :: d :: c :: N') := rfl
noncomputable def mkT (left : Bool) : List Str → Str → List Tr → Tr
  | [], L, cs => .node L cs
  | V :: r, L, cs => if left then .node L [mkT left r V cs.dropLast, cs.getLastD (.leaf dash)] else .node L [cs.headD (.leaf dash), mkT left r V cs.tail]
theorem mkT_e1 {left : Bool} {L} {cs} : mkT left [] L cs = (.node L cs) := rfl
theorem mkT_e2 {left : Bool} {V} {r} {L} {cs} : mkT left (V :: r) L cs = (if left then .node L [mkT left r V cs.dropLast, cs.getLastD (.leaf dash)] else .node L [cs.headD (.leaf dash), mkT left r V cs.tail]) := rfl
theorem Ch.on {left : Bool} {H H' : Hp} : ∀ {hs : List Str} {x : Addr} {L : Str} {us : List Value} {N : List Addr}, Ch left H hs x L us N → (∀ a, a ∈ N → ∀ o, H a = some o → H' a = some o) → Ch left H' hs x L us N
  | [], x, L, us, N, h, k => by
    simp only [Ch_e1, Ch_e2] at h ⊢
    refine ea_EEA (h) ?_
    try clear h
    intro d c hN zq454
    obtain rfl := zq454
    exact ⟨d, c, ⟨k _ (by simp) _ hN.hx, hN.hd.imp fun o z => ⟨k _ (by simp) _ z.1, z.2⟩, hN.hl.imp fun n e => k _ (by simp) _ e⟩, rfl⟩
  | V :: r, x, L, us, N, h, k => by
    simp only [Ch_e1, Ch_e2] at h ⊢
    refine ea_EEEEEEAAA (h) ?_
    try clear h
    intro d c y N' u us' e hN hC zq455
    obtain rfl := zq455
    exact ia_EEEEEEAAA d c y N' u us' e ⟨k _ (by simp) _ hN.hx, hN.hd.imp fun o z => ⟨k _ (by simp) _ z.1, z.2⟩, hN.hl.imp fun n e => k _ (by simp) _ e⟩ (hC.on fun a ha => k a (by simp [ha])) rfl
theorem Ch.tr {left : Bool} {H : Hp} : ∀ {hs : List Str} {x : Addr} {L : Str} {us : List Value} {N : List Addr} {cs : List Tr} {F : List Addr}, Ch left H hs x L us N → TRs H cs us F → ∃ F', TR H (mkT left hs L cs) (.ref x) F' ∧ F'.Perm (N ++ F)
  | [], x, L, us, N, cs, F, h, k => by
    simp only [Ch_e1, Ch_e2] at h
    refine ea_EEA (h) ?_
    try clear h
    intro d c hN zq456
    obtain rfl := zq456
    refine ⟨x :: d :: c :: F, ?_, List.Perm.refl _⟩
    simp only [mkT_e1, mkT_e2, TR_e1, TR_e2]
    exact ia_EEEEEAAA x d c us F rfl rfl hN k
  | V :: r, x, L, us, N, cs, F, h, k => by
    simp only [Ch_e1, Ch_e2] at h
    refine ea_EEEEEEAAA (h) ?_
    try clear h
    intro d c y N' u us' e hN hC zq457
    obtain rfl := zq457
    induction left using BoolEl with
    | true =>
      simp only [if_true] at e hN
      subst e
      refine ea_EEEEAAAA (k.splitV) ?_
      intro t1 t2 F1 F2 zq458 zq459 hl k1 k2
      obtain rfl := zq458
      obtain rfl := zq459
      simp only [mkT_e1, mkT_e2, if_true]
      have hl2 := k2.length
      obtain ⟨t, rfl⟩ := List.length_eq_one_iff.mp (show t2.length = 1 by rw [← hl2]; rfl)
      refine ea_EA (hC.tr k1) ?_
      intro F' h1 h2
      simp only [TRs_e1, TRs_e2] at k2
      refine ea_EEEEAAAA (k2) ?_
      try clear k2
      intro v ws G1 G2 e1 zq460 k3 zq461 zq462
      obtain rfl := zq460
      obtain rfl := zq461
      obtain rfl := zq462
      cases e1
      refine ia_EA (x :: d :: c :: (F' ++ G1)) ?_ ?_
      · simp only [TR_e1, TR_e2]
        refine ia_EEEEEAAA x d c _ _ rfl rfl hN ?_
        rw [List.dropLast_concat, show (t1 ++ [t]).getLastD (.leaf dash) = t by simp]
        have := (TRs.one h1).append (TRs.one k3)
        simpa using this
      · simp only [List.append_nil, List.cons_append]
        refine ((List.Perm.append_right G1 h2).trans ?_).cons _ |>.cons _ |>.cons _
        rw [List.append_assoc]
    | false =>
      simp only [Bool.false_eq_true, if_false] at e hN
      subst e
      induction cs using LsEl with
      | nil => simp only [TRs_e1, TRs_e2] at k; exact absurd k.1 (by simp)
      | cons t cs =>
        simp only [TRs_e1, TRs_e2] at k
        refine ea_EEEEAAA (k) ?_
        try clear k
        intro v ws F1 F2 e1 zq463 k1 k2
        obtain rfl := zq463
        cases e1
        refine ea_EA (hC.tr k2) ?_
        intro F' h1 h2
        simp only [mkT_e1, mkT_e2, Bool.false_eq_true, if_false]
        refine ia_EA (x :: d :: c :: (F1 ++ F')) ?_ ?_
        · simp only [TR_e1, TR_e2]
          refine ia_EEEEEAAA x d c _ _ rfl rfl hN ?_
          have := (TRs.one k1).append (TRs.one h1)
          simpa using this
        · simp only [List.cons_append]
          refine ((List.Perm.append_left F1 h2).trans ?_).cons _ |>.cons _ |>.cons _
          rw [← List.append_assoc, ← List.append_assoc]
          exact List.perm_append_comm.append_right _
theorem nszs_snoc (a : List Tr) (t : Tr) : nszs (a ++ [t]) = nszs a + nsz t := by rw [nszs_append]; simp [nszs_e1, nszs_e2]
theorem nsz_mkT {left : Bool} : ∀ {hs : List Str} {L : Str} {cs : List Tr}, hs.length ≤ cs.length → nszs cs + 1 ≤ nsz (mkT left hs L cs)
  | [], L, cs, _ => by simp only [mkT_e1, mkT_e2, nsz_e1, nsz_e2]; lia
  | V :: r, L, cs, h => by
    simp only [List.length_cons] at h
    induction left using BoolEl with
    | true =>
      rcases List.eq_nil_or_concat cs with rfl | ⟨a, t, rfl⟩
      · simp at h
      · rw [List.concat_eq_append] at h ⊢
        simp only [mkT_e1, mkT_e2, if_true, nsz_e1, nsz_e2, nszs_e1, nszs_e2, List.dropLast_concat, show (a ++ [t]).getLastD (.leaf dash) = t by simp]
        have := nsz_mkT (left := true) (hs := r) (L := V) (cs := a) (by simp at h; omega)
        rw [nszs_snoc]; lia
    | false =>
      induction cs using LsEl with
      | nil => simp at h
      | cons t cs =>
        simp only [mkT_e1, mkT_e2, Bool.false_eq_true, if_false, nsz_e1, nsz_e2, nszs_e1, nszs_e2, List.headD_cons, List.tail_cons]
        have := nsz_mkT (left := false) (hs := r) (L := V) (cs := cs) (by simp at h; omega)
        lia
theorem Wds_append : ∀ {a b : List Tr}, Wds (a ++ b) ↔ Wds a ∧ Wds b
  | [], b => by simp [Wds_e1, Wds_e2]
  | c :: cs, b => by simp only [List.cons_append, Wds_e1, Wds_e2, Wds_append (a := cs), and_assoc]
theorem Wd_mkT {left : Bool} : ∀ {hs : List Str} {L : Str} {cs : List Tr}, hs.length ≤ cs.length → cs.length ≤ 4 → Wds cs → Wd (mkT left hs L cs)
  | [], L, cs, _, h4, w => by simp only [mkT_e1, mkT_e2, Wd_e1, Wd_e2]; exact ⟨h4, w⟩
  | V :: r, L, cs, h, h4, w => by
    simp only [List.length_cons] at h
    induction left using BoolEl with
    | true =>
      rcases List.eq_nil_or_concat cs with rfl | ⟨a, t, rfl⟩
      · simp at h
      · rw [List.concat_eq_append] at h h4 w ⊢
        rw [Wds_append] at w
        simp only [mkT_e1, mkT_e2, if_true, Wd_e1, Wd_e2, Wds_e1, Wds_e2, List.dropLast_concat, show (a ++ [t]).getLastD (.leaf dash) = t by simp]
        simp only [Wds_e1, Wds_e2] at w
        simp at h h4
        exact ⟨by simp, Wd_mkT (by omega) (by exact bk6 (by assumption) rfl) w.1, w.2.1, trivial⟩
    | false =>
      induction cs using LsEl with
      | nil => simp at h
      | cons t cs =>
        simp only [mkT_e1, mkT_e2, Bool.false_eq_true, if_false, Wd_e1, Wd_e2, Wds_e1, Wds_e2, List.headD_cons, List.tail_cons]
        simp only [Wds_e1, Wds_e2] at w
        simp at h h4
        exact ⟨by simp, w.1, Wd_mkT (by omega) (by exact bk6 (by assumption) rfl) w.2, trivial⟩
end
-- P9
section
theorem Ch.in {left : Bool} {H : Hp} : ∀ {hs : List Str} {x : Addr} {L : Str} {us : List Value} {N : List Addr}, Ch left H hs x L us N → ∀ a, a ∈ N → H a ≠ none
  | [], x, L, us, N, h, a, ha => by
    simp only [Ch_e1, Ch_e2] at h
    refine ea_EEA (h) ?_
    try clear h
    intro d c hN zq464
    obtain rfl := zq464
    simp only [List.mem_cons, List.not_mem_nil, or_false] at ha
    rcases ha with rfl | rfl | rfl
    · exact in_of hN.hx
    · obtain ⟨o, e, _⟩ := hN.hd; exact in_of e
    · obtain ⟨n, e⟩ := hN.hl; exact in_of e
  | V :: r, x, L, us, N, h, a, ha => by
    simp only [Ch_e1, Ch_e2] at h
    refine ea_EEEEEEAAA (h) ?_
    try clear h
    intro d c y N' u us' e hN hC zq465
    obtain rfl := zq465
    simp only [List.mem_cons] at ha
    rcases ha with rfl | rfl | rfl | ha
    · exact in_of hN.hx
    · obtain ⟨o, e, _⟩ := hN.hd; exact in_of e
    · obtain ⟨n, e⟩ := hN.hl; exact in_of e
    · exact hC.in a ha
/-- a stack of trees, and what all comes to when each of them is changed for another -/
structure Cn (K : Hp → Tr → Prop) (p : List Tr → Tr) (e : Nat) (Z : Addr → Prop) (H : Hp) (ts : List Tr) (vs : List Value) (F : List Addr) : Prop where
  tr : TRs H ts vs F
  nd : F.Nodup
  nl : ∀ a, a ∈ F → ¬ Z a
  zin : ∀ a, Z a → H a ≠ none
  out : ∀ H' F' ts', (∀ a o, H a = some o → a ∉ F → ¬ Z a → H' a = some o) → TRs H' ts' vs F' → F'.Nodup → (∀ a, a ∈ F' → a ∈ F ∨ H a = none) → K H' (p ts')
  sz : ∀ ts', ts'.length = ts.length → nszs ts' + e ≤ nsz (p ts')
  wd : ∀ ts', ts'.length = ts.length → Wds ts' → Wd (p ts')
section
variable {K : Hp → Tr → Prop} {p : List Tr → Tr} {e : Nat} {Z : Addr → Prop} {H H2 : Hp} {ts cs : List Tr} {vs us ws : List Value} {F : List Addr}
theorem Cn.mod (h : Cn K p e Z H ts vs F) (k : ∀ a o, H a = some o → ¬ Z a → H2 a = some o) (zin : ∀ a, Z a → H2 a ≠ none) : Cn K p e Z H2 ts vs F where
  tr := h.tr.on fun a ha o e => k a o e (h.nl a ha)
  nd := h.nd
  nl := h.nl
  zin := zin
  out := fun H' F' ts' p1 p2 p3 p4 => h.out H' F' ts' (fun a o e n1 n2 => p1 a o (k a o e n2) n1 n2) p2 p3 fun a ha => by
    rcases p4 a ha with q | q
    · exact .inl q
    · refine .inr ?_
      cases e : H a with
      | none => rfl
      | some o =>
        by_cases z : Z a
        · exact absurd q (zin a z)
        · rw [k a o e z] at q; cases q
  sz := h.sz
  wd := h.wd
theorem Cn.now (h : Cn K p e Z H ts vs F) : K H (p ts) := h.out H F ts (fun _ _ e _ _ => e) h.tr h.nd fun _ ha => .inl ha
theorem Cn.leaf {c : Str} {v : Value} (h : Cn K p e Z H (ts ++ [.leaf c]) ws F) (ew : ws = vs ++ [v]) : Cn K (fun l => p (l ++ [.leaf c])) (e + 1) Z H ts vs F := by
  subst ew
  refine ea_EEAA (h.tr.last) ?_
  intro F1 G1 zq466 h1 h2
  obtain rfl := zq466
  simp only [TR_e1, TR_e2] at h2
  obtain ⟨rfl, hu⟩ := h2
  try simp only [List.append_nil] at h ⊢
  refine ⟨h1, h.nd, h.nl, h.zin, fun H' F' ts' p1 p2 p3 p4 => h.out H' F' (ts' ++ [.leaf c]) p1 ?_ p3 p4, fun ts' hl => ?_, fun ts' hl w => h.wd _ (by simp [hl]) (Wds_append.mpr ⟨w, by simp [Wds_e1, Wds_e2, Wd_e1, Wd_e2]⟩)⟩
  · have : TRs H' [Tr.leaf c] [v] [] := TRs.one (by simp only [TR_e1, TR_e2, true_and]; exact hu)
    simpa using p2.append this
  · have := h.sz (ts' ++ [.leaf c]) (by simp [hl])
    rw [nszs_snoc] at this
    simp only [nsz_e1, nsz_e2] at this; lia
theorem Cn.step {left : Bool} {lab L : Str} {hs : List Str} {x dx cl : Addr} {N : List Addr} (h : Cn K p e Z H (ts ++ [.node lab cs]) ws F) (ew : ws = vs ++ [.ref x]) (hN : Nd H x dx cl lab us) (k : ∀ a o, H a = some o → a ≠ dx → ¬ Z a → H2 a = some o) (zin : ∀ a, Z a → H2 a ≠ none) (hdx : H2 dx ≠ none)
    (hC : Ch left H2 hs x L us N) (hNd : N.Nodup) (hNn : ∀ a, a ∈ N → a = x ∨ a = dx ∨ a = cl ∨ H a = none) (hh : hs.length ≤ cs.length) (h4 : cs.length ≤ 4) :
    ∃ F', Cn K (fun l => p (l.take ts.length ++ [mkT left hs L (l.drop ts.length)])) (e + 1) Z H2 (ts ++ cs) (vs ++ us) F' := by
  subst ew
  refine ea_EEAA (h.tr.last) ?_
  intro F1 G1 zq472 h1 h2
  obtain rfl := zq472
  refine ea_EEEEAA (TR.nd h2) ?_
  try clear h2
  intro dx' cl' us' G zq479 hN' hT
  obtain rfl := zq479
  refine ea_AAA (hN.same hN') ?_
  intro zq480 zq481 zc482 zq483
  obtain rfl := zq480
  obtain rfl := zq481
  clear zc482
  obtain rfl := zq483
  try simp only [List.append_nil] at h ⊢
  have nd := h.nd
  rw [List.nodup_append] at nd
  refine ea_AA (nd) ?_
  try clear nd
  intro n1 n2 n3
  simp only [List.nodup_cons, List.mem_cons, not_or] at n2
  have notF : ∀ b, b = x ∨ b = dx' ∨ b = cl' → b ∉ F1 ++ G := by
    intro b hb hm
    rcases List.mem_append.mp hm with q | q
    · exact n3 b q b (by rcases hb with rfl | rfl | rfl <;> simp) rfl
    · rcases hb with rfl | rfl | rfl
      · exact n2.1.2.2 q
      · exact n2.2.1.2 q
      · exact n2.2.2.1 q
  have inFG : ∀ a, a ∈ F1 ++ G → a ∈ F1 ++ x :: dx' :: cl' :: G := fun a ha => by
    rcases List.mem_append.mp ha with q | q <;> simp [q]
  have inF3 : ∀ b, b = x ∨ b = dx' ∨ b = cl' → b ∈ F1 ++ x :: dx' :: cl' :: G := fun b hb => by
    rcases hb with rfl | rfl | rfl <;> simp
  have NnF : ∀ a, a ∈ N → a ∉ F1 ++ G := fun a ha hm => by
    rcases hNn a ha with q | q | q | q
    · exact notF a (.inl q) hm
    · exact notF a (.inr (.inl q)) hm
    · exact notF a (.inr (.inr q)) hm
    · exact h.tr.in (by simpa using inFG a hm) q
  have NnZ : ∀ a, a ∈ N → ¬ Z a := fun a ha hz => by
    rcases hNn a ha with q | q | q | q
    · exact h.nl a (inF3 a (.inl q)) hz
    · exact h.nl a (inF3 a (.inr (.inl q))) hz
    · exact h.nl a (inF3 a (.inr (.inr q))) hz
    · exact h.zin a hz q
  have old : ∀ a, H2 a = none → H a = none := fun a q => by
    cases z : H a with
    | none => rfl
    | some o =>
      by_cases q1 : a = dx'
      · exact absurd (q1 ▸ q) hdx
      · by_cases q2 : Z a
        · exact absurd q (zin a q2)
        · rw [k a o z q1 q2] at q; cases q
  have up : ∀ a, a ∈ F1 ++ G → ∀ o, H a = some o → H2 a = some o := fun a ha o e => k a o e (fun z => notF a (.inr (.inl z)) ha) (h.nl a (inFG a ha))
  refine ⟨F1 ++ G, (h1.on fun a ha => up a (by simp [ha])).append (hT.on fun a ha => up a (by simp [ha])), List.nodup_append.mpr ⟨n1, n2.2.2.2, fun a ha b hb => n3 a ha b (by simp [hb])⟩, fun a ha => h.nl a (inFG a ha), zin, fun H' F' ts' p1 p2 p3 p4 => ?_, fun ts' hl => ?_, fun ts' hl w => ?_⟩
  · refine ea_EEEEAAAA (p2.splitV) ?_
    intro t1 t2 E1 E2 zq484 zq485 hl k1 k2
    obtain rfl := zq484
    obtain rfl := zq485
    have hl1 : t1.length = ts.length := by rw [hl, h1.length]
    rw [List.take_left' hl1, List.drop_left' hl1]
    refine ea_EA ((hC.on fun a ha o e => p1 a o e (NnF a ha) (NnZ a ha)).tr k2) ?_
    intro E3 hE hP
    have NnE : ∀ a, a ∈ N → a ∉ E1 ++ E2 := fun a ha hm => by
      rcases p4 a hm with q | q
      · exact NnF a ha q
      · exact hC.in a ha q
    rw [List.nodup_append] at p3
    have was : ∀ a, a ∈ E1 ++ E2 → a ∈ F1 ++ x :: dx' :: cl' :: G ∨ H a = none := fun a ha => (p4 a ha).imp (inFG a) (old a)
    refine h.out H' (E1 ++ E3) (t1 ++ [mkT left hs L t2]) (fun a o e na nz => p1 a o (k a o e (fun z => na (inF3 a (.inr (.inl z)))) nz) (fun hm => na (inFG a hm)) nz) (k1.append (TRs.one hE)) ?_ fun a ha => ?_
    · refine List.nodup_append.mpr ⟨p3.1, hP.nodup_iff.mpr (List.nodup_append.mpr ⟨hNd, p3.2.1, fun a ha b hb z => NnE a ha (by rw [z]; simp [hb])⟩), fun a ha b hb z => ?_⟩
      subst z
      rcases List.mem_append.mp (hP.mem_iff.mp hb) with q | q
      · exact NnE a q (by simp [ha])
      · exact p3.2.2 a ha a q rfl
    · rcases List.mem_append.mp ha with q | q
      · exact was a (by simp [q])
      · rcases List.mem_append.mp (hP.mem_iff.mp q) with r | r
        · rcases hNn a r with s | s | s | s
          · exact .inl (inF3 a (.inl s))
          · exact .inl (inF3 a (.inr (.inl s)))
          · exact .inl (inF3 a (.inr (.inr s)))
          · exact .inr s
        · exact was a (by simp [r])
  · rw [List.length_append] at hl
    have e1 := h.sz (ts'.take ts.length ++ [mkT left hs L (ts'.drop ts.length)]) (by simp; lia)
    rw [nszs_snoc] at e1
    have e2 := nsz_mkT (left := left) (hs := hs) (L := L) (cs := ts'.drop ts.length) (by simp; lia)
    have e3 := congrArg nszs (List.take_append_drop ts.length ts')
    rw [nszs_append] at e3
    lia
  · rw [List.length_append] at hl
    rw [← List.take_append_drop ts.length ts', Wds_append] at w
    refine h.wd _ (by simp; omega) (Wds_append.mpr ⟨w.1, ?_⟩)
    simp only [Wds_e1, Wds_e2, and_true]
    exact Wd_mkT (by simp; lia) (by simp; lia) w.2
end
/-- what a whole transformation comes to -/
noncomputable def CnK (x : Addr) (H : Hp) (F : List Addr) (H' : Hp) (T : Tr) : Prop := ∃ F', (∀ a o, H a = some o → a ∉ F → a ≠ 162 → H' a = some o) ∧ TR H' T (.ref x) F' ∧ F'.Nodup ∧ ∀ a, a ∈ F' → a ∈ F ∨ H a = none
theorem Cn.start {H H1 : Hp} {t : Tr} {x NL : Addr} {F : List Addr} (h : TR H t (.ref x) F) (nd : F.Nodup) (le : Le H H1) (fr : H NL = none) (nl : H1 NL ≠ none) (n2 : 162 ∉ F) (t2 : H1 162 ≠ none) :
    Cn (CnK x H F) (fun l => l.headD (.leaf dash)) 0 (fun a => a = NL ∨ a = 162) H1 [t] [.ref x] F where
  tr := TRs.one (h.le le)
  nd := nd
  nl := fun a hm hz => by
    rcases hz with rfl | rfl
    · exact h.in hm fr
    · exact n2 hm
  zin := fun a hz => by rcases hz with rfl | rfl <;> assumption
  out := fun H' F' ts' p1 p2 p3 p4 => by
    have hl := p2.length
    obtain ⟨t', rfl⟩ := List.length_eq_one_iff.mp (show ts'.length = 1 by rw [← hl]; rfl)
    simp only [TRs_e1, TRs_e2] at p2
    refine ea_EEEEAAAA (p2) ?_
    try clear p2
    intro v ws F1 F2 e zq486 q e2 zq487
    obtain rfl := zq486
    obtain rfl := zq487
    cases e
    simp only [List.append_nil] at p3 p4
    refine ⟨F1, fun a o e n n' => p1 a o (le a o e) n (fun z => ?_), q, p3, fun a ha => (p4 a ha).imp id le.none⟩
    rcases z with z | z
    · rw [z, fr] at e; cases e
    · exact n' z
  sz := fun ts' hl => by
    obtain ⟨t', rfl⟩ := List.length_eq_one_iff.mp (show ts'.length = 1 by rw [hl]; rfl)
    simp [nszs_e1, nszs_e2]
  wd := fun ts' hl w => by
    obtain ⟨t', rfl⟩ := List.length_eq_one_iff.mp (show ts'.length = 1 by rw [hl]; rfl)
    simpa [Wds_e1, Wds_e2] using w
/-- the new labels on the way down -/
noncomputable def hds (left : Bool) (many : Nat) (V : List Str → Str) (ns : List Str) (n : Nat) : List Str :=
  (List.range (n - 2)).map fun q => V (if left then (ns.take (n - 1 - q)).drop (n - 1 - q - many) else (ns.drop (q + 1)).take many)
theorem made_mkT (left : Bool) (many : Nat) (V : List Str → Str) (ns : List Str) (L : Str) (ch : List Tr) (h : ch.length ≤ 4) : Tr.node L (made left many V ns ch) = mkT left (hds left many V ns ch.length) L ch := by
  revert h
  refine LsEl ch (fun _ => by cases left <;> rfl) fun a ch => ?_
  refine LsEl ch (fun _ => by cases left <;> rfl) fun b ch => ?_
  refine LsEl ch (fun _ => by cases left <;> rfl) fun c ch => ?_
  refine LsEl ch (fun _ => by cases left <;> rfl) fun d ch => ?_
  exact LsEl ch (fun _ => by cases left <;> rfl) fun e ch h => absurd h (by simp)
theorem hds_length (left : Bool) (many : Nat) (V : List Str → Str) (ns : List Str) (n : Nat) : (hds left many V ns n).length = n - 2 := by simp [hds]
theorem bn_leaf (left : Bool) (many above n : Nat) (par : List Str) (top : Bool) (c : Str) : bn left many above n par top (.leaf c) = .leaf c := by cases n <;> simp only [bn]
theorem bn_fuel (left : Bool) (many above : Nat) : ∀ (n m : Nat) (par : List Str) (top : Bool) (t : Tr), ht t ≤ n → ht t ≤ m → bn left many above n par top t = bn left many above m par top t
  | n, m, par, top, .leaf c, _, _ => by rw [bn_leaf, bn_leaf]
  | 0, m, par, top, .node lab cs, h, _ => by simp only [ht] at h; lia
  | n, 0, par, top, .node lab cs, _, h => by simp only [ht] at h; lia
  | n + 1, m + 1, par, top, .node lab cs, h, k => by
    simp only [ht] at h k
    simp only [bn]
    rw [map_congr_ht (n := min n m) (g := bn left many above m _ false) (by lia) fun t ht' => bn_fuel left many above n m _ false t (by lia) (by lia)]
/-- the mark of a node and what its children are told of their parents -/
noncomputable def mk1 (above : Nat) (par : List Str) (top : Bool) (cs : List Tr) : Str := if marks above top cs then (caretS ++ jo par) ++ gtS else Str.ofString ""
noncomputable def pr1 (above : Nat) (par : List Str) (top : Bool) (lab : Str) (cs : List Tr) : List Str := if marks above top cs then lab :: par.take (above - 1) else par
noncomputable def bt (left : Bool) (many above : Nat) (par : List Str) (top : Bool) (t : Tr) : Tr := bn left many above 30 par top t
theorem bt_leaf (left : Bool) (many above : Nat) (par : List Str) (top : Bool) (c : Str) : bt left many above par top (.leaf c) = .leaf c := bn_leaf _ _ _ _ _ _ _
theorem bt_node {left : Bool} {many above : Nat} {par : List Str} {top : Bool} {lab : Str} {cs : List Tr} (h : hts cs ≤ 29) (h4 : cs.length ≤ 4) : bt left many above par top (.node lab cs) =
    mkT left (hds left many (vlab lab (mk1 above par top cs)) (cs.map lbl) cs.length) (lab ++ mk1 above par top cs) (cs.map (bt left many above (pr1 above par top lab cs) false)) := by
  unfold bt
  have : hds left many (vlab lab (mk1 above par top cs)) (cs.map lbl) cs.length = hds left many (vlab lab (mk1 above par top cs)) (cs.map lbl) (cs.map (bn left many above 30 (pr1 above par top lab cs) false)).length := by simp
  rw [this, ← made_mkT _ _ _ _ _ _ (by simpa using h4)]
  have e : cs.map (bn left many above 29 (pr1 above par top lab cs) false) = cs.map (bn left many above 30 (pr1 above par top lab cs) false) :=
    map_congr_ht (n := 29) h fun t ht' => bn_fuel left many above 29 30 _ false t (by exact bk6 (by assumption) rfl) (by exact bk6 (by assumption) rfl)
  rw [← e]
  rfl
end
-- P11
section
/-- a stack's pair: a value, and its parents' labels -/
noncomputable def SI (H : Hp) (NL : Addr) (par : List Str) (v u : Value) : Prop := ∃ tp pa n m pvs, u = .ref tp ∧ H tp = some (tupOf [v, .ref pa].toArray n) ∧ H pa = some (listOf pvs.toArray m) ∧ pa ≠ NL ∧ SV pvs par
noncomputable def SKs (H : Hp) (NL : Addr) : List (List Str) → List Value → List Value → Prop
  | [], vs, us => vs = [] ∧ us = []
  | p :: ps, vs, us => ∃ v vs' u us', vs = v :: vs' ∧ us = u :: us' ∧ SI H NL p v u ∧ SKs H NL ps vs' us'
theorem SKs_e1 {H : Hp} {NL : Addr} {vs} {us} : SKs H NL [] vs us = (vs = [] ∧ us = []) := rfl
theorem SKs_e2 {H : Hp} {NL : Addr} {p} {ps} {vs} {us} : SKs H NL (p :: ps) vs us = (∃ v vs' u us', vs = v :: vs' ∧ us = u :: us' ∧ SI H NL p v u ∧ SKs H NL ps vs' us') := rfl
/-- what is neither dict nor table stands -/
noncomputable def Kd (NL : Addr) (H H2 : Hp) : Prop := ∀ b o, H b = some o → o.cls ≠ .type "dict" → o.cls ≠ .none → b ≠ NL → H2 b = some o
theorem Kd.refl (NL : Addr) (H : Hp) : Kd NL H H := fun _ _ e _ _ _ => e
theorem Kd.trans {NL : Addr} {H H2 H3 : Hp} (h : Kd NL H H2) (k : Kd NL H2 H3) : Kd NL H H3 := fun b o e c1 c2 n => k b o (h b o e c1 c2 n) c1 c2 n
theorem Le.kd {NL : Addr} {H H2 : Hp} (h : Le H H2) : Kd NL H H2 := fun b o e _ _ _ => h b o e
theorem SI.mod {H H2 : Hp} {NL : Addr} {par : List Str} {v u : Value} (h : SI H NL par v u) (k : Kd NL H H2) (hn : ∀ tp, u = .ref tp → tp ≠ NL) : SI H2 NL par v u := by
  refine ea_EEEEEAAAA (h) ?_
  try clear h
  intro tp pa n m pvs zq329 h1 h2 h3 h4
  obtain rfl := zq329
  exact ⟨tp, pa, n, m, pvs, rfl, k _ _ h1 (by simp) (by simp) (hn tp rfl), k _ _ h2 (by simp) (by simp) h3, h3, h4⟩
theorem SI.ne {H : Hp} {NL : Addr} {par : List Str} {v u : Value} {n : Nat} {us : List Value} (h : SI H NL par v u) (hl : H NL = some (listOf us.toArray n)) : ∀ tp, u = .ref tp → tp ≠ NL := by
  rintro tp rfl rfl
  refine ea_EEEEEAA (h) ?_
  try clear h
  intro tp' pa n m pvs e h1 _
  cases e
  rw [hl] at h1; have := congrArg (Option.map Obj.cls) h1; simp at this
theorem SKs.mod {H H2 : Hp} {NL : Addr} {n : Nat} {ws : List Value} (hl : H NL = some (listOf ws.toArray n)) (k : Kd NL H H2) : ∀ {ps : List (List Str)} {vs us : List Value}, SKs H NL ps vs us → SKs H2 NL ps vs us
  | [], vs, us, h => h
  | p :: ps, vs, us, h => by
    simp only [SKs_e1, SKs_e2] at h ⊢
    refine ea_EEEEAAA (h) ?_
    try clear h
    intro v vs' u us' zq330 zq331 h1 h2
    obtain rfl := zq330
    obtain rfl := zq331
    exact ia_EEEEAAA v vs' u us' rfl rfl (h1.mod k (h1.ne hl)) (SKs.mod hl k h2)
theorem SKs.snoc {H : Hp} {NL : Addr} {p : List Str} {v u : Value} (hI : SI H NL p v u) : ∀ {ps : List (List Str)} {vs us : List Value}, SKs H NL ps vs us → SKs H NL (ps ++ [p]) (vs ++ [v]) (us ++ [u])
  | [], vs, us, h => by
    simp only [SKs_e1, SKs_e2] at h
    obtain ⟨rfl, rfl⟩ := h
    simp only [List.nil_append, SKs_e1, SKs_e2]
    exact ia_EEEEAAAA v ([]) u ([]) rfl rfl hI rfl rfl
  | q :: ps, vs, us, h => by
    simp only [SKs_e1, SKs_e2] at h
    refine ea_EEEEAAA (h) ?_
    try clear h
    intro v' vs' u' us' zq332 zq333 h1 h2
    obtain rfl := zq332
    obtain rfl := zq333
    simp only [List.cons_append, SKs_e1, SKs_e2]
    exact ia_EEEEAAA v' _ u' _ rfl rfl h1 (SKs.snoc hI h2)
theorem SKs.length {H : Hp} {NL : Addr} : ∀ {ps : List (List Str)} {vs us : List Value}, SKs H NL ps vs us → vs.length = ps.length ∧ us.length = ps.length
  | [], vs, us, h => by simp only [SKs_e1, SKs_e2] at h; rw [h.1, h.2]; exact ⟨rfl, rfl⟩
  | q :: ps, vs, us, h => by
    simp only [SKs_e1, SKs_e2] at h
    refine ea_EEEEAAA (h) ?_
    try clear h
    intro v' vs' u' us' zq334 zq335 h1 h2
    obtain rfl := zq334
    obtain rfl := zq335
    have := SKs.length h2
    simp [this.1, this.2]
theorem SKs.last {H : Hp} {NL : Addr} {p : List Str} : ∀ {ps : List (List Str)} {vs us : List Value}, SKs H NL (ps ++ [p]) vs us → ∃ vs' v us' u, vs = vs' ++ [v] ∧ us = us' ++ [u] ∧ SI H NL p v u ∧ SKs H NL ps vs' us'
  | [], vs, us, h => by
    simp only [List.nil_append, SKs_e1, SKs_e2] at h
    refine ea_EEEEAAAA (h) ?_
    try clear h
    intro v vs' u us' zq336 zq337 h1 zq338 zq339
    obtain rfl := zq336
    obtain rfl := zq337
    obtain rfl := zq338
    obtain rfl := zq339
    exact ia_EEEEAAA ([]) v ([]) u rfl rfl h1 (by simp [SKs_e1, SKs_e2])
  | q :: ps, vs, us, h => by
    simp only [List.cons_append, SKs_e1, SKs_e2] at h
    refine ea_EEEEAAA (h) ?_
    try clear h
    intro v' vs' u' us' zq340 zq341 h1 h2
    obtain rfl := zq340
    obtain rfl := zq341
    refine ea_EEEEAAA (SKs.last h2) ?_
    intro a b c d zq342 zq343 h3 h4
    obtain rfl := zq342
    obtain rfl := zq343
    exact ia_EEEEAAA (v' :: a) b (u' :: c) d rfl rfl h3 (by simp only [SKs_e1, SKs_e2]; exact ⟨v', a, u', c, rfl, rfl, h1, h4⟩)
theorem Sm_Wd : (∀ t, Sm t → Wd t) ∧ ∀ ts, Sms ts → Wds ts := by
  refine Tr.ind (P := fun t => Sm t → Wd t) (R := fun ts => Sms ts → Wds ts) ?_ ?_ ?_ ?_
  · intro c _; simp [Wd_e1, Wd_e2]
  · intro lab cs ih h; simp only [Sm_e1, Sm_e2] at h; simp only [Wd_e1, Wd_e2]; exact ⟨h.2.2.1, ih h.2.2.2⟩
  · intro _; simp [Wds_e1, Wds_e2]
  · intro c cs i1 i2 h; simp only [Sms_e1, Sms_e2] at h; simp only [Wds_e1, Wds_e2]; exact ⟨i1 h.1, i2 h.2⟩
theorem Sms.of {ts : List Tr} (h : ∀ t ∈ ts, Sm t) : Sms ts := by
  induction ts with
  | nil => simp [Sms_e1, Sms_e2]
  | cons c cs ih => simp only [Sms_e1, Sms_e2]; exact ⟨h c (by simp), ih fun t ht => h t (by simp [ht])⟩
theorem Sms.mem {ts : List Tr} (h : Sms ts) {t : Tr} (ht : t ∈ ts) : Sm t := by
  obtain ⟨i, hi, e⟩ := List.mem_iff_getElem.mp ht
  exact h.get (i := i) (by rw [List.getElem?_eq_getElem hi, e])
theorem hts_mem {ts : List Tr} {t : Tr} (h : t ∈ ts) : ht t ≤ hts ts := by
  obtain ⟨i, hi, e⟩ := List.mem_iff_getElem.mp h
  exact hts_get (i := i) (by rw [List.getElem?_eq_getElem hi, e])
/-- what is to come of the stack -/
noncomputable def tgs (left : Bool) (many above : Nat) (e : Nat) (st : List (Tr × List Str)) : List Tr := st.map fun s => bt left many above s.2 (e == 0) s.1
structure Cv (left : Bool) (many above : Nat) (Ts : Tr) (p : List Tr → Tr) (e : Nat) (st : List (Tr × List Str)) : Prop where
  one : e = 0 → (∃ s, st = [s]) ∧ ∀ t, p [t] = t
  tg : p (tgs left many above e st) = Ts
  ok : ∀ s ∈ st, Sm s.1 ∧ ht s.1 ≤ 20 ∧ Sh 3 100 s.2
  sz : nszs (st.map (·.1)) ≤ 50001
section
variable {left : Bool} {many above : Nat} {Ts : Tr} {p : List Tr → Tr} {e : Nat} {st : List (Tr × List Str)}
theorem tgs_next (h : e = 0 → st = []) : tgs left many above (e + 1) st = tgs left many above e st := by
  unfold tgs
  induction e using NatEl with
  | zero => rw [h rfl]; rfl
  | succ e => rfl
theorem Cv.alone {s : Tr × List Str} (h : Cv left many above Ts p e (st ++ [s])) : e = 0 → st = [] := fun z => by
  obtain ⟨s', hs⟩ := (h.one z).1
  induction st using LsEl with
  | nil => rfl
  | cons a st => simp at hs
theorem Cv.leaf {c : Str} {par : List Str} (h : Cv left many above Ts p e (st ++ [(.leaf c, par)])) : Cv left many above Ts (fun l => p (l ++ [.leaf c])) (e + 1) st where
  one := fun z => by lia
  tg := by
    rw [tgs_next h.alone]
    have := h.tg
    unfold tgs at this ⊢
    rw [List.map_append, List.map_singleton, bt_leaf] at this
    exact this
  ok := fun s hs => h.ok s (by simp [hs])
  sz := by
    have := h.sz
    rw [List.map_append, List.map_singleton, nszs_snoc] at this
    lia
theorem Cv.step {lab : Str} {cs : List Tr} {par : List Str} (h : Cv left many above Ts p e (st ++ [(.node lab cs, par)])) (ha : above ≤ 2) :
    Cv left many above Ts (fun l => p (l.take st.length ++ [mkT left (hds left many (vlab lab (mk1 above par (e == 0) cs)) (cs.map lbl) cs.length) (lab ++ mk1 above par (e == 0) cs) (l.drop st.length)])) (e + 1) (st ++ cs.map fun t => (t, pr1 above par (e == 0) lab cs)) := by
  refine ea_AA (h.ok (.node lab cs, par) (by simp)) ?_
  intro hS hh hp
  simp only [Sm_e1, Sm_e2] at hS
  simp only [ht] at hh
  refine ⟨fun z => by lia, ?_, fun s hs => ?_, ?_⟩
  · rw [← h.tg]
    unfold tgs
    rw [List.map_append, List.map_append, List.take_left' (by simp), List.drop_left' (by simp), List.map_singleton, bt_node (by lia) hS.2.2.1, List.map_map]
    have e1 := tgs_next (left := left) (many := many) (above := above) h.alone
    unfold tgs at e1
    rw [e1]
    rfl
  · rcases List.mem_append.mp hs with q | q
    · exact h.ok s (by simp [q])
    · refine ea_EA (List.mem_map.mp q) ?_
      intro t ht' zq344
      obtain rfl := zq344
      have := hts_mem ht'
      refine ⟨hS.2.2.2.mem ht', by dsimp only; lia, ?_⟩
      dsimp only
      unfold pr1
      split
      · refine ⟨by simp; have := hp.1; omega, fun s hs => ?_⟩
        rcases List.mem_cons.mp hs with rfl | q
        · exact hS.1
        · exact hp.2 _ (List.mem_of_mem_take q)
      · exact hp
  · have := h.sz
    rw [List.map_append, List.map_singleton, nszs_snoc] at this
    rw [List.map_append, nszs_append, List.map_map]
    simp only [nsz_e1, nsz_e2] at this
    rw [show cs.map ((fun x => x.1) ∘ fun t => (t, pr1 above par (e == 0) lab cs)) = cs by
      rw [show ((fun x : Tr × List Str => x.1) ∘ fun t => (t, pr1 above par (e == 0) lab cs)) = id from rfl]; simp]
    lia
theorem Cv.eq {s : Tr × List Str} (h : Cv left many above Ts p e (st ++ [s])) (hsz : ∀ ts', ts'.length = (st ++ [s]).length → nszs ts' + e ≤ nsz (p ts')) : (s.1 = p ((st ++ [s]).map (·.1))) ↔ e = 0 := by
  constructor
  · intro q
    have := hsz ((st ++ [s]).map (·.1)) (by simp)
    rw [← q, List.map_append, List.map_singleton, nszs_snoc] at this
    lia
  · intro z
    rw [h.alone z]
    exact ((h.one z).2 _).symm
end
end
-- P10
section
/-- the work on a node with three children or more, half done -/
structure SP (Xh : Hp) (left : Bool) (dx D NC : Addr) (ys : List Value) (hs : List Str) (x : Addr) (L : Str) (us : List Value) (H : Hp) (cur d c : Addr) (Lc : Str) (Np : List Addr) (ws : List Value) : Prop where
  old : ∀ b o, Xh b = some o → b ≠ dx → H b = some o
  dxin : H dx ≠ none
  hD : ∃ n, H D = some (listOf ys.toArray n)
  hNC : ∃ n, H NC = some (listOf ws.toArray n)
  cu : Nd H cur d c Lc []
  nd : (Np ++ [cur, d]).Nodup
  new : ∀ a, a ∈ Np ++ [cur, d] → (a = x ∨ a = dx ∨ Xh a = none) ∧ H a ≠ none
  dd : d = dx ∨ Xh d = none
  fr : Xh D = none ∧ Xh NC = none ∧ D ≠ NC
  cN : c ≠ NC
  pre : ∀ H2 rest N2, (∀ b o, H b = some o → b ≠ d → b ≠ NC → H2 b = some o) → Ch left H2 rest cur Lc ws N2 → Ch left H2 (hs ++ rest) x L us (Np ++ N2)
theorem Nd.noL {H : Hp} {x dx cl : Addr} {lab : Str} {us vs : List Value} {a : Addr} {n : Nat} (h : Nd H x dx cl lab us) (ha : H a = some (listOf vs.toArray n)) : x ≠ a ∧ dx ≠ a := by
  obtain ⟨hx, ⟨o, hd, h1, h2, t1, t2, t3, m, rfl⟩, _⟩ := h
  constructor <;> (rintro rfl)
  · rw [hx] at ha; have := congrArg (Option.map Obj.cls) ha; simp at this
  · rw [hd] at ha; have := congrArg (Option.map Obj.cls) ha; simp at this
section
variable {Xh H H2 : Hp} {left : Bool} {dx D NC : Addr} {ys : List Value} {hs : List Str} {x : Addr} {L : Str} {us : List Value} {cur d c : Addr} {Lc : Str} {Np : List Addr} {ws : List Value}
theorem SP.step (S : SP Xh left dx D NC ys hs x L us H cur d c Lc Np ws) {ws' : List Value} {u : Value} {V : Str} {y dy cy E : Addr} (hw : ws = if left then ws' ++ [u] else u :: ws') (k : ∀ b o, H b = some o → b ≠ d → b ≠ NC → H2 b = some o) (hNC : ∃ n, H2 NC = some (listOf ws'.toArray n))
    (hcur : Nd H2 cur d E Lc (if left then [.ref y, u] else [u, .ref y])) (hy : Nd H2 y dy cy V []) (fy : H y = none) (fdy : H dy = none) (fcy : H cy = none) (fE : H E = none) :
    SP Xh left dx D NC ys (hs ++ [V]) x L us H2 y dy cy V (Np ++ [cur, d, E]) ws' := by
  obtain ⟨nn, hn⟩ := S.hNC
  obtain ⟨nD, hD⟩ := S.hD
  obtain ⟨nE, hE⟩ := hcur.hl
  have c1 := S.cu.noL hn
  have c2 := S.cu.noL hD
  have e1 := hy.noL hE
  have up : ∀ a, H a ≠ none → H2 a ≠ none := fun a h => by
    by_cases q1 : a = d
    · subst q1; obtain ⟨o, e, _⟩ := hcur.hd; exact in_of e
    · by_cases q2 : a = NC
      · subst q2; obtain ⟨n, e⟩ := hNC; exact in_of e
      · cases e : H a with
        | none => exact absurd e h
        | some o => rw [k a o e q1 q2]; simp
  have alive : ∀ {a}, a ∈ Np ++ [cur, d] → ∀ {b}, H b = none → a ≠ b := fun {a} ha {b} hb z => (S.new a ha).2 (z ▸ hb)
  have fresh : ∀ {a}, H a = none → Xh a = none := fun {a} ha => by
    cases e : Xh a with
    | none => rfl
    | some o =>
      by_cases q : a = dx
      · exact absurd (q ▸ ha) S.dxin
      · rw [S.old a o e q] at ha; cases ha
  have nd := S.nd
  refine ⟨fun b o e n => ?_, up _ S.dxin, ⟨nD, k _ _ hD c2.2.symm S.fr.2.2⟩, hNC, hy, ?_, ?_, .inr (fresh fdy), S.fr, (ne_of_some hn fcy).symm, fun H3 rest N2 k3 hC => ?_⟩
  · refine k b o (S.old b o e n) (fun z => ?_) (fun z => ?_)
    · rcases S.dd with q | q
      · exact n (z.trans q)
      · rw [z, q] at e; cases e
    · rw [z, S.fr.2.1] at e; cases e
  · rw [show Np ++ [cur, d, E] ++ [y, dy] = (Np ++ [cur, d]) ++ [E, y, dy] by simp]
    refine List.nodup_append.mpr ⟨nd, ?_, fun a ha b hb => ?_⟩
    · simp only [List.nodup_cons, List.mem_cons, List.not_mem_nil, or_false, not_or, List.nodup_nil, and_true, not_false_iff]
      exact ⟨⟨e1.1.symm, e1.2.symm⟩, hy.ne.1⟩
    · simp only [List.mem_cons, List.not_mem_nil, or_false] at hb
      rcases hb with rfl | rfl | rfl
      · exact alive ha fE
      · exact alive ha fy
      · exact alive ha fdy
  · intro a ha
    rw [show Np ++ [cur, d, E] ++ [y, dy] = (Np ++ [cur, d]) ++ [E, y, dy] by simp] at ha
    rcases List.mem_append.mp ha with q | q
    · exact ⟨(S.new a q).1, up a (S.new a q).2⟩
    · simp only [List.mem_cons, List.not_mem_nil, or_false] at q
      rcases q with rfl | rfl | rfl
      · exact ⟨.inr (.inr (fresh fE)), in_of hE⟩
      · exact ⟨.inr (.inr (fresh fy)), in_of hy.hx⟩
      · obtain ⟨o, e, _⟩ := hy.hd; exact ⟨.inr (.inr (fresh fdy)), in_of e⟩
  · have ndy : ∀ a, H a ≠ none → a ≠ dy := fun a ha z => ha (z ▸ fdy)
    have acur := (S.new cur (by simp)).2
    have ad := (S.new d (by simp)).2
    have hEN : E ≠ NC := fun z => by rw [z, hn] at fE; cases fE
    have hN3 : Nd H3 cur d E Lc (if left then [.ref y, u] else [u, .ref y]) := ⟨k3 _ _ hcur.hx (ndy _ acur) c1.1, hcur.hd.imp fun o z => ⟨k3 _ _ z.1 (ndy _ ad) c1.2, z.2⟩, ⟨nE, k3 _ _ hE e1.2.symm hEN⟩⟩
    have := S.pre H3 (V :: rest) (cur :: d :: E :: N2) (fun b o e n1 n2 => k3 b o (k b o e n1 n2) (ndy b (by rw [e]; simp)) n2) (by
      simp only [Ch_e1, Ch_e2]
      exact ia_EEEEEEAAA d E y N2 u ws' hw hN3 hC rfl)
    simpa using this
theorem SP.le (S : SP Xh left dx D NC ys hs x L us H cur d c Lc Np ws) (k : Le H H2) : SP Xh left dx D NC ys hs x L us H2 cur d c Lc Np ws :=
  have up : ∀ {a}, H a ≠ none → H2 a ≠ none := fun {a} h z => h (k.none z)
  ⟨fun b o e n => k _ _ (S.old b o e n), up S.dxin, S.hD.imp fun n e => k _ _ e, S.hNC.imp fun n e => k _ _ e, S.cu.le k, S.nd, fun a ha => ⟨(S.new a ha).1, up (S.new a ha).2⟩, S.dd, S.fr, S.cN, fun H3 rest N2 k3 hC => S.pre H3 rest N2 (fun b o e n1 n2 => k3 b o (k _ _ e) n1 n2) hC⟩
theorem SP.fin (S : SP Xh left dx D NC ys hs x L us H cur d c Lc Np ws) {E : Addr} (k : ∀ b o, H b = some o → b ≠ d → H2 b = some o) (hcur : Nd H2 cur d E Lc ws) (fE : H E = none) :
    (∀ b o, Xh b = some o → b ≠ dx → H2 b = some o) ∧ Ch left H2 hs x L us (Np ++ [cur, d, E]) ∧ (Np ++ [cur, d, E]).Nodup ∧ ∀ a, a ∈ Np ++ [cur, d, E] → a = x ∨ a = dx ∨ Xh a = none := by
  have fresh : Xh E = none := by
    cases e : Xh E with
    | none => rfl
    | some o =>
      by_cases q : E = dx
      · exact absurd (q ▸ fE) S.dxin
      · rw [S.old E o e q] at fE; cases fE
  refine ⟨fun b o e n => k b o (S.old b o e n) fun z => ?_, ?_, ?_, fun a ha => ?_⟩
  · rcases S.dd with q | q
    · exact n (z.trans q)
    · rw [z, q] at e; cases e
  · have := S.pre H2 [] [cur, d, E] (fun b o e n _ => k b o e n) (by simp only [Ch_e1, Ch_e2]; exact ⟨d, E, hcur, rfl⟩)
    simpa using this
  · rw [show Np ++ [cur, d, E] = (Np ++ [cur, d]) ++ [E] by simp]
    refine List.nodup_append.mpr ⟨S.nd, by simp, fun a ha b hb z => ?_⟩
    rw [List.mem_singleton.mp hb] at z
    exact (S.new a ha).2 (z ▸ fE)
  · rw [show Np ++ [cur, d, E] = (Np ++ [cur, d]) ++ [E] by simp] at ha
    rcases List.mem_append.mp ha with q | q
    · exact (S.new a q).1
    · rw [List.mem_singleton.mp q]; exact .inr (.inr fresh)
theorem turn_it {H8 : Hp} {it E3 : Addr} {o o' LE L9 : Obj} (S : SP Xh left dx D NC ys hs x L us H cur d c Lc Np ws) (hit : H it = none) (io8 : H8 it = some o) (hE3 : upd H8 NC L9 E3 = none) : upd (upd (upd H8 NC L9) E3 LE) d o' it = some o := by
  obtain ⟨nn, hn⟩ := S.hNC
  have e1 : it ≠ NC := (ne_of_some hn hit).symm
  have e2 := upd_other (o' := L9) e1 io8
  exact upd_other (fun z => (S.new d (by simp)).2 (z ▸ hit)) (upd_other (ne_of_some e2 hE3) e2)
theorem turn_sp {H7 H8 : Hp} {it E3 y dy cy : Addr} {o o' : Obj} {V : Str} {ws' pr : List Value} {u : Value} {n8 n9 : Nat} (S : SP Xh left dx D NC ys hs x L us H cur d c Lc Np ws) (hit : H it = none) (io : H7 it = some o) (leI : Le H H7) (le8 : Le H7 H8) (hE3 : upd H8 NC (listOf ws'.toArray n9) E3 = none) (hN8 : H8 NC = some (listOf ws.toArray n8)) (hcu8 : Nd H8 cur d c Lc [])
    (ho' : ND o' E3 Lc) (hy : Nd H8 y dy cy V []) (hw : ws = if left then ws' ++ [u] else u :: ws') (hp : pr = if left then [.ref y, u] else [u, .ref y]) (fy : H7 y = none) (fdy : H7 dy = none) (fcy : H7 cy = none) :
    SP Xh left dx D NC ys (hs ++ [V]) x L us (del (upd (upd (upd H8 NC (listOf ws'.toArray n9)) E3 (listOf pr.toArray 0)) d o') it) y dy cy V (Np ++ [cur, d, E3]) ws' := by
  obtain ⟨nn, hn⟩ := S.hNC
  have le6 := leI.trans le8
  have cNC := hcu8.noL hN8
  have nit : NC ≠ it := ne_of_some hn hit
  have ad := (S.new d (by simp)).2
  have ac := (S.new cur (by simp)).2
  have dit : d ≠ it := fun z => ad (z ▸ hit)
  have cit : cur ≠ it := fun z => ac (z ▸ hit)
  have eE : ∀ {b ob}, b ≠ NC → H8 b = some ob → b ≠ E3 := fun n e => ne_of_some (upd_other n e) hE3
  have E3N : NC ≠ E3 := ne_of_some (upd_self _ _ _) hE3
  have E3it : E3 ≠ it := (eE nit.symm (le8 _ _ io)).symm
  refine ea_EA (hcu8.hd) ?_
  intro od hod _
  have E3d : E3 ≠ d := (eE cNC.2 hod).symm
  have up : ∀ b ob, b ≠ it → b ≠ d → b ≠ E3 → b ≠ NC → H8 b = some ob → del (upd (upd (upd H8 NC (listOf ws'.toArray n9)) E3 (listOf pr.toArray 0)) d o') it b = some ob := fun b ob n1 n2 n3 n4 e => (del_ne n1).trans (upd_other n2 (upd_other n3 (upd_other n4 e)))
  have apart : ∀ {b ob}, H7 b = none → H8 b = some ob → del (upd (upd (upd H8 NC (listOf ws'.toArray n9)) E3 (listOf pr.toArray 0)) d o') it b = some ob := fun {b ob} hb e => by
    have n4 : b ≠ NC := fun z => by rw [z, leI _ _ hn] at hb; cases hb
    refine up b ob (fun z => by rw [z, io] at hb; cases hb) (fun z => ?_) (eE n4 e) n4 e
    cases q : H d with
    | none => exact ad q
    | some od => rw [z, leI _ _ q] at hb; cases hb
  refine S.step (u := u) (E := E3) hw (fun b ob e n1 n2 => up b ob (ne_of_some e hit) n1 (eE n2 (le6 _ _ e)) n2 (le6 _ _ e)) ⟨n9, (del_ne nit).trans (upd_other cNC.2.symm (upd_other E3N (upd_self _ _ _)))⟩ ?_ ⟨apart fy hy.hx, hy.hd.imp fun ob z => ⟨apart fdy z.1, z.2⟩, hy.hl.imp fun n e => apart fcy e⟩ (leI.none fy) (leI.none fdy) (leI.none fcy) (le6.none ?_)
  · rw [← hp]
    exact ⟨up _ _ cit hcu8.ne.1 (eE cNC.1 hcu8.hx) cNC.1 hcu8.hx, ⟨o', (del_ne dit).trans (upd_self _ _ _), ho'⟩, ⟨0, (del_ne E3it).trans (upd_other E3d (upd_self _ _ _))⟩⟩
  · exact (upd_none hE3).2
end
theorem slice_right {ns : List Str} {i many n : Nat} (h : ns.length = n) (hi : i < n - 2) : (ns.take (min (1 + i + many) n)).drop (1 + i) = (ns.drop (i + 1)).take many := by
  rw [List.drop_take, Nat.add_comm 1 i]
  by_cases q : i + 1 + many ≤ n
  · rw [Nat.min_eq_left q]; congr 1; lia
  · rw [Nat.min_eq_right (by lia), List.take_of_length_le (by simp; omega), List.take_of_length_le (by simp; lia)]
theorem Str.append_assoc' (a b c : Str) : (a ++ b) ++ c = a ++ (b ++ c) := Str.append_assoc a b c
theorem vlab_eq (lab mark : Str) (ns : List Str) : ((((lab ++ Str.ofString "|") ++ Str.ofString "<") ++ Txt.join (Str.ofString "-") ns) ++ Str.ofString ">") ++ mark = vlab lab mark ns := by
  unfold vlab jo barS gtS dash
  rw [Str.append_assoc' lab, show Str.ofString "|" ++ Str.ofString "<" = Str.ofString "|<" by decide +kernel]
end
-- B28
section
section
variable {f : Fm} {l : Locs} {X : St} {env : Env} {k : Nat}
theorem ints2 (a b : Int) (t u : Tok) : IntsAre [Value.int a t, Value.int b u] [a, b] := .cons a t (.cons b u .nil)
theorem T_minL (O : Ok f k) {D : Addr} {a b : Int} {t u : Tok} {n : Nat} {Q : Value → Locs → St → Prop} (hD : X.h D = some (listOf [Value.int a t, Value.int b u].toArray n)) (q : ∀ t', Q (.int (min a b) t') l X) : T f (call (.builtin "min") [.ref D]) l X Q := T_of fun s m hs F e => by
  refine min_list_N O.hh F (cov_news hs.cov s.heap.objs.size) (isList_at hs hD) (ints2 a b t u) (by simp) fun h' M t' tk F' N' h1 h2 => ⟨l, X, hs.step F' e (cov_of hs.cov N') rfl, ?_⟩
  have : M = min a b := by
    have e1 := h2 a (by simp)
    have e2 := h2 b (by simp)
    simp only [List.mem_cons, List.not_mem_nil, or_false] at h1
    lia
  rw [this]; exact q t'
theorem T_maxL (O : Ok f k) {D : Addr} {a b : Int} {t u : Tok} {n : Nat} {Q : Value → Locs → St → Prop} (hD : X.h D = some (listOf [Value.int a t, Value.int b u].toArray n)) (q : ∀ t', Q (.int (max a b) t') l X) : T f (call (.builtin "max") [.ref D]) l X Q := T_of fun s m hs F e => by
  refine max_list_N O.hh F (cov_news hs.cov s.heap.objs.size) (isList_at hs hD) (ints2 a b t u) (by simp) fun h' M t' tk F' N' h1 h2 => ⟨l, X, hs.step F' e (cov_of hs.cov N') rfl, ?_⟩
  have : M = max a b := by
    have e1 := h2 a (by simp)
    have e2 := h2 b (by simp)
    simp only [List.mem_cons, List.not_mem_nil, or_false] at h1
    lia
  rw [this]; exact q t'
end
end
-- F16
section
/-- the last statement of chomsky_normal_form's inner block -/
noncomputable def stJ : List Stmt → Option Stmt
  | [_, _, .While _ [_, .If _ [_, _, _, _, st] _ _] _ _] => some st
  | _ => none
noncomputable def facS (left : Bool) : Str := if left then Str.ofString "left" else Str.ofString "right"
section
variable {f : Fm} {l : Locs} {X : St} {env : Env} {k : Nat}
noncomputable def SplitP (f : Fm) (k : Nat) (st : Stmt) (env : Env) : Prop := ∀ {X : St} {x dx cl : Addr} {lab L mark : Str} {us : List Value} {cs : List Tr} {G : List Addr} {left : Bool} {many above : Nat} {to tm tc tp th tv tf : Tok} {vt vnl : Value} {Q : Flow → Locs → St → Prop} (hN : Nd X.h x dx cl L us) (hT : TRs X.h cs us G) (h4 : us.length ≤ 4) (hlab : lab.length ≤ 100) (hmark : mark.length ≤ 1000) (hsh : ∀ t ∈ cs, (lbl t).length ≤ 100) (hq : ∀ H' N, (∀ b o, X.h b = some o → b ≠ dx → H' b = some o) → Ch left H' (hds left many (vlab lab mark) (cs.map lbl) us.length) x L us N → N.Nodup → (∀ a, a ∈ N → a = x ∨ a = dx ∨ a = cl ∨ X.h a = none) →
      ∀ l', Sub [(Str.ofString "nodeList", vnl), (Str.ofString "tree", vt), (Str.ofString "factor", .str (facS left) tf), (Str.ofString "horzMarkov", .int many th), (Str.ofString "vertMarkov", .int above tv), (Str.ofString "childChar", .str (Str.ofString "|") tc), (Str.ofString "parentChar", .str (Str.ofString "^") tp)] l' → Q .next l' ⟨H', X.g⟩),
    T f (exec st env) [(Str.ofString "node", .ref x), (Str.ofString "originalNode", .str lab to), (Str.ofString "parentString", .str mark tm), (Str.ofString "nodeList", vnl), (Str.ofString "tree", vt), (Str.ofString "factor", .str (facS left) tf), (Str.ofString "horzMarkov", .int many th), (Str.ofString "vertMarkov", .int above tv), (Str.ofString "childChar", .str (Str.ofString "|") tc), (Str.ofString "parentChar", .str (Str.ofString "^") tp)] X Q
theorem split_ok (O : Ok f k) (hk : k < 270) {name qual : Str} {params : Arguments} {body : List Stmt} {scope : Scope} {dV kV doc pm cdv ct oc : Value} {an od : Option Addr} {osl : Array (Option Value)} (ho : (Kh f.w.params).lookup 293 = some ⟨oc, od, .func (fnOf name qual params body scope dV kV doc pm an cdv ct), osl⟩) {st : Stmt} (hst : stJ body = some st) : SplitP f k st (envX qual scope f.L 293 cdv []) := by
  have key : ∀ {v : Obj}, (Kh f.w.params).lookup 293 = some v → (⟨oc, od, .func (fnOf name qual params body scope dV kV doc pm an cdv ct), osl⟩ : Obj) = v := fun h => Option.some.inj (ho.symm.trans h)
  refine' (fun e => ?main) (key ?hh)
  case hh => k_is
  cases e
  have e2 := Option.some.inj (show some _ = some st from hst)
  subst e2
  clear hst key ho
  unfold SplitP
  intro X x dx cl lab L mark us cs G left many above to tm tc tp th tv tf vt vnl Q hN hT h4 hlab hmark hsh hq
  have hz4 : us.length ≤ sizeLine := by rw [sizeLine_eq]; exact bk6 (by assumption) rfl
  by_cases h3 : us.length ≤ 2
  · refine T_if0 ?_
    walk_at "m:go"
    refine len_ok O (by exact bk1 (by assumption) rfl) hN hz4 fun t1 => ?_
    walk_at "m:go"
    refine ⟨by simp; lia, ?_⟩
    walk_at "m:go"
    have e0 : hds left many (vlab lab mark) (cs.map lbl) us.length = [] := by unfold hds; rw [show us.length - 2 = 0 by lia]; rfl
    rw [e0] at hq
    have ne := hN.ne
    refine hq X.h [x, dx, cl] (fun _ _ e _ => e) (by simp only [Ch_e1, Ch_e2]; exact ⟨dx, cl, hN, rfl⟩) ?_ (fun a ha => ?_) _ (by walk_at "m:sub")
    · simp only [List.nodup_cons, List.mem_cons, List.not_mem_nil, or_false, not_or, List.nodup_nil, and_true, not_false_iff]
      exact ⟨⟨ne.1, ne.2.1⟩, ne.2.2⟩
    · simp only [List.mem_cons, List.not_mem_nil, or_false] at ha
      rcases ha with q | q | q
      · exact .inl q
      · exact .inr (.inl q)
      · exact .inr (.inr (.inl q))
  refine T_if1 ?_
  walk_at "m:go"
  refine len_ok O (by exact bk1 (by assumption) rfl) hN hz4 fun t1 => ?_
  walk_at "m:go"
  refine ⟨by simp; lia, ?_⟩
  walk_at "m:go"
  have hlen := hT.length
  revert hq
  refine gen_e (cs.map lbl) ?_
  intro ns hns hq
  have hln : ns.length = us.length := by rw [← hns, List.length_map, hlen]
  have hns2 : Sh 4 100 ns := ⟨by lia, fun s hs => by
    rw [← hns] at hs
    refine ea_EA (List.mem_map.mp hs) ?_
    intro t ht zq194
    obtain rfl := zq194
    exact hsh t ht⟩
  -- childNodes
  refine T_assign_listcomp O (by rfl) (by rfl) (by decide) (by rfl) (by decide) (by rfl) (by rfl) (by rfl) (by rfl) ?_ (by exact fun _ => rfl)
  walk_at "m:go"
  refine CompSrc_list O (vs := us) (fun i ys X' => SV ys (ns.take i) ∧ ys.length = i ∧ X' = X) hz4 ?_ ?_ ?_ ?_
  · rintro i ys _ ⟨_, e, rfl⟩; exact ⟨hN.hl, Nat.le_of_eq e⟩
  · exact ⟨by simp; exact .nil, rfl, rfl⟩
  · intro hb' C i v ys _ O1 hi hv zz9
    refine ea_AA (zz9) ?_
    try clear zz9
    intro hS e zq195
    obtain rfl := zq195
    refine ea_EEAA (hT.get hv) ?_
    intro t F1 p1 hTR zc196
    clear zc196
    have htk : ns.take (i + 1) = ns.take i ++ [lbl t] := take_get (by rw [← hns, List.getElem?_map, p1]; rfl)
    induction t using TrEl with
    | leaf c =>
      simp only [TR_e1, TR_e2] at hTR
      refine ea_AE (hTR) ?_
      try clear hTR
      intro zc197 tc zq198
      clear zc197
      obtain rfl := zq198
      walk_at "m:go"
      exact ⟨by rw [htk]; exact hS.append (.one _ _), by simp [e], rfl⟩
    | node l2 cs2 =>
      simp only [TR_e1, TR_e2] at hTR
      refine ea_EEEEEAAA (hTR) ?_
      try clear hTR
      intro y dy cy us2 G2 zq199 zc200 hN2 zc201
      obtain rfl := zq199
      clear zc200
      clear zc201
      walk_at "m:go"
      refine label_ok O1 (by exact bk1 (by assumption) rfl) hN2 fun t2 => ?_
      exact ⟨by rw [htk]; exact hS.append (.one _ _), by simp [e], rfl⟩
  intro ys X1 zz2 D nD hD
  refine ea_AA (zz2) ?_
  try clear zz2
  intro hS e eX
  rw [eX] at hD ⊢
  rw [List.take_of_length_le (by lia)] at hS
  have le1 := Le.upd (o := listOf ys.toArray nD) hD
  have hD1 : upd X.h D (listOf ys.toArray nD) D = some (listOf ys.toArray nD) := upd_self _ _ _
  have hN1 := hN.le le1
  revert le1; revert hD1; revert hN1
  refine gen_x (upd X.h D (listOf ys.toArray nD)) ?_
  intro H1 hN1 hD1 le1
  walk_at "m:go"
  obtain ⟨ncl, hcl⟩ := hN1.hl
  refine T_listOf hcl hz4 fun NC nNC hNC => ?_
  walk_at "m:go"
  refine inL rfl fun E0 hE0 => ?_
  walk_at "m:go"
  have le2 := Le.upd (o := listOf us.toArray nNC) hNC
  try dsimp only at hE0 le2 ⊢
  have le3 := Le.upd (o := listOf [].toArray 0) hE0
  have hN3 := (hN1.le le2).le le3
  refine T_set_children O hN3 fun o' ho' => ?_
  have xdx := hN.ne.1
  have nN1 : H1 NC = none := hNC
  have DNC : D ≠ NC := ne_of_some hD1 nN1
  have NCE : NC ≠ E0 := ne_of_some (upd_self _ _ _) hE0
  have n3 := hN3.noL (le3 _ _ (upd_self H1 NC (listOf us.toArray nNC)))
  have n4 := hN3.noL (upd_self _ E0 (listOf [].toArray 0))
  have n5 := hN3.noL (le3 _ _ (le2 _ _ hD1))
  refine T_hp (fun H => SP X.h left dx D NC ys [] x L us H x dx E0 L [] us ∧ H NC = some (listOf us.toArray nNC)) ⟨⟨fun b o e n => ?_, ?_, ⟨nD, ?_⟩, ⟨nNC, ?_⟩, ⟨?_, ⟨o', upd_self _ _ _, ho'⟩, ⟨0, ?_⟩⟩, ?_, ?_, .inl rfl, ⟨hD, le1.none nN1, DNC⟩, NCE.symm, fun H2 rest N2 _ hC => by simpa using hC⟩, ?_⟩ ?_
  · exact upd_other n (le3 _ _ (le2 _ _ (le1 _ _ e)))
  · exact in_of (upd_self _ _ _)
  · exact upd_other n5.2.symm (le3 _ _ (le2 _ _ hD1))
  · exact upd_other n3.2.symm (le3 _ _ (upd_self _ _ _))
  · exact upd_other xdx hN3.hx
  · exact upd_other n4.2.symm (upd_self _ _ _)
  · simpa using xdx
  · intro a ha
    simp only [List.nil_append, List.mem_cons, List.not_mem_nil, or_false] at ha
    rcases ha with rfl | rfl
    · exact ⟨.inl rfl, in_of (upd_other xdx hN3.hx)⟩
    · exact ⟨.inr (.inl rfl), in_of (upd_self _ _ _)⟩
  · exact upd_other n3.2.symm (le3 _ _ (upd_self _ _ _))
  clear n3 n4 n5 hN3 ho' le3 le2 hE0 hNC hcl hN1 hD1 le1 nN1 NCE
  intro H2 zz1
  obtain ⟨S0, hNC2⟩ := zz1
  walk_at "m:go"
  obtain ⟨hf, hhf⟩ : ∃ hf : Nat → Str, hf = fun q => vlab lab mark (if left then (ns.take (us.length - 1 - q)).drop (us.length - 1 - q - many) else (ns.drop (q + 1)).take many) := ⟨_, rfl⟩
  have hds1 : hds left many (vlab lab mark) ns us.length = (List.range (us.length - 2)).map hf := by rw [hhf]; rfl
  rw [hds1] at hq
  clear hds1
  refine T_range2 fun R u2 hR => ?_
  refine TFor_hp (fun H => SP X.h left dx D NC ys [] x L us H x dx E0 L [] us ∧ ∃ t u v, H R = some (rangeOf 1 (us.length - 1) 1 t u v)) ⟨S0.le (Le.upd hR), _, _, _, upd_self _ _ _⟩ ?_
  intro H3 zz1
  refine ea_AEEE (zz1) ?_
  try clear zz1
  intro S1 w1 w2 w3 hR3
  refine TFor_range' O (N := us.length - 2) (fun i l' X' => X'.g = X.g ∧ ∃ cur d c Lc Np ws tn, SP X.h left dx D NC ys ((List.range i).map hf) x L us X'.h cur d c Lc Np ws ∧ ws.length = us.length - i ∧ Sub [(Str.ofString "curNode", .ref cur), (Str.ofString "numChildren", .int us.length tn), (Str.ofString "nodeCopy", .ref NC), (Str.ofString "childNodes", .ref D), (Str.ofString "originalNode", .str lab to), (Str.ofString "parentString", .str mark tm), (Str.ofString "nodeList", vnl), (Str.ofString "tree", vt), (Str.ofString "factor", .str (facS left) tf), (Str.ofString "horzMarkov", .int many th), (Str.ofString "vertMarkov", .int above tv), (Str.ofString "childChar", .str (Str.ofString "|") tc), (Str.ofString "parentChar", .str (Str.ofString "^") tp)] l') hR3 (small_one (by decide) (by decide) (by lia) (by lia)) (by rw [rangeSize_ab (by lia)]; lia) ?_ ?_ ?_
  · exact ⟨rfl, ie4 x dx E0 L (ie3 [] us _ ⟨S1, rfl, by walk_at "m:sub"⟩)⟩
  · intro i t l2 zz3 it o hi zz7 hit hno
    have zze := zz7.1
    revert hit; revert zz7
    refine StElR zz3 zze ?_
    clear zze
    clear zz3
    intro H6 zz7 hit
    refine ea_AEEEEEEEAA (zz7) ?_
    try clear zz7
    intro eg6 cur d c Lc Np ws tn S6 hwl sb6
    clear eg6
    dsimp only at S6 hit ⊢
    refine T_sub sb6 ?_
    have leI := Le.upd (o := o) hit
    have io : upd H6 it o it = some o := upd_self _ _ _
    have S7 := S6.le leI
    revert leI; revert io; revert S7
    refine gen_x (upd H6 it o) ?_
    intro H7 S7 io leI
    have hcu := S7.cu
    obtain ⟨nD7, hD7⟩ := S7.hD
    obtain ⟨nN7, hN7⟩ := S7.hNC
    induction left using BoolEl with
    | true =>
      walk_at "m:go"
      refine T_if0 ?_
      walk_at "m:go"
      refine ⟨rfl, ?_⟩
      walk_at "m:go"
      have q1 : (Str.ofString "|").length = 1 := by decide +kernel
      have q2 : (Str.ofString "<").length = 1 := by decide +kernel
      have q3 : (Str.ofString ">").length = 1 := by decide +kernel
      refine T_cat (catOk hlab (Nat.le_of_eq q1) rfl) fun t2 => ?_
      have k1 := catLe hlab (Nat.le_of_eq q1)
      walk_at "m:go"
      refine T_cat (catOk k1 (Nat.le_of_eq q2) rfl) fun t3 => ?_
      have k2 := catLe k1 (Nat.le_of_eq q2)
      walk_at "m:go"
      refine inL rfl fun E hE => ?_
      walk_at "m:go"
      refine' T_hp (fun H => Le H7 H ∧ ∃ t' t'', H E = some (listOf [Value.int ((us.length : Int) - (1 + (i : Int) * 1) - (many : Int)) t', Value.int 0 t''].toArray 0)) ?hh ?_
      case hh => exact ia_AEE (Le.upd hE) _ _ (upd_self _ _ _)
      intro H7a zz1
      refine ea_AEE (zz1) ?_
      try clear zz1
      intro leE tE tE2 hEo
      refine T_maxL O hEo fun t4 => ?_
      rw [show max ((us.length : Int) - (1 + (i : Int) * 1) - (many : Int)) 0 = ((us.length - 1 - i - many : Nat) : Int) by lia]
      walk_at "m:go"
      rw [show -(1 + (i : Int) * 1) = -((1 + i : Nat) : Int) by lia]
      have hyl := hS.length
      refine inSl (lo := some ((us.length - 1 - i - many : Nat) : Int)) (hi := some (-((1 + i : Nat) : Int))) (leE _ _ hD7) (by rw [sizeLine_eq]; lia) (.int _ _) (.int _ _) fun W hW => ?_
      rw [pick_neg _ _ _ (by lia), show ys.length - (1 + i) = us.length - 1 - i by lia]
      have hSW := (hS.take (us.length - 1 - i)).drop (us.length - 1 - i - many)
      have hW2 : Sh 4 100 ((ns.take (us.length - 1 - i)).drop (us.length - 1 - i - many)) := hns2.sub (by simp; omega) (fun s hs => List.mem_of_mem_take (List.mem_of_mem_drop hs))
      have hWl := jo_len hW2
      have leW := leE.trans (Le.upd (o := listOf ((ys.take (us.length - 1 - i)).drop (us.length - 1 - i - many)).toArray 0) hW)
      walk_at "m:go"
      refine T_joinV (upd_self _ _ _) hSW (hW2.join (by lia)) fun t5 => ?_
      have hWl2 : (Txt.join (Str.ofString "-") ((ns.take (us.length - 1 - i)).drop (us.length - 1 - i - many))).length ≤ 404 := hWl
      walk_at "m:go"
      refine T_cat (catOk k2 hWl2 rfl) fun t6 => ?_
      have k3 := catLe k2 hWl2
      walk_at "m:go"
      refine T_cat (catOk k3 (Nat.le_of_eq q3) rfl) fun t7 => ?_
      have k4 := catLe k3 (Nat.le_of_eq q3)
      walk_at "m:go"
      refine T_cat (catOk k4 hmark rfl) fun t8 => ?_
      clear k1 k2 k3 k4
      rw [vlab_eq]
      walk_at "m:go"
      refine inL rfl fun E2 hE2 => ?_
      dsimp only at hE2 ⊢
      have le2 := leW.trans (Le.upd (o := listOf [].toArray 0) hE2)
      walk_at "m:go"
      refine tree_new O (by exact bk1 (by assumption) rfl) (upd_self _ _ _) (lsz rfl) fun y dy cy H8 le8 fy fdy fcy hy => ?_
      replace le8 := le2.trans le8
      replace fy := le2.none fy
      replace fdy := le2.none fdy
      replace fcy := le2.none fcy
      clear le2 hE2 leW hW leE
      have hN8 := le8 _ _ hN7
      have io8 := le8 _ _ io
      have hcu8 := hcu.le le8
      have le6 := leI.trans le8
      obtain ⟨u, ws', rfl⟩ : ∃ u ws', ws = ws' ++ [u] := by
        rcases List.eq_nil_or_concat ws with rfl | ⟨ws', u, rfl⟩
        · simp at hwl; lia
        · exact ⟨u, ws', List.concat_eq_append⟩
      simp only [List.length_append, List.length_cons, List.length_nil] at hwl
      walk_at "m:go"
      refine T_pop hN8 (by rw [sizeLine_eq]; lia) fun n9 => ?_
      walk_at "m:go"
      refine inL rfl fun E3 hE3 => ?_
      walk_at "m:go"
      dsimp only at hE3 ⊢
      have hV : hf i = vlab lab mark ((ns.take (us.length - 1 - i)).drop (us.length - 1 - i - many)) := by rw [hhf]; simp
      rw [← hV] at hy
      have cNC := hcu8.noL hN8
      have hcu9 : Nd (upd H8 NC (listOf ws'.toArray n9)) cur d c Lc [] := hcu8.at (upd_ne cNC.1) (upd_ne cNC.2) (upd_ne S6.cN)
      refine T_set_children O (hcu9.le (Le.upd hE3)) fun o' ho' => ?_
      walk_at "m:go"
      refine ⟨?_, rfl, y, dy, cy, hf i, Np ++ [cur, d, E3], ws', tn, ?_, by lia, by walk_at "m:sub"⟩
      · exact turn_it S6 hit io8 hE3
      · rw [List.range_succ, List.map_append, List.map_singleton]
        exact turn_sp S6 hit io leI le8 hE3 hN8 hcu8 ho' hy rfl rfl fy fdy fcy
    | false =>
      walk_at "m:go"
      refine T_if1 ?_
      walk_at "m:go"
      refine ⟨rfl, ?_⟩
      walk_at "m:go"
      have q1 : (Str.ofString "|").length = 1 := by decide +kernel
      have q2 : (Str.ofString "<").length = 1 := by decide +kernel
      have q3 : (Str.ofString ">").length = 1 := by decide +kernel
      refine T_cat (catOk hlab (Nat.le_of_eq q1) rfl) fun t2 => ?_
      have k1 := catLe hlab (Nat.le_of_eq q1)
      walk_at "m:go"
      refine T_cat (catOk k1 (Nat.le_of_eq q2) rfl) fun t3 => ?_
      have k2 := catLe k1 (Nat.le_of_eq q2)
      walk_at "m:go"
      refine inL rfl fun E hE => ?_
      walk_at "m:go"
      refine' T_hp (fun H => Le H7 H ∧ ∃ t', H E = some (listOf [Value.int (1 + (i : Int) * 1 + (many : Int)) t', Value.int us.length tn].toArray 0)) ?hh ?_
      case hh => exact ia_AE (Le.upd hE) _ (upd_self _ _ _)
      intro H7a zz1
      refine ea_AE (zz1) ?_
      try clear zz1
      intro leE tE hEo
      refine T_minL O hEo fun t4 => ?_
      rw [show min (1 + (i : Int) * 1 + (many : Int)) (us.length : Int) = ((min (1 + i + many) us.length : Nat) : Int) by lia, show (1 + (i : Int) * 1) = ((1 + i : Nat) : Int) by lia]
      have hyl := hS.length
      refine inSl (lo := some ((1 + i : Nat) : Int)) (hi := some ((min (1 + i + many) us.length : Nat) : Int)) (leE _ _ hD7) (by rw [sizeLine_eq]; omega) (.int _ _) (.int _ _) fun W hW => ?_
      rw [pick_run]
      have hSW := (hS.take (min (1 + i + many) us.length)).drop (1 + i)
      rw [slice_right hln hi] at hSW
      have hW2 : Sh 4 100 ((ns.drop (i + 1)).take many) := hns2.sub (by simp; lia) (fun s hs => List.mem_of_mem_drop (List.mem_of_mem_take hs))
      have hWl := jo_len hW2
      have leW := leE.trans (Le.upd (o := listOf ((ys.take (min (1 + i + many) us.length)).drop (1 + i)).toArray 0) hW)
      walk_at "m:go"
      refine T_joinV (upd_self _ _ _) hSW (hW2.join (by lia)) fun t5 => ?_
      have hWl2 : (Txt.join (Str.ofString "-") ((ns.drop (i + 1)).take many)).length ≤ 404 := hWl
      walk_at "m:go"
      refine T_cat (catOk k2 hWl2 rfl) fun t6 => ?_
      have k3 := catLe k2 hWl2
      walk_at "m:go"
      refine T_cat (catOk k3 (Nat.le_of_eq q3) rfl) fun t7 => ?_
      have k4 := catLe k3 (Nat.le_of_eq q3)
      walk_at "m:go"
      refine T_cat (catOk k4 hmark rfl) fun t8 => ?_
      clear k1 k2 k3 k4
      rw [vlab_eq]
      walk_at "m:go"
      refine inL rfl fun E2 hE2 => ?_
      dsimp only at hE2 ⊢
      have le2 := leW.trans (Le.upd (o := listOf [].toArray 0) hE2)
      walk_at "m:go"
      refine tree_new O (by exact bk1 (by assumption) rfl) (upd_self _ _ _) (lsz rfl) fun y dy cy H8 le8 fy fdy fcy hy => ?_
      replace le8 := le2.trans le8
      replace fy := le2.none fy
      replace fdy := le2.none fdy
      replace fcy := le2.none fcy
      clear le2 hE2 leW hW leE
      have hN8 := le8 _ _ hN7
      have io8 := le8 _ _ io
      have hcu8 := hcu.le le8
      have le6 := leI.trans le8
      obtain ⟨u, ws', rfl⟩ : ∃ u ws', ws = u :: ws' := by
        induction ws using LsEl with
        | nil => simp at hwl; omega
        | cons u ws' => exact ⟨u, ws', rfl⟩
      simp only [List.length_cons] at hwl
      walk_at "m:go"
      refine T_pop0 hN8 (by rw [sizeLine_eq]; lia) fun n9 => ?_
      walk_at "m:go"
      refine inL rfl fun E3 hE3 => ?_
      walk_at "m:go"
      dsimp only at hE3 ⊢
      have hV : hf i = vlab lab mark ((ns.drop (i + 1)).take many) := by rw [hhf]; simp
      rw [← hV] at hy
      have cNC := hcu8.noL hN8
      have hcu9 : Nd (upd H8 NC (listOf ws'.toArray n9)) cur d c Lc [] := hcu8.at (upd_ne cNC.1) (upd_ne cNC.2) (upd_ne S6.cN)
      refine T_set_children O (hcu9.le (Le.upd hE3)) fun o' ho' => ?_
      walk_at "m:go"
      refine ⟨?_, rfl, y, dy, cy, hf i, Np ++ [cur, d, E3], ws', tn, ?_, by lia, by walk_at "m:sub"⟩
      · exact turn_it S6 hit io8 hE3
      · rw [List.range_succ, List.map_append, List.map_singleton]
        exact turn_sp S6 hit io leI le8 hE3 hN8 hcu8 ho' hy rfl rfl fy fdy fcy
  · intro l2 zz1 zz2
    have zze := zz2.1
    revert zz2
    refine StElR zz1 zze ?_
    clear zze
    clear zz1
    intro H6 zz2
    refine ea_AEEEEEEEAA (zz2) ?_
    try clear zz2
    intro eg6 cur d c Lc Np ws tn S6 hwl sb6
    clear eg6
    dsimp only at S6 ⊢
    refine T_sub sb6 ?_
    walk_at "m:go"
    obtain ⟨nN6, hN6⟩ := S6.hNC
    refine CompSrc_list O (vs := ws) (fun i ys X' => ys = ws.take i ∧ X' = ⟨H6, X.g⟩) (by rw [sizeLine_eq]; lia) ?_ ⟨by simp, rfl⟩ ?_ ?_
    · rintro i ys _ ⟨rfl, rfl⟩; exact ⟨⟨nN6, hN6⟩, by simp; omega⟩
    · intro hb' C i v ys _ O1 hi hv zz9
      obtain ⟨rfl, rfl⟩ := zz9
      walk_at "m:go"
      exact ⟨(take_get hv).symm, rfl⟩
    · intro ys2 X1 zz2 E nE hE
      obtain ⟨e1, e2⟩ := zz2
      rw [e2] at hE ⊢
      rw [e1, List.take_length]
      dsimp only at hE ⊢
      walk_at "m:go"
      have leE := Le.upd (o := listOf ws.toArray nE) hE
      have hcu := S6.cu.le leE
      refine T_set_children O hcu fun o' ho' => ?_
      walk_at "m:go"
      have ed : E ≠ d := fun z => by have := hcu.noL (upd_self H6 E (listOf ws.toArray nE)); exact this.2 z.symm
      refine ea_AAA (S6.fin (H2 := upd (upd H6 E (listOf ws.toArray nE)) d o') (E := E) (fun b o e n => upd_other n (leE _ _ e)) ⟨upd_other hcu.ne.1 hcu.hx, ⟨o', upd_self _ _ _, ho'⟩, ⟨nE, upd_other ed (upd_self _ _ _)⟩⟩ hE) ?_
      intro f1 f2 f3 f4
      exact hq _ _ f1 f2 f3 (fun a ha => (f4 a ha).imp id (fun q => q.imp id .inr)) _ (by walk_at "m:sub")
end
end
-- F13
section
section
variable {f : Fm} {l : Locs} {X : St} {env : Env} {k : Nat}
/-- what comparing leaves behind -/
structure After (X X' : St) : Prop where
  bt : Bt (fun b => b = 162) X.h X'.h
  tab : Tab X'.h 162
  g : GB X.g X'.g
/-- __eq__ of trees of at most this height -/
noncomputable def EqC (d : Nat) : Prop := ∀ {f : Fm} {l : Locs} {X : St} {k : Nat} (_ : Ok f k) (_ : k + 5 * d < 250) {x y : Addr} {l1 l2 : Str} {cs1 cs2 : List Tr} {F1 F2 : List Addr} {Q : Value → Locs → St → Prop} (_ : TR X.h (.node l1 cs1) (.ref x) F1) (_ : TR X.h (.node l2 cs2) (.ref y) F2) (_ : Tab X.h 162) (_ : hts cs1 ≤ d) (_ : Wd (.node l1 cs1)) (_ : Wd (.node l2 cs2))
  (_ : ∀ b X', After X X' → (b = true ↔ Tr.node l1 cs1 = Tr.node l2 cs2) → Q (.bool b) l X'), T f (call (.ref 167) [.ref x, .ref y]) l X Q
theorem same_ok {d : Nat} (ih : ∀ d' < d, EqC d') (O : Ok f k) (hk : k + 5 * d < 254) {t1 t2 : Tr} {v1 v2 : Value} {F1 F2 : List Addr} {Q : Value → Locs → St → Prop} (h1 : TR X.h t1 v1 F1) (h2 : TR X.h t2 v2 F2) (ht' : Tab X.h 162) (hd : ht t1 ≤ d) (w1 : Wd t1) (w2 : Wd t2)
    (hq : ∀ b X', After X X' → (b = true ↔ t1 = t2) → Q (.bool b) l X') : T f (call (.ref 287) [v1, v2]) l X Q := by
  walk_at "m:enter"
  intro f' O'
  refine T_sub (l' := [(Str.ofString "a", v1), (Str.ofString "b", v2)]) (by walk_at "m:sub") ?_
  have same := After.mk (X := X) (X' := X) (Bt.refl _) ht' (GB.refl _)
  induction t1 using TrEl with
  | leaf c1 =>
    simp only [TR_e1, TR_e2] at h1
    refine ea_AE (h1) ?_
    try clear h1
    intro zc143 tc1 zq144
    clear zc143
    obtain rfl := zq144
    induction t2 using TrEl with
    | leaf c2 =>
      simp only [TR_e1, TR_e2] at h2
      refine ea_AE (h2) ?_
      try clear h2
      intro zc145 tc2 zq146
      clear zc145
      obtain rfl := zq146
      walk_at "m:go"
      refine T_if0 ?_
      walk_at "m:go"
      refine ⟨rfl, ?_⟩
      walk_at "m:go"
      exact hq _ X same (by simp)
    | node l2 cs2 =>
      simp only [TR_e1, TR_e2] at h2
      refine ea_EEEEEAAA (h2) ?_
      try clear h2
      intro y dy cy us2 G2 zq147 zc148 hN2 zc149
      obtain rfl := zq147
      clear zc148
      clear zc149
      walk_at "m:go"
      refine T_if1 ?_
      walk_at "m:go"
      refine ⟨rfl, ?_⟩
      walk_at "m:go"
      refine T_bop (T_bopAnd ?_)
      walk_at "m:go"
      exact hq _ X same (by simp)
  | node l1 cs1 =>
    have h1' := h1
    simp only [TR_e1, TR_e2] at h1
    refine ea_EEEEEAAA (h1) ?_
    try clear h1
    intro x dx cx us1 G1 zq150 zc151 hN1 zc152
    obtain rfl := zq150
    clear zc151
    clear zc152
    induction t2 using TrEl with
    | leaf c2 =>
      simp only [TR_e1, TR_e2] at h2
      refine ea_AE (h2) ?_
      try clear h2
      intro zc153 tc2 zq154
      clear zc153
      obtain rfl := zq154
      walk_at "m:go"
      refine T_if1 ?_
      walk_at "m:go"
      refine ⟨rfl, ?_⟩
      walk_at "m:go"
      refine T_bop (T_bopAnd ?_)
      walk_at "m:go"
      refine T_bopAnd ?_
      walk_at "m:go"
      exact hq _ X same (by simp)
    | node l2 cs2 =>
      have h2' := h2
      simp only [TR_e1, TR_e2] at h2
      refine ea_EEEEEAAA (h2) ?_
      try clear h2
      intro y dy cy us2 G2 zq155 zc156 hN2 zc157
      obtain rfl := zq155
      clear zc156
      clear zc157
      simp only [ht] at hd
      walk_at "m:go"
      refine T_if1 ?_
      walk_at "m:go"
      refine ⟨rfl, ?_⟩
      walk_at "m:go"
      refine T_bop (T_bopAnd ?_)
      walk_at "m:go"
      refine T_bopAnd ?_
      walk_at "m:go"
      refine T_bop1 ?_
      walk_at "m:go"
      refine T_eq_tree O' hN1 hN2 (ih (d - 1) (by lia) O' (by lia) h1' h2' ht' (by lia) w1 w2 fun b X' hA hb => ⟨nofun, ?_⟩)
      walk_at "m:go"
      exact hq b X' hA hb

end
end
-- F14
section
theorem TR_cls {H : Hp} : (∀ t v F, TR H t v F → ∀ a, a ∈ F → ∃ o, H a = some o ∧ o.cls ≠ .none) ∧ ∀ ts vs F, TRs H ts vs F → ∀ a, a ∈ F → ∃ o, H a = some o ∧ o.cls ≠ .none := by
  refine Tr.ind (P := fun t => ∀ v F, TR H t v F → ∀ a, a ∈ F → ∃ o, H a = some o ∧ o.cls ≠ .none) (R := fun ts => ∀ vs F, TRs H ts vs F → ∀ a, a ∈ F → ∃ o, H a = some o ∧ o.cls ≠ .none) ?_ ?_ ?_ ?_
  · intro c v F h a ha; simp only [TR_e1, TR_e2] at h; rw [h.1] at ha; cases ha
  · intro lab cs ih v F h a ha
    simp only [TR_e1, TR_e2] at h
    refine ea_EEEEEAAA (h) ?_
    try clear h
    intro x dx cl vs G zq158 zq159 h1 h2
    obtain rfl := zq158
    obtain rfl := zq159
    simp only [List.mem_cons] at ha
    rcases ha with rfl | rfl | rfl | ha
    · exact ⟨_, h1.hx, by simp⟩
    · obtain ⟨o, e, p, q, r, s, t, u, rfl⟩ := h1.hd; exact ⟨_, e, by simp⟩
    · obtain ⟨n, e⟩ := h1.hl; exact ⟨_, e, by simp⟩
    · exact ih _ _ h2 a ha
  · intro vs F h a ha; simp only [TRs_e1, TRs_e2] at h; rw [h.2] at ha; cases ha
  · intro c cs i1 i2 vs F h a ha
    simp only [TRs_e1, TRs_e2] at h
    refine ea_EEEEAAA (h) ?_
    try clear h
    intro v ws F1 F2 zq160 zq161 h1 h2
    obtain rfl := zq160
    obtain rfl := zq161
    rcases List.mem_append.mp ha with q | q
    · exact i1 _ _ h1 a q
    · exact i2 _ _ h2 a q
theorem Tab.ne {H : Hp} {P a : Addr} {o : Obj} (h : Tab H P) (e : H a = some o) (c : o.cls ≠ .none) : a ≠ P := by
  rintro rfl
  refine ea_EA (h) ?_
  try clear h
  intro ps e' _
  rw [e'] at e; cases e; exact c rfl
theorem TRs.bt {H H' : Hp} {ts : List Tr} {vs : List Value} {F : List Addr} {P : Addr} (h : TRs H ts vs F) (t : Tab H P) (b : Bt (fun b => b = P) H H') : TRs H' ts vs F := h.on fun a ha o e => b a o e fun q => by
  refine ea_EA (TR_cls.2 _ _ _ h a ha) ?_
  intro o' e' c
  exact t.ne e' c q
theorem TR.bt {H H' : Hp} {ts : Tr} {vs : Value} {F : List Addr} {P : Addr} (h : TR H ts vs F) (t : Tab H P) (b : Bt (fun b => b = P) H H') : TR H' ts vs F := h.on fun a ha o e => b a o e fun q => by
  refine ea_EA (TR_cls.1 _ _ _ h a ha) ?_
  intro o' e' c
  exact t.ne e' c q
theorem push_set {α : Type} (g : Array α) (x y : α) : (g.push x).setIfInBounds g.size y = g.push y := by
  apply Array.ext_getElem?; intro i
  simp only [Array.getElem?_setIfInBounds, Array.size_push, Array.getElem?_push]
  by_cases e : g.size = i
  · subst e; simp
  · rw [if_neg e, if_neg (Ne.symm e), if_neg (Ne.symm e)]
theorem list_ext {α : Type} {a b : List α} (hl : a.length = b.length) (h : ∀ j < a.length, a[j]? = b[j]?) : a = b := by
  apply List.ext_getElem? ; intro i
  by_cases q : i < a.length
  · exact h i q
  · rw [List.getElem?_eq_none (by lia), List.getElem?_eq_none (by lia)]
section
variable {f : Fm} {l : Locs} {X : St} {env : Env} {k : Nat}
theorem eq_ok (d : Nat) : EqC d := by
  induction d using Nat.strongRecOn with
  | _ d ih =>
  intro f l X k O hk x y l1 l2 cs1 cs2 F1 F2 Q h1 h2 htb hd w1 w2 hq
  walk_at "m:enter"
  intro f' O'
  refine T_sub (l' := [(Str.ofString "self", .ref x), (Str.ofString "other", .ref y)]) (by walk_at "m:sub") ?_
  simp only [TR_e1, TR_e2] at h1 h2
  refine ea_EEEEEAAA (h1) ?_
  try clear h1
  intro x' dx cx us1 G1 hx' zq162 hN1 hC1
  obtain rfl := zq162
  cases hx'
  refine ea_EEEEEAAA (h2) ?_
  try clear h2
  intro y' dy cy us2 G2 hy' zq163 hN2 hC2
  obtain rfl := zq163
  cases hy'
  simp only [Wd_e1, Wd_e2] at w1 w2
  walk_at "m:go"
  refine T_bop (T_bopAnd ?_)
  walk_at "m:go"
  refine T_bopAnd ?_
  walk_at "m:go"
  by_cases hl : l1 = l2
  rotate_left
  · refine ite_f (by simpa using hl) ?_
    walk_at "m:go"
    rw [show (l1 == l2) = false by simpa using hl]
    exact hq false X ⟨Bt.refl _, htb, GB.refl _⟩ ⟨nofun, fun e => absurd (Tr.node.inj e).1 hl⟩
  subst hl
  refine ite_t (by simp) ?_
  obtain ⟨n1, e1⟩ := hN1.hl
  obtain ⟨n2, e2⟩ := hN2.hl
  have hlen1 := hC1.length
  have hlen2 := hC2.length
  have hz1 : us1.length ≤ sizeLine := by rw [sizeLine_eq]; lia
  have hz2 : us2.length ≤ sizeLine := by rw [sizeLine_eq]; lia
  refine T_bopAnd ?_
  walk_at "m:go"
  by_cases hl : us1.length = us2.length
  rotate_left
  · refine ite_f (by simp; lia) ?_
    walk_at "m:go"
    rw [show ((us1.length : Int) == us2.length) = false by simp; omega]
    exact hq false X ⟨Bt.refl _, htb, GB.refl _⟩ ⟨nofun, fun e => absurd (by rw [hC1.length, hC2.length, (Tr.node.inj e).2]) hl⟩
  refine ite_t (by simp [hl]) ?_
  refine T_bop1 ?_
  walk_at "m:go"
  refine T_genexp (c := 166) (P := 162) O' rfl (by rfl) (by decide) (by rfl) (by rfl) (by rfl) (fun h X => code166 X) (by rfl) ?_ (by exact fun _ => rfl)
  walk_at "m:go"
  refine T_zip e1 e2 fun z TI TO i1 i2 H hle hZ z1 z2 z3 z4 z5 d1 d2 d3 d4 d5 d6 d7 d8 d9 d10 => ?_
  refine T_iterZip hZ ?_
  refine ⟨htb.imp fun ps z => ⟨hle _ _ z.1, z.2⟩, fun o' code C a oC nm qn hTab hCa hC0 ha0 lt fL nC => ?_⟩
  walk_at "m:go"
  dsimp only at hTab hC0 ha0 lt fL ⊢
  have inZ : ∀ b, b ∈ [z, TI, TO, i1, i2] → X.h b = none ∧ ∃ o, H b = some o := fun b hb => by
    simp only [List.mem_cons, List.not_mem_nil, or_false] at hb
    rcases hb with rfl | rfl | rfl | rfl | rfl
    · exact ⟨z1, _, hZ.z⟩
    · exact ⟨z2, _, hZ.TI⟩
    · exact ⟨z3, hZ.TO.elim fun _ z => z.elim fun _ e => ⟨_, e⟩⟩
    · exact ⟨z4, hZ.i1.imp fun _ z => z.1⟩
    · exact ⟨z5, hZ.i2.imp fun _ z => z.1⟩
  refine ea_EA (htb) ?_
  try clear htb
  intro ps ep hps
  have zP : ∀ b, b ∈ [z, TI, TO, i1, i2] → b ≠ 162 := fun b hb e => by
    have := (inZ b hb).1; rw [e, ep] at this; cases this
  have zC : ∀ b, b ∈ [z, TI, TO, i1, i2] → b ≠ C := fun b hb e => by
    obtain ⟨o, q⟩ := (inZ b hb).2; rw [e, hC0] at q; cases q
  have za : ∀ b, b ∈ [z, TI, TO, i1, i2] → b ≠ a := fun b hb e => by
    obtain ⟨o, q⟩ := (inZ b hb).2; rw [e, ha0] at q; cases q
  have PC : C ≠ 162 := fun e => by have := hle _ _ ep; rw [← e, hC0] at this; cases this
  have Pa : a ≠ 162 := fun e => by have := hle _ _ ep; rw [← e, ha0] at this; cases this
  have nin : ∀ b o, X.h b = some o → b ∉ C :: [z, TI, TO, i1, i2] := fun b o e hm => by
    rcases List.mem_cons.mp hm with q | q
    · have := hle _ _ e; rw [q, hC0] at this; cases this
    · rw [(inZ b q).1] at e; cases e
  have clx : cx ≠ 162 := Tab.ne ⟨ps, ep, hps⟩ e1 (by simp)
  have cly : cy ≠ 162 := Tab.ne ⟨ps, ep, hps⟩ e2 (by simp)
  refine gen_e (upd (upd (upd H 162 o') C oC) a (genObj X.g.size nm qn)) ?_
  intro W hW
  have base : ∀ b o, X.h b = some o → b ≠ 162 → wo W (fun b => b ∈ C :: [z, TI, TO, i1, i2]) b = some o := fun b o e n => by
    refine wo_some.mpr ⟨?_, nin b o e⟩
    have e' := hle _ _ e
    rw [← hW]
    exact upd_other (ne_of_some e' ha0) (upd_other (ne_of_some e' hC0) (upd_other n e'))
  have hgn : W a = some (genObj X.g.size nm qn) := by rw [← hW]; exact upd_self _ _ _
  have hWC : W C = some oC := by rw [← hW]; exact upd_other hCa (upd_self _ _ _)
  have hWP : W 162 = some o' := by rw [← hW]; exact upd_other Pa.symm (upd_other PC.symm (upd_self _ _ _))
  have hWz : ZipAt W z TI TO i1 i2 cx cy 0 := hZ.le fun b hb o e => by
    rw [← hW]; exact upd_other (za b hb) (upd_other (zC b hb) (upd_other (zP b hb) e))
  have tabW : Tab (wo W (fun b => b ∈ C :: [z, TI, TO, i1, i2])) 162 := by
    refine ea_EA (hTab) ?_
    try clear hTab
    intro qs q1 q2
    rw [upd_self] at q1
    refine ⟨qs, wo_some.mpr ⟨hWP.trans q1, fun hm => ?_⟩, q2⟩
    rcases List.mem_cons.mp hm with q | q
    · exact PC q.symm
    · exact zP _ q rfl
  have ga : wo W (fun b => b ∈ C :: [z, TI, TO, i1, i2]) a = some (genObj X.g.size nm qn) := wo_some.mpr ⟨hgn, fun hm => by
    rcases List.mem_cons.mp hm with q | q
    · exact hCa q.symm
    · exact za _ q rfl⟩
  have hcl1 := base _ _ e1 clx
  have hcl2 := base _ _ e2 cly
  have TC1 : TRs (wo W (fun b => b ∈ C :: [z, TI, TO, i1, i2])) cs1 us1 G1 := hC1.bt ⟨ps, ep, hps⟩ base
  have TC2 : TRs (wo W (fun b => b ∈ C :: [z, TI, TO, i1, i2])) cs2 us2 G2 := hC2.bt ⟨ps, ep, hps⟩ base
  have cz : ∀ b, b ∈ [z, TI, TO, i1, i2] → cx ≠ b ∧ cy ≠ b := fun b hb => ⟨ne_of_some e1 (inZ b hb).1, ne_of_some e2 (inZ b hb).1⟩
  refine T_allZip (g := X.g.size) (C := C) (m0 := fun y => if y = Str.ofString ".0" then some (Value.ref z) else none) (xs := us1) (ys := us2) (J := fun i X' => Bt (fun b => b = 162) (wo W (fun b => b ∈ C :: [z, TI, TO, i1, i2])) X'.h ∧ Tab X'.h 162 ∧ GB (X.g.push .running) X'.g ∧ ∀ j < i, cs1[j]? = cs2[j]?)
    (R := fun X' => Bt (fun b => b = 162) (wo W (fun b => b ∈ C :: [z, TI, TO, i1, i2])) X'.h ∧ Tab X'.h 162 ∧ GB (X.g.push .running) X'.g ∧ ∃ j : Nat, cs1[j]? ≠ cs2[j]?)
    O' (by exact bk4 (by assumption) rfl) hl hgn (Array.getElem?_push_size ..) hWz hWC nC ⟨d1, d2, d3, d4, d5, d6, d7, d8, d9, d10, (cz _ (by simp)).1, (cz _ (by simp)).1, (cz _ (by simp)).1, (cz _ (by simp)).1, (cz _ (by simp)).2, (cz _ (by simp)).2, (cz _ (by simp)).2, (cz _ (by simp)).2⟩
    (fun b hb => let ⟨o, e⟩ := (inZ b hb).2; lt b o e) fL rfl (by rfl) (by rfl) (by decide) (by rfl) (by rfl) ?_ ?_ ?_ ?_ ?_ ?_
  · intro i X' zz2
    obtain ⟨bt, _⟩ := zz2
    exact ⟨⟨_, bt _ _ hcl1 clx⟩, ⟨_, bt _ _ hcl2 cly⟩⟩
  · intro i X' zz2
    obtain ⟨bt, _⟩ := zz2
    exact bt _ _ ga Pa
  · refine ⟨Bt.refl _, tabW, ?_, fun j hj => absurd hj (Nat.not_lt_zero _)⟩
    rw [push_set]; exact GB.refl _
  · intro i va vb hb' A2 zz5 hva hvb O2 zz9 hr
    obtain ⟨H2, g2⟩ := zz5
    refine ea_AAA (zz9) ?_
    try clear zz9
    intro bt tb gb hj
    dsimp only at bt tb gb hr ⊢
    refine ea_EEAA ((TC1.bt tabW bt).get hva) ?_
    intro t1 E1 p1 q1 zc164
    clear zc164
    refine ea_EEAA ((TC2.bt tabW bt).get hvb) ?_
    intro t2 E2 p2 q2 zc165
    clear zc165
    have hh := hts_get p1
    walk_at "m:go"
    refine same_ok (d := d) ih O2 (by lia) q1 q2 tb (by lia) (w1.2.get p1) (w2.2.get p2) fun b X' hA hb => ?_
    refine ia_EAAA b rfl (hA.g.at hr) (fun e => ⟨bt.tr hA.bt, hA.tab, gb.trans hA.g, fun j hj' => ?_⟩) (fun e => ⟨bt.tr hA.bt, hA.tab, gb.trans hA.g, i, ?_⟩)
    · by_cases q : j = i
      · subst q; rw [p1, p2, hb.mp e]
      · exact hj j (by lia)
    · rw [p1, p2]
      intro q
      have := hb.mpr (Option.some.inj q)
      rw [this] at e; cases e
  · intro zz0 zz1 hr
    obtain ⟨H2, g2⟩ := zz0
    refine ea_AAA (zz1) ?_
    try clear zz1
    intro bt tb gb hj
    dsimp only at bt tb gb hr ⊢
    walk_at "m:go"
    refine hq true _ ⟨fun b o e n => bt b o (base b o e n) n, tb, gb.run rfl⟩ ⟨fun _ => ?_, fun _ => rfl⟩
    rw [list_ext (a := cs1) (b := cs2) (by lia) (by rw [← hlen1]; exact hj)]
  · intro zz0 gs' hbare zz3 hr
    obtain ⟨H2, g2⟩ := zz0
    refine ea_AAAE (zz3) ?_
    try clear zz3
    intro bt tb gb j hj
    dsimp only at bt tb gb hr ⊢
    walk_at "m:go"
    refine hq false _ ⟨fun b o e n => bt b o (base b o e n) n, tb, gb.run hbare⟩ ⟨nofun, fun e => ?_⟩
    exact absurd (by rw [(Tr.node.inj e).2]) hj
end
end
-- F17a
section
theorem Nd.bt {H H' : Hp} {x dx cl P : Addr} {lab : Str} {vs : List Value} (h : Nd H x dx cl lab vs) (t : Tab H P) (b : Bt (fun b => b = P) H H') : Nd H' x dx cl lab vs :=
  ⟨b _ _ h.hx (t.ne h.hx (by simp)), h.hd.imp fun o z => ⟨b _ _ z.1 (t.ne z.1 (by obtain ⟨_, _, _, _, _, _, rfl⟩ := z.2; simp)), z.2⟩, h.hl.imp fun n e => b _ _ e (t.ne e (by simp))⟩
theorem Tab.kd {H H' : Hp} {P NL : Addr} (t : Tab H P) (b : Bt (fun b => b = P) H H') : Kd NL H H' := fun a o e _ c _ => b a o e (t.ne e c)
theorem Ch.dict {left : Bool} {H : Hp} {hs : List Str} {x dx : Addr} {L : Str} {us : List Value} {N : List Addr} (h : Ch left H hs x L us N) (hx : H x = some (instObj 269 dx)) : H dx ≠ none := by
  have key : ∀ {d c us'}, Nd H x d c L us' → H dx ≠ none := fun {d c us'} hN => by
    have := hN.hx
    rw [hx] at this
    cases this
    refine ea_EA (hN.hd) ?_
    intro o e _
    rw [e]; simp
  induction hs using LsEl with
  | nil => simp only [Ch_e1, Ch_e2] at h; obtain ⟨d, c, hN, _⟩ := h; exact key hN
  | cons V r => simp only [Ch_e1, Ch_e2] at h; obtain ⟨d, c, y, N', u, us', _, hN, _⟩ := h; exact key hN
/-- the last two statements of chomsky_normal_form's inner block -/
noncomputable def stT : List Stmt → Option (List Stmt)
  | [_, _, .While _ [_, .If _ (_ :: _ :: _ :: rest) _ _] _ _] => some rest
  | _ => none
section
variable {f : Fm} {l : Locs} {X : St} {env : Env} {k : Nat}
noncomputable def TailP (f : Fm) (k : Nat) (ss : List Stmt) (env : Env) : Prop := ∀ {l : Locs} {X : St} {KK : Hp → Tr → Prop} {p : List Tr → Tr} {e : Nat} {st : List (Tr × List Str)} {vs us us2 : List Value} {NL x y dy cy pa2 : Addr} {n2 m2 : Nat} {lb mark : Str} {cs2 : List Tr} {F2 : List Addr} {Hc : Hp} {pvs2 : List Value} {par2 : List Str} {left : Bool} {many above : Nat} {t6 tm tc tp th tv tf : Tok} {Q : Flow → Locs → St → Prop} (tb : Tab X.h 162) (hNL : X.h NL = some (listOf us.toArray n2)) (hK : SKs X.h NL (st.map fun s : Tr × List Str => s.2) vs us) (C2 : Cn KK p e (fun a => a = NL ∨ a = 162) Hc ((st.map fun s : Tr × List Str => s.1) ++ [Tr.node lb cs2]) (vs ++ [.ref y]) F2) (hdf : ∀ a o, Hc a = some o → a ≠ dy → ¬ (a = NL ∨ a = 162) → X.h a = some o) (hNc : Nd Hc y dy cy lb us2) (hNy5 : Nd X.h y dy cy (lb ++ mark) us2) (hpa : X.h pa2 = some (listOf pvs2.toArray m2)) (hpn : pa2 ≠ NL) (hSV2 : SV pvs2 par2) (hul : us.length ≤ 60000) (h4 : us2.length ≤ 4) (hlb : lb.length ≤ 100) (hml : mark.length ≤ 1000) (h4c : cs2.length ≤ 4) (hsh : ∀ t ∈ cs2, (lbl t).length ≤ 100) (sb : Sub [(Str.ofString "parent", .ref pa2), (Str.ofString "originalNode", .str lb t6), (Str.ofString "parentString", .str mark tm), (Str.ofString "node", .ref y), (Str.ofString "nodeList", .ref NL), (Str.ofString "tree", .ref x), (Str.ofString "factor", .str (facS left) tf), (Str.ofString "horzMarkov", .int many th), (Str.ofString "vertMarkov", .int above tv), (Str.ofString "childChar", .str (Str.ofString "|") tc), (Str.ofString "parentChar", .str (Str.ofString "^") tp)] l) (hq : ∀ l3 X3 us3 n3 F3, GB X.g X3.g → Tab X3.h 162 → X3.h NL = some (listOf us3.toArray n3) → SKs X3.h NL ((st ++ cs2.map fun t => (t, par2)).map fun s : Tr × List Str => s.2) (vs ++ us2) us3 →
      Cn KK (fun l => p (l.take st.length ++ [mkT left (hds left many (vlab lb mark) (cs2.map lbl) cs2.length) (lb ++ mark) (l.drop st.length)])) (e + 1) (fun a => a = NL ∨ a = 162) X3.h ((st ++ cs2.map fun t => (t, par2)).map fun s : Tr × List Str => s.1) (vs ++ us2) F3 →
      Sub [(Str.ofString "nodeList", .ref NL), (Str.ofString "tree", .ref x), (Str.ofString "factor", .str (facS left) tf), (Str.ofString "horzMarkov", .int many th), (Str.ofString "vertMarkov", .int above tv), (Str.ofString "childChar", .str (Str.ofString "|") tc), (Str.ofString "parentChar", .str (Str.ofString "^") tp)] l3 → Q .next l3 X3),
    T f (execs ss env) l X Q
theorem tail_ok (O : Ok f k) (hk : k < 70) {name qual : Str} {params : Arguments} {body : List Stmt} {scope : Scope} {dV kV doc pm cdv ct oc : Value} {an od : Option Addr} {osl : Array (Option Value)} (ho : (Kh f.w.params).lookup 293 = some ⟨oc, od, .func (fnOf name qual params body scope dV kV doc pm an cdv ct), osl⟩) {ss : List Stmt} (hst : stT body = some ss) : TailP f k ss (envX qual scope f.L 293 cdv []) := by
  have key : ∀ {v : Obj}, (Kh f.w.params).lookup 293 = some v → (⟨oc, od, .func (fnOf name qual params body scope dV kV doc pm an cdv ct), osl⟩ : Obj) = v := fun h => Option.some.inj (ho.symm.trans h)
  refine' (fun e => ?main) (key ?hh)
  case hh => k_is
  cases e
  have e2 := Option.some.inj (show some _ = some ss from hst)
  subst e2
  clear hst key ho
  unfold TailP
  intro l X KK p e st vs us us2 NL x y dy cy pa2 n2 m2 lb mark cs2 F2 Hc pvs2 par2 left many above t6 tm tc tp th tv tf Q tb hNL hK C2 hdf hNc hNy5 hpa hpn hSV2 hul h4 hlb hml h4c hsh sb hq
  refine ea_EEAA (C2.tr.last) ?_
  intro Ea Eb eF zc230 hE2
  clear zc230
  refine ea_EEEEAA (TR.nd hE2) ?_
  try clear hE2
  intro dy' cy' us2' G4 zq231 hNy' hT4
  obtain rfl := zq231
  refine ea_AAA (hNc.same hNy') ?_
  intro zq232 zq233 zc234 zq235
  obtain rfl := zq232
  obtain rfl := zq233
  clear zc234
  obtain rfl := zq235
  clear hNy'
  have ndF := C2.nd
  rw [eF, List.nodup_append] at ndF
  have nd2 := ndF.2.1
  simp only [List.nodup_cons, List.mem_cons, not_or] at nd2
  have hT5 : TRs X.h cs2 us2' G4 := hT4.on fun a ha' o e => hdf a o e (fun z => nd2.2.1.2 (z ▸ ha')) (C2.nl a (by rw [eF]; simp [ha']))
  have cyN : cy' ≠ NL := fun z => C2.nl cy' (by rw [eF]; simp) (.inl z)
  have yN : y ≠ NL := fun z => C2.nl y (by rw [eF]; simp) (.inl z)
  have dyN : dy' ≠ NL := fun z => C2.nl dy' (by rw [eF]; simp) (.inl z)
  have GN : ∀ a, a ∈ G4 → a ≠ NL := fun a ha' z => C2.nl a (by rw [eF]; simp [ha']) (.inl z)
  obtain ⟨ncy, hcy⟩ := id hNy5.hl
  refine T_sub sb ?_
  walk_at "m:go"
  refine TFor_list' O (vs := us2') (n := ncy) (fun i l' X' => X'.g = X.g ∧ (∀ a o, X.h a = some o → a ≠ NL → X'.h a = some o) ∧ (∃ qs n, X'.h NL = some (listOf (us ++ qs).toArray n) ∧ qs.length = i ∧ SKs X'.h NL ((st.map fun s : Tr × List Str => s.2) ++ List.replicate i par2) (vs ++ us2'.take i) (us ++ qs)) ∧
    Sub [(Str.ofString "parent", .ref pa2), (Str.ofString "originalNode", .str lb t6), (Str.ofString "parentString", .str mark tm), (Str.ofString "node", .ref y), (Str.ofString "nodeList", .ref NL), (Str.ofString "tree", .ref x), (Str.ofString "factor", .str (facS left) tf), (Str.ofString "horzMarkov", .int many th), (Str.ofString "vertMarkov", .int above tv), (Str.ofString "childChar", .str (Str.ofString "|") tc), (Str.ofString "parentChar", .str (Str.ofString "^") tp)] l') ?_ ?_ ?_ ?_
  · intro i l' X' zz3
    refine ea_AA (zz3) ?_
    try clear zz3
    intro _ h _
    exact ⟨ncy, h _ _ hcy cyN⟩
  · refine ⟨rfl, fun a o e _ => e, ⟨[], n2, by simpa using hNL, rfl, ?_⟩, by walk_at "m:sub"⟩
    simpa using hK
  · intro i v l2 zz3 it o hv zz7 hit hno
    have zze := zz7.1
    revert hit; revert zz7
    refine StElR zz3 zze ?_
    clear zze
    clear zz3
    intro H6 zz7 hit
    refine ea_AAA (zz7) ?_
    try clear zz7
    intro eg6 hdf6 zq236 sb6
    refine ea_EEAA (zq236) ?_
    try clear zq236
    intro qs n6 hNL6 hql hK6
    clear eg6
    dsimp only at hdf6 hNL6 hK6 hit ⊢
    have hlt : i < us2'.length := (List.getElem?_eq_some_iff.mp hv).1
    have leI := Le.upd (o := o) hit
    have io : upd H6 it o it = some o := upd_self _ _ _
    have nit : NL ≠ it := ne_of_some hNL6 hit
    have hNL7 := leI _ _ hNL6
    have hpa7 := leI _ _ (hdf6 _ _ hpa hpn)
    have pit : pa2 ≠ it := ne_of_some (hdf6 _ _ hpa hpn) hit
    revert leI; revert io; revert hNL7; revert hpa7
    refine gen_x (upd H6 it o) ?_
    intro H7 hpa7 hNL7 io leI
    refine T_sub sb6 ?_
    have hzq : (us ++ qs).length ≤ sizeLine := by rw [sizeLine_eq, List.length_append]; lia
    walk_at "m:go"
    refine inT rfl fun TP hTP => ?_
    walk_at "m:go"
    dsimp only at hTP ⊢
    have nTP : NL ≠ TP := ne_of_some hNL7 hTP
    have iTP : it ≠ TP := ne_of_some io hTP
    refine ⟨rfl, ?_⟩
    walk_at "m:go"
    have kd7 : ∀ n', Kd NL H6 (del (upd (upd H7 TP (tupOf [v, Value.ref pa2].toArray 0)) NL (W.listOf (us ++ qs ++ [Value.ref TP]).toArray n')) it) := fun n' b ob e _ _ n =>
      (del_ne (ne_of_some e hit)).trans (upd_other n (upd_old hTP (leI _ _ e)))
    rename_i n9
    refine ⟨upd_other nit.symm (upd_other iTP io), rfl, fun a ob e n => ?_, ⟨qs ++ [.ref TP], n9, ?_, by simp [hql], ?_⟩, by walk_at "m:sub"⟩
    · exact (del_ne (ne_of_some (hdf6 _ _ e n) hit)).trans (upd_other n (upd_old hTP (leI _ _ (hdf6 _ _ e n))))
    · exact (del_ne nit).trans (by rw [← List.append_assoc]; exact upd_self _ _ _)
    · rw [List.replicate_succ', ← List.append_assoc, take_get hv, ← List.append_assoc, ← List.append_assoc]
      refine SKs.snoc ⟨TP, pa2, 0, m2, pvs2, rfl, ?_, ?_, hpn, hSV2⟩ (hK6.mod hNL6 (kd7 _))
      · exact (del_ne iTP.symm).trans (upd_other nTP.symm (upd_self _ _ _))
      · exact (del_ne pit).trans (upd_other hpn (upd_old hTP hpa7))
  · intro l2 zz1 zz2
    have zze := zz2.1
    revert zz2
    refine StElR zz1 zze ?_
    clear zze
    clear zz1
    intro H6 zz2
    refine ea_AAA (zz2) ?_
    try clear zz2
    intro eg6 hdf6 zq237 sb6
    refine ea_EEAA (zq237) ?_
    try clear zq237
    intro qs n6 hNL6 hql hK6
    clear eg6
    dsimp only at hdf6 hNL6 hK6 ⊢
    walk_at "m:go"
    rw [List.take_length] at hK6
    have hNy6 : Nd H6 y dy' cy' (lb ++ mark) us2' := ⟨hdf6 _ _ hNy5.hx yN, hNy5.hd.imp fun o z => ⟨hdf6 _ _ z.1 dyN, z.2⟩, ⟨ncy, hdf6 _ _ hcy cyN⟩⟩
    have hT6 := hT5.on fun a ha' o e => hdf6 a o e (GN a ha')
    refine T_sub (Sub.trans (show Sub [(Str.ofString "node", Value.ref y), (Str.ofString "originalNode", .str lb t6), (Str.ofString "parentString", .str mark tm), (Str.ofString "nodeList", .ref NL), (Str.ofString "tree", .ref x), (Str.ofString "factor", .str (facS left) tf), (Str.ofString "horzMarkov", .int many th), (Str.ofString "vertMarkov", .int above tv), (Str.ofString "childChar", .str (Str.ofString "|") tc), (Str.ofString "parentChar", .str (Str.ofString "^") tp)] _ by walk_at "m:sub") sb6) ?_
    refine' split_ok (f := f) O (by exact bk1 (by assumption) rfl) ?ho ?hst hNy6 hT6 (by exact bk6 (by assumption) rfl) hlb hml hsh ?hfin
    case ho => k_is
    case hst => rfl
    intro H7 N hold hCh hNd hNn l3 sb3
    walk_at "m:go"
    have hly := hT4.length
    rw [hly] at hCh
    have hNL7 := hold _ _ hNL6 dyN.symm
    have dy162 : dy' ≠ 162 := fun z => C2.nl dy' (by rw [eF]; simp) (.inr z)
    have NL162 := tb.ne hNL (by simp)
    have tb7 : Tab H7 162 := by
      refine ea_EA (tb) ?_
      try clear tb
      intro ps e r
      exact ⟨ps, hold _ _ (hdf6 _ _ e NL162.symm) dy162.symm, r⟩
    refine ea_EA (id hNy6.hd) ?_
    intro od hod hod2
    have kd7 : Kd NL H6 H7 := fun b o e c1 _ _ => hold b o e fun z => by
      rw [z, hod] at e; cases e; obtain ⟨_, _, _, _, _, _, rfl⟩ := hod2; exact c1 rfl
    obtain ⟨F3, C3⟩ := C2.step (H2 := H7) rfl hNc (fun a o e n nz => hold a o (hdf6 a o (hdf a o e n nz) (fun z => nz (.inl z))) n) (fun a hz => by
      rcases hz with rfl | rfl
      · rw [hNL7]; simp
      · obtain ⟨_, e, _⟩ := tb7; rw [e]; simp) (hCh.dict (hold _ _ hNy6.hx hNy6.ne.1)) hCh hNd (fun a hm => by
      rcases hNn a hm with q | q | q | q
      · exact .inl q
      · exact .inr (.inl q)
      · exact .inr (.inr (.inl q))
      · replace q : H6 a = none := q
        refine .inr (.inr (.inr ?_))
        cases z : Hc a with
        | none => rfl
        | some o =>
          by_cases q1 : a = dy'
          · rw [q1, hod] at q; cases q
          · by_cases q2 : a = NL
            · rw [q2, hNL6] at q; cases q
            · by_cases q3 : a = 162
              · refine ea_EA (tb) ?_
                try clear tb
                intro ps e _
                rw [q3, hdf6 _ _ e NL162.symm] at q; cases q
              · rw [hdf6 a o (hdf a o z q1 (fun hz => hz.elim q2 q3)) q2] at q; cases q) (by rw [hds_length]; lia) h4c
    have e1 : ((st ++ cs2.map fun t => (t, par2)).map fun s : Tr × List Str => s.2) = (st.map fun s : Tr × List Str => s.2) ++ List.replicate us2'.length par2 := by
      rw [List.map_append, List.map_map, hly]
      congr 1
      exact List.map_const' ..
    have e2 : ((st ++ cs2.map fun t => (t, par2)).map fun s : Tr × List Str => s.1) = (st.map fun s : Tr × List Str => s.1) ++ cs2 := by
      rw [List.map_append, List.map_map]
      rw [show ((fun x : Tr × List Str => x.1) ∘ fun t => (t, par2)) = id from rfl]; simp
    refine hq l3 _ _ n6 F3 (GB.refl _) tb7 hNL7 (e1 ▸ hK6.mod hNL6 kd7) ?_ sb3
    rw [e2]
    simp only [List.length_map] at C3
    exact C3
end
end
-- F17
section
section
variable {f : Fm} {l : Locs} {X : St} {env : Env} {k : Nat}
theorem cnf_ok (O : Ok f k) (hk : k < 60) {x : Addr} {lab : Str} {cs : List Tr} {left : Bool} {many above : Nat} {F : List Addr} {hv : Value} {tf tv : Tok} {Q : Value → Locs → St → Prop} (hT : TR X.h (.node lab cs) (.ref x) F) (hnd : F.Nodup) (htab : Tab X.h 162) (hS : Sm (.node lab cs)) (hh : hts cs ≤ 19) (hz : nszs cs ≤ 50000) (ha : above ≤ 2)
    (hm : hv = .none ∧ many = 999 ∨ ∃ t, hv = .int many t)
    (hq : ∀ X', CnK x X.h F X'.h (bt left many above [lab] true (.node lab cs)) → Tab X'.h 162 → GB X.g X'.g → Q .none l X') :
    T f (call (.ref 293) [.ref x, .str (facS left) tf, hv, .int above tv]) l X Q := by
  walk_at "m:enter"
  intro f' O'
  refine T_sub (l' := [(Str.ofString "tree", .ref x), (Str.ofString "factor", .str (facS left) tf), (Str.ofString "horzMarkov", hv), (Str.ofString "vertMarkov", .int above tv), (Str.ofString "childChar", .str (Str.ofString "|") _), (Str.ofString "parentChar", .str (Str.ofString "^") _)]) (by walk_at "m:sub") ?_
  have hT0 := hT
  refine ea_EEEEAA (TR.nd hT) ?_
  try clear hT
  intro dx cl us G zq202 hN hC
  obtain rfl := zq202
  have hS0 := hS
  simp only [Sm_e1, Sm_e2] at hS
  have hlen := hC.length
  walk_at "m:go"
  refine T_cut (fun l' X' => X' = X ∧ ∃ th tc tp, l'.lookup (Str.ofString "tree") = some (.ref x) ∧ Sub [(Str.ofString "tree", .ref x), (Str.ofString "factor", .str (facS left) tf), (Str.ofString "horzMarkov", .int many th), (Str.ofString "vertMarkov", .int above tv), (Str.ofString "childChar", .str (Str.ofString "|") tc), (Str.ofString "parentChar", .str (Str.ofString "^") tp)] l') ?_ ?_
  · rcases hm with ⟨rfl, rfl⟩ | ⟨th, rfl⟩
    · refine T_if1 ?_
      walk_at "m:go"
      refine ⟨rfl, ?_⟩
      walk_at "m:go"
      exact ⟨rfl, rfl, _, _, _, rfl, by walk_at "m:sub"⟩
    · refine T_if0 ?_
      walk_at "m:go"
      refine ⟨rfl, ?_⟩
      walk_at "m:go"
      exact ⟨rfl, rfl, _, _, _, rfl, by walk_at "m:sub"⟩
  intro l1 X1 zz2
  refine ea_AEEEA (zz2) ?_
  try clear zz2
  intro eX th tc tp zc203 sb
  clear zc203
  rw [eX]
  refine T_sub sb ?_
  walk_at "m:go"
  refine label_ok O' (by exact bk2 (by assumption) rfl) hN fun t1 => ?_
  walk_at "m:go"
  refine inL rfl fun pa hpa => ?_
  walk_at "m:go"
  refine inT rfl fun tp0 htp => ?_
  walk_at "m:go"
  refine inL rfl fun NL hNL => ?_
  walk_at "m:go"
  dsimp only at hpa htp hNL ⊢
  have n162 : 162 ∉ x :: dx :: cl :: G := fun hm => by
    refine ea_EA (TR_cls.1 _ _ _ hT0 _ hm) ?_
    intro o e c
    exact htab.ne e c rfl
  have le1 := ((Le.upd (o := listOf [Value.str lab t1].toArray 0) hpa).trans (Le.upd (o := tupOf [Value.ref x, Value.ref pa].toArray 0) htp)).trans (Le.upd (o := listOf [Value.ref tp0].toArray 0) hNL)
  have hNX : X.h NL = none := (upd_none (upd_none hNL).2).2
  refine ea_EA (id htab) ?_
  intro ps0 hps0 hps1
  have C0 := Cn.start hT0 hnd le1 hNX (in_of (upd_self _ _ _)) n162 (in_of (le1 _ _ hps0))
  have hpaN : pa ≠ NL := ne_of_some (upd_other (ne_of_some (upd_self _ _ _) htp) (upd_self _ _ _)) hNL
  have htpN : tp0 ≠ NL := ne_of_some (upd_self _ _ _) hNL
  have hpatp : pa ≠ tp0 := ne_of_some (upd_self _ _ _) htp
  have K0 : SKs (upd (upd (upd X.h pa (listOf [Value.str lab t1].toArray 0)) tp0 (tupOf [Value.ref x, Value.ref pa].toArray 0)) NL (listOf [Value.ref tp0].toArray 0)) NL [[lab]] [.ref x] [.ref tp0] := by
    simp only [SKs_e1, SKs_e2]
    exact ia_EEEEAAAA _ ([]) _ ([]) rfl rfl ⟨tp0, pa, 0, 0, _, rfl, upd_other htpN (upd_self _ _ _), upd_other hpaN (upd_other hpatp (upd_self _ _ _)), hpaN, .one _ _⟩ rfl rfl
  have hN0 : upd (upd (upd X.h pa (listOf [Value.str lab t1].toArray 0)) tp0 (tupOf [Value.ref x, Value.ref pa].toArray 0)) NL (listOf [Value.ref tp0].toArray 0) NL = some (listOf [Value.ref tp0].toArray 0) := upd_self _ _ _
  have T0 : Tab (upd (upd (upd X.h pa (listOf [Value.str lab t1].toArray 0)) tp0 (tupOf [Value.ref x, Value.ref pa].toArray 0)) NL (listOf [Value.ref tp0].toArray 0)) 162 := ⟨ps0, le1 _ _ hps0, hps1⟩
  revert C0; revert K0; revert hN0; revert T0
  refine gen_x (upd (upd (upd X.h pa (listOf [Value.str lab t1].toArray 0)) tp0 (tupOf [Value.ref x, Value.ref pa].toArray 0)) NL (listOf [Value.ref tp0].toArray 0)) ?_
  intro H1 T0 hN0 K0 C0
  clear le1 hNL htp hpa hpaN htpN hpatp hps0 hps1 n162
  have V0 : Cv left many above (bt left many above [lab] true (.node lab cs)) (fun l => l.headD (.leaf dash)) 0 [(.node lab cs, [lab])] := by
    refine ⟨fun _ => ⟨⟨_, rfl⟩, fun t => rfl⟩, rfl, fun s hs => ?_, ?_⟩
    · rw [List.mem_singleton.mp hs]
      exact ⟨hS0, by simp only [ht]; exact bk8 (by assumption) rfl, by simp, fun s hs => by rw [List.mem_singleton.mp hs]; exact hS.1⟩
    · simp only [List.map_singleton, nszs_e1, nszs_e2, nsz_e1, nsz_e2]; exact bk9 (by assumption) rfl
  revert C0
  refine gen_e (CnK x X.h (x :: dx :: cl :: G)) ?_
  intro KK hKe C0
  revert V0; revert hq
  refine gen_e (bt left many above [lab] true (.node lab cs)) ?_
  intro Ts hTe hq V0
  refine T_while (ι := List (Tr × List Str)) (fun _ => [(Str.ofString "nodeList", .ref NL), (Str.ofString "tree", .ref x), (Str.ofString "factor", .str (facS left) tf), (Str.ofString "horzMarkov", .int many th), (Str.ofString "vertMarkov", .int above tv), (Str.ofString "childChar", .str (Str.ofString "|") tc), (Str.ofString "parentChar", .str (Str.ofString "^") tp)])
    (fun (st : List (Tr × List Str)) X' => ∃ vs us n F p e, GB X.g X'.g ∧ Tab X'.h 162 ∧ X'.h NL = some (listOf us.toArray n) ∧ SKs X'.h NL (st.map fun s : Tr × List Str => s.2) vs us ∧ Cn KK p e (fun a => a = NL ∨ a = 162) X'.h (st.map fun s : Tr × List Str => s.1) vs F ∧ Cv left many above Ts p e st) (fun st => nszs (st.map (·.1))) ?_ [(.node lab cs, [lab])] ⟨_, _, _, _, _, _, GB.refl _, T0, hN0, K0, C0, V0⟩ (by walk_at "m:sub")
  clear V0 C0 K0 hN0 T0
  intro st zz1 zz2
  obtain ⟨H2, g2⟩ := zz1
  refine ea_EEEEEEAAAAA (zz2) ?_
  try clear zz2
  intro vs us n F1 p e gb tb hNL hK C1 V1
  dsimp only at gb tb hNL hK C1 ⊢
  walk_at "m:go"
  refine inL rfl fun E hE => ?_
  have hNE : NL ≠ E := ne_of_some hNL hE
  refine T_neNil O' (upd_other hNE hNL) (upd_self _ _ _) ?_
  walk_at "m:go"
  have le2 := Le.upd (o := listOf [].toArray 0) hE
  dsimp only at le2 hE ⊢
  have Zin : ∀ {H : Hp} {us : List Value} {n : Nat}, Tab H 162 → H NL = some (listOf us.toArray n) → ∀ a, a = NL ∨ a = 162 → H a ≠ none := fun t e a ha => by
    rcases ha with rfl | rfl
    · rw [e]; simp
    · obtain ⟨_, e, _⟩ := t; rw [e]; simp
  replace tb : Tab (upd H2 E (listOf [].toArray 0)) 162 := tb.imp fun ps z => ⟨le2 _ _ z.1, z.2⟩
  replace hK := hK.mod hNL le2.kd
  replace hNL := le2 _ _ hNL
  replace C1 := C1.mod (fun a o e _ => le2 a o e) (Zin tb hNL)
  revert hNL; revert C1; revert hK; revert tb
  refine gen_x (upd H2 E (listOf [].toArray 0)) ?_
  intro H3 tb hK C1 hNL
  clear le2 hE hNE
  obtain ⟨hlv, hlu⟩ := hK.length
  rcases List.eq_nil_or_concat st with rfl | ⟨st, s, rfl⟩
  · obtain rfl : us = [] := List.eq_nil_of_length_eq_zero (by simpa using hlu)
    refine ite_f (by simp) ?_
    walk_at "m:go"
    have h1 := C1.now
    have h2 := V1.tg
    simp only [tgs, List.map_nil] at h1 h2
    rw [h2, ← hKe] at h1
    exact hq _ h1 tb gb
  rw [List.concat_eq_append] at *
  obtain ⟨t, par⟩ := s
  rw [List.map_append, List.map_singleton] at hK C1 hlu hlv
  dsimp only at hK C1
  refine ea_EEEEAAA (hK.last) ?_
  intro vs v us u zq204 zq205 hI hK2
  obtain rfl := zq204
  obtain rfl := zq205
  clear hK
  have hns := V1.sz
  have hnl := len_nszs ((st ++ [(t, par)]).map (·.1))
  simp only [List.length_map, List.length_append, List.length_cons, List.length_nil] at hnl hlu hlv
  refine ite_t (by cases us <;> rfl) ?_
  walk_at "m:go"
  refine T_assign_pair O' ?_ (by rfl) (by rfl)
  walk_at "m:go"
  refine T_pop hNL (by rw [sizeLine_eq]; lia) fun n2 => ?_
  have htn := hI.ne hNL
  refine ea_EEEEEAAAA (hI) ?_
  try clear hI
  intro tp1 pa n1 m1 pvs zq206 h1 h2 h3 hSV
  obtain rfl := zq206
  replace htn := htn tp1 rfl
  refine inPr (upd_other htn h1) ?_
  have kd4 : Kd NL H3 (upd H3 NL (listOf us.toArray n2)) := fun b o e _ _ n => upd_other n e
  refine T_hp (fun H => H NL = some (listOf us.toArray n2) ∧ Tab H 162 ∧ SKs H NL (st.map (·.2)) vs us ∧ H pa = some (listOf pvs.toArray m1) ∧ Cn KK p e (fun a => a = NL ∨ a = 162) H (st.map (·.1) ++ [t]) (vs ++ [v]) F1) ⟨upd_self _ _ _, ?_, hK2.mod hNL kd4, upd_other h3 h2, C1.mod (fun a o e n => upd_other (fun z => n (.inl z)) e) (Zin (n := n2) ?_ (upd_self _ _ _))⟩ ?_
  · refine ea_EA (tb) ?_
    try clear tb
    intro ps e r
    exact ⟨ps, upd_other (fun z => by rw [z, hNL] at e; have := congrArg (Option.map Obj.cls) e; simp at this) e, r⟩
  · refine ea_EA (tb) ?_
    try clear tb
    intro ps e r
    exact ⟨ps, upd_other (fun z => by rw [z, hNL] at e; have := congrArg (Option.map Obj.cls) e; simp at this) e, r⟩
  clear kd4 h1 h2 hK2 C1 hNL tb
  intro H4 zz1
  refine ea_AAAA (zz1) ?_
  try clear zz1
  intro hNL tb hK hpa C1
  walk_at "m:go"
  refine ea_AA (V1.ok (t, par) (by simp)) ?_
  intro hSt hht hps
  dsimp only at hSt hht hps
  induction t using TrEl with
  | leaf c =>
    have C2 := C1.leaf rfl
    refine ea_EEAA (C1.tr.last) ?_
    intro E1 E2 zc207 zc208 h2
    clear zc207
    clear zc208
    simp only [TR_e1, TR_e2] at h2
    refine ea_AE (h2) ?_
    try clear h2
    intro zc209 tcc zq210
    clear zc209
    obtain rfl := zq210
    refine T_if0 ?_
    walk_at "m:go"
    refine ⟨rfl, ?_⟩
    walk_at "m:go"
    have V2 := V1.leaf
    have hs2 : nszs ((st ++ [(Tr.leaf c, par)]).map (·.1)) = nszs (st.map (·.1)) + 1 := by rw [List.map_append, List.map_singleton, nszs_snoc]; rfl
    exact ⟨st, by lia, ⟨_, _, n2, _, _, _, gb, tb, hNL, hK, C2, V2⟩, by walk_at "m:sub"⟩
  | node lb cs2 =>
    refine ea_EEAA (C1.tr.last) ?_
    intro E1 E2 zc211 zc212 h2
    clear zc211
    clear zc212
    have h2' := h2
    simp only [TR_e1, TR_e2] at h2
    refine ea_EEEEEAAA (h2) ?_
    try clear h2
    intro y dy cy us2 G3 zq213 zc214 hNy hCy
    obtain rfl := zq213
    clear zc214
    have hly := hCy.length
    simp only [Sm_e1, Sm_e2] at hSt
    simp only [ht] at hht
    refine T_if1 ?_
    walk_at "m:go"
    refine ⟨rfl, ?_⟩
    walk_at "m:go"
    refine label_ok O' (by exact bk2 (by assumption) rfl) hNy fun t5 => ?_
    walk_at "m:go"
    have hlc : (st.map fun s : Tr × List Str => s.1) ++ [Tr.node lb cs2] = (st ++ [(Tr.node lb cs2, par)]).map fun s : Tr × List Str => s.1 := by simp
    have hSms : ∀ t ∈ (st ++ [(Tr.node lb cs2, par)]).map (fun s : Tr × List Str => s.1), Sm t := fun t ht' => by
      refine ea_EA (List.mem_map.mp ht') ?_
      intro s hs zq215
      obtain rfl := zq215
      exact (V1.ok s hs).1
    have hzy : us2.length ≤ sizeLine := by rw [sizeLine_eq]; lia
    refine gen_e (mk1 above par (e == 0) cs2) ?_
    intro mark hmk
    refine gen_e (pr1 above par (e == 0) lb cs2) ?_
    intro par2 hpr
    refine T_cut (fun l' X' => ∃ Hc F2, GB X.g X'.g ∧ Tab X'.h 162 ∧ X'.h NL = some (listOf us.toArray n2) ∧ SKs X'.h NL (st.map fun s : Tr × List Str => s.2) vs us ∧ Cn KK p e (fun a => a = NL ∨ a = 162) Hc ((st.map fun s : Tr × List Str => s.1) ++ [Tr.node lb cs2]) (vs ++ [.ref y]) F2 ∧ (∀ a o, Hc a = some o → a ≠ dy → ¬ (a = NL ∨ a = 162) → X'.h a = some o) ∧
      Nd Hc y dy cy lb us2 ∧ Nd X'.h y dy cy (lb ++ mark) us2 ∧ ∃ pa' pvs' m' tm t6, X'.h pa' = some (listOf pvs'.toArray m') ∧ pa' ≠ NL ∧ SV pvs' par2 ∧ Sub [(Str.ofString "parent", .ref pa'), (Str.ofString "originalNode", .str lb t6), (Str.ofString "parentString", .str mark tm), (Str.ofString "node", .ref y), (Str.ofString "nodeList", .ref NL), (Str.ofString "tree", .ref x), (Str.ofString "factor", .str (facS left) tf), (Str.ofString "horzMarkov", .int many th), (Str.ofString "vertMarkov", .int above tv), (Str.ofString "childChar", .str (Str.ofString "|") tc), (Str.ofString "parentChar", .str (Str.ofString "^") tp)] l') ?_ ?_
    · refine T_ifc (fun b l' X' => b = marks above (e == 0) cs2 ∧ GB X.g X'.g ∧ Tab X'.h 162 ∧ X'.h NL = some (listOf us.toArray n2) ∧ SKs X'.h NL (st.map fun s : Tr × List Str => s.2) vs us ∧ X'.h pa = some (listOf pvs.toArray m1) ∧ Nd X'.h y dy cy lb us2 ∧ Cn KK p e (fun a => a = NL ∨ a = 162) X'.h ((st.map fun s : Tr × List Str => s.1) ++ [Tr.node lb cs2]) (vs ++ [.ref y]) F1 ∧
        ∃ tm t6, Sub [(Str.ofString "parent", .ref pa), (Str.ofString "originalNode", .str lb t6), (Str.ofString "parentString", .str (Str.ofString "") tm), (Str.ofString "node", .ref y), (Str.ofString "nodeList", .ref NL), (Str.ofString "tree", .ref x), (Str.ofString "factor", .str (facS left) tf), (Str.ofString "horzMarkov", .int many th), (Str.ofString "vertMarkov", .int above tv), (Str.ofString "childChar", .str (Str.ofString "|") tc), (Str.ofString "parentChar", .str (Str.ofString "^") tp)] l') ?_ ?_ ?_
      · walk_at "m:go"
        by_cases h0 : above = 0
        · refine ite_f (by simp [h0]) ?_
          exact ia_AAAAAAAAEE (by simp [marks, hdN, h0]) gb tb hNL hK hpa hNy C1 _ _ (by walk_at "m:sub")
        refine ite_t (by simpa using h0) ?_
        walk_at "m:go"
        have hnow := C1.now
        rw [← hKe] at hnow
        refine ea_EAAA (hnow) ?_
        try clear hnow
        intro F3 zc216 hTx zc217 zc218
        clear zc216
        clear zc217
        clear zc218
        have hwp := C1.wd _ rfl (Sm_Wd.2 _ (Sms.of (by rw [hlc]; exact hSms)))
        have hiff := V1.eq (by simpa using C1.sz)
        dsimp only at hiff
        rw [← hlc] at hiff
        revert hTx; revert hwp; revert hiff
        refine gen_x (p ((st.map fun s : Tr × List Str => s.1) ++ [Tr.node lb cs2])) ?_
        intro TT hiff hwp hTx
        induction TT using TrEl with
        | leaf c =>
          simp only [TR_e1, TR_e2] at hTx
          refine ea_AE (hTx) ?_
          try clear hTx
          intro zc219 _ e
          clear zc219
          cases e
        | node Lx csx =>
          have hTx' := hTx
          refine ea_EEEEAA (TR.nd hTx) ?_
          try clear hTx
          intro dx2 cx2 usx Gx zc220 hNx zc221
          clear zc220
          clear zc221
          refine T_eq_tree O' hNy hNx (eq_ok 20 O' (by exact bk5 (by assumption) rfl) h2' hTx' tb (by lia) (Sm_Wd.1 _ (by simp only [Sm_e1, Sm_e2]; exact hSt)) hwp fun b X' hA hb => ⟨nofun, ?_⟩)
          have hbe := hb.trans hiff
          obtain rfl : b = (e == 0) := by cases b <;> simp at hbe ⊢ <;> omega
          clear hb hbe hiff hTx' hNx hwp
          have hNL5 := hA.bt _ _ hNL (tb.ne hNL (by simp))
          have hK5 := hK.mod hNL (tb.kd hA.bt)
          have hpa5 := hA.bt _ _ hpa (tb.ne hpa (by simp))
          have hNy5 := hNy.bt tb hA.bt
          have C5 := C1.mod (fun a o e n => hA.bt a o e (fun z => n (.inr z))) (Zin hA.tab hNL5)
          have gb5 := gb.trans hA.g
          have tb5 := hA.tab
          walk_at "m:go"
          by_cases he : e = 0
          · refine ite_f (by simp [he]) ?_
            exact ia_AAAAAAAAEE (by simp [marks, hdN, he]) gb5 tb5 hNL5 hK5 hpa5 hNy5 C5 _ _ (by walk_at "m:sub")
          refine ite_t (by simp [he]) ?_
          induction cs2 using LsEl with
          | nil => exact absurd hSt.2.1 (by simp)
          | cons c0 cr =>
            simp only [TRs_e1, TRs_e2] at hCy
            refine ea_EEEEAAA (hCy) ?_
            try clear hCy
            intro v0 vr Fa Fb zq222 zc223 hv0 zc224
            obtain rfl := zq222
            clear zc223
            clear zc224
            replace hv0 := hv0.bt tb hA.bt
            walk_at "m:go"
            refine get_ok O' (by exact bk2 (by assumption) rfl) hNy5 (v := v0) (by decide) (by decide) rfl ?_ (by with_unfolding_all rfl)
            have hab : 0 < above := by lia
            induction c0 using TrEl with
            | leaf c =>
              simp only [TR_e1, TR_e2] at hv0
              refine ea_AE (hv0) ?_
              try clear hv0
              intro zc225 _ zq226
              clear zc225
              obtain rfl := zq226
              walk_at "m:go"
              exact ia_AAAAAAAAEE (by simp [marks, hdN, isNode]) gb5 tb5 hNL5 hK5 hpa5 hNy5 C5 _ _ (by walk_at "m:sub")
            | node l0 c00 =>
              simp only [TR_e1, TR_e2] at hv0
              refine ea_EEEEEAAA (hv0) ?_
              try clear hv0
              intro _ _ _ _ _ zq227 zc228 hN0 zc229
              obtain rfl := zq227
              clear zc228
              clear zc229
              walk_at "m:go"
              exact ia_AAAAAAAAEE (by simp [marks, hdN, isNode, he, hab]) gb5 tb5 hNL5 hK5 hpa5 hNy5 C5 _ _ (by walk_at "m:sub")
      · intro l' zz1 zz2
        obtain ⟨H5, g5⟩ := zz1
        refine ea_AAAAAAAAEE (zz2) ?_
        try clear zz2
        intro hb gb tb hNL hK hpa hNy C1 tm t6 sb
        dsimp only at gb tb hNL hK hpa hNy C1 ⊢
        refine T_sub sb ?_
        walk_at "m:go"
        have hm2 : marks above (e == 0) cs2 = true := hb.symm
        have hab : 1 ≤ above := by
          rcases Nat.eq_zero_or_pos above with z | z
          · rw [z] at hm2; simp [marks, hdN] at hm2
          · exact z
        have em : mark = (caretS ++ jo par) ++ gtS := by rw [← hmk]; unfold mk1; rw [hm2]; rfl
        have ep : par2 = lb :: par.take (above - 1) := by rw [← hpr]; unfold pr1; rw [hm2]; rfl
        have ec : Str.ofString "^" ++ Str.ofString "<" = caretS := by decide +kernel
        have q1 : caretS.length = 2 := by decide +kernel
        have q2 : gtS.length = 1 := by decide +kernel
        have hjl : (jo par).length ≤ 303 := jo_len hps
        refine T_cat (by decide +kernel) fun t7 => ?_
        rw [ec]
        walk_at "m:go"
        refine T_joinV hpa hSV (hps.join (by lia)) fun t8 => ?_
        walk_at "m:go"
        refine T_cat (by rw [sizeLine_eq, q1]; have : (Txt.join (Str.ofString "-") par).length ≤ 303 := hjl; lia) fun t9 => ?_
        walk_at "m:go"
        refine T_cat (by rw [sizeLine_eq, Str.length_append', q1]; have : (Txt.join (Str.ofString "-") par).length ≤ 303 := hjl; have : (Str.ofString ">").length = 1 := q2; lia) fun t10 => ?_
        rw [show (caretS ++ Txt.join (Str.ofString "-") par) ++ Str.ofString ">" = mark from em.symm]
        have hml : mark.length ≤ 310 := by rw [em, Str.length_append', Str.length_append', q1, q2]; lia
        walk_at "m:go"
        refine label_ok O' (by exact bk2 (by assumption) rfl) hNy fun t11 => ?_
        walk_at "m:go"
        refine T_cat (by rw [sizeLine_eq]; lia) fun t12 => ?_
        walk_at "m:go"
        refine set_label_ok O' (by exact bk2 (by assumption) rfl) hNy fun o' ho' => ?_
        have pdy := (hNy.noL hpa).2.symm
        have ndy := (hNy.noL hNL).2.symm
        have ne := hNy.ne
        refine ea_EA (id hNy.hd) ?_
        intro od hod hod2
        obtain ⟨nl0, hl0⟩ := id hNy.hl
        have kd6 : Kd NL H5 (upd H5 dy o') := fun b o e c1 c2 n => upd_other (fun z => by rw [z, hod] at e; cases e; obtain ⟨_, _, _, _, _, _, rfl⟩ := hod2; exact c1 rfl) e
        refine ⟨rfl, Then_next ?_⟩
        refine' T_hp (fun H => Tab H 162 ∧ H NL = some (listOf us.toArray n2) ∧ SKs H NL (st.map fun s : Tr × List Str => s.2) vs us ∧ (∀ a o, H5 a = some o → a ≠ dy → ¬ (a = NL ∨ a = 162) → H a = some o) ∧ Nd H y dy cy (lb ++ mark) us2 ∧ H pa = some (listOf pvs.toArray m1)) ?hh ?_
        case hh =>
          refine ⟨?_, upd_other ndy hNL, hK.mod hNL kd6, fun a o e n _ => upd_other n e, ⟨upd_other ne.1 hNy.hx, ⟨o', upd_self _ _ _, ho'⟩, ⟨nl0, upd_other ne.2.2.symm hl0⟩⟩, upd_other pdy hpa⟩
          refine ea_EA (tb) ?_
          try clear tb
          intro ps e r
          exact ⟨ps, upd_other (fun z => by rw [z, hod] at e; obtain ⟨_, _, _, _, _, _, rfl⟩ := hod2; have := congrArg (Option.map Obj.cls) e; simp at this) e, r⟩
        intro H6 zz1
        refine ea_AAAAA (zz1) ?_
        try clear zz1
        intro tb6 hNL6 hK6 hdf hNy6 hpa6
        walk_at "m:go"
        refine inL rfl fun E0 hE0 => ?_
        have leE := Le.upd (o := listOf [Value.str lb t6].toArray 0) hE0
        have hE1 : upd H6 E0 (listOf [Value.str lb t6].toArray 0) E0 = some (listOf [Value.str lb t6].toArray 0) := upd_self _ _ _
        dsimp only at leE ⊢
        revert leE; revert hE1
        refine gen_x (upd H6 E0 (listOf [Value.str lb t6].toArray 0)) ?_
        intro H7 hE1 leE
        have hpa7 := leE _ _ hpa6
        walk_at "m:go"
        rw [show (above : Int) - 1 = ((above - 1 : Nat) : Int) by lia]
        have hpvl := hSV.length
        have hpl := hps.1
        refine inSl (lo := none) (hi := some ((above - 1 : Nat) : Int)) hpa7 (by rw [sizeLine_eq]; lia) .none (.int _ _) fun W hW => ?_
        rw [pick_to]
        have leW := Le.upd (o := listOf (pvs.take (above - 1)).toArray 0) hW
        have hW1 : upd H7 W (listOf (pvs.take (above - 1)).toArray 0) W = some (listOf (pvs.take (above - 1)).toArray 0) := upd_self _ _ _
        dsimp only at leW ⊢
        revert leW; revert hW1
        refine gen_x (upd H7 W (listOf (pvs.take (above - 1)).toArray 0)) ?_
        intro H8 hW1 leW
        refine T_listAdd (leW _ _ hE1) hW1 (by rw [sizeLine_eq]; simp; lia) fun R hR => ?_
        walk_at "m:go"
        have le9 := (leE.trans leW).trans (Le.upd (o := listOf ([Value.str lb t6] ++ pvs.take (above - 1)).toArray 0) hR)
        refine ⟨rfl, H5, F1, gb, tb6.imp fun ps z => ⟨le9 _ _ z.1, z.2⟩, le9 _ _ hNL6, hK6.mod hNL6 le9.kd, C1, fun a o e n1 n3 => le9 _ _ (hdf a o e n1 n3), hNy, hNy6.le le9, R, _, 0, _, t6, upd_self _ _ _, ?_, ?_, by walk_at "m:sub"⟩
        · exact (ne_of_some (leE.trans leW _ _ hNL6) hR).symm
        · rw [ep]; exact (SV.one lb t6).append (hSV.take _)
      · intro l' zz1 zz2
        obtain ⟨H5, g5⟩ := zz1
        refine ea_AAAAAAAAEE (zz2) ?_
        try clear zz2
        intro hb gb tb hNL hK hpa hNy C1 tm t6 sb
        dsimp only at gb tb hNL hK hpa hNy C1 ⊢
        walk_at "m:go"
        have em : mark = Str.ofString "" := by rw [← hmk]; unfold mk1; rw [← hb]; rfl
        have ep : par2 = par := by rw [← hpr]; unfold pr1; rw [← hb]; rfl
        rw [em, ep]
        refine ⟨rfl, H5, F1, gb, tb, hNL, hK, C1, fun a o e _ _ => e, hNy, ?_, pa, pvs, m1, tm, t6, hpa, h3, hSV, sb⟩
        rw [show lb ++ Str.ofString "" = lb from Str.append_empty lb]
        exact hNy
    intro l' zz1 zz2
    obtain ⟨H5, g5⟩ := zz1
    refine ea_EEAAAAAAAAEEEEEAAA (zz2) ?_
    try clear zz2
    intro Hc F2 gb tb hNL hK C2 hdf hNc hNy5 pa2 pvs2 m2 tm t6 hpa hpn hSV2 sb
    refine' tail_ok (f := f') O' (by exact bk2 (by assumption) rfl) ?ho ?hst tb hNL hK C2 hdf hNc hNy5 hpa hpn hSV2 (by lia) (by lia) hSt.1 ?hml hSt.2.2.1 (fun t ht' => (hSt.2.2.2.mem ht').lbl) sb ?hfin
    case ho => k_is
    case hst => rfl
    case hml =>
      rw [← hmk]
      unfold mk1
      split
      · have : (jo par).length ≤ 303 := jo_len hps
        have q1 : caretS.length = 2 := by decide +kernel
        have q2 : gtS.length = 1 := by decide +kernel
        rw [Str.length_append', Str.length_append', q1, q2]; lia
      · decide +kernel
    intro l3 X3 us3 n3 F3 gb3 tb3 hN3 hK3 C3 sb3
    have V2 := V1.step ha
    rw [hmk, hpr] at V2
    walk_at "m:go"
    refine ⟨st ++ cs2.map fun t => (t, par2), ?_, ⟨_, us3, n3, F3, _, _, gb.trans gb3, tb3, hN3, hK3, C3, V2⟩, sb3⟩
    rw [List.map_append, List.map_append, nszs_append, nszs_append, List.map_map, List.map_singleton]
    rw [show cs2.map ((fun s : Tr × List Str => s.1) ∘ fun t => (t, par2)) = cs2 by
      rw [show ((fun x : Tr × List Str => x.1) ∘ fun t => (t, par2)) = id from rfl]; simp]
    simp only [nszs_e1, nszs_e2, nsz_e1, nsz_e2]; lia
end
end
-- P12
section
/-- a stack of trees, and what all comes to (without sizes) -/
structure Cm (K : Hp → Tr → Prop) (p : List Tr → Tr) (Z : Addr → Prop) (H : Hp) (ts : List Tr) (vs : List Value) (F : List Addr) : Prop where
  tr : TRs H ts vs F
  nd : F.Nodup
  nl : ∀ a, a ∈ F → ¬ Z a
  zin : ∀ a, Z a → H a ≠ none
  out : ∀ H' F' ts', (∀ a o, H a = some o → a ∉ F → ¬ Z a → H' a = some o) → TRs H' ts' vs F' → F'.Nodup → (∀ a, a ∈ F' → a ∈ F ∨ H a = none) → K H' (p ts')
section
variable {K : Hp → Tr → Prop} {p : List Tr → Tr} {Z : Addr → Prop} {H H2 : Hp} {ts cs : List Tr} {vs us ws : List Value} {F : List Addr}
theorem Cm.mod (h : Cm K p Z H ts vs F) (k : ∀ a o, H a = some o → ¬ Z a → H2 a = some o) (zin : ∀ a, Z a → H2 a ≠ none) : Cm K p Z H2 ts vs F where
  tr := h.tr.on fun a ha o e => k a o e (h.nl a ha)
  nd := h.nd
  nl := h.nl
  zin := zin
  out := fun H' F' ts' p1 p2 p3 p4 => h.out H' F' ts' (fun a o e n1 n2 => p1 a o (k a o e n2) n1 n2) p2 p3 fun a ha => by
    rcases p4 a ha with q | q
    · exact .inl q
    · refine .inr ?_
      cases e : H a with
      | none => rfl
      | some o =>
        by_cases z : Z a
        · exact absurd q (zin a z)
        · rw [k a o e z] at q; cases q
theorem Cm.now (h : Cm K p Z H ts vs F) : K H (p ts) := h.out H F ts (fun _ _ e _ _ => e) h.tr h.nd fun _ ha => .inl ha
theorem Cm.leaf {c : Str} {v : Value} (h : Cm K p Z H (ts ++ [.leaf c]) ws F) (ew : ws = vs ++ [v]) : Cm K (fun l => p (l ++ [.leaf c])) Z H ts vs F := by
  subst ew
  refine ea_EEAA (h.tr.last) ?_
  intro F1 G1 zq345 h1 h2
  obtain rfl := zq345
  simp only [TR_e1, TR_e2] at h2
  obtain ⟨rfl, hu⟩ := h2
  try simp only [List.append_nil] at h ⊢
  refine ⟨h1, h.nd, h.nl, h.zin, fun H' F' ts' p1 p2 p3 p4 => h.out H' F' (ts' ++ [.leaf c]) p1 ?_ p3 p4⟩
  have : TRs H' [Tr.leaf c] [v] [] := TRs.one (by simp only [TR_e1, TR_e2, true_and]; exact hu)
  simpa using p2.append this
/-- a node gets another label and other children -/
theorem split_nd {x : Addr} : ∀ {A B C D : List Addr}, (A ++ x :: B).Nodup → A ++ x :: B = C ++ x :: D → A = C ∧ B = D := by
  intro A
  induction A with
  | nil =>
    intro B C D n e
    induction C using LsEl with
    | nil => simp at e; exact ⟨rfl, e⟩
    | cons c C =>
      simp only [List.nil_append, List.cons_append, List.cons.injEq] at e
      obtain ⟨rfl, e⟩ := e
      simp only [List.nil_append, List.nodup_cons] at n
      exact absurd (by rw [e]; simp) n.1
  | cons a A ih =>
    intro B C D n e
    induction C using LsEl with
    | nil =>
      simp only [List.nil_append, List.cons_append, List.cons.injEq] at e
      obtain ⟨rfl, e⟩ := e
      simp only [List.cons_append, List.nodup_cons] at n
      exact absurd (by simp) n.1
    | cons c C =>
      simp only [List.cons_append, List.cons.injEq] at e
      simp only [List.cons_append, List.nodup_cons] at n
      obtain ⟨e1, e2⟩ := ih n.2 e.2
      exact ⟨by rw [e.1, e1], e2⟩
theorem Cm.step {lab L : Str} {x dx cl c2 : Addr} {ts2 : List Tr} {vs2 : List Value} {G2 : List Addr} (h : Cm K p Z H (ts ++ [.node lab cs]) ws F) (ew : ws = vs ++ [.ref x]) (hN : Nd H x dx cl lab us) (k : ∀ a o, H a = some o → a ≠ dx → ¬ Z a → H2 a = some o) (zin : ∀ a, Z a → H2 a ≠ none)
    (hN2 : Nd H2 x dx c2 L vs2) (hc2 : c2 = cl ∨ H c2 = none) (h2 : TRs H2 ts2 vs2 G2) (nd2 : G2.Nodup) (hG : ∀ a, a ∈ G2 → a ≠ c2 ∧ (H a = none ∨ ∃ F1 G, F = F1 ++ x :: dx :: cl :: G ∧ a ∈ G)) :
    ∃ F', Cm K (fun l => p (l.take ts.length ++ [.node L (l.drop ts.length)])) Z H2 (ts ++ ts2) (vs ++ vs2) F' := by
  subst ew
  refine ea_EEAA (h.tr.last) ?_
  intro F1 G1 zq351 h1 h2'
  obtain rfl := zq351
  refine ea_EEEEAA (TR.nd h2') ?_
  try clear h2'
  intro dx' cl' us' G zq358 hN' hT
  obtain rfl := zq358
  refine ea_AAA (hN.same hN') ?_
  intro zq359 zq360 zc361 zq362
  obtain rfl := zq359
  obtain rfl := zq360
  clear zc361
  obtain rfl := zq362
  try simp only [List.append_nil] at h hG ⊢
  have nd := h.nd
  rw [List.nodup_append] at nd
  refine ea_AA (nd) ?_
  try clear nd
  intro n1 n2 n3
  simp only [List.nodup_cons, List.mem_cons, not_or] at n2
  have hG' : ∀ a, a ∈ G2 → a ≠ c2 ∧ (H a = none ∨ a ∈ G) := fun a ha => ⟨(hG a ha).1, by
    rcases (hG a ha).2 with q | ⟨A, B, e, q⟩
    · exact .inl q
    · right
      -- the same node splits the list at the same place
      have nd' := h.nd
      have e1 : A = F1 ∧ x :: dx' :: cl' :: B = x :: dx' :: cl' :: G := by
        obtain ⟨e1, e2⟩ := split_nd (by rw [← e]; exact nd') e.symm
        exact ⟨e1, by rw [e2]⟩
      have := e1.2
      simp only [List.cons.injEq, true_and] at this
      rw [this] at q; exact q⟩
  have notF : ∀ b, b = x ∨ b = dx' ∨ b = cl' → b ∉ F1 ∧ b ∉ G := by
    intro b hb
    refine ⟨fun q => n3 b q b (by rcases hb with rfl | rfl | rfl <;> simp) rfl, fun q => ?_⟩
    rcases hb with rfl | rfl | rfl
    · exact n2.1.2.2 q
    · exact n2.2.1.2 q
    · exact n2.2.2.1 q
  have inF3 : ∀ b, b = x ∨ b = dx' ∨ b = cl' → b ∈ F1 ++ x :: dx' :: cl' :: G := fun b hb => by
    rcases hb with rfl | rfl | rfl <;> simp
  have alive : ∀ a, a ∈ F1 ++ x :: dx' :: cl' :: G → H a ≠ none := fun a ha => h.tr.in (by simpa using ha)
  have hdx : H2 dx' ≠ none := by obtain ⟨o, e, _⟩ := hN2.hd; exact in_of e
  have old : ∀ a, H2 a = none → H a = none := fun a q => by
    cases z : H a with
    | none => rfl
    | some o =>
      by_cases q1 : a = dx'
      · exact absurd (q1 ▸ q) hdx
      · by_cases q2 : Z a
        · exact absurd q (zin a q2)
        · rw [k a o z q1 q2] at q; cases q
  -- the node's own three places
  have c2F : c2 ∉ F1 ∧ c2 ∉ G := by
    rcases hc2 with q | q
    · exact notF c2 (.inr (.inr q))
    · exact ⟨fun m => alive c2 (by simp [m]) q, fun m => alive c2 (by simp [m]) q⟩
  have own2 : ∀ b, b = x ∨ b = dx' ∨ b = c2 → b ∉ F1 ∧ b ∉ G2 := fun b hb => by
    rcases hb with rfl | rfl | rfl
    · refine ⟨(notF _ (.inl rfl)).1, fun m => ?_⟩
      rcases (hG' _ m).2 with q | q
      · exact alive _ (inF3 _ (.inl rfl)) q
      · exact (notF _ (.inl rfl)).2 q
    · refine ⟨(notF _ (.inr (.inl rfl))).1, fun m => ?_⟩
      rcases (hG' _ m).2 with q | q
      · exact alive _ (inF3 _ (.inr (.inl rfl))) q
      · exact (notF _ (.inr (.inl rfl))).2 q
    · exact ⟨c2F.1, fun m => (hG' _ m).1 rfl⟩
  have c2Z : ¬ Z c2 := fun hz => by
    rcases hc2 with q | q
    · exact h.nl c2 (inF3 _ (.inr (.inr q))) hz
    · exact h.zin c2 hz q
  have own2Z : ∀ b, b = x ∨ b = dx' ∨ b = c2 → ¬ Z b := fun b hb => by
    rcases hb with rfl | rfl | rfl
    · exact h.nl _ (inF3 _ (.inl rfl))
    · exact h.nl _ (inF3 _ (.inr (.inl rfl)))
    · exact c2Z
  have ownIn : ∀ b, b = x ∨ b = dx' ∨ b = c2 → H2 b ≠ none := fun b hb => by
    rcases hb with rfl | rfl | rfl
    · exact in_of hN2.hx
    · exact hdx
    · obtain ⟨n, e⟩ := hN2.hl; exact in_of e
  have G2Z : ∀ a, a ∈ G2 → ¬ Z a := fun a ha hz => by
    rcases (hG' a ha).2 with q | q
    · exact h.zin a hz q
    · exact h.nl a (by simp [q]) hz
  have up1 : ∀ a, a ∈ F1 → ∀ o, H a = some o → H2 a = some o := fun a ha o e => k a o e (fun z => (notF a (.inr (.inl z))).1 ha) (h.nl a (by simp [ha]))
  refine ⟨F1 ++ G2, (h1.on up1).append h2, List.nodup_append.mpr ⟨n1, nd2, fun a ha b hb z => ?_⟩, fun a ha => ?_, zin, fun H' F' ts' p1 p2 p3 p4 => ?_⟩
  · subst z
    rcases (hG' a hb).2 with q | q
    · exact alive a (by simp [ha]) q
    · exact n3 a ha a (by simp [q]) rfl
  · rcases List.mem_append.mp ha with q | q
    · exact h.nl a (by simp [q])
    · exact G2Z a q
  · refine ea_EEEEAAAA (p2.splitV) ?_
    intro t1 t2 E1 E2 zq363 zq364 hl k1 k2
    obtain rfl := zq363
    obtain rfl := zq364
    have hl1 : t1.length = ts.length := by rw [hl, h1.length]
    rw [List.take_left' hl1, List.drop_left' hl1]
    have kk : ∀ b, b = x ∨ b = dx' ∨ b = c2 → ∀ o, H2 b = some o → H' b = some o := fun b hb o e => p1 b o e (by rw [List.mem_append, not_or]; exact own2 b hb) (own2Z b hb)
    have hN3 : Nd H' x dx' c2 L vs2 := ⟨kk _ (.inl rfl) _ hN2.hx, hN2.hd.imp fun o z => ⟨kk _ (.inr (.inl rfl)) _ z.1, z.2⟩, hN2.hl.imp fun n e => kk _ (.inr (.inr rfl)) _ e⟩
    have ownE : ∀ b, b = x ∨ b = dx' ∨ b = c2 → b ∉ E1 ++ E2 := fun b hb hm => by
      rcases p4 b hm with q | q
      · rcases List.mem_append.mp q with r | r
        · exact (own2 b hb).1 r
        · exact (own2 b hb).2 r
      · exact ownIn b hb q
    have was : ∀ a, a ∈ E1 ++ E2 → a ∈ F1 ++ x :: dx' :: cl' :: G ∨ H a = none := fun a ha => by
      rcases p4 a ha with q | q
      · rcases List.mem_append.mp q with r | r
        · exact .inl (by simp [r])
        · rcases (hG' a r).2 with s | s
          · exact .inr s
          · exact .inl (by simp [s])
      · exact .inr (old a q)
    rw [List.nodup_append] at p3
    have ne := hN2.ne
    refine h.out H' (E1 ++ (x :: dx' :: c2 :: E2)) (t1 ++ [.node L t2]) (fun a o e na nz => p1 a o (k a o e (fun z => na (inF3 a (.inr (.inl z)))) nz) (fun hm => ?_) nz) (k1.append (TRs.one ?_)) ?_ fun a ha => ?_
    · rcases List.mem_append.mp hm with q | q
      · exact na (by simp [q])
      · rcases (hG' a q).2 with r | r
        · rw [e] at r; cases r
        · exact na (by simp [r])
    · simp only [TR_e1, TR_e2]
      exact ia_EEEEEAAA x dx' c2 vs2 E2 rfl rfl hN3 k2
    · refine List.nodup_append.mpr ⟨p3.1, ?_, fun a ha b hb z => ?_⟩
      · simp only [List.nodup_cons, List.mem_cons, not_or]
        exact ⟨⟨ne.1, ne.2.1, fun q => ownE _ (.inl rfl) (by simp [q])⟩, ⟨ne.2.2, fun q => ownE _ (.inr (.inl rfl)) (by simp [q])⟩, fun q => ownE _ (.inr (.inr rfl)) (by simp [q]), p3.2.1⟩
      · subst z
        simp only [List.mem_cons] at hb
        rcases hb with q | q | q | q
        · exact ownE a (.inl q) (by simp [ha])
        · exact ownE a (.inr (.inl q)) (by simp [ha])
        · exact ownE a (.inr (.inr q)) (by simp [ha])
        · exact p3.2.2 a ha a q rfl
    · simp only [List.mem_append, List.mem_cons] at ha
      rcases ha with q | rfl | rfl | rfl | q
      · exact was a (by simp [q])
      · exact .inl (inF3 _ (.inl rfl))
      · exact .inl (inF3 _ (.inr (.inl rfl)))
      · rcases hc2 with r | r
        · exact .inl (inF3 _ (.inr (.inr r)))
        · exact .inr r
      · exact was a (by simp [q])
end
theorem Cm.start {H H1 : Hp} {t : Tr} {x NL : Addr} {F : List Addr} (h : TR H t (.ref x) F) (nd : F.Nodup) (le : Le H H1) (fr : H NL = none) (nl : H1 NL ≠ none) (P : Addr) (n2 : P ∉ F) (t2 : H1 P ≠ none) :
    Cm (fun H' T => ∃ F', (∀ a o, H a = some o → a ∉ F → a ≠ P → H' a = some o) ∧ TR H' T (.ref x) F' ∧ F'.Nodup ∧ ∀ a, a ∈ F' → a ∈ F ∨ H a = none) (fun l => l.headD (.leaf dash)) (fun a => a = NL ∨ a = P) H1 [t] [.ref x] F where
  tr := TRs.one (h.le le)
  nd := nd
  nl := fun a hm hz => by
    rcases hz with rfl | rfl
    · exact h.in hm fr
    · exact n2 hm
  zin := fun a hz => by rcases hz with rfl | rfl <;> assumption
  out := fun H' F' ts' p1 p2 p3 p4 => by
    have hl := p2.length
    obtain ⟨t', rfl⟩ := List.length_eq_one_iff.mp (show ts'.length = 1 by rw [← hl]; rfl)
    simp only [TRs_e1, TRs_e2] at p2
    refine ea_EEEEAAAA (p2) ?_
    try clear p2
    intro v ws F1 F2 e zq365 q e2 zq366
    obtain rfl := zq365
    obtain rfl := zq366
    cases e
    simp only [List.append_nil] at p3 p4
    refine ia_EAAA F1 (fun a o e n n' => p1 a o (le a o e) n (fun z => ?_)) q p3 (fun a ha => (p4 a ha).imp id le.none)
    rcases z with z | z
    · rw [z, fr] at e; cases e
    · exact n' z
end
-- P13
section
theorem find1 (x : Str) (c : Nat) : (Txt.find x ⟨#[c]⟩ = -1 ∧ c ∉ x.cps.toList) ∨ ∃ a b, x.cps.toList = a ++ c :: b ∧ c ∉ a ∧ Txt.find x ⟨#[c]⟩ = (a.length : Int) := by
  rcases find_whole x ⟨#[c]⟩ with ⟨h, hn⟩ | ⟨i, h, hi, hn⟩
  · refine .inl ⟨h, fun hm => ?_⟩
    obtain ⟨i, hi, e⟩ := List.mem_iff_getElem.mp hm
    exact hn i ((StrLaws.subAt_one x c i).mpr (by rw [List.getElem?_eq_getElem hi, e]))
  · have hi' := (StrLaws.subAt_one x c i).mp hi
    obtain ⟨hlt, e⟩ := List.getElem?_eq_some_iff.mp hi'
    refine .inr ⟨x.cps.toList.take i, x.cps.toList.drop (i + 1), ?_, fun hm => ?_, ?_⟩
    · rw [← e, ← List.drop_eq_getElem_cons hlt, List.take_append_drop]
    · obtain ⟨j, hj, e2⟩ := List.mem_iff_getElem.mp hm
      rw [List.length_take] at hj
      refine hn j (by lia) ((StrLaws.subAt_one x c j).mpr ?_)
      rw [List.getElem_take] at e2
      rw [List.getElem?_eq_getElem (by lia), e2]
    · rw [h, List.length_take, Nat.min_eq_left (by lia)]
theorem slice_to1 {x : Str} {a b : List Nat} (h : x.cps.toList = a ++ b) : Txt.slice x none (some (a.length : Int)) = ⟨a.toArray⟩ := by
  have := StrLaws.sliceText_to (x := x) (j := (a.length : Int)) (by rw [h]; simp; lia)
  refine this.trans ?_
  rw [h]
  simp
theorem slice_from1 {x : Str} {a b : List Nat} {c : Nat} (h : x.cps.toList = a ++ c :: b) : Txt.slice x (some ((a.length : Int) + 1)) none = ⟨b.toArray⟩ := by
  have := StrLaws.sliceText_from (x := x) (i := (a.length : Int) + 1) (by rw [h]; simp; lia)
  refine this.trans ?_
  rw [h]
  have e : ((a.length : Int) + 1).toNat = a.length + 1 := by lia
  have e2 : (((a ++ c :: b).length : Int) - ((a.length : Int) + 1)).toNat = b.length := by simp; lia
  have e3 : (a ++ c :: b).drop (a.length + 1) = b := by
    rw [show a ++ c :: b = (a ++ [c]) ++ b by simp]
    exact List.drop_left' (by simp)
  rw [e, e2, e3, List.take_length]
noncomputable abbrev barC : Str := Str.ofString "|"
noncomputable abbrev carC : Str := Str.ofString "^"
noncomputable abbrev pluC : Str := Str.ofString "+"
theorem barC_eq : barC = ⟨#[124]⟩ := by decide +kernel
theorem carC_eq : carC = ⟨#[94]⟩ := by decide +kernel
theorem pluC_eq : pluC = ⟨#[43]⟩ := by decide +kernel
noncomputable def isBar : Tr → Bool
  | .leaf _ => false
  | .node L _ => Txt.find L barC != -1
mutual
noncomputable def flat : Tr → List Tr
  | .leaf c => [.leaf c]
  | .node L us => if Txt.find L barC != -1 then flats us else [.node L us]
noncomputable def flats : List Tr → List Tr
  | [] => []
  | c :: cs => flat c ++ flats cs
end
theorem flat_e1 {c} : flat (.leaf c) = ([.leaf c]) := rfl
theorem flat_e2 {L} {us} : flat (.node L us) = (if Txt.find L barC != -1 then flats us else [.node L us]) := rfl
theorem flats_e1 : flats [] = ([]) := rfl
theorem flats_e2 {c} {cs} : flats (c :: cs) = (flat c ++ flats cs) := rfl
theorem flats_append : ∀ a b : List Tr, flats (a ++ b) = flats a ++ flats b
  | [], b => by simp [flats_e1, flats_e2]
  | c :: cs, b => by simp only [List.cons_append, flats_e1, flats_e2, flats_append cs b, List.append_assoc]
theorem flat_off {t : Tr} (h : isBar t = false) : flat t = [t] := by
  induction t using TrEl with
  | leaf c => simp [flat_e1, flat_e2]
  | node L us => simp only [isBar] at h; simp only [flat_e1, flat_e2, h]; rfl
theorem flats_off : ∀ {ts : List Tr}, (∀ t ∈ ts, isBar t = false) → flats ts = ts
  | [], _ => by simp [flats_e1, flats_e2]
  | c :: cs, h => by
    have e := flats_off (ts := cs) fun t ht => h t (List.mem_cons_of_mem _ ht)
    simp only [flats_e1, flats_e2, flat_off (h c (by simp)), e]
    rfl
theorem flat_on {L : Str} {us : List Tr} (h : isBar (.node L us) = true) : flat (.node L us) = flats us := by
  simp only [isBar] at h; simp only [flat_e1, flat_e2, h]; rfl
mutual
noncomputable def ms : Tr → Nat
  | .leaf _ => 1
  | .node L cs => L.length + 1 + mss cs
noncomputable def mss : List Tr → Nat
  | [] => 0
  | c :: cs => ms c + mss cs
end
theorem ms_e1 {w1} : ms (.leaf w1) = (1) := rfl
theorem ms_e2 {L} {cs} : ms (.node L cs) = (L.length + 1 + mss cs) := rfl
theorem mss_e1 : mss [] = (0) := rfl
theorem mss_e2 {c} {cs} : mss (c :: cs) = (ms c + mss cs) := rfl
theorem mss_append : ∀ a b : List Tr, mss (a ++ b) = mss a + mss b
  | [], b => by simp [mss_e1, mss_e2]
  | c :: cs, b => by simp only [List.cons_append, mss_e1, mss_e2, mss_append cs b]; lia
theorem ms_pos : ∀ t : Tr, 0 < ms t
  | .leaf _ => by simp [ms_e1, ms_e2]
  | .node _ cs => by simp [ms_e1, ms_e2]; lia
theorem mss_mem {t : Tr} : ∀ {ts : List Tr}, t ∈ ts → ms t ≤ mss ts
  | c :: cs, h => by
    simp only [mss_e1, mss_e2]
    rcases List.mem_cons.mp h with rfl | q
    · lia
    · have := mss_mem q; lia
theorem len_mss : ∀ ts : List Tr, ts.length ≤ mss ts
  | [] => Nat.le_refl _
  | c :: cs => by have := len_mss cs; have := ms_pos c; simp only [List.length_cons, mss_e1, mss_e2]; lia
theorem flat_ms : (∀ t, mss (flat t) ≤ ms t) ∧ ∀ ts, mss (flats ts) ≤ mss ts := by
  refine Tr.ind (P := fun t => mss (flat t) ≤ ms t) (R := fun ts => mss (flats ts) ≤ mss ts) ?_ ?_ ?_ ?_
  · intro c; simp [flat_e1, flat_e2, ms_e1, ms_e2, mss_e1, mss_e2]
  · intro L us ih
    simp only [flat_e1, flat_e2]
    split
    · simp only [ms_e1, ms_e2]; lia
    · simp only [mss_e1, mss_e2]; lia
  · simp [flats_e1, flats_e2]
  · intro c cs i1 i2; simp only [flats_e1, flats_e2, mss_append, mss_e1, mss_e2]; lia
/-- a label without its mark -/
noncomputable def cutC (L : Str) : Str := if Txt.find L carC = -1 then L else Txt.slice L none (some (Txt.find L carC))
noncomputable def preP (L : Str) : Str := Txt.slice L none (some (Txt.find L pluC))
noncomputable def sufP (L : Str) : Str := Txt.slice L (some (Txt.find L pluC + 1)) none
theorem cutC_le (L : Str) : (cutC L).length ≤ L.length := by
  unfold cutC; split
  · exact Nat.le_refl _
  · exact Txt.slice_le ..
theorem Str.len_eq (x : Str) : x.length = x.cps.toList.length := by simp [Str.length]
theorem sufP_lt {L : Str} (h : Txt.find L pluC ≠ -1) : (sufP L).length < L.length := by
  unfold sufP
  rw [pluC_eq] at h ⊢
  rcases find1 L 43 with ⟨q, _⟩ | ⟨a, b, e, _, q⟩
  · exact absurd q h
  · rw [q, slice_from1 e, Str.len_eq, Str.len_eq, e]
    simp; lia
/-- undoing -/
noncomputable def un : Nat → Tr → Tr
  | _, .leaf c => .leaf c
  | 0, t => t
  | n + 1, .node L cs => if Txt.find (cutC L) pluC = -1 then .node (cutC L) ((flats cs).map (un n)) else .node (preP (cutC L)) [un n (.node (sufP (cutC L)) (flats cs))]
theorem un_leaf (n : Nat) (c : Str) : un n (.leaf c) = .leaf c := by cases n <;> simp only [un]
theorem un_fuel : ∀ (n m : Nat) (t : Tr), ms t ≤ n → ms t ≤ m → un n t = un m t
  | n, m, .leaf c, _, _ => by rw [un_leaf, un_leaf]
  | 0, m, .node L cs, h, _ => by simp only [ms_e1, ms_e2] at h; lia
  | n, 0, .node L cs, _, h => by simp only [ms_e1, ms_e2] at h; omega
  | n + 1, m + 1, .node L cs, h, k => by
    simp only [ms_e1, ms_e2] at h k
    have h1 := flat_ms.2 cs
    have h2 := cutC_le L
    simp only [un]
    split
    · congr 1
      exact List.map_congr_left fun t ht => un_fuel n m t (by have := mss_mem ht; lia) (by have := mss_mem ht; lia)
    · rename_i q
      have h3 := sufP_lt q
      rw [un_fuel n m _ (by simp only [ms_e1, ms_e2]; lia) (by simp only [ms_e1, ms_e2]; lia)]
noncomputable def uT (t : Tr) : Tr := un (ms t) t
theorem uT_leaf (c : Str) : uT (.leaf c) = .leaf c := un_leaf _ _
theorem uT_node (L : Str) (cs : List Tr) : uT (.node L cs) = if Txt.find (cutC L) pluC = -1 then .node (cutC L) ((flats cs).map uT) else .node (preP (cutC L)) [uT (.node (sufP (cutC L)) (flats cs))] := by
  have h1 := flat_ms.2 cs
  have h2 := cutC_le L
  unfold uT
  rw [show ms (.node L cs) = (L.length + mss cs) + 1 by simp only [ms_e1, ms_e2]; lia]
  simp only [un]
  split
  · congr 1
    exact List.map_congr_left fun t ht => un_fuel _ _ t (by have := mss_mem ht; lia) (Nat.le_refl _)
  · rename_i q
    have h3 := sufP_lt q
    rw [un_fuel _ _ _ (by simp only [ms_e1, ms_e2]; lia) (Nat.le_refl _)]
mutual
noncomputable def Lk (n : Nat) : Tr → Prop
  | .leaf _ => True
  | .node L cs => L.length ≤ n ∧ Lks n cs
noncomputable def Lks (n : Nat) : List Tr → Prop
  | [] => True
  | c :: cs => Lk n c ∧ Lks n cs
end
theorem Lk_e1 {n : Nat} {w1} : Lk n (.leaf w1) = (True) := rfl
theorem Lk_e2 {n : Nat} {L} {cs} : Lk n (.node L cs) = (L.length ≤ n ∧ Lks n cs) := rfl
theorem Lks_e1 {n : Nat} : Lks n [] = (True) := rfl
theorem Lks_e2 {n : Nat} {c} {cs} : Lks n (c :: cs) = (Lk n c ∧ Lks n cs) := rfl
theorem Lks_append {n : Nat} : ∀ {a b : List Tr}, Lks n (a ++ b) ↔ Lks n a ∧ Lks n b
  | [], b => by simp [Lks_e1, Lks_e2]
  | c :: cs, b => by simp only [List.cons_append, Lks_e1, Lks_e2, Lks_append (a := cs), and_assoc]
theorem flat_Lk {n : Nat} : (∀ t, Lk n t → Lks n (flat t)) ∧ ∀ ts, Lks n ts → Lks n (flats ts) := by
  refine Tr.ind (P := fun t => Lk n t → Lks n (flat t)) (R := fun ts => Lks n ts → Lks n (flats ts)) ?_ ?_ ?_ ?_
  · intro c h; simp [flat_e1, flat_e2, Lks_e1, Lks_e2, Lk_e1, Lk_e2]
  · intro L us ih h
    simp only [flat_e1, flat_e2]
    split
    · simp only [Lk_e1, Lk_e2] at h; exact ih h.2
    · simp only [Lks_e1, Lks_e2, and_true]; exact h
  · intro _; simp [flats_e1, flats_e2, Lks_e1, Lks_e2]
  · intro c cs i1 i2 h
    simp only [Lks_e1, Lks_e2] at h
    simp only [flats_e1, flats_e2, Lks_append]
    exact ⟨i1 h.1, i2 h.2⟩
end
-- B29
section
section
theorem lri_no_len : typeLookup (.type "list_reverseiterator") "__len__" = pure none := by rw [typeLookup_type, builtinLookup_eq_fast]; kernel_rfl
theorem lri_a_hint : typeLookup (.type "list_reverseiterator") "__length_hint__" = pure (some (.builtin "list_reverseiterator.__length_hint__")) := by rw [typeLookup_type, builtinLookup_eq_fast]; kernel_rfl
variable {prog : Program} {w : World} {A : Around} {E : Value → Shared → Prop} {s : Shared}
theorem lri_hint {r : Addr} {Q : Bool → Shared → Prop} (hT : s.TypeIs (.ref r) "list_reverseiterator") (h : Q false s) : wpAny (model prog w) A (Builtin.List.listLengthHint (.ref r)) Q E s := by
  unfold Builtin.List.listLengthHint
  refine wpAny_bind (wpAny_specialOf hT lri_no_len ?_)
  show wpAny _ _ (specialOf (Value.ref r) (Str.ofString "__length_hint__") >>= _) _ _ _
  refine wpAny_bind (wpAny_specialOf hT lri_a_hint ?_)
  refine gen_e (("list_reverseiterator.__length_hint__" : String)) ?_
  intro id0 hid
  wp_delta
  rw [show splitId id0 = some ("list_reverseiterator", "__length_hint__") from by subst hid; decide +kernel]
  subst hid
  refine wpAny_bind (wpAny_isInstance (T := "list_reverseiterator") (b := true) hT (by rw [isSubtype_type]; kernel_rfl) ?_)
  refine wpAny_ite_split (fun hab => absurd hab (by decide)) (fun _ => ?_)
  refine wpAny_ite_split (fun _ => ?_) (fun hab => absurd (by decide +kernel) hab)
  exact wpAny_ite_split (fun hab => absurd hab (by decide +kernel)) (fun _ => wpAny_pure h)
theorem lri_extend {R : Result → Shared → Prop} {r l S : Addr} {items : Array Value} {res : Value} {c₀ : Nat} (hh : A.handled = none) (hit : s.heap.IsRevIter r l ((items.size : Int) - 1)) (hl : s.heap.IsList l items) (hrl : l ≠ r) (hSr : S ≠ r) (hSl : S ≠ l) (hS : s.heap.get? S = some { cls := .type "list", data := .seq #[] c₀ }) (hn : items.size ≤ sizeLine)
    (hR : ∀ h' tk acc' c', (∀ b o, b ≠ S → b ≠ r → s.heap.get? b = some o → h'.get? b = some o) → h'.get? S = some { cls := .type "list", dict := none, data := .seq acc' c', slots := #[] } → ItemsOf (fun i v => items[items.size - 1 - i]? = some v) acc' items.size → R (.ok (.ret res)) { s with heap := h', toks := tk }) :
    wpAny (model prog w) A.in1 (Builtin.List.listExtendWith (.ref S) (.ref r) res)
      (fun fin s' => match fin with | .done f => R (.ok f) s' | .again c' => c'.quiet = true ∧ codeAny (model prog w) A c' R s') (fun e s' => R (.error e) s') s := by
  have hT : s.TypeIs (.ref r) "list_reverseiterator" := hit.imp fun _ z => ⟨z.1, z.2.1⟩
  have hSf : S ∉ [r, l] := by simp [hSr, hSl]
  unfold Builtin.List.listExtendWith
  refine wpAny_bind (wpAny_typeOf hT ?_)
  have h1 : Builtin.List.listSameRef (.ref S) (.ref r) = false := by simp [Builtin.List.listSameRef, hSr]
  have h2 : (Value.type "list_reverseiterator" == Value.type "list") = false := by decide
  have h3 : (Value.type "list_reverseiterator" == Value.type "tuple") = false := by decide
  simp only [h1, h2, h3, Bool.or_false, Bool.false_eq_true, if_false]
  refine wpAny_bind (wpAny_pyIter_revIter hit ?_)
  refine wpAny_bind (wpAny_holding (lri_hint hT ?_))
  refine wpAny_ite_split (fun hab => absurd hab (by decide +kernel)) (fun _ => ?_)
  refine wpAny_pure ⟨plainId_quiet F.plain_extend_loop _, ?_⟩
  refine codeAny_extend_loopS (Walks.listRev (prog := prog) (w := w) (A := A.in1) hh r l hrl items).toS hn S hSf res items.size 0 _ #[] c₀ (Nat.sub_zero _) (Nat.zero_le _) ⟨Nat.zero_le _, by simpa using hit, hl⟩ hS (ItemsOf.nil _) fun s' acc' c' hm hS' hacc => ?_
  rw [Moved.eq_with hm]
  refine hR s'.heap s'.toks acc' c' (fun b o n1 n2 e => hm.heap b o (fun hmem => ?_) e) hS' hacc
  simp only [List.mem_cons, List.not_mem_nil, or_false] at hmem
  rcases hmem with q | q
  · exact n1 q
  · exact n2 q
theorem lri_init {R : Result → Shared → Prop} {r l S : Addr} {items : Array Value} (hh : A.handled = none) (hit : s.heap.IsRevIter r l ((items.size : Int) - 1)) (hl : s.heap.IsList l items) (hrl : l ≠ r) (hSr : S ≠ r) (hSl : S ≠ l) (hS : s.heap.get? S = some { cls := .type "list", data := .seq #[] }) (hn : items.size ≤ sizeLine)
    (hR : ∀ h' tk acc' c', (∀ b o, b ≠ S → b ≠ r → s.heap.get? b = some o → h'.get? b = some o) → h'.get? S = some { cls := .type "list", dict := none, data := .seq acc' c', slots := #[] } → ItemsOf (fun i v => items[items.size - 1 - i]? = some v) acc' items.size → R (.ok (.ret .none)) { s with heap := h', toks := tk }) :
    wpAny (model prog w) A.in1 (Builtin.«list.__init__» ⟨[.ref S, .ref r], []⟩)
      (fun fin s' => match fin with | .done f => R (.ok f) s' | .again c' => c'.quiet = true ∧ codeAny (model prog w) A c' R s') (fun e s' => R (.error e) s') s := by
  show wpAny _ _ (do let old ← Builtin.List.listItems (.ref S); Builtin.List.listUpdate (.ref S) (fun _ => #[]); letGo old.toList.reverse; Builtin.List.listExtendWith (.ref S) (.ref r) .none) _ _ s
  refine wpAny_bind ?_
  unfold Builtin.List.listItems
  refine wpAny_bind (wpAny_seqItems hS rfl (wpAny_pure ?_))
  show wpAny _ _ (updateSeq S (fun _ => #[]) >>= fun _ => letGo (#[] : Array Value).toList.reverse >>= fun _ => Builtin.List.listExtendWith (.ref S) (.ref r) .none) _ _ s
  refine wpAny_bind (wpAny_updateSeq hS rfl ?_)
  have hS₂ := Heap.get?_update_self (Obj.mapSeq (fun _ => (#[] : Array Value))) hS rfl
  have oth : ∀ b o, b ≠ S → s.heap.get? b = some o → (s.heap.update S (Obj.mapSeq (fun _ => (#[] : Array Value)))).get? b = some o :=
    fun b o hb e => (Heap.get?_update_other _ _ (Ne.symm hb)).trans e
  refine wpAny_bind (wpAny_letGo ?_)
  refine lri_extend (R := R) hh (hit.at fun o e => oth r o hSr.symm e) (hl.at fun o e => oth l o hSl.symm e) hrl hSr hSl hS₂ hn fun h' tk acc' c' hk hS' hacc => ?_
  exact hR h' tk acc' c' (fun b o n1 n2 e => hk b o n1 n2 (oth b o n1 e)) hS' hacc
theorem lri_call {Q : Value → Shared → Prop} {r l : Addr} {items : Array Value} (hh : A.handled = none) (hit : s.heap.IsRevIter r l ((items.size : Int) - 1)) (hl : s.heap.IsList l items) (hrl : l ≠ r) (hn : items.size ≤ sizeLine)
    (hQ : ∀ h' tk acc' c', (∀ b o, b ≠ r → s.heap.get? b = some o → h'.get? b = some o) → h'.get? s.heap.objs.size = some { cls := .type "list", dict := none, data := .seq acc' c', slots := #[] } → ItemsOf (fun i v => items[items.size - 1 - i]? = some v) acc' items.size → Q (.ref s.heap.objs.size) { s with heap := h', toks := tk }) :
    wpAny (model prog w) A (call (.type "list") [.ref r]) Q E s := by
  refine callType_codes (Q₁ := fun obj s₁ => obj = .ref s.heap.objs.size ∧ s₁ = { s with heap := s.heap.push { cls := .type "list", data := .seq #[] } }) PySem.F.called_list (PySem.F.typeCall_list_1 _) PySem.F.entry_list_init
    (code_list_new _ ⟨rfl, rfl⟩) fun obj s₁ h₁ => ?_
  obtain ⟨rfl, rfl⟩ := h₁
  have hS : (s.heap.push { cls := .type "list", data := .seq #[] }).get? s.heap.objs.size = some { cls := .type "list", data := .seq #[] } := Heap.get?_push_size _ rfl
  have lr : r < s.heap.objs.size := hit.elim fun _ z => Heap.lt_size z.1
  have ll : l < s.heap.objs.size := hl.elim fun _ z => Heap.lt_size z.1
  refine ⟨⟨_, hS, rfl⟩, PySem.F.args_list_init_2 _ _, lri_init (A := A.in1) hh (hit.at fun o e => Heap.get?_push_of_some _ e) (hl.at fun o e => Heap.get?_push_of_some _ e) hrl (Nat.ne_of_gt lr) (Nat.ne_of_gt ll) hS hn (fun h' tk acc' c' hk hS' hacc => ?_)⟩
  exact ⟨rfl, hQ h' tk acc' c' (fun b o n e => hk b o (Nat.ne_of_lt (Heap.lt_size e)) n (Heap.get?_push_of_some _ e)) hS' hacc⟩
end
theorem rev_items {vs : List Value} {acc : Array Value} (h : ItemsOf (fun i v => vs.toArray[vs.toArray.size - 1 - i]? = some v) acc vs.toArray.size) : acc = vs.reverse.toArray := by
  obtain ⟨h1, h2⟩ := h
  apply Array.ext_getElem?
  intro i
  by_cases q : i < acc.size
  · have := h2 i acc[i] (Array.getElem?_eq_getElem q)
    rw [Array.getElem?_eq_getElem q, ← this]
    simp at h1 q this ⊢
    rw [List.getElem?_reverse (by lia)]
  · rw [Array.getElem?_eq_none (by lia)]
    simp at h1 ⊢
    lia
section
variable {f : Fm} {l : Locs} {X : St} {env : Env} {k : Nat}
theorem T_reversed {a : Addr} {vs : List Value} {n : Nat} {Q : Value → Locs → St → Prop} (ha : X.h a = some (listOf vs.toArray n)) (q : ∀ it, X.h it = none → Q (.ref it) l ⟨upd X.h it (revObj a ((vs.length : Int) - 1)), X.g⟩) : T f (call (.type "reversed") [.ref a]) l X Q := fun s hs =>
  call_reversed_list (isList_at hs ha) ⟨l, _, by simpa using hs.push (o := revObj a ((vs.length : Int) - 1)) rfl hs.fresh, q _ hs.fresh⟩
theorem T_listRev {H : Hp} {g : Array GenState} (O : Ok f k) {a it : Addr} {vs : List Value} {n : Nat} {Q : Value → Locs → St → Prop} (ha : H a = some (listOf vs.toArray n)) (hit : H it = none) (hz : vs.length ≤ sizeLine) (q : ∀ b m, H b = none → Q (.ref b) l ⟨upd H b (listOf vs.reverse.toArray m), g⟩) :
    T f (call (.type "list") [.ref it]) l ⟨upd H it (revObj a ((vs.length : Int) - 1)), g⟩ Q := fun s hs => by
  have hrl := ne_of_some ha hit
  have c1 := hs.cov it _ (upd_self _ _ _)
  refine lri_call (l := a) (items := vs.toArray) O.hh ⟨_, c1.1, rfl, by simp [revObj]⟩ (isList_at hs (upd_other hrl ha)) hrl (by simpa using hz) fun h' tk acc' c' hk hb hacc => ?_
  rw [rev_items hacc] at hb
  refine ea_AA (hs.newAddr) ?_
  intro n1 n2 n3
  have S0 := hs.del it
  dsimp only at S0
  rw [del_upd hit] at S0
  have S1 := S0.lost (tk := tk) hit c1.2.1 c1.2.2 (fun b o nb e => hk b o nb e)
  exact ⟨l, _, S1.take' n2 n3 hb, q _ _ (upd_none n1).2⟩
end
end
-- F18a
section
/-- un_chomsky_normal_form's inner block: its first statement, and the others -/
noncomputable def stA : List Stmt → Option Stmt
  | [_, .While _ [_, .If _ (st :: _) _ _] _ _] => some st
  | _ => none
noncomputable def stB : List Stmt → Option (List Stmt)
  | [_, .While _ [_, .If _ (_ :: ss) _ _] _ _] => some ss
  | _ => none
section
variable {f : Fm} {l : Locs} {X : St} {env : Env} {k : Nat}
noncomputable def AnyBarP (f : Fm) (k : Nat) (st : Stmt) (env : Env) : Prop := ∀ {X : St} {y dy cy : Addr} {L : Str} {us : List Value} {cs : List Tr} {G : List Addr} {NL : Addr} {tb tp tu : Tok} {Q : Flow → Locs → St → Prop} (hN : Nd X.h y dy cy L us) (hT : TRs X.h cs us G) (hnd : G.Nodup) (hcy : cy ∉ G) (hdy : dy ∉ G) (htab : Tab X.h 296) (hcell : CellIs X.h (f.L + 1) (some (.str (Str.ofString "|") tb))) (hms : mss cs ≤ 4000000) (hq : ∀ l' X' vs2 c2 G2, Sub ((Str.ofString "node", .ref y) :: [(Str.ofString "nodeList", .ref NL), (Str.ofString "expandUnary", .bool true), (Str.ofString "parentChar", .str (Str.ofString "^") tp), (Str.ofString "unaryChar", .str (Str.ofString "+") tu)]) l' → GB X.g X'.g → Tab X'.h 296 → (∀ a o, X.h a = some o → a ≠ dy → a ≠ 296 → X'.h a = some o) → Nd X'.h y dy c2 L vs2 → TRs X'.h (flats cs) vs2 G2 → G2.Nodup → (∀ a, a ∈ G2 → a ∈ G ∧ a ≠ c2) → (c2 = cy ∨ X.h c2 = none) → Q .next l' X'),
    T f (exec st env) ((Str.ofString "node", .ref y) :: [(Str.ofString "nodeList", .ref NL), (Str.ofString "expandUnary", .bool true), (Str.ofString "parentChar", .str (Str.ofString "^") tp), (Str.ofString "unaryChar", .str (Str.ofString "+") tu)]) X Q
theorem anyBar_ok (O : Ok f k) (hk : k < 270) {name qual : Str} {params : Arguments} {body : List Stmt} {scope : Scope} {dV kV doc pm cdv ct oc : Value} {an od : Option Addr} {osl : Array (Option Value)} (ho : (Kh f.w.params).lookup 299 = some ⟨oc, od, .func (fnOf name qual params body scope dV kV doc pm an cdv ct), osl⟩) {st : Stmt} (hst : stA body = some st) : AnyBarP f k st (envX qual scope f.L 299 cdv (cellsFrom (f.L + 1) scope.names [])) := by
  have key : ∀ {v : Obj}, (Kh f.w.params).lookup 299 = some v → (⟨oc, od, .func (fnOf name qual params body scope dV kV doc pm an cdv ct), osl⟩ : Obj) = v := fun h => Option.some.inj (ho.symm.trans h)
  refine' (fun e => ?main) (key ?hh)
  case hh => k_is
  cases e
  have e2 := Option.some.inj (show some _ = some st from hst)
  subst e2
  clear hst key ho
  unfold AnyBarP
  intro X y dy cy L us cs G NL tb tp tu Q hN hT hnd hcy hdy htab hcell hms hq
  refine T_ifc (fun b l' X' => b = cs.any isBar ∧ l' = (Str.ofString "node", .ref y) :: [(Str.ofString "nodeList", .ref NL), (Str.ofString "expandUnary", .bool true), (Str.ofString "parentChar", .str (Str.ofString "^") tp), (Str.ofString "unaryChar", .str (Str.ofString "+") tu)] ∧ Bt (fun b => b = 296) X.h X'.h ∧ Tab X'.h 296 ∧ GB X.g X'.g) ?_ ?_ ?_
  · walk_at "m:go"
    refine T_genexp (c := 298) (P := 296) O rfl (by rfl) (by decide) (by rfl) (by rfl) (by rfl) (fun h X => code298 X) (by rfl) ?_ (by exact fun _ => rfl)
    walk_at "m:go"
    obtain ⟨ncy, hcl⟩ := hN.hl
    refine T_iterList hcl fun it hit => ?_
    have le1 := Le.upd (o := liter cy 0) hit
    have it1 : upd X.h it (liter cy 0) it = some (liter cy 0) := upd_self _ _ _
    have n1 : ∀ b o, upd X.h it (liter cy 0) b = some o → b ≠ it → X.h b = some o := fun b o e n => by rw [upd_ne n] at e; exact e
    revert le1; revert it1; revert n1
    refine gen_x (upd X.h it (liter cy 0)) ?_
    intro H n1 it1 le1
    refine ⟨htab.imp fun ps z => ⟨le1 _ _ z.1, z.2⟩, fun o' code C a oC nm qn hTab hCa hC0 ha0 lt fL nC => ?_⟩
    walk_at "m:go"
    dsimp only at hTab hC0 ha0 lt fL ⊢
    refine ea_EA (id htab) ?_
    intro ps ep hps
    refine ea_EA (hcell) ?_
    try clear hcell
    intro ob eb db
    have itP : it ≠ 296 := fun e => by rw [e, ep] at hit; cases hit
    have itC : it ≠ C := fun e => by rw [e, hC0] at it1; cases it1
    have ita : it ≠ a := fun e => by rw [e, ha0] at it1; cases it1
    have PC : C ≠ 296 := fun e => by have := le1 _ _ ep; rw [← e, hC0] at this; cases this
    have Pa : a ≠ 296 := fun e => by have := le1 _ _ ep; rw [← e, ha0] at this; cases this
    have cyP : cy ≠ 296 := Tab.ne htab hcl (by simp)
    refine gen_e (upd (upd (upd H 296 o') C oC) a (genObj X.g.size nm qn)) ?_
    intro W hW
    have base : ∀ b o, X.h b = some o → b ≠ 296 → wo W (fun b => b ∈ [C, it]) b = some o := fun b o e n => by
      have e' := le1 _ _ e
      refine wo_some.mpr ⟨?_, ?_⟩
      · rw [← hW]; exact upd_other (ne_of_some e' ha0) (upd_other (ne_of_some e' hC0) (upd_other n e'))
      · simp only [List.mem_cons, List.not_mem_nil, or_false, not_or]
        exact ⟨ne_of_some e' hC0, ne_of_some e hit⟩
    have hgn : W a = some (genObj X.g.size nm qn) := by rw [← hW]; exact upd_self _ _ _
    have hWC : W C = some oC := by rw [← hW]; exact upd_other hCa (upd_self _ _ _)
    have hWP : W 296 = some o' := by rw [← hW]; exact upd_other Pa.symm (upd_other PC.symm (upd_self _ _ _))
    have hWi : W it = some (liter cy 0) := by rw [← hW]; exact upd_other ita (upd_other itC (upd_other itP it1))
    have tabW : Tab (wo W (fun b => b ∈ [C, it])) 296 := by
      refine ea_EA (hTab) ?_
      try clear hTab
      intro qs q1 q2
      rw [upd_self] at q1
      refine ⟨qs, wo_some.mpr ⟨hWP.trans q1, ?_⟩, q2⟩
      simp only [List.mem_cons, List.not_mem_nil, or_false, not_or]
      exact ⟨PC.symm, itP.symm⟩
    have ga : wo W (fun b => b ∈ [C, it]) a = some (genObj X.g.size nm qn) := wo_some.mpr ⟨hgn, by simp only [List.mem_cons, List.not_mem_nil, or_false, not_or]; exact ⟨hCa.symm, ita.symm⟩⟩
    have hcl1 := base _ _ hcl cyP
    have hTW : TRs (wo W (fun b => b ∈ [C, it])) cs us G := hT.bt htab base
    have cellP : f.L + 1 ≠ 296 := fun z => by rw [z, ep] at eb; cases eb; cases db
    have hlen := hT.length
    refine T_anyList (g := X.g.size) (C := C) (m0 := fun y => if y = Str.ofString ".0" then some (Value.ref it) else none) (xs := us) (J := fun i X' => Bt (fun b => b = 296) (wo W (fun b => b ∈ [C, it])) X'.h ∧ Tab X'.h 296 ∧ GB (X.g.push .running) X'.g ∧ ∀ j : Nat, j < i → ∀ t, cs[j]? = some t → isBar t = false)
      (R := fun X' => Bt (fun b => b = 296) (wo W (fun b => b ∈ [C, it])) X'.h ∧ Tab X'.h 296 ∧ GB (X.g.push .running) X'.g ∧ ∃ t, t ∈ cs ∧ isBar t = true)
      O (by exact bk2 (by assumption) rfl) hgn (Array.getElem?_push_size ..) hWi hWC nC (lt _ _ it1) fL rfl (by rfl) (by rfl) (by rfl) ?_ ?_ ?_ ?_ ?_ ?_
    · intro i X' zz2
      obtain ⟨bt, _⟩ := zz2
      exact ⟨_, bt _ _ hcl1 cyP⟩
    · intro i X' zz2
      obtain ⟨bt, _⟩ := zz2
      exact bt _ _ ga Pa
    · refine ⟨Bt.refl _, tabW, ?_, fun j hj => absurd hj (Nat.not_lt_zero _)⟩
      rw [push_set]; exact GB.refl _
    · intro i v hb' A2 zz4 hv O2 zz7 hr
      obtain ⟨H2, g2⟩ := zz4
      refine ea_AAA (zz7) ?_
      try clear zz7
      intro bt tb2 gb hj
      dsimp only at bt tb2 gb hr ⊢
      refine ea_EEAA ((hTW.bt tabW bt).get hv) ?_
      intro t E1 p1 q1 zc243
      clear zc243
      have hcb : CellIs H2 (f.L + 1) (some (.str (Str.ofString "|") tb)) := ⟨ob, bt _ _ (base _ _ eb cellP) cellP, db⟩
      induction t using TrEl with
      | leaf c =>
        simp only [TR_e1, TR_e2] at q1
        refine ea_AE (q1) ?_
        try clear q1
        intro zc244 tc zq245
        clear zc244
        obtain rfl := zq245
        walk_at "m:go"
        refine ia_EAAA false rfl hr (fun _ => ⟨bt, tb2, gb, fun j hj' t ht' => ?_⟩) nofun
        by_cases q : j = i
        · subst q; rw [p1] at ht'; cases ht'; rfl
        · exact hj j (by lia) t ht'
      | node l2 cs2 =>
        simp only [TR_e1, TR_e2] at q1
        refine ea_EEEEEAAA (q1) ?_
        try clear q1
        intro z dz cz us2 G2 zq246 zc247 hN2 zc248
        obtain rfl := zq246
        clear zc247
        clear zc248
        walk_at "m:go"
        refine label_ok O2 (by exact bk2 (by assumption) rfl) hN2 fun t2 => ?_
        walk_at "m:go"
        refine ia_EAAA _ rfl hr (fun hb => ⟨bt, tb2, gb, fun j hj' t ht' => ?_⟩) (fun hb => ⟨bt, tb2, gb, .node l2 cs2, List.mem_of_getElem? p1, by simpa [isBar] using hb⟩)
        by_cases q : j = i
        · subst q; rw [p1] at ht'; cases ht'; simpa [isBar] using hb
        · exact hj j (by omega) t ht'
    · intro zz0 zz1 hr
      obtain ⟨H2, g2⟩ := zz0
      refine ea_AAA (zz1) ?_
      try clear zz1
      intro bt tb2 gb hj
      dsimp only at bt tb2 gb hr ⊢
      walk_at "m:go"
      refine ⟨?_, rfl, fun b o e n => bt b o (base b o e n) n, tb2, gb.run rfl⟩
      symm
      rw [List.any_eq_false]
      intro t ht'
      obtain ⟨j, hj', e⟩ := List.mem_iff_getElem.mp ht'
      rw [hj j (by lia) t (by rw [List.getElem?_eq_getElem hj', e])]
      simp
    · intro zz0 gs' hbare zz3 hr
      obtain ⟨H2, g2⟩ := zz0
      refine ea_AAAEA (zz3) ?_
      try clear zz3
      intro bt tb2 gb t ht' hb
      dsimp only at bt tb2 gb hr ⊢
      walk_at "m:go"
      refine ⟨?_, rfl, fun b o e n => bt b o (base b o e n) n, tb2, gb.run hbare⟩
      symm
      rw [List.any_eq_true]
      exact ⟨t, ht', hb⟩
  · intro l' zz1 zz2
    obtain ⟨H2, g2⟩ := zz1
    refine ea_AAAA (zz2) ?_
    try clear zz2
    intro hb zq249 bt tb2 gb
    obtain rfl := zq249
    dsimp only at bt tb2 gb ⊢
    walk_at "m:go"
    refine inL rfl fun NW hNW => ?_
    dsimp only at hNW ⊢
    obtain ⟨ncy, hcl⟩ := hN.hl
    have cyP : cy ≠ 296 := Tab.ne htab hcl (by simp)
    have hNW1 : upd H2 NW (listOf [].toArray 0) NW = some (listOf [].toArray 0) := upd_self _ _ _
    have leN := Le.upd (o := listOf [].toArray 0) hNW
    have hN2 := (hN.bt htab bt).le leN
    have hcl2 := leN _ _ (bt _ _ hcl cyP)
    have hlen := hT.length
    have hus := len_mss cs
    have hzu : us.length ≤ sizeLine := by rw [sizeLine_eq]; lia
    revert hNW1; revert leN; revert hN2; revert hcl2
    refine gen_e (upd H2 NW (listOf [].toArray 0)) ?_
    intro H3 hH3 hcl2 hN2 leN hNW1
    walk_at "m:go"
    refine T_reversed hcl2 fun it hit => ?_
    walk_at "m:go"
    refine T_listRev O hcl2 hit hzu fun ST mST hST => ?_
    walk_at "m:go"
    have leS := Le.upd (o := listOf us.reverse.toArray mST) hST
    have hST1 : upd H3 ST (listOf us.reverse.toArray mST) ST = some (listOf us.reverse.toArray mST) := upd_self _ _ _
    have nSN : NW ≠ ST := ne_of_some hNW1 hST
    have hT3 : TRs (upd H3 ST (listOf us.reverse.toArray mST)) cs us G := ((hT.bt htab bt).le leN).le leS
    have fresh : ∀ b, H3 b = none → H2 b = none := fun b h => leN.none h
    have hN3 := hN2.le leS
    have cellP : f.L + 1 ≠ 296 := fun z => by
      refine ea_EA (htab) ?_
      try clear htab
      intro ps ep _
      refine ea_EA (hcell) ?_
      try clear hcell
      intro ob eb db
      rw [z, ep] at eb; cases eb; cases db
    have hcell3 : CellIs (upd H3 ST (listOf us.reverse.toArray mST)) (f.L + 1) (some (.str (Str.ofString "|") tb)) := by
      refine ea_EA (hcell) ?_
      try clear hcell
      intro ob eb db
      exact ⟨ob, leS _ _ (leN _ _ (bt _ _ eb cellP)), db⟩
    have GA : ∀ a, a ∈ G → a ≠ ST ∧ a ≠ NW := fun a ha => by
      refine ea_EA (TR_cls.2 _ _ _ hT a ha) ?_
      intro o e c
      have e2 := bt a o e (htab.ne e c)
      exact ⟨ne_of_some (leN _ _ e2) hST, ne_of_some e2 hNW⟩
    have cellA : f.L + 1 ≠ ST ∧ f.L + 1 ≠ NW := by
      refine ea_EA (hcell) ?_
      try clear hcell
      intro ob eb db
      have e2 := bt _ _ eb cellP
      exact ⟨ne_of_some (leN _ _ e2) hST, ne_of_some e2 hNW⟩
    have keep3 : ∀ a o, X.h a = some o → a ≠ 296 → upd H3 ST (listOf us.reverse.toArray mST) a = some o := fun a o e n => leS _ _ (leN _ _ (bt a o e n))
    have oldX : ∀ a o, X.h a = some o → a ≠ ST ∧ a ≠ NW := fun a o e => by
      by_cases q : a = 296
      · refine ea_EA (tb2) ?_
        try clear tb2
        intro ps ep _
        rw [q]
        exact ⟨ne_of_some (leN _ _ ep) hST, ne_of_some ep hNW⟩
      · have e2 := bt a o e q
        exact ⟨ne_of_some (leN _ _ e2) hST, ne_of_some e2 hNW⟩
    have hNW3 := leS _ _ hNW1
    have tb3 : Tab (upd H3 ST (listOf us.reverse.toArray mST)) 296 := tb2.imp fun ps z => ⟨leS _ _ (leN _ _ z.1), z.2⟩
    have PA : (296 : Addr) ≠ ST ∧ (296 : Addr) ≠ NW := by
      refine ea_EA (tb2) ?_
      try clear tb2
      intro ps ep _
      exact ⟨ne_of_some (leN _ _ ep) hST, ne_of_some ep hNW⟩
    have NWX : X.h NW = none := by
      cases z : X.h NW with
      | none => rfl
      | some o => exact absurd rfl (oldX _ _ z).2
    revert hST1; revert hT3; revert hN3; revert hcell3; revert keep3; revert hNW3; revert tb3
    refine gen_x (upd H3 ST (listOf us.reverse.toArray mST)) ?_
    intro H4 tb3 hNW3 keep3 hcell3 hN3 hT3 hST1
    clear leS leN hST hcl2 hN2 hNW1 hH3 fresh hit
    refine T_while (ι := List Tr × List Tr) (fun _ => [(Str.ofString "stack", .ref ST), (Str.ofString "newChildren", .ref NW), (Str.ofString "node", .ref y), (Str.ofString "nodeList", .ref NL), (Str.ofString "expandUnary", .bool true), (Str.ofString "parentChar", .str (Str.ofString "^") tp), (Str.ofString "unaryChar", .str (Str.ofString "+") tu)])
      (fun (i : List Tr × List Tr) X' => ∃ rv dv n m Gr Gd, X'.g = g2 ∧ (∀ a o, H4 a = some o → a ≠ ST → a ≠ NW → X'.h a = some o) ∧ X'.h ST = some (listOf rv.reverse.toArray n) ∧ X'.h NW = some (listOf dv.toArray m) ∧ TRs H4 i.1 rv Gr ∧ TRs H4 i.2 dv Gd ∧ (Gd ++ Gr).Nodup ∧ (∀ a, a ∈ Gd ++ Gr → a ∈ G) ∧ i.2 ++ flats i.1 = flats cs ∧ mss i.2 + mss i.1 ≤ 4000000)
      (fun i => mss i.1) ?_ (cs, []) ⟨us, [], mST, 0, G, [], rfl, fun _ _ e _ _ => e, hST1, hNW3, hT3, by simp [TRs_e1, TRs_e2], by simpa using hnd, by simp, by simp, by simpa [mss_e1, mss_e2] using hms⟩ (by walk_at "m:sub")
    intro zz0 zz1 zz2
    obtain ⟨rem, don⟩ := zz0
    obtain ⟨H5, g5⟩ := zz1
    refine ea_EEEEEE (zz2) ?_
    try clear zz2
    intro rv dv n m Gr Gd zp1
    refine ea_AAAAAAAAA (zp1) ?_
    clear zp1
    intro eg k5 hST5 hNW5 hTr hTd hndG hsub hfl hsz
    obtain rfl : g5 = g2 := eg
    dsimp only at k5 hST5 hNW5 hTr hTd hfl hsz ⊢
    have hrl := hTr.length
    have hdl := hTd.length
    have hr2 := len_mss rem
    have hd2 := len_mss don
    walk_at "m:go"
    refine T_truthy_list hST5 (by rw [sizeLine_eq, List.length_reverse]; lia) ?_
    induction rem using LsEl with
    | nil =>
      simp only [TRs_e1, TRs_e2] at hTr
      obtain ⟨rfl, rfl⟩ := hTr
      refine ite_f (by simp) ?_
      walk_at "m:go"
      refine ea_EA (id hN.hd) ?_
      intro od hod hod2
      have ay := oldX _ _ hN.hx
      have ad := oldX _ _ hod
      have ac := oldX _ _ hcl
      have hN5 : Nd H5 y dy cy L us := ⟨k5 _ _ hN3.hx ay.1 ay.2, hN3.hd.imp fun o z => ⟨k5 _ _ z.1 ad.1 ad.2, z.2⟩, hN3.hl.imp fun n e => k5 _ _ e ac.1 ac.2⟩
      refine T_set_children O hN5 fun o' ho' => ?_
      walk_at "m:go"
      have dyP : dy ≠ 296 := htab.ne hod (by obtain ⟨_, _, _, _, _, _, rfl⟩ := hod2; simp)
      have hdon : don = flats cs := by simpa [flats_e1, flats_e2] using hfl
      rw [List.append_nil] at hndG hsub
      refine hq _ _ dv NW Gd (by walk_at "m:sub") gb ?_ (fun a o e n1 n2 => ?_) ⟨?_, ⟨o', upd_self _ _ _, ho'⟩, ⟨m, ?_⟩⟩ ?_ hndG (fun a ha => ⟨hsub a ha, (GA a (hsub a ha)).2⟩) (.inr NWX)
      · refine ea_EA (tb3) ?_
        try clear tb3
        intro ps e r
        exact ⟨ps, upd_other dyP.symm (k5 _ _ e PA.1 PA.2), r⟩
      · exact upd_other n1 (k5 _ _ (keep3 a o e n2) (oldX _ _ e).1 (oldX _ _ e).2)
      · exact upd_other hN5.ne.1 hN5.hx
      · exact upd_other ad.2.symm hNW5
      · rw [← hdon]
        exact hTd.on fun a ha o e => upd_other (fun z => hdy (z ▸ hsub a ha)) (k5 a o e (GA a (hsub a ha)).1 (GA a (hsub a ha)).2)
    | cons c rem =>
      simp only [TRs_e1, TRs_e2] at hTr
      refine ea_EEEEAAA (hTr) ?_
      try clear hTr
      intro v rv' F1 F2 zq250 zq251 hTc hTr
      obtain rfl := zq250
      obtain rfl := zq251
      rw [List.reverse_cons] at hST5
      refine ite_t (by simp) ?_
      simp only [mss_e1, mss_e2] at hsz hr2
      simp only [List.length_cons] at hrl hr2
      walk_at "m:go"
      refine T_pop hST5 (by rw [sizeLine_eq, List.length_reverse]; lia) fun n6 => ?_
      walk_at "m:go"
      refine T_hp (fun H => (∀ a o, H4 a = some o → a ≠ ST → a ≠ NW → H a = some o) ∧ H ST = some (listOf rv'.reverse.toArray n6) ∧ H NW = some (listOf dv.toArray m)) ⟨fun a o e n1 n2 => upd_other n1 (k5 a o e n1 n2), upd_self _ _ _, upd_other nSN hNW5⟩ ?_
      clear k5 hST5 hNW5
      intro H6 zz1
      refine ea_AA (zz1) ?_
      try clear zz1
      intro k6 hST6 hNW6
      have inG : ∀ a, a ∈ F1 → a ∈ G := fun a ha => hsub a (by simp [ha])
      have hTc6 := hTc.on fun a ha o e => k6 a o e (GA a (inG a ha)).1 (GA a (inG a ha)).2
      have hcell6 : CellIs H6 (f.L + 1) (some (.str (Str.ofString "|") tb)) := by
        refine ea_EA (hcell3) ?_
        try clear hcell3
        intro ob eb db
        exact ⟨ob, k6 _ _ eb cellA.1 cellA.2, db⟩
      have hzd : dv.length ≤ sizeLine := by rw [sizeLine_eq]; lia
      have hwd : ∀ (n' : Nat) (a : Addr) (o : Obj), H4 a = some o → a ≠ ST → a ≠ NW → upd H6 NW (listOf (dv ++ [v]).toArray n') a = some o := fun n' a o e n1 n2 => upd_other n2 (k6 a o e n1 n2)
      have flc : isBar c = false → don ++ [c] ++ flats rem = flats cs := fun h => by
        rw [← hfl]; simp [flats_e1, flats_e2, flat_off h]
      have ndc : (Gd ++ F1 ++ F2).Nodup := by simpa using hndG
      have hTdc : TRs H4 (don ++ [c]) (dv ++ [v]) (Gd ++ F1) := hTd.append (TRs.one hTc)
      induction c using TrEl with
      | leaf ch =>
        simp only [TR_e1, TR_e2] at hTc6
        refine ea_AE (hTc6) ?_
        try clear hTc6
        intro zc252 tc zq253
        clear zc252
        obtain rfl := zq253
        refine T_if0 ?_
        walk_at "m:go"
        refine ⟨rfl, ?_⟩
        walk_at "m:go"
        refine ⟨rfl, ?_⟩
        walk_at "m:go"
        refine ⟨(rem, don ++ [.leaf ch]), ?_, ⟨rv', dv ++ [.str ch tc], n6, _, F2, Gd ++ F1, rfl, hwd _, upd_other nSN.symm hST6, upd_self _ _ _, hTr, hTdc, ndc, by simpa using hsub, flc rfl, ?_⟩, by walk_at "m:sub"⟩
        · simp only [mss_e1, mss_e2, ms_e1, ms_e2]; lia
        · simp only [mss_append, mss_e1, mss_e2, ms_e1, ms_e2] at hsz ⊢; lia
      | node l3 cs3 =>
        have hTc7 := hTc
        simp only [TR_e1, TR_e2] at hTc6 hTc7
        refine ea_EEEEEAAA (hTc6) ?_
        try clear hTc6
        intro y3 d3 c3 us3 G3 zq254 zc255 hN3c zc256
        obtain rfl := zq254
        clear zc255
        clear zc256
        refine ea_EEEEEAAA (hTc7) ?_
        try clear hTc7
        intro y3' d3' c3' us3' G3' hy3 hF1 hN4c hT3c
        cases hy3
        have same := (hN4c.at (H' := H6) (by
          have := k6 _ _ hN4c.hx (GA _ (inG y3 (by rw [hF1]; simp))).1 (GA _ (inG y3 (by rw [hF1]; simp))).2
          rw [this, hN4c.hx]) (by
          refine ea_EA (hN4c.hd) ?_
          intro o e _
          have := k6 _ _ e (GA _ (inG d3' (by rw [hF1]; simp))).1 (GA _ (inG d3' (by rw [hF1]; simp))).2
          rw [this, e]) (by
          obtain ⟨n, e⟩ := hN4c.hl
          have := k6 _ _ e (GA _ (inG c3' (by rw [hF1]; simp))).1 (GA _ (inG c3' (by rw [hF1]; simp))).2
          rw [this, e])).same hN3c
        refine ea_AAA (same) ?_
        try clear same
        intro zq257 zq258 zc259 zq260
        obtain rfl := zq257
        obtain rfl := zq258
        clear zc259
        obtain rfl := zq260
        have hl3 := hT3c.length
        have hm3 := len_mss cs3
        simp only [ms_e1, ms_e2] at hsz hr2
        by_cases hb : isBar (.node l3 cs3) = true
        · refine T_if1 ?_
          walk_at "m:go"
          refine label_ok O (by exact bk1 (by assumption) rfl) hN3c fun t7 => ?_
          walk_at "m:go"
          refine ite_t (by simpa [isBar] using hb) ?_
          walk_at "m:go"
          refine ⟨rfl, ?_⟩
          walk_at "m:go"
          obtain ⟨n3, hc3⟩ := hN3c.hl
          refine T_reversed hc3 fun it hit => ?_
          walk_at "m:go"
          refine T_listRev (H := H6) (g := g5) O hc3 hit (by rw [sizeLine_eq]; lia) fun RL m8 hRL => ?_
          walk_at "m:go"
          have sRL : ST ≠ RL := ne_of_some hST6 hRL
          refine T_extend (upd_other sRL hST6) (upd_self _ _ _) (by rw [sizeLine_eq, List.length_reverse, List.length_reverse]; lia) fun n9 => ?_
          refine ⟨rfl, ?_⟩
          walk_at "m:go"
          refine ⟨(cs3 ++ rem, don), ?_, ⟨us3 ++ rv', dv, n9, m, G3' ++ F2, Gd, rfl, fun a o e n1 n2 => ?_, ?_, ?_, hT3c.append hTr, hTd, ?_, ?_, ?_, ?_⟩, by walk_at "m:sub"⟩
          · simp only [mss_append, mss_e1, mss_e2, ms_e1, ms_e2]; lia
          · have e6 := k6 a o e n1 n2
            exact upd_other n1 (upd_other (ne_of_some e6 hRL) e6)
          · rw [List.reverse_append]; exact upd_self _ _ _
          · exact upd_other nSN (upd_other (ne_of_some hNW6 hRL) hNW6)
          · rw [hF1] at hndG
            refine hndG.sublist (List.Sublist.append_left ?_ _)
            exact List.Sublist.append_right (((List.sublist_cons_self _ _).trans (List.sublist_cons_self _ _)).trans (List.sublist_cons_self _ _)) _
          · intro a ha
            refine hsub a ?_
            rw [hF1]
            simp only [List.mem_append, List.mem_cons] at ha ⊢
            rcases ha with q | q | q
            · exact .inl q
            · exact .inr (.inl (.inr (.inr (.inr q))))
            · exact .inr (.inr q)
          · rw [← hfl]; simp only [flats_e1, flats_e2, flat_on hb, flats_append]
          · simp only [mss_append]; lia
        · have hb2 : isBar (.node l3 cs3) = false := by simpa using hb
          refine T_if0 ?_
          walk_at "m:go"
          refine label_ok O (by exact bk1 (by assumption) rfl) hN3c fun t7 => ?_
          walk_at "m:go"
          refine ite_f (by simpa [isBar] using hb2) ⟨rfl, ?_⟩
          walk_at "m:go"
          refine ⟨rfl, ?_⟩
          walk_at "m:go"
          refine ⟨(rem, don ++ [.node l3 cs3]), ?_, ⟨rv', dv ++ [.ref y3], n6, _, F2, Gd ++ F1, rfl, hwd _, upd_other nSN.symm hST6, upd_self _ _ _, hTr, hTdc, ndc, by simpa using hsub, flc hb2, ?_⟩, by walk_at "m:sub"⟩
          · simp only [mss_e1, mss_e2, ms_e1, ms_e2]; lia
          · simp only [mss_append, mss_e1, mss_e2, ms_e1, ms_e2]; lia
  · intro l' zz1 zz2
    obtain ⟨H2, g2⟩ := zz1
    refine ea_AAAA (zz2) ?_
    try clear zz2
    intro hb zq261 bt tb2 gb
    obtain rfl := zq261
    dsimp only at bt tb2 gb ⊢
    walk_at "m:go"
    have hoff : flats cs = cs := flats_off fun t ht' => by
      cases q : isBar t with
      | false => rfl
      | true =>
        have : cs.any isBar = true := List.any_eq_true.mpr ⟨t, ht', q⟩
        rw [← hb] at this; cases this
    refine hq _ _ us cy G (Sub.refl _) gb tb2 (fun a o e _ n => bt a o e n) (hN.bt htab bt) ?_ hnd (fun a ha => ⟨ha, fun z => hcy (z ▸ ha)⟩) (.inl rfl)
    rw [hoff]
    exact hT.bt htab bt
end
end
-- B30
section
section
variable {f : Fm} {l : Locs} {X : St} {env : Env} {k : Nat}
theorem T_strSlice2 {value : PySem.Expr} {lower upper : Option PySem.Expr} {p pos : Pos} {Q : Value → Locs → St → Prop}
    (h : T f (eval value env) l X (KSs f env lower upper Q))
    (hsl : ∀ o i, subscripted (.Slice lower upper none p) false o i = operate [i, o] (getItem o i)) : T f (eval (.Subscript value (.Slice lower upper none p) pos) env) l X Q := fun s hs =>
  Subscript_ (h.use hs fun o l1 X1 s1 a b => wpAny_Slice (b.use a fun vl l2 X2 s2 a b => b.use a fun vu l3 X3 s3 a b => by
    refine ea_EEEEAAAA (b) ?_
    try clear b
    intro x t lo hi zq50 zq51 zq52 hz q
    obtain rfl := zq50
    obtain rfl := zq51
    obtain rfl := zq52
    rw [evalPart_none]
    have S1 := a.grow { cls := .type "slice", data := .fields #[partValue lo, partValue hi, .none] }
    exact wpAny_pure (tail_any (typeIs_str _ x t) F.slot_str_getitem.lookup (wpAny_getItem_str_slice (l := lo) (u := hi) (st := none) ⟨_, Heap.get?_push_size _ rfl, rfl, rfl⟩ rfl (post_val_or_str ⟨Nat.le_trans (Txt.slice_le x _ _) hz, fun t' k => ⟨l3, X3, S1.toks, q t'⟩⟩)) (hsl _ _))))
end
end
-- F18b
section
local macro_rules | `(tactic| walk_at "m:1") => `(tactic| ((with_reducible show T _ (eval (.Subscript (.Call _ _ _ _) (.Slice _ _ none _) _) _) _ _ _); (with_reducible refine' T_strSlice2 ?h ?hsl); (case hsl => exact fun _ _ => rfl)))
section
variable {f : Fm} {l : Locs} {X : St} {env : Env} {k : Nat}
noncomputable def UnTailP (f : Fm) (k : Nat) (ss : List Stmt) (env : Env) : Prop := ∀ {l : Locs} {X : St} {y dy c2 NL : Addr} {L : Str} {cs : List Tr} {vs vs2 : List Value} {n2 : Nat} {G2 : List Addr} {tp tu : Tok} {Q : Flow → Locs → St → Prop} (hN : Nd X.h y dy c2 L vs2) (hT : TRs X.h (flats cs) vs2 G2) (hnd : G2.Nodup) (hG : ∀ a, a ∈ G2 → a ≠ c2 ∧ a ≠ y ∧ a ≠ dy) (tb : Tab X.h 296) (hNL : X.h NL = some (listOf vs.toArray n2)) (hne : NL ≠ c2 ∧ NL ∉ G2) (hL : L.length ≤ 5000) (hms : mss cs ≤ 4000000) (hvs : vs.length ≤ 8000000) (hLk : Lks 5000 cs) (sb : Sub [(Str.ofString "node", .ref y), (Str.ofString "nodeList", .ref NL), (Str.ofString "expandUnary", .bool true), (Str.ofString "parentChar", .str (Str.ofString "^") tp), (Str.ofString "unaryChar", .str (Str.ofString "+") tu)] l) (hq : ∀ l3 X3 ts2 vs3 G3 c3 L' n3, X3.g = X.g → Tab X3.h 296 → X3.h NL = some (listOf (vs ++ vs3).toArray n3) → (∀ a o, X.h a = some o → a ≠ dy → a ≠ NL → X3.h a = some o) → Nd X3.h y dy c3 L' vs3 → TRs X3.h ts2 vs3 G3 → G3.Nodup → (∀ a, a ∈ G3 → a ≠ c3 ∧ (X.h a = none ∨ a ∈ G2)) → (c3 = c2 ∨ X.h c3 = none) →
      uT (.node L cs) = .node L' (ts2.map uT) → mss ts2 < ms (.node L cs) → Lks 5000 ts2 → Sub [(Str.ofString "nodeList", .ref NL), (Str.ofString "expandUnary", .bool true), (Str.ofString "parentChar", .str (Str.ofString "^") tp), (Str.ofString "unaryChar", .str (Str.ofString "+") tu)] l3 → Q .next l3 X3),
    T f (execs ss env) l X Q
theorem unTail_ok (O : Ok f k) (hk : k < 270) {name qual : Str} {params : Arguments} {body : List Stmt} {scope : Scope} {dV kV doc pm cdv ct oc : Value} {an od : Option Addr} {osl : Array (Option Value)} (ho : (Kh f.w.params).lookup 299 = some ⟨oc, od, .func (fnOf name qual params body scope dV kV doc pm an cdv ct), osl⟩) {ss : List Stmt} (hst : stB body = some ss) : UnTailP f k ss (envX qual scope f.L 299 cdv (cellsFrom (f.L + 1) scope.names [])) := by
  have key : ∀ {v : Obj}, (Kh f.w.params).lookup 299 = some v → (⟨oc, od, .func (fnOf name qual params body scope dV kV doc pm an cdv ct), osl⟩ : Obj) = v := fun h => Option.some.inj (ho.symm.trans h)
  refine' (fun e => ?main) (key ?hh)
  case hh => k_is
  cases e
  have e2 := Option.some.inj (show some _ = some ss from hst)
  subst e2
  clear hst key ho
  unfold UnTailP
  intro l X y dy c2 NL L cs vs vs2 n2 G2 tp tu Q hN hT hnd hG tb hNL hne hL hms hvs hLk sb hq
  have hlen := hT.length
  have hfm := flat_ms.2 cs
  have hfl := len_mss (flats cs)
  have hfk := flat_Lk.2 cs hLk
  have hz2 : vs2.length ≤ sizeLine := by rw [sizeLine_eq]; lia
  have hcut := cutC_le L
  refine T_sub sb ?_
  walk_at "m:go"
  refine label_ok O (by exact bk1 (by assumption) rfl) hN fun t1 => ?_
  walk_at "m:go"
  refine T_cut (fun l' X' => X'.g = X.g ∧ (∀ a o, X.h a = some o → a ≠ dy → X'.h a = some o) ∧ Nd X'.h y dy c2 (cutC L) vs2 ∧ Sub [(Str.ofString "node", .ref y), (Str.ofString "nodeList", .ref NL), (Str.ofString "expandUnary", .bool true), (Str.ofString "parentChar", .str (Str.ofString "^") tp), (Str.ofString "unaryChar", .str (Str.ofString "+") tu)] l') ?_ ?_
  · by_cases hp : Txt.find L carC = -1
    · refine T_if0 ?_
      walk_at "m:go"
      refine ⟨by rw [hp]; rfl, ?_⟩
      walk_at "m:go"
      refine ⟨rfl, rfl, fun a o e _ => e, ?_, by walk_at "m:sub"⟩
      rw [show cutC L = L by unfold cutC; rw [if_pos hp]]
      exact hN
    · refine T_if1 ?_
      walk_at "m:go"
      refine ⟨by simpa using hp, ?_⟩
      walk_at "m:go"
      refine label_ok O (by exact bk1 (by assumption) rfl) hN fun t2 => ?_
      walk_at "m:go"
      refine inSs none (some (Txt.find L carC, _)) rfl rfl (by rw [sizeLine_eq]; exact bk6 (by assumption) rfl) fun t3 => ?_
      walk_at "m:go"
      refine set_label_ok O (by exact bk1 (by assumption) rfl) hN fun o' ho' => ?_
      refine ⟨rfl, ?_⟩
      walk_at "m:go"
      have ne := hN.ne
      obtain ⟨nc, hc⟩ := hN.hl
      refine ⟨rfl, rfl, fun a o e n => upd_other n e, ⟨upd_other ne.1 hN.hx, ⟨o', upd_self _ _ _, ?_⟩, ⟨nc, upd_other ne.2.2.symm hc⟩⟩, by walk_at "m:sub"⟩
      rw [show cutC L = Txt.slice L none (some (Txt.find L carC)) by unfold cutC; rw [if_neg hp]]
      exact ho'
  intro l1 zz1 zz2
  have zze := zz2.1
  revert zz2
  refine StElR zz1 zze ?_
  clear zze
  clear zz1
  intro H1 zz2
  refine ea_AAA (zz2) ?_
  try clear zz2
  intro eg k1 hN1 sb1
  clear eg
  dsimp only at k1 hN1 ⊢
  have G2d : ∀ a, a ∈ G2 → a ≠ dy := fun a ha => (hG a ha).2.2
  have hT1 : TRs H1 (flats cs) vs2 G2 := hT.on fun a ha o e => k1 a o e (G2d a ha)
  have ndy := (hN.noL hNL).2.symm
  have hNL1 := k1 _ _ hNL ndy
  have Pdy : (296 : Addr) ≠ dy := by
    refine ea_EA (hN.hd) ?_
    intro od hod hod2
    exact (tb.ne hod (by obtain ⟨_, _, _, _, _, _, rfl⟩ := hod2; simp)).symm
  have tb1 : Tab H1 296 := tb.imp fun ps z => ⟨k1 _ _ z.1 Pdy, z.2⟩
  have back1 : ∀ a, H1 a = none → X.h a = none := fun a h => by
    cases z : X.h a with
    | none => rfl
    | some o =>
      by_cases q : a = dy
      · refine ea_EA (hN1.hd) ?_
        intro od hod _
        rw [q, hod] at h; cases h
      · rw [k1 a o z q] at h; cases h
  refine T_sub sb1 ?_
  walk_at "m:go"
  refine T_cut (fun l' X' => ∃ ts2 vs3 G3 c3 L', X'.g = X.g ∧ (∀ a o, H1 a = some o → a ≠ dy → X'.h a = some o) ∧ Nd X'.h y dy c3 L' vs3 ∧ TRs X'.h ts2 vs3 G3 ∧ G3.Nodup ∧ (∀ a, a ∈ G3 → a ≠ c3 ∧ (X.h a = none ∨ a ∈ G2)) ∧ (c3 = c2 ∨ X.h c3 = none) ∧ NL ≠ c3 ∧ NL ∉ G3 ∧
      uT (.node L cs) = .node L' (ts2.map uT) ∧ mss ts2 < ms (.node L cs) ∧ Lks 5000 ts2 ∧ Sub [(Str.ofString "node", .ref y), (Str.ofString "nodeList", .ref NL), (Str.ofString "expandUnary", .bool true), (Str.ofString "parentChar", .str (Str.ofString "^") tp), (Str.ofString "unaryChar", .str (Str.ofString "+") tu)] l') ?_ ?_
  · refine T_if1 ?_
    walk_at "m:go"
    refine ⟨rfl, ?_⟩
    walk_at "m:go"
    refine label_ok O (by exact bk1 (by assumption) rfl) hN1 fun t4 => ?_
    walk_at "m:go"
    by_cases hp : Txt.find (cutC L) pluC = -1
    · refine T_if0 ?_
      walk_at "m:go"
      refine ⟨by rw [hp]; rfl, ?_⟩
      walk_at "m:go"
      refine ⟨rfl, flats cs, vs2, G2, c2, cutC L, rfl, fun a o e _ => e, hN1, hT1, hnd, fun a ha => ⟨(hG a ha).1, .inr ha⟩, .inl rfl, hne.1, hne.2, by rw [uT_node, if_pos hp], by simp only [ms_e1, ms_e2]; lia, hfk, by walk_at "m:sub"⟩
    · have hsf := sufP_lt hp
      refine T_if1 ?_
      walk_at "m:go"
      refine ⟨by simpa using hp, ?_⟩
      walk_at "m:go"
      refine label_ok O (by exact bk1 (by assumption) rfl) hN1 fun t5 => ?_
      walk_at "m:go"
      refine inSs (some (Txt.find (cutC L) pluC + 1, _)) none rfl rfl (by rw [sizeLine_eq]; lia) fun t6 => ?_
      walk_at "m:go"
      obtain ⟨nc, hc⟩ := id hN1.hl
      refine CompSrc_list O (vs := vs2) (fun i ys X' => ys = vs2.take i ∧ X' = ⟨H1, X.g⟩) hz2 ?_ ⟨by simp, rfl⟩ ?_ ?_
      · rintro i ys _ ⟨rfl, rfl⟩; exact ⟨⟨nc, hc⟩, by simp; lia⟩
      · intro hb' C i v ys _ O1 hi hv zz9
        obtain ⟨rfl, rfl⟩ := zz9
        walk_at "m:go"
        exact ⟨(take_get hv).symm, rfl⟩
      intro ys2 X2 zz2 D nD hD
      obtain ⟨e1, e2⟩ := zz2
      rw [e2] at hD ⊢
      rw [e1, List.take_length]
      dsimp only at hD ⊢
      walk_at "m:go"
      have leD := Le.upd (o := listOf vs2.toArray nD) hD
      refine tree_new O (by exact bk1 (by assumption) rfl) (upd_self _ _ _) hz2 fun z dz cz H2 le2 fz fdz fcz hz => ?_
      replace le2 := leD.trans le2
      replace fz := leD.none fz
      replace fdz := leD.none fdz
      replace fcz := leD.none fcz
      clear leD hD
      have hN2 := hN1.le le2
      walk_at "m:go"
      refine label_ok O (by exact bk1 (by assumption) rfl) hN2 fun t7 => ?_
      walk_at "m:go"
      refine inSs none (some (Txt.find (cutC L) pluC, _)) rfl rfl (by rw [sizeLine_eq]; omega) fun t8 => ?_
      walk_at "m:go"
      refine set_label_ok O (by exact bk1 (by assumption) rfl) hN2 fun o' ho' => ?_
      refine ⟨rfl, ?_⟩
      walk_at "m:go"
      refine inL rfl fun E hE => ?_
      walk_at "m:go"
      dsimp only at hE ⊢
      have ne := hN2.ne
      have hN3 : Nd (upd H2 dy o') y dy c2 (preP (cutC L)) vs2 := ⟨upd_other ne.1 hN2.hx, ⟨o', upd_self _ _ _, ho'⟩, ⟨nc, upd_other ne.2.2.symm (le2 _ _ hc)⟩⟩
      have leE := Le.upd (o := listOf [Value.ref z].toArray 0) hE
      refine T_set_children O (hN3.le leE) fun o2 ho2 => ?_
      walk_at "m:go"
      have zdy : z ≠ dy := fun q => by
        refine ea_EA (hN1.hd) ?_
        intro od hod _
        rw [q, hod] at fz; cases fz
      have dzdy : dz ≠ dy := fun q => by
        refine ea_EA (hN1.hd) ?_
        intro od hod _
        rw [q, hod] at fdz; cases fdz
      have czdy : cz ≠ dy := fun q => by
        refine ea_EA (hN1.hd) ?_
        intro od hod _
        rw [q, hod] at fcz; cases fcz
      have fE1 := (upd_none hE)
      have Edy := fE1.1
      have up : ∀ a o, a ≠ dy → H2 a = some o → upd (upd (upd H2 dy o') E (listOf [Value.ref z].toArray 0)) dy o2 a = some o := fun a o n e => upd_other n (leE _ _ (upd_other n e))
      have hz3 : Nd (upd (upd (upd H2 dy o') E (listOf [Value.ref z].toArray 0)) dy o2) z dz cz (sufP (cutC L)) vs2 := ⟨up _ _ zdy hz.hx, hz.hd.imp fun o z => ⟨up _ _ dzdy z.1, z.2⟩, hz.hl.imp fun n e => up _ _ czdy e⟩
      have G2in : ∀ a, a ∈ G2 → H1 a ≠ none := fun a ha => hT1.in ha
      have fEz : ∀ a, H2 a ≠ none → a ≠ E := fun a h q => h (q ▸ fE1.2)
      refine ⟨rfl, [.node (sufP (cutC L)) (flats cs)], [.ref z], z :: dz :: cz :: G2, E, preP (cutC L), rfl, fun a o e n => up a o n (le2 _ _ e), ⟨?_, ⟨o2, upd_self _ _ _, ho2⟩, ⟨0, ?_⟩⟩, TRs.one ?_, ?_, fun a ha => ?_, .inr (back1 _ (le2.none fE1.2)), ?_, ?_, ?_, ?_, ?_, by walk_at "m:sub"⟩
      · exact up _ _ ne.1 hN2.hx
      · exact upd_other Edy (upd_self _ _ _)
      · simp only [TR_e1, TR_e2]
        exact ia_EEEEEAAA z dz cz vs2 G2 rfl rfl hz3 (hT1.on fun a ha o e => up a o (G2d a ha) (le2 _ _ e))
      · have n1 := hz.ne
        simp only [List.nodup_cons, List.mem_cons, not_or]
        exact ⟨⟨n1.1, n1.2.1, fun q => G2in _ q fz⟩, ⟨n1.2.2, fun q => G2in _ q fdz⟩, fun q => G2in _ q fcz, hnd⟩
      · simp only [List.mem_cons] at ha
        rcases ha with rfl | rfl | rfl | q
        · exact ⟨fEz _ (in_of hz.hx), .inl (back1 _ fz)⟩
        · obtain ⟨o, e, _⟩ := hz.hd; exact ⟨fEz _ (in_of e), .inl (back1 _ fdz)⟩
        · obtain ⟨n, e⟩ := hz.hl; exact ⟨fEz _ (in_of e), .inl (back1 _ fcz)⟩
        · obtain ⟨t, ht, -⟩ : ∃ o, H1 a = some o ∧ True := by
            cases q2 : H1 a with
            | none => exact absurd q2 (G2in a q)
            | some o => exact ⟨o, rfl, trivial⟩
          exact ⟨fEz _ (in_of (le2 _ _ ht)), .inr q⟩
      · exact fEz _ (in_of (le2 _ _ hNL1))
      · intro hm
        simp only [List.mem_cons] at hm
        rcases hm with q | q | q | q
        · rw [q] at hNL1; rw [hNL1] at fz; cases fz
        · rw [q] at hNL1; rw [hNL1] at fdz; cases fdz
        · rw [q] at hNL1; rw [hNL1] at fcz; cases fcz
        · exact hne.2 q
      · rw [uT_node, if_neg hp]; rfl
      · simp only [mss_e1, mss_e2, ms_e1, ms_e2]; lia
      · simp only [Lks_e1, Lks_e2, Lk_e1, Lk_e2, and_true]
        exact ⟨by lia, hfk⟩
  intro l2 zz1 zz2
  obtain ⟨H2, g2⟩ := zz1
  refine ea_EEEEE (zz2) ?_
  try clear zz2
  intro ts2 vs3 G3 c3 L' zp5
  refine ea_AAAAAAAAAAAA (zp5) ?_
  clear zp5
  intro eg k2 hN2 hT2 hnd3 hG3 hc3 hn1 hn2 huT hmt hLk2 sb2
  obtain rfl : g2 = X.g := eg
  dsimp only at k2 hN2 hT2 ⊢
  refine T_sub sb2 ?_
  walk_at "m:go"
  obtain ⟨nc3, hcl3⟩ := id hN2.hl
  have hNL2 := k2 _ _ hNL1 ndy
  have tb2 : Tab H2 296 := tb1.imp fun ps z => ⟨k2 _ _ z.1 Pdy, z.2⟩
  have hl3 := hT2.length
  have hm3 := len_mss ts2
  simp only [ms_e1, ms_e2] at hmt
  refine TFor_list' O (vs := vs3) (n := nc3) (fun i l' X' => X'.g = X.g ∧ (∀ a o, H2 a = some o → a ≠ NL → X'.h a = some o) ∧ (∃ n, X'.h NL = some (listOf (vs ++ vs3.take i).toArray n)) ∧ Sub [(Str.ofString "nodeList", .ref NL), (Str.ofString "expandUnary", .bool true), (Str.ofString "parentChar", .str (Str.ofString "^") tp), (Str.ofString "unaryChar", .str (Str.ofString "+") tu)] l') ?_ ?_ ?_ ?_
  · intro i l' X' zz3
    refine ea_AA (zz3) ?_
    try clear zz3
    intro _ h _
    exact ⟨nc3, h _ _ hcl3 hn1.symm⟩
  · exact ⟨rfl, fun a o e _ => e, ⟨n2, by simpa using hNL2⟩, by walk_at "m:sub"⟩
  · intro i v l2 zz3 it o hv zz7 hit hno
    have zze := zz7.1
    revert hit; revert zz7
    refine StElR zz3 zze ?_
    clear zze
    clear zz3
    intro H6 zz7 hit
    refine ea_AAA (zz7) ?_
    try clear zz7
    intro eg6 k6 zq262 sb6
    obtain ⟨n6, hNL6⟩ := zq262
    clear eg6
    dsimp only at k6 hNL6 hit ⊢
    have hlt : i < vs3.length := (List.getElem?_eq_some_iff.mp hv).1
    have nit : NL ≠ it := ne_of_some hNL6 hit
    have leI := Le.upd (o := o) hit
    have io : upd H6 it o it = some o := upd_self _ _ _
    have hNL7 := leI _ _ hNL6
    have hzq : (vs ++ vs3.take i).length ≤ sizeLine := by rw [sizeLine_eq, List.length_append, List.length_take]; lia
    revert leI; revert io; revert hNL7
    refine gen_x (upd H6 it o) ?_
    intro H7 hNL7 io leI
    refine T_sub sb6 ?_
    walk_at "m:go"
    refine ⟨rfl, ?_⟩
    walk_at "m:go"
    rename_i n9
    refine ⟨upd_other nit.symm io, rfl, fun a ob e n => ?_, ⟨n9, ?_⟩, by walk_at "m:sub"⟩
    · exact (del_ne (ne_of_some (k6 _ _ e n) hit)).trans (upd_other n (leI _ _ (k6 _ _ e n)))
    · rw [take_get hv, ← List.append_assoc]
      exact (del_ne nit).trans (upd_self _ _ _)
  · intro l2 zz1 zz2
    have zze := zz2.1
    revert zz2
    refine StElR zz1 zze ?_
    clear zze
    clear zz1
    intro H6 zz2
    refine ea_AAA (zz2) ?_
    try clear zz2
    intro eg6 k6 zq263 sb6
    obtain ⟨n6, hNL6⟩ := zq263
    clear eg6
    dsimp only at k6 hNL6 ⊢
    rw [List.take_length] at hNL6
    walk_at "m:go"
    have ny := (hN2.noL hNL2).1
    have NP : (296 : Addr) ≠ NL := (tb.ne hNL (by simp)).symm
    refine hq l2 ⟨H6, X.g⟩ ts2 vs3 G3 c3 L' n6 rfl (tb2.imp fun ps z => ⟨k6 _ _ z.1 NP, z.2⟩) hNL6 (fun a o e n1 n2 => k6 a o (k2 a o (k1 a o e n1) n1) n2) ⟨k6 _ _ hN2.hx ny, hN2.hd.imp fun o z => ⟨k6 _ _ z.1 ndy.symm, z.2⟩, ⟨nc3, k6 _ _ hcl3 hn1.symm⟩⟩ (hT2.on fun a ha o e => k6 a o e fun z => hn2 (z ▸ ha)) hnd3 hG3 hc3 huT (by simp only [ms_e1, ms_e2]; omega) hLk2 sb6
end
end
-- F18
section
section
variable {f : Fm} {l : Locs} {X : St} {env : Env} {k : Nat}
theorem un_ok (O : Ok f k) (hk : k < 100) {x : Addr} {L0 : Str} {cs0 : List Tr} {F : List Addr} {Q : Value → Locs → St → Prop} (hT : TR X.h (.node L0 cs0) (.ref x) F) (hnd : F.Nodup) (htab : Tab X.h 296) (hms : ms (.node L0 cs0) ≤ 4000000) (hLk : Lk 5000 (.node L0 cs0))
    (hq : ∀ X' F', (∀ a o, X.h a = some o → a ∉ F → a ≠ 296 → X'.h a = some o) → TR X'.h (uT (.node L0 cs0)) (.ref x) F' → F'.Nodup → (∀ a, a ∈ F' → a ∈ F ∨ X.h a = none) → Tab X'.h 296 → GB X.g X'.g → Q .none l X') :
    T f (call (.ref 299) [.ref x]) l X Q := by
  refine T_callCL (l₀ := [(Str.ofString "tree", .ref x), (Str.ofString "expandUnary", .bool true), (Str.ofString "parentChar", .str (Str.ofString "^") _), (Str.ofString "unaryChar", .str (Str.ofString "+") _)]) O (by exact bk1 (by assumption) rfl) (by k_is) (by k_is) (by exact fun s X => binds_K X rfl (by k_is) rfl rfl rfl) (by rfl) (by decide) (by exact fun _ => hl_cons rfl (hl_cons rfl (hl_cons rfl (hl_cons rfl hl_nil)))) (by rfl) (by rfl) (by rfl) ?_
  intro f' H0 O' le cells
  obtain ⟨f1, c1⟩ := cells (Str.ofString "childChar") (f'.L + 1) m0
  obtain ⟨tb, c1⟩ : ∃ tb, CellIs H0 (f'.L + 1) (some (.str (Str.ofString "|") tb)) := ⟨_, c1⟩
  clear cells
  obtain ⟨tp, htp⟩ : ∃ tp : Tok, tp = _ := ⟨_, rfl⟩
  obtain ⟨tu, htu⟩ : ∃ tu : Tok, tu = _ := ⟨_, rfl⟩
  refine T_sub (l' := [(Str.ofString "tree", .ref x), (Str.ofString "expandUnary", .bool true), (Str.ofString "parentChar", .str (Str.ofString "^") tp), (Str.ofString "unaryChar", .str (Str.ofString "+") tu)]) (by rw [htp, htu]; exact Sub.refl _) ?_
  clear htp htu
  have hT0 := hT
  replace hT := hT.le le
  replace htab : Tab H0 296 := htab.imp fun ps z => ⟨le _ _ z.1, z.2⟩
  have n296 : 296 ∉ F := fun hm => by
    refine ea_EA (TR_cls.1 _ _ _ hT _ hm) ?_
    intro o e c
    exact htab.ne e c rfl
  walk_at "m:go"
  refine inL rfl fun NL hNL => ?_
  walk_at "m:go"
  dsimp only at hNL ⊢
  have le1 := Le.upd (o := listOf [Value.ref x].toArray 0) hNL
  have hN0 : upd H0 NL (listOf [Value.ref x].toArray 0) NL = some (listOf [Value.ref x].toArray 0) := upd_self _ _ _
  refine ea_EA (id htab) ?_
  intro ps0 hps0 hps1
  have C0 := Cm.start hT hnd le1 hNL (in_of hN0) 296 n296 (in_of (le1 _ _ hps0))
  have T0 : Tab (upd H0 NL (listOf [Value.ref x].toArray 0)) 296 := ⟨ps0, le1 _ _ hps0, hps1⟩
  replace c1 := c1.le le1
  have cN : f'.L + 1 ≠ NL := by
    refine ea_EA (c1) ?_
    try clear c1
    intro o e _
    rintro rfl
    rw [hN0] at e; cases e; simp_all
  have NP : NL ≠ 296 := T0.ne hN0 (by simp)
  revert C0
  refine gen_e ((fun (H' : Hp) T => ∃ F', (∀ a o, H0 a = some o → a ∉ F → a ≠ 296 → H' a = some o) ∧ TR H' T (.ref x) F' ∧ F'.Nodup ∧ ∀ a, a ∈ F' → a ∈ F ∨ H0 a = none)) ?_
  intro KK hKe C0
  revert hq
  refine gen_e (uT (.node L0 cs0)) ?_
  intro Ts hTe hq
  revert C0; revert hN0; revert T0; revert c1
  refine gen_x (upd H0 NL (listOf [Value.ref x].toArray 0)) ?_
  intro H1 c1 T0 hN0 C0
  clear le1 hps0 hps1
  refine T_while (ι := List Tr) (fun _ => [(Str.ofString "nodeList", .ref NL), (Str.ofString "expandUnary", .bool true), (Str.ofString "parentChar", .str (Str.ofString "^") tp), (Str.ofString "unaryChar", .str (Str.ofString "+") tu)])
    (fun (ts : List Tr) X' => ∃ vs n F p, GB X.g X'.g ∧ Tab X'.h 296 ∧ X'.h NL = some (listOf vs.toArray n) ∧ CellIs X'.h (f'.L + 1) (some (.str (Str.ofString "|") tb)) ∧ Cm KK p (fun a => a = NL ∨ a = 296) X'.h ts vs F ∧ p (ts.map uT) = Ts ∧ Lks 5000 ts ∧ mss ts ≤ 4000000) mss ?_ [.node L0 cs0] ⟨_, _, _, _, GB.refl _, T0, hN0, c1, C0, by rw [← hTe]; rfl, by simp only [Lks_e1, Lks_e2, and_true]; exact hLk, by simp only [mss_e1, mss_e2]; exact bk6 (by assumption) rfl⟩ (by walk_at "m:sub")
  clear C0 hN0 T0 c1 htab hT
  intro ts zz1 zz2
  obtain ⟨H2, g2⟩ := zz1
  refine ea_EEEEAAAAAAA (zz2) ?_
  try clear zz2
  intro vs n F1 p gb tb2 hNL2 hc2 C1 hp hLk2 hms2
  dsimp only at gb tb2 hNL2 hc2 C1 ⊢
  have hlv := C1.tr.length
  have hlm := len_mss ts
  walk_at "m:go"
  refine T_truthy_list hNL2 (by rw [sizeLine_eq]; lia) ?_
  rcases List.eq_nil_or_concat ts with rfl | ⟨ts, t, rfl⟩
  · obtain rfl : vs = [] := List.eq_nil_of_length_eq_zero (by simpa using hlv)
    refine ite_f (by simp) ?_
    walk_at "m:go"
    have h1 := C1.now
    rw [show p [] = Ts from hp, ← hKe] at h1
    refine ea_EAAA (h1) ?_
    try clear h1
    intro F' k1 k2 k3 k4
    exact hq ⟨H2, g2⟩ F' (fun a o e n1 n2 => k1 a o (le _ _ e) n1 n2) k2 k3 (fun a ha => (k4 a ha).imp id le.none) tb2 gb
  rw [List.concat_eq_append] at *
  obtain ⟨vs, v, rfl⟩ : ∃ ws v, vs = ws ++ [v] := by
    rcases List.eq_nil_or_concat vs with rfl | ⟨ws, v, rfl⟩
    · simp at hlv
    · exact ⟨ws, v, List.concat_eq_append⟩
  simp only [List.length_append, List.length_cons, List.length_nil] at hlv hlm
  refine ite_t (by simp) ?_
  walk_at "m:go"
  refine T_pop hNL2 (by rw [sizeLine_eq]; lia) fun n3 => ?_
  have Zin : ∀ {H : Hp} {us : List Value} {n : Nat}, Tab H 296 → H NL = some (listOf us.toArray n) → ∀ a, a = NL ∨ a = 296 → H a ≠ none := fun t e a ha => by
    rcases ha with rfl | rfl
    · rw [e]; simp
    · obtain ⟨_, e, _⟩ := t; rw [e]; simp
  have tb3 : ∀ us n', Tab (upd H2 NL (listOf us n')) 296 := fun us n' => tb2.imp fun ps z => ⟨upd_other NP.symm z.1, z.2⟩
  refine T_hp (fun H => Tab H 296 ∧ H NL = some (listOf vs.toArray n3) ∧ CellIs H (f'.L + 1) (some (.str (Str.ofString "|") tb)) ∧ Cm KK p (fun a => a = NL ∨ a = 296) H (ts ++ [t]) (vs ++ [v]) F1) ⟨tb3 _ _, upd_self _ _ _, ?_, C1.mod (fun a o e n => upd_other (fun z => n (.inl z)) e) (Zin (tb3 _ _) (upd_self _ _ _))⟩ ?_
  · refine ea_EA (hc2) ?_
    try clear hc2
    intro o e d
    exact ⟨o, upd_other cN e, d⟩
  clear tb2 hNL2 hc2 C1 tb3
  intro H4 zz1
  refine ea_AAA (zz1) ?_
  try clear zz1
  intro tb4 hNL4 hc4 C1
  walk_at "m:go"
  rw [mss_append] at hms2
  rw [Lks_append] at hLk2
  simp only [mss_e1, mss_e2] at hms2
  refine ea_EEAA (C1.tr.last) ?_
  intro E1 E2 eF zc238 h2
  clear zc238
  induction t using TrEl with
  | leaf c =>
    have C2 := C1.leaf rfl
    simp only [TR_e1, TR_e2] at h2
    refine ea_AE (h2) ?_
    try clear h2
    intro zc239 tcc zq240
    clear zc239
    obtain rfl := zq240
    refine T_if0 ?_
    walk_at "m:go"
    refine ⟨rfl, ?_⟩
    walk_at "m:go"
    refine ⟨ts, by rw [mss_append]; simp only [mss_e1, mss_e2, ms_e1, ms_e2]; lia, ⟨_, n3, _, _, gb, tb4, hNL4, hc4, C2, ?_, hLk2.1, by lia⟩, by walk_at "m:sub"⟩
    rw [← hp, List.map_append, List.map_singleton, uT_leaf]
  | node L cs =>
    simp only [TR_e1, TR_e2] at h2
    refine ea_EEEEEAAA (h2) ?_
    try clear h2
    intro y dy cy us G zq241 zq242 hNy hTy
    obtain rfl := zq241
    obtain rfl := zq242
    have nd := C1.nd
    rw [eF, List.nodup_append] at nd
    have nd2 := nd.2.1
    simp only [List.nodup_cons, List.mem_cons, not_or] at nd2
    simp only [Lks_e1, Lks_e2, Lk_e1, Lk_e2, and_true] at hLk2
    simp only [ms_e1, ms_e2] at hms2
    have hGN : ∀ a, a = y ∨ a = dy ∨ a = cy ∨ a ∈ G → a ≠ NL ∧ a ≠ 296 := fun a ha => by
      have hm : a ∈ F1 := by rw [eF]; rcases ha with rfl | rfl | rfl | q <;> simp [*]
      exact ⟨fun z => C1.nl a hm (.inl z), fun z => C1.nl a hm (.inr z)⟩
    refine T_if1 ?_
    walk_at "m:go"
    refine ⟨rfl, ?_⟩
    walk_at "m:go"
    refine' anyBar_ok (f := f') O' (by exact bk2 (by assumption) rfl) ?ho ?hst hNy hTy nd2.2.2.2 nd2.2.2.1 nd2.2.1.2 tb4 hc4 (by lia) ?hfin
    case ho => k_is
    case hst => rfl
    intro l5 X5 vs2 c2 G2 sb5 gb5 tb5 k5 hN5 hT5 hnd5 hG5 hc25
    have dN := hGN dy (.inr (.inl rfl))
    have hNL5 := k5 _ _ hNL4 dN.1.symm NP
    have back5 : ∀ a, X5.h a = none → H4 a = none := fun a h => by
      cases z : H4 a with
      | none => rfl
      | some o =>
        by_cases q1 : a = dy
        · refine ea_EA (hN5.hd) ?_
          intro od hod _
          rw [q1, hod] at h; cases h
        · by_cases q2 : a = 296
          · refine ea_EA (tb5) ?_
            try clear tb5
            intro ps e _
            rw [q2, e] at h; cases h
          · rw [k5 a o z q1 q2] at h; cases h
    refine Then_next ?_
    have hlt := len_mss ts
    refine' unTail_ok (f := f') O' (by exact bk2 (by assumption) rfl) ?ho2 ?hst2 hN5 hT5 hnd5 ?hG2 tb5 hNL5 ?hne2 hLk2.2.1 (by omega) (by lia) hLk2.2.2 sb5 ?hfin2
    case ho2 => k_is
    case hst2 => rfl
    case hG2 =>
      intro a ha
      obtain ⟨h1, h2⟩ := hG5 a ha
      exact ⟨h2, fun z => nd2.1.2.2 (z ▸ h1), fun z => nd2.2.1.2 (z ▸ h1)⟩
    case hne2 =>
      refine ⟨fun z => ?_, fun z => (hGN NL (.inr (.inr (.inr (hG5 NL z).1)))).1 rfl⟩
      rcases hc25 with q | q
      · exact (hGN cy (.inr (.inr (.inl rfl)))).1 (z.trans q).symm
      · replace q : H4 c2 = none := q
        rw [← z, hNL4] at q; cases q
    intro l6 X6 ts2 vs3 G3 c3 L'' n6 g6 tb6 hNL6 k6 hN6 hT6 hnd6 hG6 hc6 huT hmt hLk6 sb6
    walk_at "m:go"
    obtain ⟨F7, C7⟩ := C1.step (H2 := X6.h) rfl hNy (fun a o e n nz => k6 a o (k5 a o e n (fun z => nz (.inr z))) n (fun z => nz (.inl z))) (Zin tb6 hNL6) hN6 (by
      rcases hc6 with q | q
      · rw [q]; exact hc25
      · exact .inr (back5 _ q)) hT6 hnd6 (fun a ha => ⟨(hG6 a ha).1, by
      rcases (hG6 a ha).2 with q | q
      · exact .inl (back5 _ q)
      · exact .inr ⟨E1, G, eF, (hG5 a q).1⟩⟩)
    refine ⟨ts ++ ts2, ?_, ⟨_, n6, F7, _, gb.trans (gb5.trans (g6 ▸ GB.refl _)), tb6, hNL6, ?_, C7, ?_, Lks_append.mpr ⟨hLk2.1, hLk6⟩, ?_⟩, sb6⟩
    · rw [mss_append, mss_append]; simp only [mss_e1, mss_e2]; lia
    · refine ea_EA (hc4) ?_
      try clear hc4
      intro o e d
      refine ea_EA (hNy.hd) ?_
      intro od hod hod2
      have n1 : f'.L + 1 ≠ dy := fun z => by
        rw [z, hod] at e; cases e; obtain ⟨_, _, _, _, _, _, rfl⟩ := hod2; cases d
      have n2 : f'.L + 1 ≠ 296 := fun z => by
        refine ea_EA (tb4) ?_
        try clear tb4
        intro ps e' _
        rw [z, e'] at e; cases e; cases d
      exact ⟨o, k6 _ _ (k5 _ _ e n1 n2) n1 cN, d⟩
    · show p (((ts ++ ts2).map uT).take ts.length ++ [.node L'' (((ts ++ ts2).map uT).drop ts.length)]) = Ts
      rw [List.map_append, List.take_left' (by simp), List.drop_left' (by simp), ← huT, ← hp, List.map_append, List.map_singleton]
    · rw [mss_append]; simp only [ms_e1, ms_e2] at hmt; lia
end
end
-- B27
section
section
variable {f : Fm} {l : Locs} {X : St} {env : Env} {k : Nat}
theorem Sim.woken {H : Hp} {G : Array GenState} {s s' : Shared} (S : Sim f l ⟨H, G⟩ s) (k : ∀ b o, b = f.L ∨ H b ≠ none → s.heap.get? b = some o → s'.heap.get? b = some o) (base : f.hb.StaysIn s'.heap) (os : s'.os = f.o) : Sim f l ⟨H, s'.gens⟩ s' := by
  refine ea_EA (S.fr) ?_
  intro m F e
  exact ⟨⟨m, ⟨F.ns.at' fun o e => k _ o (.inl rfl) e, base, F.above⟩, e⟩, fun b o (q : H b = some o) => ⟨k b o (.inr (by rw [q]; simp)) (S.cov b o q).1, (S.cov b o q).2⟩, rfl, os⟩
theorem sub_core (O : Ok f k) {elt iter : PySem.Expr} {x : Str} {px : Pos} {ifs : List PySem.Expr} {scope : Scope} {cl : List (Str × Addr)} {pos : Pos} {a C0 t : Addr} {oC : Obj} {nm qn : Value} {gs : GenState} {g d : Nat} {lab : Str} {cs : List Tr} {F : List Addr} {RR : Value → Addr → Result → Shared → Prop}
    (hcell : ∀ y ∈ scope.names, y.2 ≠ .cell) (hkind : scope.kind = .function) (hx : scope.names.lookup x = some .local)
    {s₂ : Shared} (hs : Sim f l X s₂) (hsub : IsSub f C0 gs) (ha : X.h a = some (genObj g nm qn)) (hC0 : X.h C0 = some oC) (nC : NsO oC (fun z => [(Str.ofString "self", Value.ref t)].reverse.lookup z)) (hgs : X.g[g]? = some gs) (hLC : f.L < C0) (hbare : ∀ i y, g < i → X.g[i]? = some y → y.bare = true)
    (hT : TR X.h (.node lab cs) (.ref t) F) (hCF : C0 ∉ F) (haC : a ≠ C0) (hw : W2 (.node lab cs)) (hdd : hts cs ≤ d) (hk : k + 12 * d < 270)
    (turn : ∀ C X' y dy cy lab' vs, Ok (f.sub f.hb f.A C) k → Nd X'.h y dy cy lab' vs → vs.length ≤ 2 → T (f.sub f.hb f.A C) (tests ifs (compEnvC scope cl C env)) [(x, .ref y)] X' (fun ok _ X2 => ok = false ∧ X2 = X'))
    (fin : ∀ D C s' G' m, Sim f l ⟨wo X.h (fun b => b = C0), G'⟩ s' → X.h D = none → X.h C = none → D ≠ C → D ≠ f.L → C ≠ f.L → f.hb.get? D = none → f.hb.get? C = none → s'.heap.get? D = some (listOf [].toArray 0) → s'.heap.Ns C m →
      (∀ i, i < g → G'[i]? = X.g[i]?) → (∀ i y, g ≤ i → G'[i]? = some y → y.bare = true) → RR (.ref D) C (.ok .next) s') :
    wpAny (model Pg f.w) f.A (newList []) (fun acc s₃ => wpAny (model Pg f.w) f.A (newFunctionEnv scope env.globals cl [] env.qual none .none (some env)) (fun cenv s₄ =>
      codeAny (model Pg f.w) f.A (.compStart (.ListComp elt [⟨.Name x px, iter, ifs, 0⟩] scope pos) 0 (.ref a) acc { cenv with scope := relabel scope env }) (RR acc cenv.locals) s₄) (fun _ _ => False) s₃) (fun _ _ => False) s₂ := by
  refine wpAny_newObj_type (wpAny_newFunctionEnv hcell (by intro y hy; simp at hy) (fun h₁ hns₁ hsb₁ => ?_) hkind)
  dsimp only at hns₁ hsb₁ ⊢
  refine ea_AA (hs.newAddr) ?_
  intro d1 d2 d3
  have hs2 := hs.grow { cls := .type "list", dict := none, data := .seq ([] : List Value).toArray }
  have hD0 : (s₂.heap.push { cls := .type "list", dict := none, data := .seq ([] : List Value).toArray }).get? s₂.heap.objs.size = some (listOf ([] : List Value).toArray 0) := Heap.get?_push_size _ rfl
  have hC : (s₂.heap.push { cls := .type "list", dict := none, data := .seq ([] : List Value).toArray }).objs.size = s₂.heap.objs.size + 1 := Heap.size_push ..
  revert hns₁; revert hsb₁; revert hs2; revert hD0; revert hC
  refine gen_x (s₂.heap.push { cls := .type "list", dict := none, data := .seq ([] : List Value).toArray }) ?_
  intro H2 hC hD0 hs2 hsb₁ hns₁
  refine ea_AA (hs2.newAddr) ?_
  intro c1 c2 c3
  dsimp only at c1 c2 c3
  have hDC : s₂.heap.objs.size ≠ H2.objs.size := by rw [hC]; exact Nat.ne_of_lt (Nat.lt_succ_self _)
  have eb1 : Heap.ExtBut H2.objs.size H2 h₁ := fun b o hb e => hsb₁.extBut b o hb (Heap.get?_push_of_some _ e)
  have hs3 : Sim f l X { s₂ with heap := h₁, toks := s₂.toks + ([] : List (Str × Value)).length } := (hs2.lost (tk := s₂.toks + 0) c1 c2 c3 eb1)
  have hD3 : h₁.get? s₂.heap.objs.size = some (listOf ([] : List Value).toArray 0) := eb1 _ _ hDC hD0
  revert d1; revert d2; revert d3; revert hDC; revert hD3
  refine gen_e (s₂.heap.objs.size) ?_
  intro D hDe hD3 hDC d3 d2 d1
  revert c1; revert c2; revert c3; revert hns₁; revert hDC
  refine gen_e (H2.objs.size) ?_
  intro C hCe hDC hns₁ c3 c2 c1
  refine ea_EA (id hs.fr) ?_
  intro _ F0 _
  have hLD : f.L < D := hDe ▸ F0.ns.lt
  have hLCc : f.L < C := Nat.lt_trans hLD (by rw [← hCe, hC, hDe]; exact Nat.lt_succ_self _)
  have Fab := F0.above
  let Ht : Hp := fun b => if b ∈ F then X.h b else none
  have HtX : ∀ b o, Ht b = some o → X.h b = some o ∧ b ≠ C0 := fun b o e => by
    simp only [Ht] at e
    split at e
    · rename_i q; exact ⟨e, fun z => hCF (z ▸ q)⟩
    · cases e
  have hT' : TR Ht (.node lab cs) (.ref t) F := hT.on fun b hb o e => by simp only [Ht]; rw [if_pos hb]; exact e
  let Ks : Addr → Prop := fun b => b ≠ C0 ∧ (b = f.L ∨ b = D ∨ b = C ∨ X.h b ≠ none)
  have Fx : GFx { f with A := f.A.in1, L := C0 } Ks Ht := ⟨Nat.le_of_lt (Nat.lt_of_le_of_lt Fab hLC), fun h => h.1 rfl, fun b o e => ⟨(HtX b o e).2, (hs.cov _ _ (HtX b o e).1).2.2⟩⟩
  have Og : Ok { f with A := f.A.in1, L := C0 } (k + 1) := Ok.in1L (A' := f.A) O (by exact bk3 (by assumption) rfl)
  have R0 := sub_ready d Og (by lia) Fx hT' hdd hw nC hbare hsub
  have C0L : C0 ≠ f.L := Nat.ne_of_gt hLC
  have DC0 : D ≠ C0 := fun z => by rw [z, hC0] at d1; cases d1
  have CC0 : C ≠ C0 := fun z => by rw [z, hC0] at c1; cases c1
  have woS : ∀ b o, wo X.h (fun b => b = C0) b = some o → Ks b := fun b o e => ⟨(wo_some.mp e).2, .inr (.inr (.inr (by rw [(wo_some.mp e).1]; simp)))⟩
  let Inv : Nat → Shared → Prop := fun n s' => ∃ own G gs', Ready { f with A := f.A.in1, L := C0 } g Ks Ht (PN Ht) n own G gs' ∧ (∀ b o, own b = some o → s'.heap.get? b = some o ∧ ¬ Ks b ∧ f.hb.get? b = none) ∧ Sim f l ⟨wo X.h (fun b => b = C0), s'.gens⟩ s' ∧ s'.heap.get? D = some (listOf [].toArray 0) ∧ (∃ mC, s'.heap.Ns C mC) ∧
    s'.gens[g]? = some gs' ∧ (∀ i, g < i → s'.gens[i]? = G[i]?) ∧ (∀ i, i < g → s'.gens[i]? = X.g[i]?) ∧ ∀ i y, g < i → s'.gens[i]? = some y → y.bare = true
  have noLim : ∀ {s' X'}, Sim f l X' s' → s'.heap.NoLimit := fun S => by
    refine ea_EEEEE (O.T) ?_
    intro _ _ _ _ _ T
    refine ea_EA (S.fr) ?_
    intro _ F _
    exact T.nolimit.keeps F.keep
  have wake : ∀ {own G gs' s'}, (∀ b o, own b = some o → s'.heap.get? b = some o ∧ ¬ Ks b ∧ f.hb.get? b = none) → Sim f l ⟨wo X.h (fun b => b = C0), s'.gens⟩ s' → s'.heap.get? D = some (listOf [].toArray 0) → (∃ mC, s'.heap.Ns C mC) → s'.gens[g]? = some gs' → (∀ i, g < i → s'.gens[i]? = G[i]?) →
      GC { f with A := f.A.in1, L := C0 } g Ks Ht own G (s'.setGen g .running) := fun {own G gs' s'} hO S hD hN hg hG => by
    refine ea_EA (id S.fr) ?_
    intro _ F _
    refine ⟨F.keep, fun b o e => (S.cov b o (show wo X.h (fun b => b = C0) b = some o from wo_some.mpr (HtX b o e))).1, fun b o e => (hO b o e).1, S.os, setGen_self hg, fun i hi => by rw [setGen_ne (Nat.ne_of_gt hi)]; exact hG i hi, fun b hb z => ?_⟩
    replace z : s'.heap.get? b = none := z
    rcases hb.2 with q | q | q | q
    · refine ea_EEEA (F.ns) ?_
      intro o es ep e _
      rw [q, e] at z; cases z
    · rw [q, hD] at z; cases z
    · refine ea_EEEEA (hN) ?_
      try clear hN
      intro _ o es ep e _
      rw [q, e] at z; cases z
    · cases e : X.h b with
      | none => exact q e
      | some o => rw [(S.cov b o (show wo X.h (fun b => b = C0) b = some o from wo_some.mpr ⟨e, hb.1⟩)).1] at z; cases z
  have cC : ∀ s' : Shared, s' = { s₂ with heap := h₁, toks := s₂.toks + ([] : List (Str × Value)).length } → codeAny (model Pg f.w) f.A (.compLoop (.ListComp elt [⟨.Name x px, iter, ifs, 0⟩] scope pos) 0 (.ref a) (.ref D) (compEnvC scope cl C env)) (RR (.ref D) C) s' := by
    rintro s' rfl
    refine codeAny_compLoop_tests Inv ?_ (cn (.node lab cs)) ⟨_, X.g, gs, R0, ?_, ?_, hD3, ⟨_, hns₁⟩, ?_, ?_, ?_, ?_⟩
    · intro m s' zz2
      refine ea_EEEAAAAAAAA (zz2) ?_
      try clear zz2
      intro own G gs1 hR hO S hD hN hg1 hG hlo hba
      have gc := wake hO S hD hN hg1 hG
      obtain ⟨mC0, hNC⟩ := hN
      have KL : Ks f.L := ⟨Ne.symm C0L, .inl rfl⟩
      have KD : Ks D := ⟨DC0, .inr (.inl rfl)⟩
      have KC : Ks C := ⟨CC0, .inr (.inr (.inl rfl))⟩
      have haS : s'.heap.IsGen a g := ⟨_, nm, qn, (S.cov a _ (show wo X.h (fun b => b = C0) a = _ from wo_some.mpr ⟨ha, haC⟩)).1, rfl, rfl, rfl⟩
      refine next_gen (A := f.A) O.hh (noLim S) O.room haS hg1 (hR _ gc) (fun v s1 gs2 hb hv => ?_) (fun s1 hp h' hk' => ?_)
      · refine ea_AAEA (hv) ?_
        try clear hv
        intro zq43 zq44 own' ho' hkap
        refine ea_EEEEEAA (zq43) ?_
        try clear zq43
        intro y dy cy lab' vs zq45 hNy hlen
        obtain rfl := zq45
        obtain ⟨li, V1⟩ := zq44
        dsimp only at V1 ho' hkap
        induction m using NatEl with
        | zero => exact (hkap s1 ⟨V1.base, V1.tree, fun b o e => (ho' b o e).1, V1.os, V1.run, fun _ _ => rfl, V1.alive⟩).elim
        | succ m =>
          have S2 : Sim f l ⟨wo X.h (fun b => b = C0), (s1.setGen g gs2).gens⟩ (s1.setGen g gs2) := S.woken (fun b o hb e => V1.keep b o (by
            rcases hb with q | q
            · rw [q]; exact KL
            · cases z : wo X.h (fun b => b = C0) b with
              | none => exact absurd z q
              | some o' => exact woS b o' z) e) V1.base V1.os
          have hD2 : (s1.setGen g gs2).heap.get? D = some (listOf [].toArray 0) := V1.keep _ _ KD hD
          have hN2 : (s1.setGen g gs2).heap.Ns C mC0 := hNC.at' fun o e => V1.keep _ o KC e
          have hO2 : ∀ b o, own' b = some o → (s1.setGen g gs2).heap.get? b = some o ∧ ¬ Ks b ∧ f.hb.get? b = none := fun b o e => ⟨(ho' b o e).1, (ho' b o e).2.1, (ho' b o e).2.2⟩
          have gg : (s1.setGen g gs2).gens[g]? = some gs2 := setGen_self V1.run
          have gG : ∀ i, g < i → (s1.setGen g gs2).gens[i]? = s1.gens[i]? := fun i hi => setGen_ne (Nat.ne_of_gt hi)
          have gl : ∀ i, i < g → (s1.setGen g gs2).gens[i]? = X.g[i]? := fun i hi => by
            rw [setGen_ne (Nat.ne_of_lt hi), V1.gens i hi, setGen_ne (Nat.ne_of_lt hi)]; exact hlo i hi
          have gb : ∀ i y, g < i → (s1.setGen g gs2).gens[i]? = some y → y.bare = true := fun i y hi e => by
            rw [setGen_ne (Nat.ne_of_gt hi)] at e; exact V1.bare i y hi e
          have hbase : f.hb.StaysIn (s1.setGen g gs2).heap := V1.base
          have hHt : ∀ b o, Ht b = some o → (s1.setGen g gs2).heap.get? b = some o := V1.tree
          have hR2 : Ready { f with A := f.A.in1, L := C0 } g Ks Ht (PN Ht) m own' s1.gens gs2 := hkap
          revert S2; revert hD2; revert hN2; revert hO2; revert gg; revert gG; revert gl; revert gb; revert hbase; revert hHt
          refine gen_x (s1.setGen g gs2) ?_
          intro s3 hHt hbase gb gl gG gg hO2 hN2 hD2 S2
          refine wpAny_assign_Name (wpAny_storeName_local (lookup_relabel_local hx) hN2 (fun h₂ hn₂ hs₂' => ?_) (by simp [compEnvC, relabel, hkind]))
          replace hs₂' : Heap.SameBut C s3.heap h₂ := hs₂'
          have woC : wo X.h (fun b => b = C0) C = none := by
            cases z : wo X.h (fun b => b = C0) C with
            | none => rfl
            | some o => rw [(wo_some.mp z).1] at c1; cases c1
          have S4 := S2.lost (tk := s3.toks + 1) woC c2 c3 hs₂'.extBut
          have old2 : ∀ b o, b ≠ C → s3.heap.get? b = some o → h₂.get? b = some o := fun b o n e => (hs₂'.2 b n).trans e
          have base4 : f.hb.StaysIn h₂ := fun b o e => old2 b o (fun z => by rw [z, c3] at e; cases e) (hbase b o e)
          have Occ : Ok (f.sub f.hb f.A C) k := O.sub (j := 0) (fun _ _ e => e) rfl (Nat.le_refl _) (Nat.le_refl _) O.low
          have S5 : Sim (f.sub f.hb f.A C) [(x, Value.ref y)] (XF (f.sub f.hb f.A C) { s3 with heap := h₂, toks := s3.toks + 1 }) { s3 with heap := h₂, toks := s3.toks + 1 } :=
            ⟨⟨_, ⟨hn₂, base4, Nat.le_of_lt (Nat.lt_of_le_of_lt Fab hLCc)⟩, fun z u q => by
              rw [List.lookup_cons] at q
              split at q
              · rename_i r; cases q; rw [if_pos (beq_iff_eq.mp r)]
              · cases q⟩, fun b o e => ⟨(XF_some.mp e).2, (XF_some.mp e).1.1, (XF_some.mp e).1.2⟩, rfl, S4.os⟩
          have HtC : ∀ b o, Ht b = some o → b ≠ C := fun b o e z => by rw [z] at e; have := (HtX _ _ e).1; rw [c1] at this; cases this
          have hNy2 : Nd (XF (f.sub f.hb f.A C) { s3 with heap := h₂, toks := s3.toks + 1 }).h y dy cy lab' vs := hNy.le fun b o e => XF_some.mpr ⟨⟨HtC b o e, (Fx.t b o e).2⟩, old2 b o (HtC b o e) (hHt b o e)⟩
          refine (turn C _ y dy cy lab' vs Occ hNy2 hlen).useE S5 fun ok l1 X1 s6 Z zr => ?_
          have eo := zr.1
          have eX := zr.2
          clear zr
          subst eo eX
          simp only [Bool.false_eq_true, if_false]
          refine ea_EA (id Z.fr) ?_
          intro m6 F6 _
          have kc : ∀ b o, b ≠ C → s3.heap.get? b = some o → s6.heap.get? b = some o := fun b o n e => by
            have e2 := old2 b o n e
            cases q : f.hb.get? b with
            | none => exact (Z.cov b o (XF_some.mpr ⟨⟨n, q⟩, e2⟩)).1
            | some o' => have := base4 _ _ q; rw [e2] at this; cases this; exact F6.keep _ _ q
          have g6 : s6.gens = s3.gens := Z.gens
          refine ⟨m, Nat.lt_succ_self _, own', s1.gens, gs2, hR2, fun b o e => ⟨kc b o (fun z => (hO2 b o e).2.1 (z ▸ KC)) (hO2 b o e).1, (hO2 b o e).2⟩, ?_, kc _ _ hDC hD2, ⟨m6, F6.ns⟩, by rw [g6]; exact gg, fun i hi => by rw [g6]; exact gG i hi, fun i hi => by rw [g6]; exact gl i hi, fun i y hi e => by rw [g6] at e; exact gb i y hi e⟩
          refine S2.woken (fun b o hb e => kc b o (fun z => ?_) e) F6.keep Z.os
          rcases hb with q | q
          · exact c2 (z.symm.trans q)
          · rw [z] at q; exact q woC
      · refine ea_AE (hp) ?_
        try clear hp
        intro zq46 li V1
        obtain rfl := zq46
        have SE : Sim f l ⟨wo X.h (fun b => b = C0), (s1.setGen g .finished).gens⟩ { s1.setGen g .finished with heap := h' } := S.woken (s' := { s1.setGen g .finished with heap := h' }) (fun b o hb e => hk' b o (V1.keep b o (by
            rcases hb with q | q
            · rw [q]; exact KL
            · cases z : wo X.h (fun b => b = C0) b with
              | none => exact absurd z q
              | some o' => exact woS b o' z) e)) (fun b o e => hk' b o (V1.base b o e)) V1.os
        refine fin D C _ _ mC0 SE d1 c1 hDC d2 c2 d3 c3 (hk' _ _ (V1.keep _ _ KD hD)) (hNC.at' fun o e => hk' _ o (V1.keep _ o KC e)) (fun i hi => ?_) fun i y hi e => ?_
        · rw [setGen_ne (Nat.ne_of_lt hi), V1.gens i hi, setGen_ne (Nat.ne_of_lt hi)]; exact hlo i hi
        · rcases Nat.lt_or_ge g i with q | q
          · rw [setGen_ne (Nat.ne_of_gt q)] at e; exact V1.bare i y q e
          · obtain rfl : i = g := Nat.le_antisymm q hi
            rw [setGen_at e]; rfl
    · intro b o e
      dsimp only at e
      split at e
      · rename_i z; subst z; cases e
        exact ⟨(hs3.cov _ _ hC0).1, fun h => h.1 rfl, (hs3.cov _ _ hC0).2.2⟩
      · cases e
    · exact ⟨hs3.fr, fun b o (e : wo X.h (fun b => b = C0) b = some o) => hs3.cov b o (wo_some.mp e).1, rfl, hs3.os⟩
    · rw [hs3.gens]; exact hgs
    · intro i _; rw [hs3.gens]
    · intro i _; rw [hs3.gens]
    · intro i y hi e; rw [hs3.gens] at e; exact hbare i y hi e
  exact codeAny_compStart_list (cC _ rfl) (wpAny_pyIter_gen ⟨_, nm, qn, (hs3.cov _ _ ha).1, rfl, rfl, rfl⟩ (cC _ rfl))
theorem T_subcomp (O : Ok f k) {elt iter : PySem.Expr} {x : Str} {px : Pos} {ifs : List PySem.Expr} {scope : Scope} {cl : List (Str × Addr)} {pos : Pos} {Q : Value → Locs → St → Prop}
    (hclos : closureFor scope env = pure cl) (hcell : ∀ y ∈ scope.names, y.2 ≠ .cell) (hkind : scope.kind = .function) (hnames : ∀ y ∈ scope.names, y.2 = .local → scope.names.lookup y.1 = some .local) (hx : scope.names.lookup x = some .local)
    (h : T f (eval iter env) l X (fun v l1 X1 => ∃ (a C0 t : Addr) (oC : Obj) (nm qn : Value) (gs : GenState) (g d : Nat) (lab : Str) (cs : List Tr) (F : List Addr), v = .ref a ∧ IsSub f C0 gs ∧ X1.h a = some (genObj g nm qn) ∧ X1.h C0 = some oC ∧ NsO oC (fun z => [(Str.ofString "self", Value.ref t)].reverse.lookup z) ∧ X1.g[g]? = some gs ∧ f.L < C0 ∧
      (∀ i y, g < i → X1.g[i]? = some y → y.bare = true) ∧ TR X1.h (.node lab cs) (.ref t) F ∧ C0 ∉ F ∧ a ≠ C0 ∧ W2 (.node lab cs) ∧ hts cs ≤ d ∧ k + 12 * d < 270 ∧
      (∀ C X' y dy cy lab' vs, Ok (f.sub f.hb f.A C) k → Nd X'.h y dy cy lab' vs → vs.length ≤ 2 → T (f.sub f.hb f.A C) (tests ifs (compEnvC scope cl C env)) [(x, .ref y)] X' (fun ok _ X2 => ok = false ∧ X2 = X')) ∧
      ∀ D G', X1.h D = none → (∀ i, i < g → G'[i]? = X1.g[i]?) → (∀ i y, g ≤ i → G'[i]? = some y → y.bare = true) → Q (.ref D) l1 ⟨upd (wo X1.h (fun b => b = C0)) D (listOf [].toArray 0), G'⟩))
    (hs : ∀ x, foldedSetIterable iter env x = pure x) : T f (eval (.ListComp elt [⟨.Name x px, iter, ifs, 0⟩] scope pos) env) l X Q := fun s hs' => by
  rw [eval_ListComp]
  refine wpAny_comprehension_free (use := none) rfl hs hclos hkind hnames (T.use h hs' fun xv l1 X1 s₁ S1 q => ?_)
  refine ea_EEEEEEEEEEEE (q) ?_
  try clear q
  intro a C0 t oC nm qn gs g d lab cs F zp4
  refine ea_AAAAAAAAAAAAAAA (zp4) ?_
  clear zp4
  intro zq47 hsub ha hC0 nC hgs hLC hb hT hCF haC hw hdd hk turn fin
  obtain rfl := zq47
  refine wpAny_pyIter_gen ⟨_, nm, qn, (S1.cov _ _ ha).1, rfl, rfl, rfl⟩ ?_
  refine sub_core O (RR := fun acc C => compPost (model Pg f.w) f.A (fun _ _ => False) none _ acc C) hcell hkind hx S1 hsub ha hC0 nC hgs hLC hb hT hCF haC hw hdd hk turn ?_
  intro D C s' G' m S' hD hC hDC hDL hCL hDb hCb hDo hCn g1 g2
  refine ⟨m, hCn, fun h'' sb => ⟨l1, _, (S'.lost (tk := s'.toks) ?_ hCL hCb sb.extBut).take' hDL hDb ((sb.2 D hDC).trans hDo), fin D G' hD g1 g2⟩⟩
  cases z : wo X1.h (fun b => b = C0) C with
  | none => exact z
  | some o => rw [(wo_some.mp z).1] at hC; cases hC
end
end
-- B31
section
section
noncomputable abbrev hid (h : Heap) (sc : Addr) : Heap := hideAll h [162, 296, sc]
/-- the hidden objects: tables and a list -/
noncomputable def Soft (o : Obj) : Prop := o = tabObj #[] ∨ ∃ vs n, o = listOf vs n
noncomputable def noSoft (K : Frag) : Bool := K.all fun p => match p.2.cls, p.2.data with
  | .none, .fields _ => false
  | .type t, .seq _ _ => t != "list"
  | _, _ => true
theorem soft_in (P : Params) : noSoft (Kh P) = true := by kernel_rfl
variable {h h₁ : Heap} {sc : Addr}
theorem hid_get {b : Addr} {o : Obj} (hs : ∀ a, a = 162 ∨ a = 296 ∨ a = sc → ∃ o, h.get? a = some o ∧ Soft o) (e : h.get? b = some o) (hn : ¬ Soft o) : (hid h sc).get? b = some o :=
  hideAll_get _ e fun q => by
    simp only [List.mem_cons, List.not_mem_nil, or_false] at q
    refine ea_EA (hs b q) ?_
    intro o' e' s
    rw [e] at e'; cases e'; exact hn s
theorem hid_K {P : Params} (hs : ∀ a, a = 162 ∨ a = 296 ∨ a = sc → ∃ o, h.get? a = some o ∧ Soft o) (X : (Kh P).In h) : (Kh P).In (hid h sc) := fun a o e => by
  refine hid_get hs (X a o e) fun q => ?_
  have hm := List.all_eq_true.mp (soft_in P) (a, o) (mem_of_lookupK e)
  rcases q with rfl | ⟨vs, n, rfl⟩
  · simp at hm
  · simp at hm
theorem hid_ns {a : Addr} {mm : Str → Option Value} (hs : ∀ a, a = 162 ∨ a = 296 ∨ a = sc → ∃ o, h.get? a = some o ∧ Soft o) (x : h.Ns a mm) : (hid h sc).Ns a mm :=
  x.imp fun o x => x.imp fun _ x => x.imp fun _ x => ⟨hid_get hs x.1 (fun q => by have hd := x.2.1; rcases q with rfl | ⟨_, _, rfl⟩ <;> cases hd), x.2⟩
theorem hid_top {p : Program} {loose : List Str} {mean : ExcName → Option Value} {mg mb : Str → Option Value} (hs : ∀ a, a = 162 ∨ a = 296 ∨ a = sc → ∃ o, h.get? a = some o ∧ Soft o) (T : Top p loose mean mg mb h) :
    Top topProg (loose ++ (recsOf p).map (·.name) ++ (litsOf p).map (·.1) ++ (clssOf p loose).map (·.name)) mean mg mb (hid h sc) where
  g := hid_ns hs T.g
  b := hid_ns hs T.b
  nolimit := T.nolimit.imp fun _ z => ⟨hid_ns hs z.1, z.2⟩
  nodigits := T.nodigits.imp fun _ z => ⟨hid_ns hs z.1, z.2⟩
  fn := fun d hd => absurd (show d ∈ ([] : List DefRec) from hd) List.not_mem_nil
  own := fun o ho => absurd (show o ∈ ([] : List OwnSpec) from ho) List.not_mem_nil
  const := fun x d e => by cases (show (none : Option PyData) = some d from e)
  free := fun x h1 h2 _ _ _ => T.free x h1 (fun q => h2 (List.mem_append_left _ (List.mem_append_left _ (List.mem_append_left _ q))))
    (fun q => h2 (List.mem_append_left _ (List.mem_append_left _ (List.mem_append_right _ q)))) (fun q => h2 (List.mem_append_left _ (List.mem_append_right _ q))) fun q => h2 (List.mem_append_right _ q)
  builtins := T.builtins
  tab := fun d hd => absurd (show d ∈ ([] : List DefRec) from hd) List.not_mem_nil
  bmain := T.bmain.imp fun _ z => z.imp fun _ z => ⟨z.1, z.2.1, hid_get hs z.2.2.1 (fun q => by have a6 := z.2.2.2.2.2; rcases q with rfl | ⟨_, _, rfl⟩ <;> cases a6), z.2.2.2⟩
  seer := fun e => absurd (show false = true from e) Bool.false_ne_true
theorem hid_old {P : Params} {s' : Heap} {vs : List Value} {n : Nat} (X : (Kh P).In h) (TO : TabsOk h) (hsc : h.get? sc = some (listOf vs.toArray n)) (k : ∀ b o, (hid h sc).get? b = some o → s'.get? b = some o)
    (k1 : ∃ ps, s'.get? 162 = some (tabObj ps)) (k2 : ∃ ps, s'.get? 296 = some (tabObj ps)) (k3 : s'.get? sc = some (listOf vs.toArray n)) : OldK h s' := by
  have key : ∀ b o, h.get? b = some o → s'.get? b = some o ∨ (∃ ps, s'.get? b = some (tabObj ps)) ∧ isCodeTable h b ∧ o = tabObj #[] := fun b o e => by
    by_cases q : b ∈ [162, 296, sc]
    · simp only [List.mem_cons, List.not_mem_nil, or_false] at q
      rcases q with rfl | rfl | rfl
      · exact .inr ⟨k1, ((code166 X).tab TO.1).isCodeTable, Option.some.inj (e.symm.trans TO.1)⟩
      · exact .inr ⟨k2, ((code298 X).tab TO.2).isCodeTable, Option.some.inj (e.symm.trans TO.2)⟩
      · rw [hsc] at e; cases e; exact .inl k3
    · exact .inl (k b o (hideAll_get _ e q))
  refine ⟨fun b o e => ?_, fun b o e => ?_⟩
  · rcases key b o e with q | ⟨⟨ps, q⟩, ht, rfl⟩
    · exact .inl q
    · exact .inr (.inl ⟨ht, rfl, #[], ps, rfl, by rw [Array.empty_append]; exact q⟩)
  · rcases key b o e with q | ⟨⟨ps, q⟩, ht, rfl⟩
    · exact ⟨o, q⟩
    · exact ⟨_, q⟩
theorem law_T {w : World} {s₁ : Shared} {A : Around} {t : Sem Flow} {vs : List Value} {tk : Nat} {m : Str → Option Value} {R : Result → Shared → Prop} {E : Value → Shared → Prop} {p : Program} {loose : List Str} {mean : ExcName → Option Value} {mg mb : Str → Option Value} {l : Locs} {L : Addr}
    (KX : (KF w).In s₁.heap) (TO : TabsOk s₁.heap) (Tp : Top p loose mean mg mb s₁.heap) (hsc : s₁.heap.get? sc = some (listOf vs.toArray 0)) (F : Fr s₁.heap L h₁ m) (hL : L = s₁.heap.objs.size) (hgens : s₁.gens = #[]) (hl : ∀ x v, l.lookup x = some v → m x = some v)
    (hA : A.handled = none) (hdep : A.depth ≤ 310) (hu : A.units ≤ 100)
    (hR : ∀ s', OldK s₁.heap s'.heap → s'.os = s₁.os → AllBare s'.gens → R (.ok (.ret (.bool true))) s')
    (k : ∀ (f : Fm) (H : Hp), f.L = L → Ok f 0 → H sc = some (listOf vs.toArray 0) → Tab H 162 → Tab H 296 →
      T f t l ⟨H, #[]⟩ (fun fl _ X' => retOf fl = .bool true ∧ X'.h sc = some (listOf vs.toArray 0) ∧ Tab X'.h 162 ∧ Tab X'.h 296 ∧ AllBare X'.g)) :
    wpAny (model Pg w) A t (fun f s' => R (.ok (.ret (match f with | .ret v => v | _ => .none))) s') E { s₁ with heap := h₁, toks := tk } := by
  have hs : ∀ a, a = 162 ∨ a = 296 ∨ a = sc → ∃ o, s₁.heap.get? a = some o ∧ Soft o := by
    rintro a (rfl | rfl | rfl)
    · exact ⟨_, TO.1, .inl rfl⟩
    · exact ⟨_, TO.2, .inl rfl⟩
    · exact ⟨_, hsc, .inr ⟨_, _, rfl⟩⟩
  let H : Hp := fun a => if a ∈ [162, 296, sc] then s₁.heap.get? a else none
  let f : Fm := ⟨w, s₁.os, hid s₁.heap sc, A, L⟩
  have O : Ok f 0 := ⟨hA, hdep, hu, hid_K hs KX, ⟨_, _, _, _, _, hid_top hs Tp⟩, by lia⟩
  have e1 : H 162 = some (tabObj #[]) := by show (if _ then _ else _) = _; rw [if_pos (by simp)]; exact TO.1
  have e2 : H 296 = some (tabObj #[]) := by show (if _ then _ else _) = _; rw [if_pos (by simp)]; exact TO.2
  have e3 : H sc = some (listOf vs.toArray 0) := by show (if _ then _ else _) = _; rw [if_pos (by simp)]; exact hsc
  have S : Sim f l ⟨H, #[]⟩ { s₁ with heap := h₁, toks := tk } := by
    refine ⟨⟨m, ⟨F.ns, fun b o e => F.keep b o (of_hideAll _ e), Nat.le_trans (Nat.le_of_eq (hideAll_size _ _)) F.above⟩, hl⟩, fun a o e => ?_, hgens, rfl⟩
    by_cases q : a ∈ [162, 296, sc]
    · have e : s₁.heap.get? a = some o := by have e : (if _ then _ else _) = _ := e; rwa [if_pos q] at e
      refine ⟨F.keep _ _ e, fun z => ?_, hideAll_none _ q⟩
      have := Heap.lt_size e
      have z : a = L := z
      exact Nat.lt_irrefl _ (hL ▸ z ▸ this)
    · have e : (if _ then _ else _) = _ := e
      rw [if_neg q] at e; cases e
  refine wpAny_mono (k f H rfl O e3 ⟨_, e1, by trivial⟩ ⟨_, e2, by trivial⟩ _ S) ?_ fun _ _ x => x.elim
  intro fl s' zz2
  refine ea_EEAAAAA (zz2) ?_
  try clear zz2
  intro l' X' S' r1 r2 r3 r4 r5
  refine ea_EA (S'.fr) ?_
  intro m' F' _
  have G := hR s' (hid_old KX TO hsc F'.keep (r3.imp fun _ z => (S'.cov _ _ z.1).1) (r4.imp fun _ z => (S'.cov _ _ z.1).1) (S'.cov _ _ r2).1) S'.os (S'.gens ▸ r5)
  rw [show (Value.bool true) = retOf fl from r1.symm] at G
  exact G
theorem wellInts {P : Params} : ∀ {vs : List Value} {is : List Int}, WellAll P h vs (ofPys (is.map .int)) → IntsV vs ∧ vs.length = is.length
  | [], [], _ => ⟨(fun _ hv => nomatch hv), rfl⟩
  | [], _ :: _, h => by cases h
  | _ :: _, [], h => by cases h
  | v :: vs, i :: is, h => by
    simp only [List.map_cons, ofPys, ofPy] at h
    cases h with
    | cons h1 h2 =>
      cases h1
      obtain ⟨a, b⟩ := wellInts h2
      refine ⟨fun z hz => ?_, by simp [b]⟩
      rcases List.mem_cons.mp hz with rfl | hz
      · exact ⟨_, _, rfl⟩
      · exact a z hz
theorem postT (args ds : List WData) : PySem.Challenge.rw_je0024_01.row.claim.post args (.bool true) ds = true := by
  show (WShape.has [] (WData.bool true) .bool && WTm.holds [] (.eq .res (.lit (.bool true))) { args := args, res := some (WData.bool true), after := ds }) = true
  refine Bool.and_eq_true_iff.mpr ⟨by decide +kernel, ?_⟩
  have h : W.same (WData.bool true) (WData.bool true) = true := by decide +kernel
  simp only [WTm.holds, WTm.value, h]
end
end
-- P14
section
section
/-- the law's state: what stays (R), the tape, the tree -/
structure LJ (R : Hp) (a c : Addr) (z : Int) (w : Addr) (T : Tr) (F : List Addr) (X : St) : Prop where
  le : Le R X.h
  tape : Tape X.h a c z
  ra : R a = none
  r1 : R 162 = none
  r2 : R 296 = none
  t1 : Tab X.h 162
  t2 : Tab X.h 296
  tr : TR X.h T (.ref w) F
  nd : F.Nodup
  fr : ∀ b, b ∈ F → R b = none ∧ b ≠ a ∧ b ≠ c
  gb : GB #[] X.g
/-- R and what has come since -/
noncomputable def ext (R H H' : Hp) : Hp := fun b => open Classical in if H b = none then H' b else R b
theorem ext_old {R H H' : Hp} (h : Le R H) : Le R (ext R H H') := fun b o e => by
  unfold ext; rw [if_neg (by rw [h _ _ e]; simp)]; exact e
theorem ext_new {R H H' : Hp} : Le (wo H' (fun b => H b ≠ none)) (ext R H H') := fun b o e => by
  obtain ⟨e1, e2⟩ := wo_some.mp e
  unfold ext; rw [if_pos (Classical.not_not.mp e2)]; exact e1
theorem ext_none {R H H' : Hp} {b : Addr} (h : H b ≠ none) (r : R b = none) : ext R H H' b = none := by
  unfold ext; rw [if_neg h]; exact r
theorem ext_le {R H H' : Hp} (h : Le R H) (k : Le H H') : Le (ext R H H') H' := fun b o e => by
  unfold ext at e
  split at e
  · exact e
  · exact k _ _ (h _ _ e)
theorem Tab.in {H : Hp} {P : Addr} (h : Tab H P) : H P ≠ none := by obtain ⟨_, e, _⟩ := h; rw [e]; simp
theorem Tab.le {H H' : Hp} {P : Addr} (h : Tab H P) (k : Le H H') : Tab H' P := h.imp fun ps z => ⟨k _ _ z.1, z.2⟩
section
variable {R : Hp} {a c w : Addr} {z z' : Int} {T : Tr} {F : List Addr} {X : St}
theorem LJ.add (J : LJ R a c z w T F X) {H' : Hp} (k : Le X.h H') : LJ (ext R X.h H') a c z w T F ⟨H', X.g⟩ where
  le := ext_le J.le k
  tape := J.tape.le k
  ra := ext_none J.tape.in.1 J.ra
  r1 := ext_none J.t1.in J.r1
  r2 := ext_none J.t2.in J.r2
  t1 := J.t1.le k
  t2 := J.t2.le k
  tr := J.tr.le k
  nd := J.nd
  fr := fun b hb => ⟨ext_none (J.tr.in hb) (J.fr b hb).1, (J.fr b hb).2⟩
  gb := J.gb
theorem LJ.grow (J : LJ R a c z w T F X) {H' : Hp} (k : Le X.h H') : LJ R a c z w T F ⟨H', X.g⟩ where
  le := fun b o e => k _ _ (J.le _ _ e)
  tape := J.tape.le k
  ra := J.ra
  r1 := J.r1
  r2 := J.r2
  t1 := J.t1.le k
  t2 := J.t2.le k
  tr := J.tr.le k
  nd := J.nd
  fr := J.fr
  gb := J.gb
theorem LJ.ne (J : LJ R a c z w T F X) : a ≠ 162 ∧ a ≠ 296 ∧ c ≠ 162 ∧ c ≠ 296 := by
  refine ea_EE (J.tape.ha) ?_
  intro _ _ ea
  refine ea_EEA (J.tape.hc) ?_
  intro _ _ ec _
  exact ⟨J.t1.ne ea (by simp), J.t2.ne ea (by simp), J.t1.ne ec (by simp), J.t2.ne ec (by simp)⟩
theorem LJ.take (J : LJ R a c z w T F X) {o : Obj} (t : Tape (upd X.h a o) a c z') : LJ R a c z' w T F ⟨upd X.h a o, X.g⟩ where
  le := fun b o e => upd_other (fun q => by rw [q, J.ra] at e; cases e) (J.le _ _ e)
  tape := t
  ra := J.ra
  r1 := J.r1
  r2 := J.r2
  t1 := J.t1.imp fun ps z => ⟨upd_other J.ne.1.symm z.1, z.2⟩
  t2 := J.t2.imp fun ps z => ⟨upd_other J.ne.2.1.symm z.1, z.2⟩
  tr := J.tr.on fun b hb o e => upd_other (J.fr b hb).2.1 e
  nd := J.nd
  fr := J.fr
  gb := J.gb
/-- the tree changed; P, Q: the one table that may have grown -/
theorem LJ.mut (J : LJ R a c z w T F X) {X' : St} {T' : Tr} {F' : List Addr} {P : Addr} (hP : P = 162 ∨ P = 296) (k : ∀ b o, X.h b = some o → b ∉ F → b ≠ P → X'.h b = some o) (tb : Tab X'.h P) (tr : TR X'.h T' (.ref w) F') (nd : F'.Nodup) (fr : ∀ b, b ∈ F' → b ∈ F ∨ X.h b = none) (gb : GB X.g X'.g) :
    LJ R a c z w T' F' X' where
  le := fun b o e => k _ _ (J.le _ _ e) (fun q => by rw [(J.fr b q).1] at e; cases e) (fun q => by
    rcases hP with rfl | rfl
    · rw [q, J.r1] at e; cases e
    · rw [q, J.r2] at e; cases e)
  tape := by
    refine ea_EE (J.tape.ha) ?_
    intro ta n ea
    refine ea_EEA (J.tape.hc) ?_
    intro cs m ec r
    have ne := J.ne
    refine ⟨J.tape.ne, ⟨ta, n, k _ _ ea (fun q => (J.fr _ q).2.1 rfl) ?_⟩, ⟨cs, m, k _ _ ec (fun q => (J.fr _ q).2.2 rfl) ?_, r⟩, J.tape.h0⟩
    · exact hP.elim (fun q => q ▸ ne.1) (fun q => q ▸ ne.2.1)
    · exact hP.elim (fun q => q ▸ ne.2.2.1) (fun q => q ▸ ne.2.2.2)
  ra := J.ra
  r1 := J.r1
  r2 := J.r2
  t1 := by
    by_cases q : P = 162
    · exact q ▸ tb
    · refine ea_EA (J.t1) ?_
      intro ps e r
      refine ⟨ps, k _ _ e (fun hm => ?_) (fun z => q z.symm), r⟩
      refine ea_EA (TR_cls.1 _ _ _ J.tr _ hm) ?_
      intro o e' c'
      exact J.t1.ne e' c' rfl
  t2 := by
    by_cases q : P = 296
    · exact q ▸ tb
    · refine ea_EA (J.t2) ?_
      intro ps e r
      refine ⟨ps, k _ _ e (fun hm => ?_) (fun z => q z.symm), r⟩
      refine ea_EA (TR_cls.1 _ _ _ J.tr _ hm) ?_
      intro o e' c'
      exact J.t2.ne e' c' rfl
  tr := tr
  nd := nd
  fr := fun b hb => by
    rcases fr b hb with q | q
    · exact J.fr b q
    · refine ⟨J.le.none q, fun z => J.tape.in.1 (z ▸ q), fun z => J.tape.in.2 (z ▸ q)⟩
  gb := J.gb.trans gb
end
theorem LJ.n162 {R : Hp} {a c w : Addr} {z : Int} {T : Tr} {F : List Addr} {X : St} (J : LJ R a c z w T F X) : 162 ∉ F := fun hm => by
  refine ea_EA (TR_cls.1 _ _ _ J.tr _ hm) ?_
  intro o e' c'
  exact J.t1.ne e' c' rfl
theorem LJ.mut0 {R : Hp} {a c w : Addr} {z : Int} {T : Tr} {F : List Addr} {X : St} (J : LJ R a c z w T F X) {H' : Hp} {T' : Tr} {F' : List Addr} (k : ∀ b o, X.h b = some o → b ∉ F → H' b = some o) (tr : TR H' T' (.ref w) F') (nd : F'.Nodup) (fr : ∀ b, b ∈ F' → b ∈ F ∨ X.h b = none) :
    LJ R a c z w T' F' ⟨H', X.g⟩ := J.mut (.inl rfl) (fun b o e n _ => k b o e n) (J.t1.imp fun ps z => ⟨k _ _ z.1 J.n162, z.2⟩) tr nd fr (GB.refl _)
theorem PL.nodeV {H : Hp} {lab : Str} {cs : List Tr} {a : Addr} (h : PL H (.node lab cs) (.ref a)) : ∃ b tl n m vs, H a = some (listOf [Value.str lab tl, .ref b].toArray n) ∧ H b = some (listOf vs.toArray m) ∧ PLs H cs vs ∧ vs.length = cs.length := by
  simp only [PL_e1, PL_e2] at h
  refine ea_EEEEEEAAA (h) ?_
  try clear h
  intro x b tl n m vs e h1 h2 h3
  cases e
  exact ia_EEEEEAAA b tl n m vs h1 h2 h3 h3.length
theorem GB.bare {a : Array GenState} (h : GB #[] a) : AllBare a := by
  refine ea_EA (h) ?_
  try clear h
  intro n zq367 k
  obtain rfl := zq367
  intro y hy
  exact k y (by simpa using hy)
theorem GB.of_bare {a : Array GenState} (h : AllBare a) : GB #[] a := ⟨a.toList, by simp, fun y hy => h y (by simpa using hy)⟩
theorem bare_of {a b : Array GenState} (h : AllBare a) (k : ∀ i : Nat, i < a.size → b[i]? = a[i]?) (j : ∀ i y, a.size ≤ i → b[i]? = some y → y.bare = true) : AllBare b := fun y hy => by
  obtain ⟨i, hi, e⟩ := Array.mem_iff_getElem.mp hy
  have e2 : b[i]? = some y := by rw [Array.getElem?_eq_getElem hi, e]
  by_cases q : i < a.size
  · rw [k i q] at e2
    exact h y (Array.mem_of_getElem? e2)
  · exact j i y (by lia) e2
theorem LJ.gens {R : Hp} {a c w : Addr} {z : Int} {T : Tr} {F : List Addr} {X : St} (J : LJ R a c z w T F X) {H' : Hp} {G' : Array GenState} (k : Le X.h H') (b : AllBare G') : LJ R a c z w T F ⟨H', G'⟩ :=
  let J' := J.grow k
  ⟨J'.le, J'.tape, J'.ra, J'.r1, J'.r2, J'.t1, J'.t2, J'.tr, J'.nd, J'.fr, GB.of_bare b⟩
theorem TR.ndL {H : Hp} {w : Addr} {lab : Str} {cs : List Tr} {F : List Addr} (h : TR H (.node lab cs) (.ref w) F) : ∃ dx cl us G, F = w :: dx :: cl :: G ∧ Nd H w dx cl lab us ∧ us.length = cs.length ∧ TRs H cs us G := by
  refine ea_EEEEAA (TR.nd h) ?_
  try clear h
  intro dx cl us G zq368 hN hT
  obtain rfl := zq368
  exact ia_EEEEAAA dx cl us G rfl hN hT.length hT
theorem T_LJ {f : Fm} {l : Locs} {α : Type} {t : Sem α} {Q : α → Locs → St → Prop} {R : Hp} {a c w : Addr} {z : Int} {T' : Tr} {F : List Addr} {H : Hp} {g : Array GenState} (J : LJ R a c z w T' F ⟨H, g⟩) (h : ∀ H, LJ R a c z w T' F ⟨H, g⟩ → T f t l ⟨H, g⟩ Q) : T f t l ⟨H, g⟩ Q := h H J
end
end
-- P15
section
section
/-- the characters of a string -/
noncomputable abbrev chs (s : Str) : List Nat := s.cps.toList
theorem chs_append (a b : Str) : chs (a ++ b) = chs a ++ chs b := by
  show (a.cps ++ b.cps).toList = _
  exact Array.toList_append
theorem chs_jo {x : Nat} : ∀ {ns : List Str}, (∀ s ∈ ns, x ∉ chs s) → x ≠ 45 → x ∉ chs (jo ns) := by
  intro ns h hx
  have e : jo ns = Str.join dash ns := StrLaws.glued_eq_join dash ns
  rw [e]
  have hd : chs dash = [45] := by decide +kernel
  induction ns with
  | nil => simp only [Str.join]; exact List.not_mem_nil
  | cons a r ih =>
    induction r using LsEl with
    | nil => simp only [Str.join]; exact h a (by simp)
    | cons b r =>
      simp only [Str.join]
      rw [chs_append, chs_append, hd]
      have h1 := h a (by simp)
      have h2 := ih (fun s hs => h s (by simp [hs])) (StrLaws.glued_eq_join dash _)
      simp only [List.mem_append, List.mem_singleton, not_or]
      exact ⟨⟨h1, hx⟩, h2⟩
/-- none of the signs ^ and | -/
noncomputable def NB (s : Str) : Prop := 94 ∉ chs s ∧ 124 ∉ chs s
theorem NB.append {a b : Str} (h : NB a) (k : NB b) : NB (a ++ b) := by
  unfold NB; rw [chs_append]; simp only [List.mem_append, not_or]; exact ⟨⟨h.1, k.1⟩, h.2, k.2⟩
theorem NB_plus : NB plus := by unfold NB; decide +kernel
theorem Lb.nb {s : Str} (h : Lb s) : NB s ∧ 43 ∉ chs s := by rcases h with rfl | rfl | rfl <;> (unfold NB; decide +kernel)
theorem bar_iff {L : Str} {us : List Tr} : isBar (.node L us) = true ↔ 124 ∈ chs L := by
  simp only [isBar, barC_eq]
  rcases find1 L 124 with ⟨e, h⟩ | ⟨a, b, h, -, e⟩
  · rw [e]; simp [h]
  · rw [e, show chs L = _ from h]
    refine ⟨fun _ => by simp, fun _ => bne_iff_ne.mpr (by lia)⟩
theorem no_bar {L : Str} {us : List Tr} (h : 124 ∉ chs L) : isBar (.node L us) = false := by
  cases e : isBar (.node L us) with
  | false => rfl
  | true => exact absurd (bar_iff.mp e) h
theorem cutC_mark {L m : Str} (h : 94 ∉ chs L) (hm : m = Str.ofString "" ∨ ∃ r, chs m = 94 :: r) : cutC (L ++ m) = L := by
  unfold cutC
  rw [carC_eq]
  rcases hm with rfl | ⟨r, hr⟩
  · have e : L ++ Str.ofString "" = L := by
      show (⟨L.cps ++ (Str.ofString "").cps⟩ : Str) = L
      rw [show (Str.ofString "").cps = #[] by decide +kernel, Array.append_empty]
    rw [e]
    rcases find1 L 94 with ⟨e, -⟩ | ⟨a, b, h2, -, -⟩
    · rw [if_pos e]
    · exact absurd (by rw [show chs L = _ from h2]; simp) h
  · rcases find1 (L ++ m) 94 with ⟨-, h2⟩ | ⟨a, b, h2, h3, e⟩
    · exact absurd (by rw [show (L ++ m).cps.toList = chs L ++ chs m from chs_append L m, hr]; simp) h2
    · have e2 : a = chs L := by
        have e3 : chs L ++ 94 :: r = a ++ 94 :: b := by rw [← hr, ← chs_append]; exact h2
        rcases List.append_eq_append_iff.mp e3 with ⟨c, q1, q2⟩ | ⟨c, q1, q2⟩
        · induction c using LsEl with
          | nil => simpa using q1
          | cons x c =>
            simp only [List.cons_append, List.cons.injEq] at q2
            exact absurd (by rw [q1, ← q2.1]; simp) h3
        · induction c using LsEl with
          | nil => simpa using q1.symm
          | cons x c =>
            simp only [List.cons_append, List.cons.injEq] at q2
            exact absurd (by rw [q1, ← q2.1]; simp) h
      rw [if_neg (by rw [e]; lia), e, slice_to1 h2, e2]
theorem cutC_nb {L : Str} (h : 94 ∉ chs L) : cutC L = L := by
  unfold cutC
  rw [carC_eq]
  rcases find1 L 94 with ⟨e, -⟩ | ⟨a, b, h2, -, -⟩
  · rw [if_pos e]
  · exact absurd (by rw [show chs L = _ from h2]; simp) h
/-- with no plus, or split at the first -/
theorem plus_split (L : Str) : (Txt.find L pluC = -1 ∧ 43 ∉ chs L) ∨ (Txt.find L pluC ≠ -1 ∧ ∃ a b, chs L = a ++ 43 :: b ∧ 43 ∉ a ∧ preP L = ⟨a.toArray⟩ ∧ sufP L = ⟨b.toArray⟩) := by
  unfold preP sufP
  rw [pluC_eq]
  rcases find1 L 43 with ⟨e, h⟩ | ⟨a, b, h, h2, e⟩
  · exact .inl ⟨e, h⟩
  · refine .inr ⟨by rw [e]; omega, a, b, h, h2, ?_, ?_⟩
    · rw [e, slice_to1 h]
    · rw [e, slice_from1 h]
theorem str_eq {a b : Str} (h : chs a = chs b) : a = b := by
  cases a; cases b
  simp only [Str.mk.injEq]
  exact Array.toList_inj.mp h
/-- undoing looks at no more than the children with their bars drawn in, undone -/
theorem uT_congr (n : Nat) : ∀ (L : Str), L.length ≤ n → NB L → ∀ (as bs : List Tr), flats as = as → flats bs = bs → as.map uT = bs.map uT → uT (.node L as) = uT (.node L bs) := by
  induction n using Nat.strongRecOn with
  | _ n ih =>
  intro L hl hn as bs ha hb e
  rw [uT_node L as, uT_node L bs, cutC_nb hn.1, ha, hb]
  rcases plus_split L with ⟨q, -⟩ | ⟨q, a, b, h1, -, -, h4⟩
  · rw [if_pos q, if_pos q, e]
  · rw [if_neg q, if_neg q]
    have hlt := sufP_lt q
    rw [ih (sufP L).length (by lia) (sufP L) (Nat.le_refl _) ?_ as bs ha hb e]
    rw [h4]
    obtain ⟨n1, n2⟩ := hn
    rw [h1] at n1 n2
    simp only [List.mem_append, List.mem_cons, not_or] at n1 n2
    exact ⟨by simpa [chs] using n1.2.2, by simpa [chs] using n2.2.2⟩
end
end
-- P16
section
section
theorem Lb.cut {s : Str} (h : Lb s) : cutC s = s := cutC_nb h.nb.1.1
theorem Lb.find {s : Str} (h : Lb s) : Txt.find s pluC = -1 := by
  rcases plus_split s with ⟨q, -⟩ | ⟨-, a, b, e, -⟩
  · exact q
  · exact absurd (by rw [e]; simp) h.nb.2
mutual
noncomputable def Nb : Tr → Prop
  | .leaf _ => True
  | .node L cs => NB L ∧ Nbs cs
noncomputable def Nbs : List Tr → Prop
  | [] => True
  | c :: cs => Nb c ∧ Nbs cs
end
theorem Nb_e1 {w1} : Nb (.leaf w1) = (True) := rfl
theorem Nb_e2 {L} {cs} : Nb (.node L cs) = (NB L ∧ Nbs cs) := rfl
theorem Nbs_e1 : Nbs [] = (True) := rfl
theorem Nbs_e2 {c} {cs} : Nbs (c :: cs) = (Nb c ∧ Nbs cs) := rfl
theorem Nbs.mem {ts : List Tr} (h : Nbs ts) {t : Tr} (ht : t ∈ ts) : Nb t := by
  induction ts with
  | nil => cases ht
  | cons c cs ih => simp only [Nbs_e1, Nbs_e2] at h; exact (List.mem_cons.mp ht).elim (fun q => q ▸ h.1) (ih h.2)
theorem Nbs.of {ts : List Tr} (h : ∀ t ∈ ts, Nb t) : Nbs ts := by
  induction ts with
  | nil => simp [Nbs_e1, Nbs_e2]
  | cons c cs ih => simp only [Nbs_e1, Nbs_e2]; exact ⟨h c (by simp), ih fun t ht => h t (by simp [ht])⟩
theorem Nb.noBar {t : Tr} (h : Nb t) : isBar t = false := by
  induction t using TrEl with
  | leaf c => rfl
  | node L us => simp only [Nb_e1, Nb_e2] at h; exact no_bar h.1.2
theorem Nbs.flats {ts : List Tr} (h : Nbs ts) : flats ts = ts := flats_off fun t ht => (h.mem ht).noBar
theorem Wf_Nb : (∀ t, Wf t → Nb t) ∧ ∀ ts, Wfs ts → Nbs ts := by
  refine Tr.ind (P := fun t => Wf t → Nb t) (R := fun ts => Wfs ts → Nbs ts) ?_ ?_ ?_ ?_
  · intro c _; simp [Nb_e1, Nb_e2]
  · intro lab cs ih h; simp only [Wf_e1, Wf_e2] at h; simp only [Nb_e1, Nb_e2]; exact ⟨h.1.nb.1, ih h.2.2.2⟩
  · intro _; simp [Nbs_e1, Nbs_e2]
  · intro c cs i1 i2 h; simp only [Wfs_e1, Wfs_e2] at h; simp only [Nbs_e1, Nbs_e2]; exact ⟨i1 h.1, i2 h.2⟩
theorem Wfs.mem {ts : List Tr} (h : Wfs ts) {t : Tr} (ht : t ∈ ts) : Wf t := by
  induction ts with
  | nil => cases ht
  | cons c cs ih => simp only [Wfs_e1, Wfs_e2] at h; exact (List.mem_cons.mp ht).elim (fun q => q ▸ h.1) (ih h.2)
/-- a letter's node is undone child by child -/
theorem uT_letter {L : Str} {ds : List Tr} (h : Lb L) (hf : flats ds = ds) : uT (.node L ds) = .node L (ds.map uT) := by
  rw [uT_node, h.cut, if_pos h.find, hf]
theorem uT_Wf : (∀ t, Wf t → uT t = t) ∧ ∀ ts, Wfs ts → ts.map uT = ts := by
  refine Tr.ind (P := fun t => Wf t → uT t = t) (R := fun ts => Wfs ts → ts.map uT = ts) ?_ ?_ ?_ ?_
  · intro c _; exact uT_leaf c
  · intro lab cs ih h
    simp only [Wf_e1, Wf_e2] at h
    rw [uT_letter h.1 (Wf_Nb.2 _ h.2.2.2).flats, ih h.2.2.2]
  · intro _; rfl
  · intro c cs i1 i2 h
    simp only [Wfs_e1, Wfs_e2] at h
    simp only [List.map_cons, i1 h.1, i2 h.2]
/-- the last link of a chain -/
theorem uT_link (n : Nat) : ∀ (L : Str), L.length ≤ n → NB L → ∀ (l2 : Str) (ds : List Tr), Lb l2 → flats ds = ds → uT (.node ((L ++ plus) ++ l2) ds) = uT (.node L [.node l2 ds]) := by
  induction n using Nat.strongRecOn with
  | _ n ih =>
  intro L hl hn l2 ds h2 hf
  have hp : chs plus = [43] := by decide +kernel
  have hn2 : NB ((L ++ plus) ++ l2) := (hn.append NB_plus).append h2.nb.1
  have hf1 : flats [.node l2 ds] = [.node l2 ds] := flats_off fun t ht => by rw [List.mem_singleton.mp ht]; exact no_bar h2.nb.1.2
  have ech : chs ((L ++ plus) ++ l2) = chs L ++ 43 :: chs l2 := by rw [chs_append, chs_append, hp]; simp
  rw [uT_node ((L ++ plus) ++ l2) ds, uT_node L [.node l2 ds], cutC_nb hn2.1, cutC_nb hn.1, hf, hf1]
  rcases plus_split ((L ++ plus) ++ l2) with ⟨-, q⟩ | ⟨q, a, b, e1, e2, e3, e4⟩
  · exact absurd (by rw [ech]; simp) q
  rw [if_neg q, e3, e4]
  rcases plus_split L with ⟨p, p1⟩ | ⟨p, a', b', f1, f2, f3, f4⟩
  · rw [if_pos p]
    have e5 : a = chs L ∧ b = chs l2 := by
      rw [ech] at e1
      rcases List.append_eq_append_iff.mp e1 with ⟨c, q1, q2⟩ | ⟨c, q1, q2⟩
      · induction c using LsEl with
        | nil => simp only [List.append_nil, List.nil_append, List.cons.injEq, true_and] at q1 q2; exact ⟨q1, q2.symm⟩
        | cons x c =>
          simp only [List.cons_append, List.cons.injEq] at q2
          exact absurd (by rw [q1, ← q2.1]; simp) e2
      · induction c using LsEl with
        | nil => simp only [List.append_nil, List.nil_append, List.cons.injEq, true_and] at q1 q2; exact ⟨q1.symm, q2⟩
        | cons x c =>
          simp only [List.cons_append, List.cons.injEq] at q2
          exact absurd (by rw [q1, ← q2.1]; simp) p1
    have g1 : (⟨a.toArray⟩ : Str) = L := str_eq (by rw [e5.1])
    have g2 : (⟨b.toArray⟩ : Str) = l2 := str_eq (by rw [e5.2])
    rw [g1, g2]
    simp
  · rw [if_neg p]
    have e5 : a = a' ∧ b = b' ++ 43 :: chs l2 := by
      rw [ech, show chs L = _ from f1, List.append_assoc] at e1
      rcases List.append_eq_append_iff.mp e1 with ⟨c, q1, q2⟩ | ⟨c, q1, q2⟩
      · induction c using LsEl with
        | nil => simp only [List.append_nil, List.nil_append, List.cons_append, List.cons.injEq, true_and] at q1 q2; exact ⟨q1, q2.symm⟩
        | cons x c =>
          simp only [List.cons_append, List.cons.injEq] at q2
          exact absurd (by rw [q1, ← q2.1]; simp) e2
      · induction c using LsEl with
        | nil => simp only [List.append_nil, List.nil_append, List.cons_append, List.cons.injEq, true_and] at q1 q2; exact ⟨q1.symm, q2⟩
        | cons x c =>
          simp only [List.cons_append, List.cons.injEq] at q2
          exact absurd (by rw [q1, ← q2.1]; simp) f2
    have hlt := sufP_lt p
    have g1 : (⟨a.toArray⟩ : Str) = preP L := by rw [f3, e5.1]
    have g2 : (⟨b.toArray⟩ : Str) = (sufP L ++ plus) ++ l2 := str_eq (by rw [chs_append, chs_append, hp, f4, e5.2]; simp [chs])
    have nsu : NB (sufP L) := by
      obtain ⟨n1, n2⟩ := hn
      rw [show chs L = _ from f1] at n1 n2
      simp only [List.mem_append, List.mem_cons, not_or] at n1 n2
      rw [f4]
      exact ⟨by simpa [chs] using n1.2.2, by simpa [chs] using n2.2.2⟩
    rw [g1, g2, ih (sufP L).length (by lia) (sufP L) (Nat.le_refl _) nsu l2 ds h2 hf]
/-- a chain is undone -/
structure Un (s : Tr) (p : Str × List Tr) : Prop where
  nb : NB p.1
  wf : Wfs p.2
  un : ∀ ds, flats ds = ds → ds.map uT = p.2 → uT (.node p.1 ds) = s
theorem Un.start {lab : Str} {cs : List Tr} (h : Wf (.node lab cs)) : Un (.node lab cs) (lab, cs) := by
  simp only [Wf_e1, Wf_e2] at h
  exact ⟨h.1.nb.1, h.2.2.2, fun ds hf e => by simp only at e ⊢; rw [uT_letter h.1 hf, e]⟩
theorem Un.step {words : Bool} {s : Tr} {p : Str × List Tr} (h : Un s p) : Un s (stepC words p) := by
  obtain ⟨L, cs⟩ := p
  unfold stepC
  split
  · rename_i heq
    cases heq
    split
    · have w := h.wf
      simp only [Wfs_e1, Wfs_e2, Wf_e1, Wf_e2, and_true] at w
      refine ⟨(h.nb.append NB_plus).append w.1.nb.1, by simp only [Wfs_e1, Wfs_e2]; exact w.2.2.2, fun ds hf e => ?_⟩
      simp only at e ⊢
      rw [uT_link _ _ (Nat.le_refl _) h.nb _ _ w.1 hf]
      refine h.un _ (flats_off fun t ht => by rw [List.mem_singleton.mp ht]; exact no_bar w.1.nb.1.2) ?_
      simp only [List.map_cons, List.map_nil]
      rw [uT_letter w.1 hf, e]
    · exact h
  · exact h
theorem Un.chain {words : Bool} {s : Tr} {p : Str × List Tr} (h : Un s p) : ∀ n, Un s (chain words n p)
  | 0 => h
  | n + 1 => (Un.chain h n).step
theorem jn_un (words : Bool) : ∀ (n : Nat) (j : Bool) (t : Tr), Wf t → uT (jn words n j t) = t ∧ Nb (jn words n j t)
  | n, j, .leaf c, _ => by rw [jn_leaf]; exact ⟨uT_leaf c, by simp [Nb_e1, Nb_e2]⟩
  | 0, j, .node lab cs, h => by simp only [jn]; exact ⟨uT_Wf.1 _ h, Wf_Nb.1 _ h⟩
  | n + 1, j, .node lab cs, h => by
    have key : ∀ p : Str × List Tr, Un (.node lab cs) p → uT (.node p.1 (p.2.map (jn words n true))) = .node lab cs ∧ Nb (.node p.1 (p.2.map (jn words n true))) := fun p U => by
      have hN : Nbs (p.2.map (jn words n true)) := Nbs.of fun t ht => by
        refine ea_EA (List.mem_map.mp ht) ?_
        intro u hu zq369
        obtain rfl := zq369
        exact (jn_un words n true u (U.wf.mem hu)).2
      refine ⟨U.un _ hN.flats ?_, by simp only [Nb_e1, Nb_e2]; exact ⟨U.nb, hN⟩⟩
      rw [List.map_map]
      refine (List.map_congr_left fun u hu => ?_).trans (List.map_id _)
      exact (jn_un words n true u (U.wf.mem hu)).1
    induction j using BoolEl with
    | true => rw [jn_true]; exact key _ ((Un.start h).chain 20)
    | false => rw [jn_false]; exact key _ (Un.start h)
end
end
-- P17
section
section
theorem mkT_all {left : Bool} (n : Nat) : ∀ (hs : List Str) (L : Str) (ch : List Tr), (∀ V ∈ hs, 124 ∈ chs V ∧ V.length ≤ n) → hs.length ≤ ch.length →
    ∃ us, mkT left hs L ch = .node L us ∧ flats us = flats ch ∧ lvss us = lvss ch ∧ (ch.length ≤ hs.length + 2 → us.length ≤ 2) ∧ (ch.length ≤ hs.length + 2 → W2s ch → W2s us) ∧ hts us ≤ hs.length + hts ch ∧ mss us ≤ hs.length * (n + 1) + mss ch ∧ (∀ m, n ≤ m → Lks m ch → Lks m us)
  | [], L, ch, _, _ => ⟨ch, by simp only [mkT_e1, mkT_e2], rfl, rfl, by simp, fun _ h => h, by simp, by simp, fun _ _ h => h⟩
  | V :: r, L, ch, hv, hl => by
    have hV := hv V (by simp)
    have bV : ∀ us, flat (.node V us) = flats us := fun us => flat_on (bar_iff.mpr hV.1)
    have hr : ∀ W ∈ r, 124 ∈ chs W ∧ W.length ≤ n := fun W hW => hv W (by simp [hW])
    simp only [List.length_cons] at hl
    induction left using BoolEl with
    | true =>
      rcases List.eq_nil_or_concat ch with rfl | ⟨i, x, rfl⟩
      · simp at hl
      rw [List.concat_eq_append] at *
      simp only [List.length_append, List.length_cons, List.length_nil] at hl
      refine ea_EAAAAAAA (mkT_all (left := true) n r V i hr (by lia)) ?_
      intro us e1 e2 e3 e4 e5 e6 e7 e8
      refine ia_EAAAAAAA ([.node V us, x]) (by simp only [mkT_e1, mkT_e2, if_true, List.dropLast_concat, e1]; simp) ?_ ?_ (by simp) ?_ ?_ ?_ ?_
      · rw [flats_append]; simp only [flats_e1, flats_e2, bV, e2]
      · rw [lvss_append]; simp only [lvss_e1, lvss_e2, lvs_e1, lvs_e2, e3]
      · intro h w
        simp only [List.length_append, List.length_cons, List.length_nil] at h
        have w1 : W2s i ∧ W2 x := by
          clear e1 e2 e3 e4 e5 e6 e7 e8 h hl
          induction i with
          | nil => simp only [List.nil_append, W2s_e1, W2s_e2] at w ⊢; exact ⟨trivial, w.1⟩
          | cons c cs ih => simp only [List.cons_append, W2s_e1, W2s_e2] at w ⊢; exact ⟨⟨w.1, (ih w.2).1⟩, (ih w.2).2⟩
        simp only [W2s_e1, W2s_e2, W2_e1, W2_e2]
        exact ⟨⟨e4 (by lia), e5 (by omega) w1.1⟩, w1.2, trivial⟩
      · have := hts_snoc x i
        simp only [hts, ht, List.length_cons, this]; lia
      · rw [mss_append]
        simp only [mss_e1, mss_e2, ms_e1, ms_e2, List.length_cons, Nat.succ_mul]
        have := hV.2
        lia
      · intro m hm w
        rw [Lks_append] at w
        simp only [Lks_e1, Lks_e2, Lk_e1, Lk_e2] at w ⊢
        exact ⟨⟨by lia, e8 m hm w.1⟩, w.2⟩
    | false =>
      revert hl
      refine LsEl ch (fun hl => by simp at hl) ?_
      intro x i hl
      simp only [List.length_cons] at hl
      refine ea_EAAAAAAA (mkT_all (left := false) n r V i hr (by lia)) ?_
      intro us e1 e2 e3 e4 e5 e6 e7 e8
      refine ia_EAAAAAAA ([x, .node V us]) (by simp only [mkT_e1, mkT_e2, Bool.false_eq_true, if_false, List.tail_cons, e1, List.headD_cons]) ?_ ?_ (by simp) ?_ ?_ ?_ ?_
      · simp only [flats_e1, flats_e2, bV, e2, List.append_nil]
      · simp only [lvss_e1, lvss_e2, lvs_e1, lvs_e2, e3, List.append_nil]
      · intro h w
        simp only [List.length_cons] at h
        simp only [W2s_e1, W2s_e2] at w
        simp only [W2s_e1, W2s_e2, W2_e1, W2_e2]
        exact ⟨w.1, ⟨e4 (by lia), e5 (by omega) w.2⟩, trivial⟩
      · simp only [hts, ht, List.length_cons]; lia
      · simp only [mss_e1, mss_e2, ms_e1, ms_e2, List.length_cons, Nat.succ_mul]
        have := hV.2
        lia
      · intro m hm w
        simp only [Lks_e1, Lks_e2, Lk_e1, Lk_e2] at w ⊢
        exact ⟨w.1, ⟨by lia, e8 m hm w.2⟩, trivial⟩
/-- what children are told of their parents -/
noncomputable def PrOk (par : List Str) : Prop := Sh 3 100 par ∧ ∀ s ∈ par, NB s
theorem PrOk.one {s : Str} (h : s.length ≤ 100) (k : NB s) : PrOk [s] := ⟨⟨by simp, by simpa using h⟩, by simpa using k⟩
theorem PrOk.next {above : Nat} {par : List Str} {top : Bool} {lab : Str} {cs : List Tr} (ha : above ≤ 2) (h : PrOk par) (h1 : lab.length ≤ 100) (k : NB lab) : PrOk (pr1 above par top lab cs) := by
  unfold pr1
  split
  · refine ⟨⟨?_, fun s hs => ?_⟩, fun s hs => ?_⟩
    · simp only [List.length_cons, List.length_take]; omega
    · rcases List.mem_cons.mp hs with rfl | q
      · exact h1
      · exact h.1.2 _ (List.mem_of_mem_take q)
    · rcases List.mem_cons.mp hs with rfl | q
      · exact k
      · exact h.2 _ (List.mem_of_mem_take q)
  · exact h
theorem mk1_ok {above : Nat} {par : List Str} {top : Bool} {cs : List Tr} (h : PrOk par) : 124 ∉ chs (mk1 above par top cs) ∧ (mk1 above par top cs).length ≤ 306 ∧ (mk1 above par top cs = Str.ofString "" ∨ ∃ r, chs (mk1 above par top cs) = 94 :: r) := by
  unfold mk1
  split
  · have h1 : 124 ∉ chs (jo par) := chs_jo (fun s hs => (h.2 s hs).2) (by decide)
    have h2 := jo_len h.1
    have c1 : chs caretS = [94, 60] := by decide +kernel
    have c2 : chs gtS = [62] := by decide +kernel
    have l1 : caretS.length = 2 := by decide +kernel
    have l2 : gtS.length = 1 := by decide +kernel
    refine ⟨?_, ?_, .inr ⟨60 :: (chs (jo par) ++ [62]), ?_⟩⟩
    · rw [chs_append, chs_append, c1, c2]; simpa using h1
    · rw [Str.length_append', Str.length_append', l1, l2]; lia
    · rw [chs_append, chs_append, c1, c2]; simp
  · refine ⟨by decide +kernel, by decide +kernel, .inl rfl⟩
theorem vlab_ok {lab mark : Str} {ns : List Str} (h1 : lab.length ≤ 100) (h2 : mark.length ≤ 306) (h : Sh 4 100 ns) : 124 ∈ chs (vlab lab mark ns) ∧ (vlab lab mark ns).length ≤ 900 := by
  have c1 : chs barS = [124, 60] := by decide +kernel
  have l1 : barS.length = 2 := by decide +kernel
  have l2 : gtS.length = 1 := by decide +kernel
  have h3 := jo_len h
  unfold vlab
  constructor
  · simp only [chs_append, c1]; simp
  · simp only [Str.length_append', l1, l2]; lia
theorem hds_ok {left : Bool} {many : Nat} {lab mark : Str} {ns : List Str} {n : Nat} (h1 : lab.length ≤ 100) (h2 : mark.length ≤ 306) (h : Sh 4 100 ns) : ∀ V ∈ hds left many (vlab lab mark) ns n, 124 ∈ chs V ∧ V.length ≤ 900 := by
  intro V hV
  have key : ∀ ms : List Str, (∀ s ∈ ms, s ∈ ns) → ms.length ≤ ns.length → 124 ∈ chs (vlab lab mark ms) ∧ (vlab lab mark ms).length ≤ 900 := fun ms k j => vlab_ok h1 h2 (h.sub j k)
  unfold hds at hV
  refine ea_EA (List.mem_map.mp hV) ?_
  intro i zc370 zq371
  clear zc370
  obtain rfl := zq371
  induction left using BoolEl with
  | true =>
    simp only [if_true]
    exact key _ (fun s hs => List.mem_of_mem_take (List.mem_of_mem_drop hs)) (by simp only [List.length_drop, List.length_take]; omega)
  | false =>
    simp only [Bool.false_eq_true, if_false]
    exact key _ (fun s hs => List.mem_of_mem_drop (List.mem_of_mem_take hs)) (by simp only [List.length_drop, List.length_take]; omega)
structure BtOk (T B : Tr) : Prop where
  un : uT B = uT T
  bar : isBar B = false
  lv : lvs B = lvs T
  w2 : W2 B
  h : ht B ≤ 3 * ht T
  ms : ms B ≤ 2800 * nsz T
  lk : Lk 5000 B
theorem map_facts {g : Tr → Tr} : ∀ {cs : List Tr}, (∀ t ∈ cs, BtOk t (g t)) → (cs.map g).map uT = cs.map uT ∧ flats (cs.map g) = cs.map g ∧ lvss (cs.map g) = lvss cs ∧ W2s (cs.map g) ∧ hts (cs.map g) ≤ 3 * hts cs ∧ mss (cs.map g) ≤ 2800 * nszs cs ∧ Lks 5000 (cs.map g)
  | [], _ => by simp [flats_e1, flats_e2, lvss_e1, lvss_e2, W2s_e1, W2s_e2, hts, mss_e1, mss_e2, nszs_e1, nszs_e2, Lks_e1, Lks_e2]
  | c :: cs, h => by
    refine ea_AAAAAA (map_facts fun t ht => h t (List.mem_cons_of_mem _ ht)) ?_
    intro a1 a2 a3 a4 a5 a6 a7
    have k := h c (by simp)
    have := k.h
    have := k.ms
    refine ⟨by simp only [List.map_cons, k.un, a1], by simp only [List.map_cons, flats_e1, flats_e2, flat_off k.bar, a2, List.singleton_append], by simp only [List.map_cons, lvss_e1, lvss_e2, k.lv, a3], by simp only [List.map_cons, W2s_e1, W2s_e2]; exact ⟨k.w2, a4⟩, by simp only [List.map_cons, hts]; lia, by simp only [List.map_cons, mss_e1, mss_e2, nszs_e1, nszs_e2]; lia, by simp only [List.map_cons, Lks_e1, Lks_e2]; exact ⟨k.lk, a7⟩⟩
theorem bt_ok (left : Bool) (many above : Nat) (ha : above ≤ 2) : ∀ T : Tr, ∀ (par : List Str) (top : Bool), ht T ≤ 30 → Sm T → Nb T → PrOk par → BtOk T (bt left many above par top T) := by
  refine (Tr.ind (P := fun T => ∀ (par : List Str) (top : Bool), ht T ≤ 30 → Sm T → Nb T → PrOk par → BtOk T (bt left many above par top T)) (R := fun ts => ∀ T ∈ ts, ∀ (par : List Str) (top : Bool), ht T ≤ 30 → Sm T → Nb T → PrOk par → BtOk T (bt left many above par top T)) ?_ ?_ ?_ ?_).1
  · intro c par top _ _ _ _
    rw [bt_leaf]
    exact ⟨rfl, rfl, rfl, by simp [W2_e1, W2_e2], by simp [ht], by simp [ms_e1, ms_e2, nsz_e1, nsz_e2], by simp [Lk_e1, Lk_e2]⟩
  · intro lab cs ih par top hh hs hn hp
    have hs' := hs
    simp only [Sm_e1, Sm_e2] at hs
    simp only [Nb_e1, Nb_e2] at hn
    simp only [ht] at hh
    rw [bt_node (by lia) hs.2.2.1]
    have hp2 : PrOk (pr1 above par top lab cs) := hp.next ha hs.1 hn.1
    refine ea_AA (mk1_ok (above := above) (top := top) (cs := cs) hp) ?_
    intro m1 m2 m3
    obtain ⟨a1, a2, a3, a4, a5, a6, a7⟩ := map_facts (g := bt left many above (pr1 above par top lab cs) false) (cs := cs) fun t ht' => ih t ht' _ _ (by have := hts_mem ht'; lia) (hs.2.2.2.mem ht') (hn.2.mem ht') hp2
    have hlen : (cs.map (bt left many above (pr1 above par top lab cs) false)).length = cs.length := List.length_map _
    have hSh : Sh 4 100 (cs.map lbl) := ⟨by rw [List.length_map]; exact hs.2.2.1, fun s hm => by
      refine ea_EA (List.mem_map.mp hm) ?_
      intro t ht' zq372
      obtain rfl := zq372
      exact (hs.2.2.2.mem ht').lbl⟩
    have hV := hds_ok (left := left) (many := many) (n := cs.length) hs.1 m2 hSh
    have hL := hds_length left many (vlab lab (mk1 above par top cs)) (cs.map lbl) cs.length
    revert a1; revert a2; revert a3; revert a4; revert a5; revert a6; revert a7; revert hlen
    refine gen_x (cs.map (bt left many above (pr1 above par top lab cs) false)) ?_
    intro ch hlen a7 a6 a5 a4 a3 a2 a1
    revert hV; revert hL
    refine gen_x (hds left many (vlab lab (mk1 above par top cs)) (cs.map lbl) cs.length) ?_
    intro hs2 hL hV
    revert m1; revert m2; revert m3
    refine gen_x (mk1 above par top cs) ?_
    intro mark m3 m2 m1
    refine ea_EAAAAAAA (mkT_all (left := left) 900 hs2 (lab ++ mark) ch hV (by lia)) ?_
    intro us e1 e2 e3 e4 e5 e6 e7 e8
    have hq := hs.2.2.1
    have hlab := hs.1
    have hll : (lab ++ mark).length ≤ 406 := by rw [Str.length_append']; lia
    rw [e1]
    refine ⟨?_, ?_, ?_, ?_, ?_, ?_, ?_⟩
    · have k : uT (.node lab ch) = uT (.node lab cs) := uT_congr _ lab (Nat.le_refl _) hn.1 ch cs a2 hn.2.flats a1
      rw [← k, uT_node (lab ++ mark) us, uT_node lab ch, cutC_mark hn.1.1 m3, cutC_nb hn.1.1, e2]
    · refine no_bar ?_
      rw [chs_append]
      simp only [List.mem_append, not_or]
      exact ⟨hn.1.2, m1⟩
    · simp only [lvs_e1, lvs_e2]; rw [e3, a3]
    · simp only [W2_e1, W2_e2]
      exact ⟨e4 (by lia), e5 (by omega) a4⟩
    · simp only [ht]; lia
    · simp only [Mine.ms, nsz_e1, nsz_e2]
      have : hs2.length * (900 + 1) ≤ 2 * 901 := Nat.mul_le_mul_right _ (by lia)
      lia
    · simp only [Lk_e1, Lk_e2]
      exact ⟨by exact bk6 (by assumption) rfl, e8 5000 (by lia) a7⟩
  · intro T hT; cases hT
  · intro c cs i1 i2 T hT
    rcases List.mem_cons.mp hT with rfl | q
    · exact i1
    · exact i2 T q
end
end
-- P20
section
section
noncomputable def DueOk (s : Tr) (lab : Str) (cs : List Tr) : Prop := Sm (.node lab cs) ∧ hts cs ≤ 4 ∧ nszs cs ≤ 50000 ∧ lvss cs = lvs s ∧ ∀ (left : Bool) (many above : Nat), above ≤ 2 → ∃ L us, bt left many above [lab] true (.node lab cs) = .node L us ∧ lvss us = lvs s ∧ W2 (.node L us) ∧ hts us ≤ 20 ∧ ms (.node L us) ≤ 4000000 ∧ Lk 5000 (.node L us) ∧ uT (.node L us) = s
theorem wf_wc {lab : Str} {cs : List Tr} (w : Wf (.node lab cs)) (h : hts cs ≤ 4) : Wc (.node lab cs) := by
  simp only [Wf_e1, Wf_e2] at w
  simp only [Wc]
  have := w.1.len
  exact ⟨by lia, by exact bk6 (by assumption) rfl, w.2.1, w.2.2.1, w.2.2.2⟩
theorem Wf_Sm : (∀ t, Wf t → Sm t) ∧ ∀ ts, Wfs ts → Sms ts := by
  refine Tr.ind (P := fun t => Wf t → Sm t) (R := fun ts => Wfs ts → Sms ts) ?_ ?_ ?_ ?_
  · intro c h; simp only [Wf_e1, Wf_e2] at h; simp only [Sm_e1, Sm_e2]; have := h.len; lia
  · intro lab cs ih h; simp only [Wf_e1, Wf_e2] at h; simp only [Sm_e1, Sm_e2]; have := h.1.len; exact ⟨by lia, h.2.1, h.2.2.1, ih h.2.2.2⟩
  · intro _; simp [Sms_e1, Sms_e2]
  · intro c cs i1 i2 h; simp only [Wfs_e1, Wfs_e2] at h; simp only [Sms_e1, Sms_e2]; exact ⟨i1 h.1, i2 h.2⟩
theorem W2_Wd : (∀ t, W2 t → Wd t) ∧ ∀ ts, W2s ts → Wds ts := by
  refine Tr.ind (P := fun t => W2 t → Wd t) (R := fun ts => W2s ts → Wds ts) ?_ ?_ ?_ ?_
  · intro c _; simp [Wd_e1, Wd_e2]
  · intro lab cs ih h; simp only [W2_e1, W2_e2] at h; simp only [Wd_e1, Wd_e2]; exact ⟨by lia, ih h.2⟩
  · intro _; simp [Wds_e1, Wds_e2]
  · intro c cs i1 i2 h; simp only [W2s_e1, W2s_e2] at h; simp only [Wds_e1, Wds_e2]; exact ⟨i1 h.1, i2 h.2⟩
theorem Wf_Wd : (∀ t, Wf t → Wd t) ∧ ∀ ts, Wfs ts → Wds ts := ⟨fun t h => Sm_Wd.1 t (Wf_Sm.1 t h), fun ts h => Sm_Wd.2 ts (Wf_Sm.2 ts h)⟩
theorem lvs_nsz : (∀ t, (lvs t).length ≤ nsz t) ∧ ∀ ts, (lvss ts).length ≤ nszs ts := by
  refine Tr.ind (P := fun t => (lvs t).length ≤ nsz t) (R := fun ts => (lvss ts).length ≤ nszs ts) ?_ ?_ ?_ ?_
  · intro c; simp [lvs_e1, lvs_e2, nsz_e1, nsz_e2]
  · intro lab cs ih; simp only [lvs_e1, lvs_e2, nsz_e1, nsz_e2]; lia
  · simp [lvss_e1, lvss_e2, nszs_e1, nszs_e2]
  · intro c cs i1 i2; simp only [lvss_e1, lvss_e2, nszs_e1, nszs_e2, List.length_append]; lia
/-- a bound by the height -/
noncomputable def bd : Nat → Nat
  | 0 => 1
  | n + 1 => 1 + 4 * bd n
theorem bd_e1 : bd 0 = (1) := rfl
theorem bd_e2 {n} : bd (n + 1) = (1 + 4 * bd n) := rfl
theorem bd_mono {a b : Nat} (h : a ≤ b) : bd a ≤ bd b := by
  induction b with
  | zero => rw [Nat.le_zero.mp h]; exact Nat.le_refl _
  | succ b ih =>
    rcases Nat.lt_or_eq_of_le h with q | q
    · have := ih (by lia); simp only [bd_e1, bd_e2]; lia
    · rw [q]; exact Nat.le_refl _
theorem nszs_bd {n : Nat} : ∀ {cs : List Tr}, (∀ t ∈ cs, nsz t ≤ n) → nszs cs ≤ cs.length * n
  | [], _ => by simp [nszs_e1, nszs_e2]
  | c :: cs, h => by
    have h1 := h c (by simp)
    have h2 := nszs_bd fun t ht => h t (List.mem_cons_of_mem _ ht)
    simp only [nszs_e1, nszs_e2, List.length_cons, Nat.succ_mul]; lia
theorem nsz_bd : ∀ t : Tr, Sm t → nsz t ≤ bd (ht t) := by
  refine (Tr.ind (P := fun t => Sm t → nsz t ≤ bd (ht t)) (R := fun ts => ∀ t ∈ ts, Sm t → nsz t ≤ bd (ht t)) ?_ ?_ ?_ ?_).1
  · intro c _; simp [nsz_e1, nsz_e2, ht, bd_e1, bd_e2]
  · intro lab cs ih h
    simp only [Sm_e1, Sm_e2] at h
    have h1 := nszs_bd (n := bd (hts cs)) (cs := cs) fun t ht' => Nat.le_trans (ih t ht' (h.2.2.2.mem ht')) (bd_mono (hts_mem ht'))
    have h2 : cs.length * bd (hts cs) ≤ 4 * bd (hts cs) := Nat.mul_le_mul_right _ h.2.2.1
    simp only [nsz_e1, nsz_e2, ht, bd_e1, bd_e2]; lia
  · intro t hT; cases hT
  · intro c cs i1 i2 t hT
    rcases List.mem_cons.mp hT with rfl | q
    · exact i1
    · exact i2 t q
theorem sm_nz {lab : Str} {cs : List Tr} (w : Sm (.node lab cs)) (h : hts cs ≤ 4) : nsz (.node lab cs) ≤ 1365 :=
  Nat.le_trans (nsz_bd _ w) (Nat.le_trans (bd_mono (b := 5) (by simp only [ht]; exact bk8 (by assumption) rfl)) (by decide))
theorem wf_nz {lab : Str} {cs : List Tr} (w : Wf (.node lab cs)) (h : hts cs ≤ 4) : nszs cs ≤ 50000 := by
  have := sm_nz (Wf_Sm.1 _ w) h
  simp only [nsz_e1, nsz_e2] at this; lia
theorem due_of {s : Tr} {lab : Str} {cs : List Tr} (hs : Sm (.node lab cs)) (hn : Nb (.node lab cs)) (hh : hts cs ≤ 4) (hl : lvss cs = lvs s) (hu : uT (.node lab cs) = s) : DueOk s lab cs := by
  have nz := sm_nz hs hh
  refine ⟨hs, hh, by simp only [nsz_e1, nsz_e2] at nz; lia, hl, fun left many above ha => ?_⟩
  have hs' := hs
  have hn' := hn
  simp only [Sm_e1, Sm_e2] at hs'
  simp only [Nb_e1, Nb_e2] at hn'
  have K := bt_ok left many above ha (.node lab cs) [lab] true (by simp only [ht]; exact bk8 (by assumption) rfl) hs hn (PrOk.one hs'.1 hn'.1)
  have e := bt_node (left := left) (many := many) (above := above) (par := [lab]) (top := true) (lab := lab) (by exact bk6 (by assumption) rfl : hts cs ≤ 29) hs'.2.2.1
  obtain ⟨L, us, e2⟩ : ∃ L us, bt left many above [lab] true (.node lab cs) = .node L us := by
    unfold bt; simp only [bn]; exact ia_EE _ _ rfl
  rw [e2] at K
  have h1 := K.h
  have h2 := K.ms
  have h3 := K.lv
  simp only [ht] at h1
  simp only [lvs_e1, lvs_e2] at h3
  refine ia_EEAAAAAA L us e2 (by rw [h3, hl]) K.w2 (by lia) (Nat.le_trans h2 (by lia)) K.lk (by rw [K.un, hu])
theorem due_id {lab : Str} {cs : List Tr} (w : Wf (.node lab cs)) (h : hts cs ≤ 4) : DueOk (.node lab cs) lab cs :=
  due_of (Wf_Sm.1 _ w) (Wf_Nb.1 _ w) h rfl (uT_Wf.1 _ w)
theorem stepC_lv (words : Bool) (p : Str × List Tr) : lvss (stepC words p).2 = lvss p.2 := by
  unfold stepC
  split
  · split
    · simp only [lvss_e1, lvss_e2, lvs_e1, lvs_e2, List.append_nil]
    · rfl
  · rfl
theorem chain_lv (words : Bool) (p : Str × List Tr) : ∀ n, lvss (chain words n p).2 = lvss p.2
  | 0 => rfl
  | n + 1 => by rw [chain_back, stepC_lv, chain_lv words p n]
structure JnOk (T B : Tr) : Prop where
  sm : Sm B
  h : ht B ≤ ht T
  lv : lvs B = lvs T
theorem jmap {g : Tr → Tr} : ∀ {cs : List Tr}, (∀ t ∈ cs, JnOk t (g t)) → Sms (cs.map g) ∧ hts (cs.map g) ≤ hts cs ∧ lvss (cs.map g) = lvss cs
  | [], _ => by simp [Sms_e1, Sms_e2, hts]
  | c :: cs, h => by
    refine ea_AA (jmap fun t ht => h t (List.mem_cons_of_mem _ ht)) ?_
    intro a1 a2 a3
    have k := h c (by simp)
    have := k.h
    exact ⟨by simp only [List.map_cons, Sms_e1, Sms_e2]; exact ⟨k.sm, a1⟩, by simp only [List.map_cons, hts]; omega, by simp only [List.map_cons, lvss_e1, lvss_e2, k.lv, a3]⟩
theorem jn_ok (words : Bool) : ∀ (n : Nat) (j : Bool) (t : Tr), Wf t → ht t ≤ 20 → JnOk t (jn words n j t)
  | n, j, .leaf c, h, _ => by rw [jn_leaf]; exact ⟨Wf_Sm.1 _ h, Nat.le_refl _, rfl⟩
  | 0, j, .node lab cs, h, _ => by simp only [jn]; exact ⟨Wf_Sm.1 _ h, Nat.le_refl _, rfl⟩
  | n + 1, j, .node lab cs, h, hh => by
    have hh2 := hh
    simp only [ht] at hh
    have h' := h
    simp only [Wf_e1, Wf_e2] at h'
    have key : ∀ p : Str × List Tr, Jw (hts cs) 20 p → lvss p.2 = lvss cs → JnOk (.node lab cs) (.node p.1 (p.2.map (jn words n true))) := fun p J hl => by
      obtain ⟨a1, a2, a3⟩ := jmap (g := jn words n true) (cs := p.2) fun t ht' => jn_ok words n true t (J.wf.mem ht') (by have := hts_mem ht'; have := J.h; lia)
      have j1 := J.len
      have j2 := J.l1
      have j4 := J.l4
      have j5 := J.h
      exact ⟨by simp only [Sm_e1, Sm_e2, List.length_map]; exact ⟨by exact bk6 (by assumption) rfl, j2, j4, a1⟩, by simp only [ht]; lia, by simp only [lvs_e1, lvs_e2]; rw [a3, hl]⟩
    have J0 : Jw (hts cs) 0 (lab, cs) := ⟨by rw [h'.1.len]; lia, h'.2.2.2, h'.2.1, h'.2.2.1, Nat.le_refl _⟩
    induction j using BoolEl with
    | true => rw [jn_true]; exact key _ (J0.chain words 20) (chain_lv _ _ _)
    | false => rw [jn_false]; exact key (lab, cs) ⟨by rw [h'.1.len]; lia, h'.2.2.2, h'.2.1, h'.2.2.1, Nat.le_refl _⟩ rfl
theorem due_jn {lab : Str} {cs : List Tr} (words j : Bool) (w : Wf (.node lab cs)) (h : hts cs ≤ 4) : ∃ lab' cs', jn words 30 j (.node lab cs) = .node lab' cs' ∧ DueOk (.node lab cs) lab' cs' := by
  obtain ⟨L, us, e⟩ : ∃ L us, jn words 30 j (.node lab cs) = .node L us := by simp only [jn]; exact ia_EE _ _ rfl
  have K := jn_ok words 30 j _ w (by simp only [ht]; exact bk8 (by assumption) rfl)
  have U := jn_un words 30 j _ w
  rw [e] at K U
  have h1 := K.h
  have h3 := K.lv
  simp only [ht] at h1
  simp only [lvs_e1, lvs_e2] at h3
  exact ⟨L, us, e, due_of K.sm U.2 (by lia) (by simpa only [lvs_e1, lvs_e2] using h3) U.1⟩
end
end
-- F20a
section
section
set_option pp.proofs false
theorem law0 : PySem.Challenge.rw_je0024_01.Holds := by
  refine' hd2 ?hdef ?hp ?hk ?walk
  case hdef => rfl
  case hp => rfl
  case hk => rfl
  intro w s₀ s₁ mg mb G Y fa o pm cd doc dV kV ho hd hcd hD hmg hg args vals as hpre hlay hrd hwl hlo
  refine Ground.open G ?_
  intro T B D TE TW
  try (refine guard_noD D (by decide +kernel) ?_; clear D)
  have TA := at_of_top T
  try (obtain ⟨_, _, he, B0⟩ := based_of_top T rfl hmg ho hd; have he' : cd = _ := he; subst he'; clear he)
  clear hmg
  wrow_args hpre hlay hrd hwl hlo
  refine enter_call ?_
  w_call any ho hd hcd hD T F
  clear hd hD hcd ho TA B0
  rename_i is a1 a2 a3 a4 a5 a6 a7 sc a8 a9 b1 b2 w1 b3 b4 b5 hc b6 h₁ b7
  replace hc : is.length ≤ 63 := by omega
  cases w1 with
  | list hsc hwa =>
  rename_i cs
  obtain ⟨hi, hle⟩ := wellInts hwa
  refine' law_T (sc := sc) (l := [(Str.ofString "script", .ref sc)]) Y.1 Y.2 T hsc F rfl hg (fun x v e => e) rfl (Nat.le_of_ble_eq_true rfl) (Nat.le_of_ble_eq_true rfl) ?hR ?goo
  case hR =>
    intro s' hold hos hbare
    refine ⟨.inl ⟨_, _, [], rfl, (fun _ => rfl), .bool true, postT _ _, (fun _ => ⟨.nil, nofun⟩)⟩, hold, hos, hbare⟩
  intro f H hL O hsc' Tab1 Tab2
  clear G Y T B TE TW hg a1 a2 a3 a4 a5 b1 b2 b3 b4 b5 b6 b7 F hwa hsc a6 a7
  revert hL
  refine gen_x (s₁.heap.objs.size) ?_
  intro L hL
  subst hL
  have hlen : cs.length ≤ 63 := hle ▸ hc
  walk_at "m:go"
  refine tape_ok O (by lia) hsc' hi hlen ?_
  intro a c cs' n nc t H1 le1 na nc' hca ha hc1 hi1 hl1 hl2
  have Tp : Tape H1 a c 0 := ⟨hca, ⟨_, _, ha⟩, ⟨_, _, hc1, hi1, hl1, hl2⟩, Int.le_refl _⟩
  walk_at "m:go"
  refine inL rfl fun r hr => ?_
  walk_at "m:go"
  dsimp only at le1 na nc' hr ⊢
  have hra : r ≠ a := fun q => by rw [q, ha] at hr; cases hr
  have hrc : r ≠ c := fun q => by rw [q, hc1] at hr; cases hr
  have hasc : a ≠ sc := fun q => by rw [q, hsc'] at na; cases na
  have hcsc : c ≠ sc := fun q => by rw [q, hsc'] at nc'; cases nc'
  refine T_hp (fun H2 => Le H H2 ∧ Tape H2 a c 0 ∧ Room H2 r) ⟨le1.trans (Le.upd hr), Tp.le (Le.upd hr), ⟨_, _, _, upd_self _ _ _⟩⟩ ?_
  intro H2 zz1
  refine ea_AA (zz1) ?_
  try clear zz1
  intro le2 Tp2 Rm2
  refine node_ok 4 O (by lia) (by lia) Tp2 Rm2 hra hrc (by decide) ?_
  intro v lab cs1 H3 z bt3 Tp3 Rm3 hz hP3 hW hh
  have nsc : sc ≠ a ∧ sc ≠ r := ⟨hasc.symm, fun q => by
    rw [q] at hsc'; rw [(le1.none hr)] at hsc'; cases hsc'⟩
  have e3 : ∀ b o, H b = some o → b ≠ r → H3 b = some o := fun b o e n => bt3 b o (le2 _ _ e) fun q => q.elim (fun q => by rw [q, na] at e; cases e) n
  have hsc3 := e3 _ _ hsc' nsc.2
  have nr : ∀ {P}, Tab H P → P ≠ r := fun t q => t.in (q ▸ le1.none hr)
  have t13 : Tab H3 162 := Tab1.imp fun ps z => ⟨e3 _ _ z.1 (nr Tab1), z.2⟩
  have t23 : Tab H3 296 := Tab2.imp fun ps z => ⟨e3 _ _ z.1 (nr Tab2), z.2⟩
  obtain ⟨R, hR⟩ : ∃ R : Hp, R = upd (wo H3 (fun b => H2 b ≠ none)) sc (listOf cs.toArray 0) := ⟨_, rfl⟩
  have Rsc : R sc = some (listOf cs.toArray 0) := by rw [hR]; exact upd_self _ _ _
  have Rno : ∀ b, b ≠ sc → H2 b ≠ none → R b = none := fun b n q => by
    rw [hR]; show (if _ then _ else _) = _; rw [if_neg n]; unfold wo; rw [if_pos q]
  have leR : Le R H3 := fun b o e => by
    rw [hR] at e
    by_cases q : b = sc
    · subst q; rw [upd_self] at e; cases e; exact hsc3
    · have e : (if _ then _ else _) = _ := e
      rw [if_neg q] at e; exact (wo_some.mp e).1
  have PLR : PL R (.node lab cs1) v := hP3.le fun b o e => by
    have hb : b ≠ sc := fun q => (wo_some.mp e).2 (by rw [q]; show H2 sc ≠ none; rw [le2 _ _ hsc']; simp)
    rw [hR]; exact upd_other hb e
  have Ra := Rno a hasc Tp2.in.1
  have R1 := Rno 162 (fun q => Tab1.ne hsc' (by simp) q.symm) (fun q => Tab1.in (le2.none q))
  have R2 := Rno 296 (fun q => Tab2.ne hsc' (by simp) q.symm) (fun q => Tab2.in (le2.none q))
  clear hR Rno nsc bt3 hP3 e3 nr Tab1 Tab2 Tp2 Rm2 Rm3 le2 hra hrc hr Tp le1 na nc' hc1 ha hsc' hi hlen hle hc hi1 hl1 hl2 hasc hcsc hsc3
  walk_at "m:go"
  refine built_ok 5 O (by lia) (PLR.le leR) (by simp only [ht]; exact bk8 (by assumption) rfl) ?hwd ?_
  case hwd => exact Wf_Wd.1 _ hW
  intro x H4 F le4 hT4 nd4 fr4
  obtain ⟨w, _, _, _, _, rfl⟩ : ∃ (w : Addr) (p q r : Addr) (us : List Value), x = .ref w := by
    simp only [TR_e1, TR_e2] at hT4; obtain ⟨w, p, q, us, _, e, _⟩ := hT4; exact ⟨w, p, q, p, us, e⟩
  have J : LJ R a c z w (.node lab cs1) F ⟨H4, #[]⟩ := ⟨fun b o e => le4 _ _ (leR _ _ e), Tp3.le le4, Ra, R1, R2, t13.le le4, t23.le le4, hT4, nd4, fun b hb => ⟨leR.none (fr4 b hb), fun q => Tp3.in.1 (q ▸ fr4 b hb), fun q => Tp3.in.2 (q ▸ fr4 b hb)⟩, GB.refl _⟩
  clear t13 t23 Tp3 Ra R1 R2 hT4 nd4 fr4 le4 leR
  refine ea_EEEEAA (J.tr.ndL) ?_
  intro dx cl us _ _ hN _
  dsimp only at hN ⊢
  walk_at "m:go"
  refine leaves_ok 5 O (by lia) J.tr (by exact bk6 (by assumption) rfl) ?hlz ?_
  case hlz => exact Nat.le_trans (lvs_nsz.2 _) (Nat.le_trans (wf_nz hW hh) (by lia))
  intro D H5 vs n5 le5 hD hD5 hSV
  have PL5 := PLR.le (ext_old (H' := H5) J.le)
  have D5 : ext R H4 H5 D = some (listOf vs.toArray n5) := ext_new _ _ (wo_some.mpr ⟨hD5, fun q => q hD⟩)
  have Sc5 := ext_old (H' := H5) J.le _ _ Rsc
  replace J := J.add le5
  dsimp only at PL5 D5 Sc5 J ⊢
  revert PL5; revert D5; revert Sc5; revert J
  refine gen_x (ext R H4 H5) ?_
  intro R5 J Sc5 D5 PL5
  clear PLR Rsc hD5 hD le5 R
  obtain ⟨vn, rfl⟩ : ∃ vn : Addr, v = .ref vn := by
    simp only [PL_e1, PL_e2] at PL5; obtain ⟨a, _, _, _, _, _, e, _⟩ := PL5; exact ⟨a, e⟩
  walk_at "m:go"
  have hz' : z ≤ 50000 := by
    have : 10 + 4 * nbp 4 ≤ 40000 := by decide
    lia
  clear hz hca hN
  refine T_cut (fun l' X' => ∃ R z lab' cs' F dn, Sub [(Str.ofString "due", .ref dn), (Str.ofString "leaves", .ref D), (Str.ofString "tree", .ref w), (Str.ofString "node", .ref vn), (Str.ofString "tape", .ref a)] l' ∧ LJ R a c z w (.node lab' cs') F X' ∧ z ≤ 60000 ∧ DueOk (.node lab cs1) lab' cs' ∧ PL R (.node lab cs1) (.ref vn) ∧ PL R (.node lab' cs') (.ref dn) ∧ R D = some (listOf vs.toArray n5) ∧ R sc = some (listOf cs.toArray 0)) ?_ ?_
  · refine T_ifc (fun b l' X' => l' = [(Str.ofString "due", Value.ref vn), (Str.ofString "leaves", Value.ref D), (Str.ofString "tree", Value.ref w), (Str.ofString "node", Value.ref vn), (Str.ofString "tape", Value.ref a), (Str.ofString "script", Value.ref sc)] ∧ LJ R5 a c (z + 1) w (.node lab cs1) F X') ?_ ?_ ?_
    · walk_at "m:go"
      refine take_ok2 O (by lia) J.tape (by lia) (by lia) (by lia) fun r1 t1 o1 q0 q1 hT1 => ?_
      walk_at "m:go"
      exact ⟨rfl, J.take hT1⟩
    · intro _ zz1 zz2
      obtain ⟨H6, g6⟩ := zz1
      obtain ⟨rfl, J⟩ := zz2
      walk_at "m:go"
      refine T_assign_swap2 O ?_ (by rfl) (by rfl)
      walk_at "m:go"
      refine take_ok2 O (by lia) J.tape (by lia) (by omega) (by omega) fun r2 t2 o2 q20 q21 hT2 => ?_
      walk_at "m:go"
      refine T_LJ (g := g6) (J.take hT2) fun H6 J => ?_
      refine take_ok2 O (by lia) J.tape (by lia) (by lia) (by lia) fun r3 t3 o3 q30 q31 hT3 => ?_
      walk_at "m:go"
      have J := J.take hT3
      refine inT rfl fun D3 hD3 => inSw2 (upd_self _ _ _) ?_
      walk_at "m:go"
      refine T_LJ (g := g6) (J.grow (Le.upd hD3)) fun H6 J => ?_
      obtain ⟨b2, hb2⟩ : ∃ b : Bool, (r2 == 0) = b := ⟨_, rfl⟩
      obtain ⟨b3, hb3⟩ : ∃ b : Bool, (r3 == 0) = b := ⟨_, rfl⟩
      rw [hb2, hb3]
      clear hT3 hD3 hT2 hb2 hb3 q20 q21 q30 q31
      refine collapse_ok O (by lia) J.tr J.nd (wf_wc hW hh) (wf_nz hW hh) ?_
      intro H9 F9 kp tr9 nd9 fr9
      refine ea_EEA (due_jn b2 (b3 || cs1.length != 1) hW hh) ?_
      intro lab9 cs9 ej due9
      rw [ej] at tr9
      have J9 := J.mut0 kp tr9 nd9 fr9
      clear kp tr9 nd9 fr9
      dsimp only at J9 ⊢
      have PL9 := PL5.le J9.le
      simp only [PL_e1, PL_e2] at PL9
      refine ea_EEEEEEAAA (PL9) ?_
      try clear PL9
      intro a9 b9 tl9 n9 m9 vs9 eq9 h91 h92 h93
      cases eq9
      have hl9 := h93.length
      walk_at "m:go"
      refine ⟨rfl, Then_next (T_execs_cons (T_cut (fun l' X' => ∃ R dn, Sub [(Str.ofString "due", .ref dn), (Str.ofString "leaves", .ref D), (Str.ofString "tree", .ref w), (Str.ofString "node", .ref vn), (Str.ofString "tape", .ref a)] l' ∧ LJ R a c (z + 1 + 1 + 1) w (.node lab9 cs9) F9 X' ∧ PL R (.node lab cs1) (.ref vn) ∧ PL R (.node lab9 cs9) (.ref dn) ∧ R D = some (listOf vs.toArray n5) ∧ R sc = some (listOf cs.toArray 0)) ?_ ?_))⟩
      · have fin : ∀ (w9 : Value) H10, Le H9 H10 → PL (wo H10 (fun b => H9 b ≠ none)) (.node lab9 cs9) w9 → ∃ R dn, w9 = .ref dn ∧ LJ R a c (z + 1 + 1 + 1) w (.node lab9 cs9) F9 ⟨H10, g6⟩ ∧ PL R (.node lab cs1) (.ref vn) ∧ PL R (.node lab9 cs9) (.ref dn) ∧ R D = some (listOf vs.toArray n5) ∧ R sc = some (listOf cs.toArray 0) := fun w9 H10 le10 P10 => by
          obtain ⟨dn, rfl⟩ : ∃ dn : Addr, w9 = .ref dn := by
            simp only [PL_e1, PL_e2] at P10; obtain ⟨a, _, _, _, _, _, e, _⟩ := P10; exact ⟨a, e⟩
          exact ia_EEAAAAA (ext R5 H9 H10) dn rfl (J9.add le10) (PL5.le (ext_old J9.le)) (P10.le ext_new) (ext_old J9.le _ _ D5) (ext_old J9.le _ _ Sc5)
        walk_at "m:go"
        induction b3 using BoolEl with
        | true =>
          refine ite_t rfl ?_
          walk_at "m:go"
          refine joined_ok 30 O (by lia) (PL5.le J9.le) (by exact bk9 (by assumption) rfl) hW ?_
          intro w9 H10 le10 P10
          rw [show true = (true || cs1.length != 1) from rfl, ej] at P10
          refine ea_EEAAAAA (fin _ _ le10 P10) ?_
          intro R dn zq267 f1 f2 f3 f4 f5
          obtain rfl := zq267
          walk_at "m:go"
          exact ⟨rfl, R, dn, by walk_at "m:sub", f1, f2, f3, f4, f5⟩
        | false =>
          refine ite_f (by decide) ?_
          have hW4 := hW
          simp only [Wf_e1, Wf_e2] at hW4
          have jz : vs9.length ≤ sizeLine := by rw [sizeLine_eq]; lia
          walk_at "m:go"
          have eb : (((vs9.length : Int) != 1)) = (false || cs1.length != 1) := by
            rw [Bool.false_or, ← hl9, Bool.eq_iff_iff]; simp; lia
          refine joined_ok 30 O (by omega) (PL5.le J9.le) (by exact bk9 (by assumption) rfl) hW ?_
          intro w9 H10 le10 P10
          rw [eb, ej] at P10
          refine ea_EEAAAAA (fin _ _ le10 P10) ?_
          intro R dn zq268 f1 f2 f3 f4 f5
          obtain rfl := zq268
          walk_at "m:go"
          exact ⟨rfl, R, dn, by walk_at "m:sub", f1, f2, f3, f4, f5⟩
      · intro l10 zz1 zz2
        obtain ⟨H10, g10⟩ := zz1
        refine ea_EEAAAAA (zz2) ?_
        try clear zz2
        intro R dn sb10 J10 f2 f3 f4 f5
        refine T_sub sb10 ?_
        clear J9 PL5 D5 Sc5 J h91 h92 h93 sb10
        refine ea_AAAA (id due9) ?_
        intro q1 q2 q3 q4 zc269
        clear zc269
        have q1d := Sm_Wd.1 _ q1
        walk_at "m:go"
        refine T_if0 ?_
        walk_at "m:go"
        refine plain_ok 30 O (by lia) J10.tr (by simp only [ht]; exact bk8 (by assumption) rfl) q1d fun wp H11 le11 P11 => ?_
        have J11 := J10.grow le11
        walk_at "m:go"
        refine T_nePL O (by exact bk6 (by assumption) rfl) P11 (f3.le J11.le) ?_
        refine ea_EEEEAA (J11.tr.ndL) ?_
        intro dx1 cl1 us1 _ _ hN1 _
        dsimp only at hN1 ⊢
        walk_at "m:go"
        refine leaves_ok 30 O (by lia) J11.tr (by exact bk6 (by assumption) rfl) (Nat.le_trans (lvs_nsz.2 _) (by exact bk6 (by assumption) rfl)) fun D12 H12 vs12 n12 le12 nD12 hD12 sv12 => ?_
        walk_at "m:go"
        have J12 := J11.grow le12
        rw [q4] at sv12
        refine T_neSV O hD12 (J12.le _ _ f4) sv12 hSV ?_
        walk_at "m:go"
        refine ⟨rfl, ?_⟩
        walk_at "m:go"
        exact ⟨rfl, R, _, lab9, cs9, F9, dn, Sub.refl _, J12, by lia, due9, f2, f3, f4, f5⟩
    · intro _ X7 zz2
      obtain ⟨rfl, J⟩ := zz2
      walk_at "m:go"
      exact ⟨rfl, R5, _, _, _, _, vn, by walk_at "m:sub", J, by lia, due_id hW hh, PL5, PL5, D5, Sc5⟩
  · intro l8 zz1 zz2
    obtain ⟨H8, g8⟩ := zz1
    refine ea_EEEEEE (zz2) ?_
    try clear zz2
    intro R8 z8 lab8 cs8 F8 dn zp2
    refine ea_AAAAAAA (zp2) ?_
    clear zp2
    intro sb J8 hz8 due8 PN8 PD8 D8 Sc8
    refine T_sub sb ?_
    walk_at "m:go"
    refine T_cut (fun l' X' => ∃ (left : Bool) (many above : Nat) (tm ta : Tok), many ≤ 1000 ∧ above ≤ 2 ∧ Sub [(Str.ofString "left", .bool left), (Str.ofString "many", .int many tm), (Str.ofString "above", .int above ta), (Str.ofString "due", .ref dn), (Str.ofString "leaves", .ref D), (Str.ofString "tree", .ref w), (Str.ofString "node", .ref vn)] l' ∧ LJ R8 a c (z8 + 1 + 1 + 1) w (.node lab8 cs8) F8 X') ?_ ?_
    · refine T_assign_swap3 O ?_ (by rfl) (by rfl)
      walk_at "m:go"
      refine take_ok2 O (by lia) J8.tape (by lia) (by omega) (by omega) fun r4 t4 o4 q40 q41 hT4 => ?_
      walk_at "m:go"
      refine inL rfl fun A4 hA4 => ?_
      refine T_hp (fun H => LJ R8 a c (z8 + 1) w (.node lab8 cs8) F8 ⟨H, g8⟩ ∧ A4 ≠ a ∧ H A4 = some (listOf _ 0)) ⟨(J8.take hT4).grow (Le.upd hA4), fun q => (J8.take hT4).tape.in.1 (q ▸ hA4), upd_self _ _ _⟩ ?_
      clear J8 hT4 hA4
      intro H8 zz1
      refine ea_AA (zz1) ?_
      try clear zz1
      intro J8 nA4 e4
      walk_at "m:go"
      refine take_ok2 O (by lia) J8.tape (by lia) (by lia) (by lia) fun r5 t5 o5 q50 q51 hT5 => ?_
      walk_at "m:go"
      refine T_getAny (upd_other nA4 e4) q50 (by simp; omega) (lsz rfl) (fun v5 hv5 => ?_) (by with_unfolding_all rfl)
      obtain ⟨many, tm, m1, rfl⟩ : ∃ (m : Nat) (tm : Tok), m ≤ 1000 ∧ v5 = .int (m : Int) tm := by
        rcases at_4 q50 q51 hv5 with rfl | rfl | rfl | rfl
        · exact ⟨999, _, by lia, rfl⟩
        · exact ⟨0, _, by lia, rfl⟩
        · exact ⟨1, _, by lia, rfl⟩
        · exact ⟨2, _, by lia, rfl⟩
      have J8' := J8.take hT5
      clear hv5 q50 q51 J8 hT5 e4 nA4
      walk_at "m:go"
      refine inL rfl fun A5 hA5 => ?_
      refine T_hp (fun H => LJ R8 a c (z8 + 1 + 1) w (.node lab8 cs8) F8 ⟨H, g8⟩ ∧ A5 ≠ a ∧ H A5 = some (listOf _ 0)) ⟨J8'.grow (Le.upd hA5), fun q => J8'.tape.in.1 (q ▸ hA5), upd_self _ _ _⟩ ?_
      clear J8' hA5
      intro H8 zz1
      refine ea_AA (zz1) ?_
      try clear zz1
      intro J8 nA5 e5
      walk_at "m:go"
      refine take_ok2 O (by lia) J8.tape (by lia) (by lia) (by lia) fun r6 t6 o6 q60 q61 hT6 => ?_
      walk_at "m:go"
      refine T_getAny (upd_other nA5 e5) q60 (by simp; omega) (lsz rfl) (fun v6 hv6 => ?_) (by with_unfolding_all rfl)
      obtain ⟨above, ta, ab2, rfl⟩ : ∃ (m : Nat) (tm : Tok), m ≤ 2 ∧ v6 = .int (m : Int) tm := by
        rcases at_4 q60 q61 hv6 with rfl | rfl | rfl | rfl
        · exact ⟨0, _, by lia, rfl⟩
        · exact ⟨0, _, by omega, rfl⟩
        · exact ⟨1, _, by lia, rfl⟩
        · exact ⟨2, _, by lia, rfl⟩
      have J8' := J8.take hT6
      clear hv6 q60 q61 J8 hT6 e5 nA5
      walk_at "m:go"
      refine inT rfl fun A6 hA6 => inSw3 (upd_self _ _ _) ?_
      refine T_LJ (g := g8) (J8'.grow (Le.upd hA6)) fun H8 J8 => ?_
      clear J8' hA6
      walk_at "m:go"
      exact ⟨rfl, r4 == 0, many, above, tm, ta, m1, ab2, by walk_at "m:sub", J8⟩
    · intro l9 zz1 zz2
      obtain ⟨H9, g9⟩ := zz1
      refine ea_EEEEEAAA (zz2) ?_
      try clear zz2
      intro left many above tm ta m1 ab2 sb9 J9
      refine T_sub sb9 ?_
      clear sb9 sb J8 J PL5 D5 Sc5
      refine ea_AAAA (due8) ?_
      try clear due8
      intro q1 q2 q3 q4 q5
      refine ea_EEAAAAAA (q5 left many above ab2) ?_
      intro LB uB eB lvB w2B hB msB LkB uB'
      refine T_execs_cons (T_cut (fun l' X' => ∃ F', Sub [(Str.ofString "left", .bool left), (Str.ofString "many", .int many tm), (Str.ofString "above", .int above ta), (Str.ofString "due", .ref dn), (Str.ofString "leaves", .ref D), (Str.ofString "tree", .ref w), (Str.ofString "node", .ref vn)] l' ∧ LJ R8 a c (z8 + 1 + 1 + 1) w (.node LB uB) F' X') ?_ ?_)
      · walk_at "m:go"
        have fin : ∀ X', CnK w H9 F8 X'.h (bt left many above [lab8] true (.node lab8 cs8)) → Tab X'.h 162 → GB g9 X'.g → ∃ F', LJ R8 a c (z8 + 1 + 1 + 1) w (.node LB uB) F' X' := fun X' ⟨F', kp, tr, nd, fr⟩ tb gb => ⟨F', J9.mut (.inl rfl) kp tb (eB ▸ tr) nd fr gb⟩
        induction left using BoolEl with
        | true =>
          refine ite_t rfl ?_
          walk_at "m:go"
          by_cases h9 : many = 999
          · refine ite_t (by simp [h9]) ?_
            walk_at "m:go"
            refine cnf_ok (left := true) O (by lia) J9.tr J9.nd J9.t1 q1 (by exact bk6 (by assumption) rfl) q3 ab2 (.inl ⟨rfl, h9⟩) fun X' hc tb gb => ?_
            obtain ⟨F', JJ⟩ := fin X' hc tb gb
            exact ⟨rfl, rfl, F', by walk_at "m:sub", JJ⟩
          · refine ite_f (by simp; lia) ?_
            walk_at "m:go"
            refine cnf_ok (left := true) O (by omega) J9.tr J9.nd J9.t1 q1 (by exact bk6 (by assumption) rfl) q3 ab2 (.inr ⟨_, rfl⟩) fun X' hc tb gb => ?_
            obtain ⟨F', JJ⟩ := fin X' hc tb gb
            exact ⟨rfl, rfl, F', by walk_at "m:sub", JJ⟩
        | false =>
          refine ite_f (by decide) ?_
          walk_at "m:go"
          by_cases h9 : many = 999
          · refine ite_t (by simp [h9]) ?_
            walk_at "m:go"
            refine cnf_ok (left := false) O (by omega) J9.tr J9.nd J9.t1 q1 (by exact bk6 (by assumption) rfl) q3 ab2 (.inl ⟨rfl, h9⟩) fun X' hc tb gb => ?_
            obtain ⟨F', JJ⟩ := fin X' hc tb gb
            exact ⟨rfl, rfl, F', by walk_at "m:sub", JJ⟩
          · refine ite_f (by simp; omega) ?_
            walk_at "m:go"
            refine cnf_ok (left := false) O (by omega) J9.tr J9.nd J9.t1 q1 (by exact bk6 (by assumption) rfl) q3 ab2 (.inr ⟨_, rfl⟩) fun X' hc tb gb => ?_
            obtain ⟨F', JJ⟩ := fin X' hc tb gb
            exact ⟨rfl, rfl, F', by walk_at "m:sub", JJ⟩
      · intro lA zz1 zz2
        obtain ⟨HA, gA⟩ := zz1
        refine ea_EA (zz2) ?_
        try clear zz2
        intro FA sbA JA
        refine T_sub sbA ?_
        clear J9 sbA
        have wB := W2_Wd.1 _ w2B
        refine ea_EEEEEAAA (PD8.nodeV) ?_
        intro b8 tl8 n8 m8 vs8 e81 zc270 zc271 zc272
        clear zc270
        clear zc271
        clear zc272
        walk_at "m:go"
        refine T_if0 ?_
        walk_at "m:go"
        refine plain_ok 30 O (by lia) JA.tr (by simp only [ht]; exact bk8 (by assumption) rfl) wB fun wp HB leB PB => ?_
        have JB := JA.grow leB
        clear JA
        have e82 := JB.le _ _ e81
        dsimp only at e82 ⊢
        walk_at "m:go"
        refine inL rfl fun A9 hA9 => ?_
        refine T_hp (fun H => LJ R8 a c (z8 + 1 + 1 + 1) w (.node LB uB) FA ⟨H, gA⟩ ∧ H A9 = some (listOf [Value.str lab8 tl8].toArray 0) ∧ PL H (.node LB uB) wp) ⟨JB.grow (Le.upd hA9), upd_self _ _ _, PB.le (Le.upd hA9)⟩ ?_
        clear JB hA9 PB e82 leB
        intro HC zz1
        refine ea_AA (zz1) ?_
        try clear zz1
        intro JC eA9 PC
        walk_at "m:go"
        refine binary_ok left many above ab2 m1 30 O (by omega) (PD8.le JC.le) (by simp only [ht]; exact bk8 (by assumption) rfl) q1 eA9 (SV.one _ _) ⟨by simp, by simp; have := q1.lbl; simpa only [lbl] using this⟩ fun wb HD leD PD => ?_
        rw [show bn left many above 30 [lab8] true (.node lab8 cs8) = .node LB uB from eB] at PD
        have JD := JC.grow leD
        have PC' := PC.le leD
        clear JC eA9 PC leD
        walk_at "m:go"
        refine T_nePL O (by exact bk6 (by assumption) rfl) PC' PD ?_
        clear PC' PD
        refine ea_EEEEAA (JD.tr.ndL) ?_
        intro dx2 cl2 us2 _ _ hN2 _
        dsimp only at hN2 ⊢
        walk_at "m:go"
        have lvl : (lvss uB).length ≤ 100000 := by rw [lvB]; exact Nat.le_trans (lvs_nsz.2 _) (Nat.le_trans (wf_nz hW hh) (by lia))
        refine leaves_ok 30 O (by lia) JD.tr (by exact bk6 (by assumption) rfl) lvl fun DE HE vsE nE leE nDE hDE svE => ?_
        walk_at "m:go"
        have JE := JD.grow leE
        rw [lvB] at svE
        refine T_neSV O hDE (JE.le _ _ D8) svE hSV ?_
        clear JD hN2 hDE svE leE nDE
        walk_at "m:go"
        refine ⟨rfl, ?_⟩
        walk_at "m:go"
        refine T_if0 ?_
        iterate 5 walk_at "m:1"
        refine T_subcomp O (by rfl) (by decide) (by rfl) (by decide) (by rfl) ?_ (by exact fun _ => rfl)
        refine ea_EEEEAA (JE.tr.ndL) ?_
        intro dx3 cl3 us3 _ _ hN3 _
        dsimp only at hN3 ⊢
        walk_at "m:go"
        refine sub_call O fun C0 ga oC nm qn gs isS nCa nC na0 ltC ns => ?_
        walk_at "m:go"
        have gbE := JE.gb.bare
        have C0F : C0 ∉ FA := fun q => JE.tr.in q nC
        have leX : Le HE (upd (upd HE C0 oC) ga (genObj gA.size nm qn)) := (Le.upd nC).trans (Le.upd (by show (if ga = C0 then some oC else HE ga) = none; rw [if_neg nCa.symm]; exact na0))
        refine ie6 ga C0 w oC nm qn (ie6 gs gA.size 20 LB uB FA ⟨rfl, isS, upd_self _ _ _, upd_other nCa (upd_self _ _ _), ns, Array.getElem?_push_size, ltC, fun i y hi e => ?_, JE.tr.le leX, C0F, nCa.symm, w2B, hB, by lia, ?_, ?_⟩)
        · dsimp only at e
          rw [Array.getElem?_eq_none (by rw [Array.size_push]; lia)] at e; cases e
        · intro C X' y dy cy lab' vs' O1 hNy hvs2
          have jz : vs'.length ≤ sizeLine := by rw [sizeLine_eq]; exact bk6 (by assumption) rfl
          walk_at "m:go"
          refine len_ok O1 (by lia) hNy jz fun tl => ?_
          walk_at "m:go"
          exact ⟨decide_eq_false (by lia), rfl⟩
        · intro DF GF hDF gf1 gf2
          have hDF' : DF ≠ ga ∧ DF ≠ C0 ∧ HE DF = none := by
            obtain ⟨p1, p2⟩ := upd_none hDF
            obtain ⟨p3, p4⟩ := upd_none p2
            exact ⟨p1, p3, p4⟩
          have JF : LJ R8 a c (z8 + 1 + 1 + 1) w (.node LB uB) FA ⟨upd (wo (upd (upd HE C0 oC) ga (genObj gA.size nm qn)) (fun b => b = C0)) DF (listOf [].toArray 0), GF⟩ := JE.gens (fun b o e => by
            replace e : HE b = some o := e
            exact upd_other (fun q => by rw [q, hDF'.2.2] at e; cases e) (wo_some.mpr ⟨leX _ _ e, fun q => by rw [q, show HE C0 = none from nC] at e; cases e⟩)) (bare_of gbE (fun i hi => by
              rw [gf1 i hi]; show (gA.push gs)[i]? = _
              rw [Array.getElem?_push_lt hi, Array.getElem?_eq_getElem hi]) fun i y hi e => gf2 i y hi e)
          refine T_hp (fun H => LJ R8 a c (z8 + 1 + 1 + 1) w (.node LB uB) FA ⟨H, GF⟩ ∧ H DF = some (listOf [].toArray 0)) ⟨JF, upd_self _ _ _⟩ ?_
          clear JF JE leX hN3
          intro HF zz1
          obtain ⟨JF, eDF⟩ := zz1
          walk_at "m:go"
          refine ⟨rfl, ?_⟩
          walk_at "m:go"
          refine un_ok O (by lia) JF.tr JF.nd JF.t2 msB LkB fun X' F' kp tr nd fr tb gb => ?_
          rw [uB'] at tr
          have JG := JF.mut (.inr rfl) kp tb tr nd fr gb
          clear JF eDF kp tr nd fr tb gb
          obtain ⟨HG, gG⟩ := X'
          walk_at "m:go"
          refine ⟨rfl, ?_⟩
          walk_at "m:go"
          refine plain_ok 30 O (by lia) JG.tr (by simp only [ht]; exact bk8 (by assumption) rfl) (Wf_Wd.1 _ hW) fun wp HI leI PI => ?_
          have JI := JG.grow leI
          walk_at "m:go"
          refine T_eqPL O (by exact bk6 (by assumption) rfl) PI (PN8.le JI.le) ?_
          walk_at "m:go"
          exact ⟨rfl, JI.le _ _ Sc8, JI.t1, JI.t2, JI.gb.bare⟩
end
end
end Mine
theorem PySem.Challenge.cw_je0024_01_holds : PySem.Challenge.rw_je0024_01.Holds :=
  Mine.law0
