import PyProof.Rows.All
import OpenK.KWith
import OpenK.TopRead
import OpenK.XSeg
import OpenK.KMore
import OpenK.KDescr
import OpenK.KMake
import OpenK.KList
import OpenK.KDict
import KE.KDictOf
import KE.KBoundM
import KE.KDictNew
import KE.KEqDict
import KE.KPop
import KE.KDictAny
import Open.Line
import Open.Pieces
import Open.FastU11
import Open.FastT9
import Open.FastTabs
import Lean
import PySem.Challenge.RW_te0036_02
set_option Elab.async false
set_option maxRecDepth 100000
set_option linter.all false
set_option maxHeartbeats 0
section
open PySem PySem.W PySem.Calls PyProof.Rows
namespace Mine

/-- abstract values -/
inductive AV where
  | none
  | bool (b : Bool)
  | int (i : Int)
  | str (l : List Nat)
  | ref (a : Addr)
  | raw (v : Value)
  | unb

inductive Conc : AV → Value → Prop
  | none : Conc .none .none
  | bool (b : Bool) : Conc (.bool b) (.bool b)
  | int (i : Int) (t : Tok) : Conc (.int i) (.int i t)
  | str (l : List Nat) (t : Tok) : Conc (.str l) (.str ⟨l.toArray⟩ t)
  | ref (a : Addr) : Conc (.ref a) (.ref a)
  | raw (v : Value) : Conc (.raw v) v

inductive All2 {α β : Type} (R : α → β → Prop) : List α → List β → Prop
  | nil : All2 R [] []
  | cons {a b l m} : R a b → All2 R l m → All2 R (a :: l) (b :: m)

abbrev ConcL := All2 Conc

/-- abstract objects -/
inductive AO where
  | list (xs : List AV)
  | tuple (xs : List AV)
  | dict (es : List (Str × AV))
  | inst (C : Addr) (es : List (Str × AV))
  | meth (f self : Addr)
  | obj (p : Obj → Prop)

abbrev HL := List (Addr × AO)
abbrev Locs := List (Str × AV)

structure St where
  loc : Locs
  heap : HL
  gens : Array GenState

/-- entries of a dict whose keys are texts -/
inductive EntC (P : Params) : List (Str × AV) → List DictEntry → Prop
  | nil : EntC P [] []
  | cons {k v l t x m} : Conc v x → EntC P l m → EntC P ((k, v) :: l) (⟨PyData.keyHash P k, .str k t, x⟩ :: m)

inductive ObjC (P : Params) (a : Addr) : AO → List (Addr × Obj) → Prop
  | list {xs vs n} : ConcL xs vs → ObjC P a (.list xs) [(a, listOf vs.toArray n)]
  | tuple {xs vs} : ConcL xs vs → ObjC P a (.tuple xs) [(a, { cls := .type "tuple", data := .seq vs.toArray })]
  | dict {es ds n} : EntC P es ds → (es.map (·.1)).Nodup → (a == sysModules) = false → ObjC P a (.dict es) [(a, dictOf ds n)]
  | inst {C es ds n d} : EntC P es ds → (es.map (·.1)).Nodup → ObjC P a (.inst C es) [(a, instObj C d), (d, dictOf ds n)]
  | meth {f self} : ObjC P a (.meth f self) [(a, methodObj (.ref f) (.ref self))]
  | obj {p o} : p o → ObjC P a (.obj p) [(a, o)]

inductive HeapC (P : Params) : HL → List (Addr × Obj) → Prop
  | nil : HeapC P [] []
  | cons {a o H c cs} : ObjC P a o c → HeapC P H cs → HeapC P ((a, o) :: H) (c ++ cs)

/-- one activation: base heap, frame, os -/
structure Act where
  h₀ : Heap
  L : Addr
  os : OsState

def LocC (loc : Locs) (m : Str → Option Value) : Prop := (loc.map (·.1)).Nodup ∧ ∀ x av, (x, av) ∈ loc → av = .unb ∨ ∃ v, m x = some v ∧ Conc av v

structure Rep (P : Params) (Γ : Act) (S : St) (s : Shared) : Prop where
  ex : ∃ m cells, Fr Γ.h₀ Γ.L s.heap m ∧ News Γ.h₀ Γ.L s.heap cells ∧ (cells.map (·.1)).Nodup ∧ LocC S.loc m ∧ HeapC P S.heap cells
  gens : s.gens = S.gens
  os : s.os = Γ.os

/-- room on the stacks -/
structure Room (n : Nat) (A : Around) : Prop where
  units : A.units + 40 * n < cLine
  depth : A.depth + n < recursionLimit
  handled : A.handled = none
theorem Room.mono {n m : Nat} {A : Around} (r : Room n A) (h : m ≤ n) : Room m A := ⟨by have := r.units; omega, by have := r.depth; omega, r.handled⟩
theorem Room.in1 {n : Nat} {A : Around} (r : Room (n + 1) A) : Room n A.in1 := ⟨by have := r.units; simp only [Around.in1_units]; omega, by have := r.depth; simp only [Around.in1_depth]; omega, r.handled⟩
theorem Room.deeper {n : Nat} {A : Around} {env : Env} (r : Room (n + 1) A) : Room n (A.deeper env) := ⟨by have := r.units; simp only [Around.deeper_units]; omega, by have := r.depth; show A.depth + 1 + n < _; omega, r.handled⟩
theorem Room.line {n : Nat} {A : Around} (r : Room n A) : A.units < cLine := by have := r.units; omega
theorem Room.deep {n : Nat} {A : Around} (r : Room n A) : A.depth < recursionLimit := by have := r.depth; omega

section
variable (prog : Program) (w : World)

/-- the judgement: from every state that S describes the tree ends, and what comes back is described -/
structure W {α β : Type} (n : Nat) (Γ : Act) (R : β → α → Prop) (t : Sem α) (S : St) (K : β → St → Prop) : Prop where
  run : ∀ A s, Room n A → Rep w.params Γ S s → wpAny (model prog w) A t (fun a s' => ∃ b S', R b a ∧ Rep w.params Γ S' s' ∧ K b S') (fun _ _ => False) s
end

section
variable {prog : Program} {w : World} {α β γ δ : Type} {n : Nat} {Γ : Act} {R : β → α → Prop} {R' : δ → γ → Prop} {S : St}

theorem W.mono {t : Sem α} {K K' : β → St → Prop} (h : W prog w n Γ R t S K) (k : ∀ b S', K b S' → K' b S') : W prog w n Γ R t S K' :=
  .mk fun A s r p => wpAny_mono (h.run A s r p) (fun _ _ ⟨b, S', x, y, z⟩ => ⟨b, S', x, y, k b S' z⟩) fun _ _ e => e
theorem W.pure {a : α} {b : β} {K : β → St → Prop} (hr : R b a) (k : K b S) : W prog w n Γ R (Pure.pure a) S K :=
  .mk fun _ _ _ p => wpAny_pure ⟨b, S, hr, p, k⟩
end
end Mine
end
section
open PySem PySem.W PySem.Calls PyProof.Rows
namespace Mine
/-- a def of the row, by its place in the text -/
noncomputable def nthS : List Stmt → Nat → Stmt
  | s :: _, 0 => s
  | _ :: r, i + 1 => nthS r i
  | [], _ => .Pass ⟨0, 0, 0, 0⟩
noncomputable def topAt (i : Nat) : Stmt := nthS PySem.Challenge.pw_te0036_02.main.body i
noncomputable def bodyIn : Stmt → List Stmt
  | .ClassDef _ _ _ body .. => body
  | _ => []
noncomputable def inAt (i j : Nat) : Stmt := nthS (bodyIn (topAt i)) j
noncomputable def fnO (s : Stmt) (q : Str) (m df cd : Value) : Obj := match s with
  | .FunctionDef name args body _ _ _ scope _ _ _ => { cls := .type "function", data := .func { name := name, qualname := q, params := args, body := .stmts body, scope := scope, globals := 3, closure := [], defaults := df, kwdefaults := .none, doc := .none, pyModule := m, annotations := none, code := cd, closureTuple := .none, builtins := 0 } }
  | _ => { cls := .none, data := .seq #[] }
/-- the written part of the top -/
noncomputable def K2 (P : Params) : Frag := [
  (3, { cls := Value.type "dict", data := Data.dict #[{ hash := PyData.keyHash P (Str.ofString "__name__"), key := Value.str (Str.ofString "__name__") 165, val := Value.str (Str.ofString "law_te0036_02") 1474 }, { hash := PyData.keyHash P (Str.ofString "__doc__"), key := Value.str (Str.ofString "__doc__") 166, val := Value.none }, { hash := PyData.keyHash P (Str.ofString "__package__"), key := Value.str (Str.ofString "__package__") 167, val := Value.none }, { hash := PyData.keyHash P (Str.ofString "__loader__"), key := Value.str (Str.ofString "__loader__") 168, val := Value.builtin "__main__.__loader__#opaque" }, { hash := PyData.keyHash P (Str.ofString "__spec__"), key := Value.str (Str.ofString "__spec__") 169, val := Value.none }, { hash := PyData.keyHash P (Str.ofString "__annotations__"), key := Value.str (Str.ofString "__annotations__") 170, val := Value.ref 6 }, { hash := PyData.keyHash P (Str.ofString "__builtins__"), key := Value.str (Str.ofString "__builtins__") 171, val := Value.ref 4 }, { hash := PyData.keyHash P (Str.ofString "__file__"), key := Value.str (Str.ofString "__file__") 173, val := Value.str (Str.ofString "/claim/cut.py") 172 }, { hash := PyData.keyHash P (Str.ofString "__cached__"), key := Value.str (Str.ofString "__cached__") 174, val := Value.none }, { hash := PyData.keyHash P (Str.ofString "_wall"), key := Value.str (Str.ofString "_wall") 193, val := Value.ref 21 }, { hash := PyData.keyHash P (Str.ofString "EOF"), key := Value.str (Str.ofString "EOF") 196, val := Value.none }, { hash := PyData.keyHash P (Str.ofString "spaceCharacters"), key := Value.str (Str.ofString "spaceCharacters") 202, val := Value.ref 22 }, { hash := PyData.keyHash P (Str.ofString "asciiLetters"), key := Value.str (Str.ofString "asciiLetters") 256, val := Value.ref 27 }, { hash := PyData.keyHash P (Str.ofString "digits"), key := Value.str (Str.ofString "digits") 268, val := Value.ref 32 }, { hash := PyData.keyHash P (Str.ofString "hexDigits"), key := Value.str (Str.ofString "hexDigits") 292, val := Value.ref 37 }, { hash := PyData.keyHash P (Str.ofString "asciiLower"), key := Value.str (Str.ofString "asciiLower") 298, val := Value.ref 42 }, { hash := PyData.keyHash P (Str.ofString "entities"), key := Value.str (Str.ofString "entities") 428, val := Value.ref 43 }, { hash := PyData.keyHash P (Str.ofString "replacementCharacters"), key := Value.str (Str.ofString "replacementCharacters") 531, val := Value.ref 46 }, { hash := PyData.keyHash P (Str.ofString "tokenTypes"), key := Value.str (Str.ofString "tokenTypes") 556, val := Value.ref 48 }, { hash := PyData.keyHash P (Str.ofString "tagTokenTypes"), key := Value.str (Str.ofString "tagTokenTypes") 563, val := Value.ref 49 }, { hash := PyData.keyHash P (Str.ofString "Text"), key := Value.str (Str.ofString "Text") 604, val := Value.ref 73 }, { hash := PyData.keyHash P (Str.ofString "_is_invalid"), key := Value.str (Str.ofString "_is_invalid") 611, val := Value.ref 84 }, { hash := PyData.keyHash P (Str.ofString "HTMLUnicodeInputStream"), key := Value.str (Str.ofString "HTMLUnicodeInputStream") 737, val := Value.ref 166 }, { hash := PyData.keyHash P (Str.ofString "bisect_left"), key := Value.str (Str.ofString "bisect_left") 751, val := Value.ref 178 }, { hash := PyData.keyHash P (Str.ofString "Trie"), key := Value.str (Str.ofString "Trie") 826, val := Value.ref 230 }, { hash := PyData.keyHash P (Str.ofString "entitiesTrie"), key := Value.str (Str.ofString "entitiesTrie") 843, val := Value.ref 236 }, { hash := PyData.keyHash P (Str.ofString "HTMLTokenizer"), key := Value.str (Str.ofString "HTMLTokenizer") 1473, val := Value.ref 762 }, { hash := PyData.keyHash P (Str.ofString "_law_NAMES"), key := Value.str (Str.ofString "_law_NAMES") 1481, val := Value.ref 773 }, { hash := PyData.keyHash P (Str.ofString "_law_SIGNS"), key := Value.str (Str.ofString "_law_SIGNS") 1483, val := Value.str (Str.ofString "&;#xX019AaFfZzn!$%()*+,.:?\x40[]^_{|}~\\`2345678BCDEGHIJKLMNOPQRSTUVWYbcdeghijklmopqrstuvwy") 1482 }, { hash := PyData.keyHash P (Str.ofString "_law_MORE"), key := Value.str (Str.ofString "_law_MORE") 1489, val := Value.ref 780 }, { hash := PyData.keyHash P (Str.ofString "_law_piece"), key := Value.str (Str.ofString "_law_piece") 1498, val := Value.ref 787 }, { hash := PyData.keyHash P (Str.ofString "_law_small"), key := Value.str (Str.ofString "_law_small") 1504, val := Value.ref 792 }, { hash := PyData.keyHash P (Str.ofString "_law_row"), key := Value.str (Str.ofString "_law_row") 1510, val := Value.ref 797 }, { hash := PyData.keyHash P (Str.ofString "law"), key := Value.str (Str.ofString "law") 1516, val := Value.ref 802 }] 34 }),
  (22, { cls := Value.type "tuple", data := Data.seq #[Value.str (Str.ofString "\t") 197, Value.str (Str.ofString "\n") 198, Value.str (Str.ofString "\x0c") 199, Value.str (Str.ofString " ") 200, Value.str (Str.ofString "\x0d") 201] }),
  (27, { cls := Value.type "tuple", data := Data.seq #[Value.str (Str.ofString "a") 204, Value.str (Str.ofString "b") 205, Value.str (Str.ofString "c") 206, Value.str (Str.ofString "d") 207, Value.str (Str.ofString "e") 208, Value.str (Str.ofString "f") 209, Value.str (Str.ofString "g") 210, Value.str (Str.ofString "h") 211, Value.str (Str.ofString "i") 212, Value.str (Str.ofString "j") 213, Value.str (Str.ofString "k") 214, Value.str (Str.ofString "l") 215, Value.str (Str.ofString "m") 216, Value.str (Str.ofString "n") 217, Value.str (Str.ofString "o") 218, Value.str (Str.ofString "p") 219, Value.str (Str.ofString "q") 220, Value.str (Str.ofString "r") 221, Value.str (Str.ofString "s") 222, Value.str (Str.ofString "t") 223, Value.str (Str.ofString "u") 224, Value.str (Str.ofString "v") 225, Value.str (Str.ofString "w") 226, Value.str (Str.ofString "x") 227, Value.str (Str.ofString "y") 228, Value.str (Str.ofString "z") 229, Value.str (Str.ofString "A") 230, Value.str (Str.ofString "B") 231, Value.str (Str.ofString "C") 232, Value.str (Str.ofString "D") 233, Value.str (Str.ofString "E") 234, Value.str (Str.ofString "F") 235, Value.str (Str.ofString "G") 236, Value.str (Str.ofString "H") 237, Value.str (Str.ofString "I") 238, Value.str (Str.ofString "J") 239, Value.str (Str.ofString "K") 240, Value.str (Str.ofString "L") 241, Value.str (Str.ofString "M") 242, Value.str (Str.ofString "N") 243, Value.str (Str.ofString "O") 244, Value.str (Str.ofString "P") 245, Value.str (Str.ofString "Q") 246, Value.str (Str.ofString "R") 247, Value.str (Str.ofString "S") 248, Value.str (Str.ofString "T") 249, Value.str (Str.ofString "U") 250, Value.str (Str.ofString "V") 251, Value.str (Str.ofString "W") 252, Value.str (Str.ofString "X") 253, Value.str (Str.ofString "Y") 254, Value.str (Str.ofString "Z") 255] }),
  (41, { cls := Value.type "code", data := Data.fields #[Value.str (Str.ofString "asciiLower") 293, Value.str (Str.ofString "asciiLower") 294, Value.str (Str.ofString "/claim/cut.py") 295, Value.int 10 0, Value.int 1 0, Value.int 0 0, Value.int 0 0, Value.int 3 0, Value.ref 38, Value.bool true, Value.int 181 0, Value.ref 39, Value.none, Value.none, Value.none, Value.ref 40, Value.int 296 0, Value.int 10 0, Value.str (Str.ofString "/claim/cut.py") 297] }),
  (42, fnO (topAt 7) (Str.ofString "asciiLower") (Value.str (Str.ofString "html5lib.constants") 194) (Value.none) (Value.ref 41)),
  (48, { cls := Value.type "dict", data := Data.dict #[{ hash := PyData.keyHash P (Str.ofString "Doctype"), key := Value.str (Str.ofString "Doctype") 532, val := Value.int 0 533 }, { hash := PyData.keyHash P (Str.ofString "Characters"), key := Value.str (Str.ofString "Characters") 534, val := Value.int 1 535 }, { hash := PyData.keyHash P (Str.ofString "SpaceCharacters"), key := Value.str (Str.ofString "SpaceCharacters") 536, val := Value.int 2 537 }, { hash := PyData.keyHash P (Str.ofString "StartTag"), key := Value.str (Str.ofString "StartTag") 538, val := Value.int 3 539 }, { hash := PyData.keyHash P (Str.ofString "EndTag"), key := Value.str (Str.ofString "EndTag") 540, val := Value.int 4 541 }, { hash := PyData.keyHash P (Str.ofString "EmptyTag"), key := Value.str (Str.ofString "EmptyTag") 542, val := Value.int 5 543 }, { hash := PyData.keyHash P (Str.ofString "Comment"), key := Value.str (Str.ofString "Comment") 544, val := Value.int 6 545 }, { hash := PyData.keyHash P (Str.ofString "ParseError"), key := Value.str (Str.ofString "ParseError") 546, val := Value.int 7 547 }] 8 }),
  (49, { cls := Value.type "tuple", data := Data.seq #[Value.int 3 539, Value.int 4 541, Value.int 5 543] }),
  (62, { cls := Value.type "code", data := Data.fields #[Value.str (Str.ofString "__init__") 578, Value.str (Str.ofString "Text.__init__") 579, Value.str (Str.ofString "/claim/cut.py") 580, Value.int 19 0, Value.int 2 0, Value.int 0 0, Value.int 0 0, Value.int 3 0, Value.ref 57, Value.bool true, Value.int 181 0, Value.ref 58, Value.none, Value.ref 59, Value.ref 60, Value.ref 61, Value.int 583 0, Value.int 19 0, Value.str (Str.ofString "/claim/cut.py") 584] }),
  (63, fnO (inAt 13 0) (Str.ofString "Text.__init__") (Value.str (Str.ofString "html5lib._inputstream") 564) (Value.none) (Value.ref 62)),
  (69, { cls := Value.type "code", data := Data.fields #[Value.str (Str.ofString "read") 586, Value.str (Str.ofString "Text.read") 587, Value.str (Str.ofString "/claim/cut.py") 588, Value.int 23 0, Value.int 2 0, Value.int 0 0, Value.int 0 0, Value.int 3 0, Value.ref 64, Value.bool true, Value.int 181 0, Value.ref 65, Value.none, Value.ref 66, Value.ref 67, Value.ref 68, Value.int 592 0, Value.int 23 0, Value.str (Str.ofString "/claim/cut.py") 593] }),
  (70, fnO (inAt 13 1) (Str.ofString "Text.read") (Value.str (Str.ofString "html5lib._inputstream") 564) (Value.none) (Value.ref 69)),
  (72, { cls := Value.type "dict", data := Data.dict #[{ hash := PyData.keyHash P (Str.ofString "__module__"), key := Value.str (Str.ofString "__module__") 573, val := Value.str (Str.ofString "html5lib._inputstream") 564 }, { hash := PyData.keyHash P (Str.ofString "__firstlineno__"), key := Value.str (Str.ofString "__firstlineno__") 577, val := Value.int 17 576 }, { hash := PyData.keyHash P (Str.ofString "__init__"), key := Value.str (Str.ofString "__init__") 585, val := Value.ref 63 }, { hash := PyData.keyHash P (Str.ofString "read"), key := Value.str (Str.ofString "read") 594, val := Value.ref 70 }, { hash := PyData.keyHash P (Str.ofString "__static_attributes__"), key := Value.str (Str.ofString "__static_attributes__") 597, val := Value.ref 71 }, { hash := PyData.keyHash P (Str.ofString "__dict__"), key := Value.str (Str.ofString "__dict__") 599, val := Value.ref 74 }, { hash := PyData.keyHash P (Str.ofString "__weakref__"), key := Value.str (Str.ofString "__weakref__") 601, val := Value.ref 75 }, { hash := PyData.keyHash P (Str.ofString "__doc__"), key := Value.str (Str.ofString "__doc__") 602, val := Value.none }] 4 }),
  (73, { cls := Value.type "type", data := Data.cls { name := Str.ofString "Text", bases := [Value.type "object"], mro := [Value.ref 73, Value.type "object"], ns := 72, qualname := Str.ofString "Text" }, slots := #[some (Value.ref 50), none, some (Value.str (Str.ofString "Text") 566), some (Value.str (Str.ofString "Text") 574), some (Value.builtin "object.__new__"), some (Value.bool true)] }),
  (83, { cls := Value.type "code", data := Data.fields #[Value.str (Str.ofString "_is_invalid") 605, Value.str (Str.ofString "_is_invalid") 606, Value.str (Str.ofString "/claim/cut.py") 607, Value.int 27 0, Value.int 1 0, Value.int 0 0, Value.int 0 0, Value.int 3 0, Value.ref 78, Value.bool true, Value.int 181 0, Value.ref 79, Value.none, Value.ref 80, Value.ref 81, Value.ref 82, Value.int 609 0, Value.int 27 0, Value.str (Str.ofString "/claim/cut.py") 610] }),
  (84, fnO (topAt 14) (Str.ofString "_is_invalid") (Value.str (Str.ofString "html5lib._inputstream") 564) (Value.none) (Value.ref 83)),
  (97, { cls := Value.type "code", data := Data.fields #[Value.str (Str.ofString "__init__") 626, Value.str (Str.ofString "HTMLUnicodeInputStream.__init__") 627, Value.str (Str.ofString "/claim/cut.py") 628, Value.int 32 0, Value.int 2 0, Value.int 0 0, Value.int 0 0, Value.int 3 0, Value.ref 92, Value.bool true, Value.int 181 0, Value.ref 93, Value.none, Value.ref 94, Value.ref 95, Value.ref 96, Value.int 631 0, Value.int 32 0, Value.str (Str.ofString "/claim/cut.py") 632] }),
  (98, fnO (inAt 15 1) (Str.ofString "HTMLUnicodeInputStream.__init__") (Value.str (Str.ofString "html5lib._inputstream") 564) (Value.none) (Value.ref 97)),
  (104, { cls := Value.type "code", data := Data.fields #[Value.str (Str.ofString "reset") 634, Value.str (Str.ofString "HTMLUnicodeInputStream.reset") 635, Value.str (Str.ofString "/claim/cut.py") 636, Value.int 38 0, Value.int 1 0, Value.int 0 0, Value.int 0 0, Value.int 3 0, Value.ref 99, Value.bool true, Value.int 181 0, Value.ref 100, Value.none, Value.ref 101, Value.ref 102, Value.ref 103, Value.int 638 0, Value.int 38 0, Value.str (Str.ofString "/claim/cut.py") 639] }),
  (105, fnO (inAt 15 2) (Str.ofString "HTMLUnicodeInputStream.reset") (Value.str (Str.ofString "html5lib._inputstream") 564) (Value.none) (Value.ref 104)),
  (111, { cls := Value.type "code", data := Data.fields #[Value.str (Str.ofString "openStream") 641, Value.str (Str.ofString "HTMLUnicodeInputStream.openStream") 642, Value.str (Str.ofString "/claim/cut.py") 643, Value.int 47 0, Value.int 2 0, Value.int 0 0, Value.int 0 0, Value.int 3 0, Value.ref 106, Value.bool true, Value.int 181 0, Value.ref 107, Value.none, Value.ref 108, Value.ref 109, Value.ref 110, Value.int 647 0, Value.int 47 0, Value.str (Str.ofString "/claim/cut.py") 648] }),
  (112, fnO (inAt 15 3) (Str.ofString "HTMLUnicodeInputStream.openStream") (Value.str (Str.ofString "html5lib._inputstream") 564) (Value.none) (Value.ref 111)),
  (118, { cls := Value.type "code", data := Data.fields #[Value.str (Str.ofString "_position") 650, Value.str (Str.ofString "HTMLUnicodeInputStream._position") 651, Value.str (Str.ofString "/claim/cut.py") 652, Value.int 51 0, Value.int 2 0, Value.int 0 0, Value.int 0 0, Value.int 3 0, Value.ref 113, Value.bool true, Value.int 181 0, Value.ref 114, Value.none, Value.ref 115, Value.ref 116, Value.ref 117, Value.int 660 0, Value.int 51 0, Value.str (Str.ofString "/claim/cut.py") 661] }),
  (119, fnO (inAt 15 4) (Str.ofString "HTMLUnicodeInputStream._position") (Value.str (Str.ofString "html5lib._inputstream") 564) (Value.none) (Value.ref 118)),
  (125, { cls := Value.type "code", data := Data.fields #[Value.str (Str.ofString "position") 663, Value.str (Str.ofString "HTMLUnicodeInputStream.position") 664, Value.str (Str.ofString "/claim/cut.py") 665, Value.int 62 0, Value.int 1 0, Value.int 0 0, Value.int 0 0, Value.int 3 0, Value.ref 120, Value.bool true, Value.int 181 0, Value.ref 121, Value.none, Value.ref 122, Value.ref 123, Value.ref 124, Value.int 669 0, Value.int 62 0, Value.str (Str.ofString "/claim/cut.py") 670] }),
  (126, fnO (inAt 15 5) (Str.ofString "HTMLUnicodeInputStream.position") (Value.str (Str.ofString "html5lib._inputstream") 564) (Value.none) (Value.ref 125)),
  (132, { cls := Value.type "code", data := Data.fields #[Value.str (Str.ofString "char") 672, Value.str (Str.ofString "HTMLUnicodeInputStream.char") 673, Value.str (Str.ofString "/claim/cut.py") 674, Value.int 66 0, Value.int 1 0, Value.int 0 0, Value.int 0 0, Value.int 3 0, Value.ref 127, Value.bool true, Value.int 181 0, Value.ref 128, Value.none, Value.ref 129, Value.ref 130, Value.ref 131, Value.int 678 0, Value.int 66 0, Value.str (Str.ofString "/claim/cut.py") 679] }),
  (133, fnO (inAt 15 6) (Str.ofString "HTMLUnicodeInputStream.char") (Value.str (Str.ofString "html5lib._inputstream") 564) (Value.none) (Value.ref 132)),
  (134, { cls := Value.type "tuple", data := Data.seq #[Value.none] }),
  (140, { cls := Value.type "code", data := Data.fields #[Value.str (Str.ofString "readChunk") 681, Value.str (Str.ofString "HTMLUnicodeInputStream.readChunk") 682, Value.str (Str.ofString "/claim/cut.py") 683, Value.int 75 0, Value.int 2 0, Value.int 0 0, Value.int 0 0, Value.int 3 0, Value.ref 135, Value.bool true, Value.int 181 0, Value.ref 136, Value.none, Value.ref 137, Value.ref 138, Value.ref 139, Value.int 688 0, Value.int 75 0, Value.str (Str.ofString "/claim/cut.py") 689] }),
  (141, fnO (inAt 15 7) (Str.ofString "HTMLUnicodeInputStream.readChunk") (Value.str (Str.ofString "html5lib._inputstream") 564) (Value.ref 134) (Value.ref 140)),
  (147, { cls := Value.type "code", data := Data.fields #[Value.str (Str.ofString "characterErrorsUCS4") 691, Value.str (Str.ofString "HTMLUnicodeInputStream.characterErrorsUCS4") 692, Value.str (Str.ofString "/claim/cut.py") 693, Value.int 101 0, Value.int 2 0, Value.int 0 0, Value.int 0 0, Value.int 3 0, Value.ref 142, Value.bool true, Value.int 181 0, Value.ref 143, Value.none, Value.ref 144, Value.ref 145, Value.ref 146, Value.int 697 0, Value.int 101 0, Value.str (Str.ofString "/claim/cut.py") 698] }),
  (148, fnO (inAt 15 8) (Str.ofString "HTMLUnicodeInputStream.characterErrorsUCS4") (Value.str (Str.ofString "html5lib._inputstream") 564) (Value.none) (Value.ref 147)),
  (149, { cls := Value.type "tuple", data := Data.seq #[Value.bool false] }),
  (155, { cls := Value.type "code", data := Data.fields #[Value.str (Str.ofString "charsUntil") 700, Value.str (Str.ofString "HTMLUnicodeInputStream.charsUntil") 701, Value.str (Str.ofString "/claim/cut.py") 702, Value.int 106 0, Value.int 3 0, Value.int 0 0, Value.int 0 0, Value.int 3 0, Value.ref 150, Value.bool true, Value.int 181 0, Value.ref 151, Value.none, Value.ref 152, Value.ref 153, Value.ref 154, Value.int 709 0, Value.int 106 0, Value.str (Str.ofString "/claim/cut.py") 710] }),
  (156, fnO (inAt 15 9) (Str.ofString "HTMLUnicodeInputStream.charsUntil") (Value.str (Str.ofString "html5lib._inputstream") 564) (Value.ref 149) (Value.ref 155)),
  (162, { cls := Value.type "code", data := Data.fields #[Value.str (Str.ofString "unget") 712, Value.str (Str.ofString "HTMLUnicodeInputStream.unget") 713, Value.str (Str.ofString "/claim/cut.py") 714, Value.int 125 0, Value.int 2 0, Value.int 0 0, Value.int 0 0, Value.int 3 0, Value.ref 157, Value.bool true, Value.int 181 0, Value.ref 158, Value.none, Value.ref 159, Value.ref 160, Value.ref 161, Value.int 717 0, Value.int 125 0, Value.str (Str.ofString "/claim/cut.py") 718] }),
  (163, fnO (inAt 15 10) (Str.ofString "HTMLUnicodeInputStream.unget") (Value.str (Str.ofString "html5lib._inputstream") 564) (Value.none) (Value.ref 162)),
  (165, { cls := Value.type "dict", data := Data.dict #[{ hash := PyData.keyHash P (Str.ofString "__module__"), key := Value.str (Str.ofString "__module__") 619, val := Value.str (Str.ofString "html5lib._inputstream") 564 }, { hash := PyData.keyHash P (Str.ofString "__firstlineno__"), key := Value.str (Str.ofString "__firstlineno__") 623, val := Value.int 29 622 }, { hash := PyData.keyHash P (Str.ofString "_defaultChunkSize"), key := Value.str (Str.ofString "_defaultChunkSize") 625, val := Value.int 10240 624 }, { hash := PyData.keyHash P (Str.ofString "__init__"), key := Value.str (Str.ofString "__init__") 633, val := Value.ref 98 }, { hash := PyData.keyHash P (Str.ofString "reset"), key := Value.str (Str.ofString "reset") 640, val := Value.ref 105 }, { hash := PyData.keyHash P (Str.ofString "openStream"), key := Value.str (Str.ofString "openStream") 649, val := Value.ref 112 }, { hash := PyData.keyHash P (Str.ofString "_position"), key := Value.str (Str.ofString "_position") 662, val := Value.ref 119 }, { hash := PyData.keyHash P (Str.ofString "position"), key := Value.str (Str.ofString "position") 671, val := Value.ref 126 }, { hash := PyData.keyHash P (Str.ofString "char"), key := Value.str (Str.ofString "char") 680, val := Value.ref 133 }, { hash := PyData.keyHash P (Str.ofString "readChunk"), key := Value.str (Str.ofString "readChunk") 690, val := Value.ref 141 }, { hash := PyData.keyHash P (Str.ofString "characterErrorsUCS4"), key := Value.str (Str.ofString "characterErrorsUCS4") 699, val := Value.ref 148 }, { hash := PyData.keyHash P (Str.ofString "charsUntil"), key := Value.str (Str.ofString "charsUntil") 711, val := Value.ref 156 }, { hash := PyData.keyHash P (Str.ofString "unget"), key := Value.str (Str.ofString "unget") 719, val := Value.ref 163 }, { hash := PyData.keyHash P (Str.ofString "__static_attributes__"), key := Value.str (Str.ofString "__static_attributes__") 730, val := Value.ref 164 }, { hash := PyData.keyHash P (Str.ofString "__dict__"), key := Value.str (Str.ofString "__dict__") 732, val := Value.ref 167 }, { hash := PyData.keyHash P (Str.ofString "__weakref__"), key := Value.str (Str.ofString "__weakref__") 734, val := Value.ref 168 }, { hash := PyData.keyHash P (Str.ofString "__doc__"), key := Value.str (Str.ofString "__doc__") 735, val := Value.none }] 4 }),
  (166, { cls := Value.type "type", data := Data.cls { name := Str.ofString "HTMLUnicodeInputStream", bases := [Value.type "object"], mro := [Value.ref 166, Value.type "object"], ns := 165, qualname := Str.ofString "HTMLUnicodeInputStream" }, slots := #[some (Value.ref 85), none, some (Value.str (Str.ofString "HTMLUnicodeInputStream") 612), some (Value.str (Str.ofString "HTMLUnicodeInputStream") 620), some (Value.builtin "object.__new__"), some (Value.bool true)] }),
  (254, { cls := Value.type "tuple", data := Data.seq #[Value.none] }),
  (260, { cls := Value.type "code", data := Data.fields #[Value.str (Str.ofString "__init__") 856, Value.str (Str.ofString "HTMLTokenizer.__init__") 857, Value.str (Str.ofString "/claim/cut.py") 858, Value.int 184 0, Value.int 3 0, Value.int 0 0, Value.int 0 0, Value.int 3 0, Value.ref 255, Value.bool true, Value.int 181 0, Value.ref 256, Value.none, Value.ref 257, Value.ref 258, Value.ref 259, Value.int 862 0, Value.int 184 0, Value.str (Str.ofString "/claim/cut.py") 863] }),
  (261, fnO (inAt 21 0) (Str.ofString "HTMLTokenizer.__init__") (Value.str (Str.ofString "html5lib._tokenizer") 827) (Value.ref 254) (Value.ref 260)),
  (267, { cls := Value.type "code", data := Data.fields #[Value.str (Str.ofString "__iter__") 865, Value.str (Str.ofString "HTMLTokenizer.__iter__") 866, Value.str (Str.ofString "/claim/cut.py") 867, Value.int 193 0, Value.int 1 0, Value.int 0 0, Value.int 0 0, Value.int 35 0, Value.ref 262, Value.bool true, Value.int 181 0, Value.ref 263, Value.none, Value.ref 264, Value.ref 265, Value.ref 266, Value.int 869 0, Value.int 193 0, Value.str (Str.ofString "/claim/cut.py") 870] }),
  (268, fnO (inAt 21 1) (Str.ofString "HTMLTokenizer.__iter__") (Value.str (Str.ofString "html5lib._tokenizer") 827) (Value.none) (Value.ref 267)),
  (296, { cls := Value.type "code", data := Data.fields #[Value.str (Str.ofString "emitCurrentToken") 910, Value.str (Str.ofString "HTMLTokenizer.emitCurrentToken") 911, Value.str (Str.ofString "/claim/cut.py") 912, Value.int 286 0, Value.int 1 0, Value.int 0 0, Value.int 0 0, Value.int 3 0, Value.ref 291, Value.bool true, Value.int 181 0, Value.ref 292, Value.none, Value.ref 293, Value.ref 294, Value.ref 295, Value.int 917 0, Value.int 286 0, Value.str (Str.ofString "/claim/cut.py") 918] }),
  (297, fnO (inAt 21 5) (Str.ofString "HTMLTokenizer.emitCurrentToken") (Value.str (Str.ofString "html5lib._tokenizer") 827) (Value.none) (Value.ref 296)),
  (303, { cls := Value.type "code", data := Data.fields #[Value.str (Str.ofString "dataState") 920, Value.str (Str.ofString "HTMLTokenizer.dataState") 921, Value.str (Str.ofString "/claim/cut.py") 922, Value.int 304 0, Value.int 1 0, Value.int 0 0, Value.int 0 0, Value.int 3 0, Value.ref 298, Value.bool true, Value.int 181 0, Value.ref 299, Value.none, Value.ref 300, Value.ref 301, Value.ref 302, Value.int 926 0, Value.int 304 0, Value.str (Str.ofString "/claim/cut.py") 927] }),
  (304, fnO (inAt 21 6) (Str.ofString "HTMLTokenizer.dataState") (Value.str (Str.ofString "html5lib._tokenizer") 827) (Value.none) (Value.ref 303)),
  (331, { cls := Value.type "code", data := Data.fields #[Value.str (Str.ofString "rawtextState") 950, Value.str (Str.ofString "HTMLTokenizer.rawtextState") 951, Value.str (Str.ofString "/claim/cut.py") 952, Value.int 333 0, Value.int 1 0, Value.int 0 0, Value.int 0 0, Value.int 3 0, Value.ref 326, Value.bool true, Value.int 181 0, Value.ref 327, Value.none, Value.ref 328, Value.ref 329, Value.ref 330, Value.int 956 0, Value.int 333 0, Value.str (Str.ofString "/claim/cut.py") 957] }),
  (332, fnO (inAt 21 10) (Str.ofString "HTMLTokenizer.rawtextState") (Value.str (Str.ofString "html5lib._tokenizer") 827) (Value.none) (Value.ref 331)),
  (338, { cls := Value.type "code", data := Data.fields #[Value.str (Str.ofString "scriptDataState") 959, Value.str (Str.ofString "HTMLTokenizer.scriptDataState") 960, Value.str (Str.ofString "/claim/cut.py") 961, Value.int 347 0, Value.int 1 0, Value.int 0 0, Value.int 0 0, Value.int 3 0, Value.ref 333, Value.bool true, Value.int 181 0, Value.ref 334, Value.none, Value.ref 335, Value.ref 336, Value.ref 337, Value.int 965 0, Value.int 347 0, Value.str (Str.ofString "/claim/cut.py") 966] }),
  (339, fnO (inAt 21 11) (Str.ofString "HTMLTokenizer.scriptDataState") (Value.str (Str.ofString "html5lib._tokenizer") 827) (Value.none) (Value.ref 338)),
  (345, { cls := Value.type "code", data := Data.fields #[Value.str (Str.ofString "plaintextState") 968, Value.str (Str.ofString "HTMLTokenizer.plaintextState") 969, Value.str (Str.ofString "/claim/cut.py") 970, Value.int 361 0, Value.int 1 0, Value.int 0 0, Value.int 0 0, Value.int 3 0, Value.ref 340, Value.bool true, Value.int 181 0, Value.ref 341, Value.none, Value.ref 342, Value.ref 343, Value.ref 344, Value.int 973 0, Value.int 361 0, Value.str (Str.ofString "/claim/cut.py") 974] }),
  (346, fnO (inAt 21 12) (Str.ofString "HTMLTokenizer.plaintextState") (Value.str (Str.ofString "html5lib._tokenizer") 827) (Value.none) (Value.ref 345)),
  (352, { cls := Value.type "code", data := Data.fields #[Value.str (Str.ofString "tagOpenState") 976, Value.str (Str.ofString "HTMLTokenizer.tagOpenState") 977, Value.str (Str.ofString "/claim/cut.py") 978, Value.int 372 0, Value.int 1 0, Value.int 0 0, Value.int 0 0, Value.int 3 0, Value.ref 347, Value.bool true, Value.int 181 0, Value.ref 348, Value.none, Value.ref 349, Value.ref 350, Value.ref 351, Value.int 981 0, Value.int 372 0, Value.str (Str.ofString "/claim/cut.py") 982] }),
  (353, fnO (inAt 21 13) (Str.ofString "HTMLTokenizer.tagOpenState") (Value.str (Str.ofString "html5lib._tokenizer") 827) (Value.none) (Value.ref 352)),
  (366, { cls := Value.type "code", data := Data.fields #[Value.str (Str.ofString "tagNameState") 992, Value.str (Str.ofString "HTMLTokenizer.tagNameState") 993, Value.str (Str.ofString "/claim/cut.py") 994, Value.int 414 0, Value.int 1 0, Value.int 0 0, Value.int 0 0, Value.int 3 0, Value.ref 361, Value.bool true, Value.int 181 0, Value.ref 362, Value.none, Value.ref 363, Value.ref 364, Value.ref 365, Value.int 997 0, Value.int 414 0, Value.str (Str.ofString "/claim/cut.py") 998] }),
  (367, fnO (inAt 21 15) (Str.ofString "HTMLTokenizer.tagNameState") (Value.str (Str.ofString "html5lib._tokenizer") 827) (Value.none) (Value.ref 366)),
  (534, { cls := Value.type "code", data := Data.fields #[Value.str (Str.ofString "beforeAttributeNameState") 1185, Value.str (Str.ofString "HTMLTokenizer.beforeAttributeNameState") 1186, Value.str (Str.ofString "/claim/cut.py") 1187, Value.int 755 0, Value.int 1 0, Value.int 0 0, Value.int 0 0, Value.int 3 0, Value.ref 529, Value.bool true, Value.int 181 0, Value.ref 530, Value.none, Value.ref 531, Value.ref 532, Value.ref 533, Value.int 1190 0, Value.int 755 0, Value.str (Str.ofString "/claim/cut.py") 1191] }),
  (535, fnO (inAt 21 39) (Str.ofString "HTMLTokenizer.beforeAttributeNameState") (Value.str (Str.ofString "html5lib._tokenizer") 827) (Value.none) (Value.ref 534)),
  (541, { cls := Value.type "code", data := Data.fields #[Value.str (Str.ofString "attributeNameState") 1193, Value.str (Str.ofString "HTMLTokenizer.attributeNameState") 1194, Value.str (Str.ofString "/claim/cut.py") 1195, Value.int 782 0, Value.int 1 0, Value.int 0 0, Value.int 0 0, Value.int 3 0, Value.ref 536, Value.bool true, Value.int 181 0, Value.ref 537, Value.none, Value.ref 538, Value.ref 539, Value.ref 540, Value.int 1202 0, Value.int 782 0, Value.str (Str.ofString "/claim/cut.py") 1203] }),
  (542, fnO (inAt 21 40) (Str.ofString "HTMLTokenizer.attributeNameState") (Value.str (Str.ofString "html5lib._tokenizer") 827) (Value.none) (Value.ref 541)),
  (597, { cls := Value.type "code", data := Data.fields #[Value.str (Str.ofString "bogusCommentState") 1261, Value.str (Str.ofString "HTMLTokenizer.bogusCommentState") 1262, Value.str (Str.ofString "/claim/cut.py") 1263, Value.int 966 0, Value.int 1 0, Value.int 0 0, Value.int 0 0, Value.int 3 0, Value.ref 592, Value.bool true, Value.int 181 0, Value.ref 593, Value.none, Value.ref 594, Value.ref 595, Value.ref 596, Value.int 1266 0, Value.int 966 0, Value.str (Str.ofString "/claim/cut.py") 1267] }),
  (598, fnO (inAt 21 48) (Str.ofString "HTMLTokenizer.bogusCommentState") (Value.str (Str.ofString "html5lib._tokenizer") 827) (Value.none) (Value.ref 597)),
  (604, { cls := Value.type "code", data := Data.fields #[Value.str (Str.ofString "markupDeclarationOpenState") 1269, Value.str (Str.ofString "HTMLTokenizer.markupDeclarationOpenState") 1270, Value.str (Str.ofString "/claim/cut.py") 1271, Value.int 974 0, Value.int 1 0, Value.int 0 0, Value.int 0 0, Value.int 3 0, Value.ref 599, Value.bool true, Value.int 181 0, Value.ref 600, Value.none, Value.ref 601, Value.ref 602, Value.ref 603, Value.int 1276 0, Value.int 974 0, Value.str (Str.ofString "/claim/cut.py") 1277] }),
  (605, fnO (inAt 21 49) (Str.ofString "HTMLTokenizer.markupDeclarationOpenState") (Value.str (Str.ofString "html5lib._tokenizer") 827) (Value.none) (Value.ref 604)),
  (611, { cls := Value.type "code", data := Data.fields #[Value.str (Str.ofString "commentStartState") 1279, Value.str (Str.ofString "HTMLTokenizer.commentStartState") 1280, Value.str (Str.ofString "/claim/cut.py") 1281, Value.int 999 0, Value.int 1 0, Value.int 0 0, Value.int 0 0, Value.int 3 0, Value.ref 606, Value.bool true, Value.int 181 0, Value.ref 607, Value.none, Value.ref 608, Value.ref 609, Value.ref 610, Value.int 1284 0, Value.int 999 0, Value.str (Str.ofString "/claim/cut.py") 1285] }),
  (612, fnO (inAt 21 50) (Str.ofString "HTMLTokenizer.commentStartState") (Value.str (Str.ofString "html5lib._tokenizer") 827) (Value.none) (Value.ref 611)),
  (625, { cls := Value.type "code", data := Data.fields #[Value.str (Str.ofString "commentState") 1295, Value.str (Str.ofString "HTMLTokenizer.commentState") 1296, Value.str (Str.ofString "/claim/cut.py") 1297, Value.int 1039 0, Value.int 1 0, Value.int 0 0, Value.int 0 0, Value.int 3 0, Value.ref 620, Value.bool true, Value.int 181 0, Value.ref 621, Value.none, Value.ref 622, Value.ref 623, Value.ref 624, Value.int 1300 0, Value.int 1039 0, Value.str (Str.ofString "/claim/cut.py") 1301] }),
  (626, fnO (inAt 21 52) (Str.ofString "HTMLTokenizer.commentState") (Value.str (Str.ofString "html5lib._tokenizer") 827) (Value.none) (Value.ref 625)),
  (632, { cls := Value.type "code", data := Data.fields #[Value.str (Str.ofString "commentEndDashState") 1303, Value.str (Str.ofString "HTMLTokenizer.commentEndDashState") 1304, Value.str (Str.ofString "/claim/cut.py") 1305, Value.int 1054 0, Value.int 1 0, Value.int 0 0, Value.int 0 0, Value.int 3 0, Value.ref 627, Value.bool true, Value.int 181 0, Value.ref 628, Value.none, Value.ref 629, Value.ref 630, Value.ref 631, Value.int 1308 0, Value.int 1054 0, Value.str (Str.ofString "/claim/cut.py") 1309] }),
  (633, fnO (inAt 21 53) (Str.ofString "HTMLTokenizer.commentEndDashState") (Value.str (Str.ofString "html5lib._tokenizer") 827) (Value.none) (Value.ref 632)),
  (639, { cls := Value.type "code", data := Data.fields #[Value.str (Str.ofString "commentEndState") 1311, Value.str (Str.ofString "HTMLTokenizer.commentEndState") 1312, Value.str (Str.ofString "/claim/cut.py") 1313, Value.int 1071 0, Value.int 1 0, Value.int 0 0, Value.int 0 0, Value.int 3 0, Value.ref 634, Value.bool true, Value.int 181 0, Value.ref 635, Value.none, Value.ref 636, Value.ref 637, Value.ref 638, Value.int 1316 0, Value.int 1071 0, Value.str (Str.ofString "/claim/cut.py") 1317] }),
  (640, fnO (inAt 21 54) (Str.ofString "HTMLTokenizer.commentEndState") (Value.str (Str.ofString "html5lib._tokenizer") 827) (Value.none) (Value.ref 639)),
  (761, { cls := Value.type "dict", data := Data.dict #[{ hash := PyData.keyHash P (Str.ofString "__module__"), key := Value.str (Str.ofString "__module__") 851, val := Value.str (Str.ofString "html5lib._tokenizer") 827 }, { hash := PyData.keyHash P (Str.ofString "__firstlineno__"), key := Value.str (Str.ofString "__firstlineno__") 855, val := Value.int 182 854 }, { hash := PyData.keyHash P (Str.ofString "__init__"), key := Value.str (Str.ofString "__init__") 864, val := Value.ref 261 }, { hash := PyData.keyHash P (Str.ofString "__iter__"), key := Value.str (Str.ofString "__iter__") 871, val := Value.ref 268 }, { hash := PyData.keyHash P (Str.ofString "consumeNumberEntity"), key := Value.str (Str.ofString "consumeNumberEntity") 886, val := Value.ref 275 }, { hash := PyData.keyHash P (Str.ofString "consumeEntity"), key := Value.str (Str.ofString "consumeEntity") 901, val := Value.ref 283 }, { hash := PyData.keyHash P (Str.ofString "processEntityInAttribute"), key := Value.str (Str.ofString "processEntityInAttribute") 909, val := Value.ref 290 }, { hash := PyData.keyHash P (Str.ofString "emitCurrentToken"), key := Value.str (Str.ofString "emitCurrentToken") 919, val := Value.ref 297 }, { hash := PyData.keyHash P (Str.ofString "dataState"), key := Value.str (Str.ofString "dataState") 928, val := Value.ref 304 }, { hash := PyData.keyHash P (Str.ofString "entityDataState"), key := Value.str (Str.ofString "entityDataState") 935, val := Value.ref 311 }, { hash := PyData.keyHash P (Str.ofString "rcdataState"), key := Value.str (Str.ofString "rcdataState") 942, val := Value.ref 318 }, { hash := PyData.keyHash P (Str.ofString "characterReferenceInRcdata"), key := Value.str (Str.ofString "characterReferenceInRcdata") 949, val := Value.ref 325 }, { hash := PyData.keyHash P (Str.ofString "rawtextState"), key := Value.str (Str.ofString "rawtextState") 958, val := Value.ref 332 }, { hash := PyData.keyHash P (Str.ofString "scriptDataState"), key := Value.str (Str.ofString "scriptDataState") 967, val := Value.ref 339 }, { hash := PyData.keyHash P (Str.ofString "plaintextState"), key := Value.str (Str.ofString "plaintextState") 975, val := Value.ref 346 }, { hash := PyData.keyHash P (Str.ofString "tagOpenState"), key := Value.str (Str.ofString "tagOpenState") 983, val := Value.ref 353 }, { hash := PyData.keyHash P (Str.ofString "closeTagOpenState"), key := Value.str (Str.ofString "closeTagOpenState") 991, val := Value.ref 360 }, { hash := PyData.keyHash P (Str.ofString "tagNameState"), key := Value.str (Str.ofString "tagNameState") 999, val := Value.ref 367 }, { hash := PyData.keyHash P (Str.ofString "rcdataLessThanSignState"), key := Value.str (Str.ofString "rcdataLessThanSignState") 1006, val := Value.ref 374 }, { hash := PyData.keyHash P (Str.ofString "rcdataEndTagOpenState"), key := Value.str (Str.ofString "rcdataEndTagOpenState") 1013, val := Value.ref 381 }, { hash := PyData.keyHash P (Str.ofString "rcdataEndTagNameState"), key := Value.str (Str.ofString "rcdataEndTagNameState") 1020, val := Value.ref 388 }, { hash := PyData.keyHash P (Str.ofString "rawtextLessThanSignState"), key := Value.str (Str.ofString "rawtextLessThanSignState") 1028, val := Value.ref 395 }, { hash := PyData.keyHash P (Str.ofString "rawtextEndTagOpenState"), key := Value.str (Str.ofString "rawtextEndTagOpenState") 1036, val := Value.ref 402 }, { hash := PyData.keyHash P (Str.ofString "rawtextEndTagNameState"), key := Value.str (Str.ofString "rawtextEndTagNameState") 1045, val := Value.ref 409 }, { hash := PyData.keyHash P (Str.ofString "scriptDataLessThanSignState"), key := Value.str (Str.ofString "scriptDataLessThanSignState") 1053, val := Value.ref 416 }, { hash := PyData.keyHash P (Str.ofString "scriptDataEndTagOpenState"), key := Value.str (Str.ofString "scriptDataEndTagOpenState") 1061, val := Value.ref 423 }, { hash := PyData.keyHash P (Str.ofString "scriptDataEndTagNameState"), key := Value.str (Str.ofString "scriptDataEndTagNameState") 1070, val := Value.ref 430 }, { hash := PyData.keyHash P (Str.ofString "scriptDataEscapeStartState"), key := Value.str (Str.ofString "scriptDataEscapeStartState") 1078, val := Value.ref 437 }, { hash := PyData.keyHash P (Str.ofString "scriptDataEscapeStartDashState"), key := Value.str (Str.ofString "scriptDataEscapeStartDashState") 1086, val := Value.ref 444 }, { hash := PyData.keyHash P (Str.ofString "scriptDataEscapedState"), key := Value.str (Str.ofString "scriptDataEscapedState") 1095, val := Value.ref 451 }, { hash := PyData.keyHash P (Str.ofString "scriptDataEscapedDashState"), key := Value.str (Str.ofString "scriptDataEscapedDashState") 1103, val := Value.ref 458 }, { hash := PyData.keyHash P (Str.ofString "scriptDataEscapedDashDashState"), key := Value.str (Str.ofString "scriptDataEscapedDashDashState") 1111, val := Value.ref 465 }, { hash := PyData.keyHash P (Str.ofString "scriptDataEscapedLessThanSignState"), key := Value.str (Str.ofString "scriptDataEscapedLessThanSignState") 1119, val := Value.ref 472 }, { hash := PyData.keyHash P (Str.ofString "scriptDataEscapedEndTagOpenState"), key := Value.str (Str.ofString "scriptDataEscapedEndTagOpenState") 1127, val := Value.ref 479 }, { hash := PyData.keyHash P (Str.ofString "scriptDataEscapedEndTagNameState"), key := Value.str (Str.ofString "scriptDataEscapedEndTagNameState") 1136, val := Value.ref 486 }, { hash := PyData.keyHash P (Str.ofString "scriptDataDoubleEscapeStartState"), key := Value.str (Str.ofString "scriptDataDoubleEscapeStartState") 1144, val := Value.ref 493 }, { hash := PyData.keyHash P (Str.ofString "scriptDataDoubleEscapedState"), key := Value.str (Str.ofString "scriptDataDoubleEscapedState") 1152, val := Value.ref 500 }, { hash := PyData.keyHash P (Str.ofString "scriptDataDoubleEscapedDashState"), key := Value.str (Str.ofString "scriptDataDoubleEscapedDashState") 1160, val := Value.ref 507 }, { hash := PyData.keyHash P (Str.ofString "scriptDataDoubleEscapedDashDashState"), key := Value.str (Str.ofString "scriptDataDoubleEscapedDashDashState") 1168, val := Value.ref 514 }, { hash := PyData.keyHash P (Str.ofString "scriptDataDoubleEscapedLessThanSignState"), key := Value.str (Str.ofString "scriptDataDoubleEscapedLessThanSignState") 1176, val := Value.ref 521 }, { hash := PyData.keyHash P (Str.ofString "scriptDataDoubleEscapeEndState"), key := Value.str (Str.ofString "scriptDataDoubleEscapeEndState") 1184, val := Value.ref 528 }, { hash := PyData.keyHash P (Str.ofString "beforeAttributeNameState"), key := Value.str (Str.ofString "beforeAttributeNameState") 1192, val := Value.ref 535 }, { hash := PyData.keyHash P (Str.ofString "attributeNameState"), key := Value.str (Str.ofString "attributeNameState") 1204, val := Value.ref 542 }, { hash := PyData.keyHash P (Str.ofString "afterAttributeNameState"), key := Value.str (Str.ofString "afterAttributeNameState") 1212, val := Value.ref 549 }, { hash := PyData.keyHash P (Str.ofString "beforeAttributeValueState"), key := Value.str (Str.ofString "beforeAttributeValueState") 1220, val := Value.ref 556 }, { hash := PyData.keyHash P (Str.ofString "attributeValueDoubleQuotedState"), key := Value.str (Str.ofString "attributeValueDoubleQuotedState") 1228, val := Value.ref 563 }, { hash := PyData.keyHash P (Str.ofString "attributeValueSingleQuotedState"), key := Value.str (Str.ofString "attributeValueSingleQuotedState") 1236, val := Value.ref 570 }, { hash := PyData.keyHash P (Str.ofString "attributeValueUnQuotedState"), key := Value.str (Str.ofString "attributeValueUnQuotedState") 1244, val := Value.ref 577 }, { hash := PyData.keyHash P (Str.ofString "afterAttributeValueState"), key := Value.str (Str.ofString "afterAttributeValueState") 1252, val := Value.ref 584 }, { hash := PyData.keyHash P (Str.ofString "selfClosingStartTagState"), key := Value.str (Str.ofString "selfClosingStartTagState") 1260, val := Value.ref 591 }, { hash := PyData.keyHash P (Str.ofString "bogusCommentState"), key := Value.str (Str.ofString "bogusCommentState") 1268, val := Value.ref 598 }, { hash := PyData.keyHash P (Str.ofString "markupDeclarationOpenState"), key := Value.str (Str.ofString "markupDeclarationOpenState") 1278, val := Value.ref 605 }, { hash := PyData.keyHash P (Str.ofString "commentStartState"), key := Value.str (Str.ofString "commentStartState") 1286, val := Value.ref 612 }, { hash := PyData.keyHash P (Str.ofString "commentStartDashState"), key := Value.str (Str.ofString "commentStartDashState") 1294, val := Value.ref 619 }, { hash := PyData.keyHash P (Str.ofString "commentState"), key := Value.str (Str.ofString "commentState") 1302, val := Value.ref 626 }, { hash := PyData.keyHash P (Str.ofString "commentEndDashState"), key := Value.str (Str.ofString "commentEndDashState") 1310, val := Value.ref 633 }, { hash := PyData.keyHash P (Str.ofString "commentEndState"), key := Value.str (Str.ofString "commentEndState") 1318, val := Value.ref 640 }, { hash := PyData.keyHash P (Str.ofString "commentEndBangState"), key := Value.str (Str.ofString "commentEndBangState") 1326, val := Value.ref 647 }, { hash := PyData.keyHash P (Str.ofString "doctypeState"), key := Value.str (Str.ofString "doctypeState") 1334, val := Value.ref 654 }, { hash := PyData.keyHash P (Str.ofString "beforeDoctypeNameState"), key := Value.str (Str.ofString "beforeDoctypeNameState") 1342, val := Value.ref 661 }, { hash := PyData.keyHash P (Str.ofString "doctypeNameState"), key := Value.str (Str.ofString "doctypeNameState") 1350, val := Value.ref 668 }, { hash := PyData.keyHash P (Str.ofString "afterDoctypeNameState"), key := Value.str (Str.ofString "afterDoctypeNameState") 1360, val := Value.ref 675 }, { hash := PyData.keyHash P (Str.ofString "afterDoctypePublicKeywordState"), key := Value.str (Str.ofString "afterDoctypePublicKeywordState") 1368, val := Value.ref 682 }, { hash := PyData.keyHash P (Str.ofString "beforeDoctypePublicIdentifierState"), key := Value.str (Str.ofString "beforeDoctypePublicIdentifierState") 1376, val := Value.ref 689 }, { hash := PyData.keyHash P (Str.ofString "doctypePublicIdentifierDoubleQuotedState"), key := Value.str (Str.ofString "doctypePublicIdentifierDoubleQuotedState") 1384, val := Value.ref 696 }, { hash := PyData.keyHash P (Str.ofString "doctypePublicIdentifierSingleQuotedState"), key := Value.str (Str.ofString "doctypePublicIdentifierSingleQuotedState") 1392, val := Value.ref 703 }, { hash := PyData.keyHash P (Str.ofString "afterDoctypePublicIdentifierState"), key := Value.str (Str.ofString "afterDoctypePublicIdentifierState") 1400, val := Value.ref 710 }, { hash := PyData.keyHash P (Str.ofString "betweenDoctypePublicAndSystemIdentifiersState"), key := Value.str (Str.ofString "betweenDoctypePublicAndSystemIdentifiersState") 1408, val := Value.ref 717 }, { hash := PyData.keyHash P (Str.ofString "afterDoctypeSystemKeywordState"), key := Value.str (Str.ofString "afterDoctypeSystemKeywordState") 1416, val := Value.ref 724 }, { hash := PyData.keyHash P (Str.ofString "beforeDoctypeSystemIdentifierState"), key := Value.str (Str.ofString "beforeDoctypeSystemIdentifierState") 1424, val := Value.ref 731 }, { hash := PyData.keyHash P (Str.ofString "doctypeSystemIdentifierDoubleQuotedState"), key := Value.str (Str.ofString "doctypeSystemIdentifierDoubleQuotedState") 1432, val := Value.ref 738 }, { hash := PyData.keyHash P (Str.ofString "doctypeSystemIdentifierSingleQuotedState"), key := Value.str (Str.ofString "doctypeSystemIdentifierSingleQuotedState") 1440, val := Value.ref 745 }, { hash := PyData.keyHash P (Str.ofString "afterDoctypeSystemIdentifierState"), key := Value.str (Str.ofString "afterDoctypeSystemIdentifierState") 1448, val := Value.ref 752 }, { hash := PyData.keyHash P (Str.ofString "bogusDoctypeState"), key := Value.str (Str.ofString "bogusDoctypeState") 1456, val := Value.ref 759 }, { hash := PyData.keyHash P (Str.ofString "__static_attributes__"), key := Value.str (Str.ofString "__static_attributes__") 1466, val := Value.ref 760 }, { hash := PyData.keyHash P (Str.ofString "__dict__"), key := Value.str (Str.ofString "__dict__") 1468, val := Value.ref 763 }, { hash := PyData.keyHash P (Str.ofString "__weakref__"), key := Value.str (Str.ofString "__weakref__") 1470, val := Value.ref 764 }, { hash := PyData.keyHash P (Str.ofString "__doc__"), key := Value.str (Str.ofString "__doc__") 1471, val := Value.none }] 4 }),
  (762, { cls := Value.type "type", data := Data.cls { name := Str.ofString "HTMLTokenizer", bases := [Value.type "object"], mro := [Value.ref 762, Value.type "object"], ns := 761, qualname := Str.ofString "HTMLTokenizer" }, slots := #[some (Value.ref 247), none, some (Value.str (Str.ofString "HTMLTokenizer") 844), some (Value.str (Str.ofString "HTMLTokenizer") 852), some (Value.builtin "object.__new__"), some (Value.bool true)] }),
  (772, { cls := Value.type "code", data := Data.fields #[Value.str (Str.ofString "_law_NAMES") 1476, Value.str (Str.ofString "_law_NAMES") 1477, Value.str (Str.ofString "/claim/cut.py") 1478, Value.int 1470 0, Value.int 0 0, Value.int 0 0, Value.int 0 0, Value.int 3 0, Value.ref 767, Value.bool true, Value.int 181 0, Value.ref 768, Value.none, Value.ref 769, Value.ref 770, Value.ref 771, Value.int 1479 0, Value.int 1470 0, Value.str (Str.ofString "/claim/cut.py") 1480] }),
  (773, fnO (topAt 23) (Str.ofString "_law_NAMES") (Value.str (Str.ofString "law_te0036_02") 1474) (Value.none) (Value.ref 772)),
  (779, { cls := Value.type "code", data := Data.fields #[Value.str (Str.ofString "_law_MORE") 1484, Value.str (Str.ofString "_law_MORE") 1485, Value.str (Str.ofString "/claim/cut.py") 1486, Value.int 1473 0, Value.int 0 0, Value.int 0 0, Value.int 0 0, Value.int 3 0, Value.ref 774, Value.bool true, Value.int 181 0, Value.ref 775, Value.none, Value.ref 776, Value.ref 777, Value.ref 778, Value.int 1487 0, Value.int 1473 0, Value.str (Str.ofString "/claim/cut.py") 1488] }),
  (780, fnO (topAt 25) (Str.ofString "_law_MORE") (Value.str (Str.ofString "law_te0036_02") 1474) (Value.none) (Value.ref 779)),
  (786, { cls := Value.type "code", data := Data.fields #[Value.str (Str.ofString "_law_piece") 1490, Value.str (Str.ofString "_law_piece") 1491, Value.str (Str.ofString "/claim/cut.py") 1492, Value.int 1475 0, Value.int 1 0, Value.int 0 0, Value.int 0 0, Value.int 3 0, Value.ref 781, Value.bool true, Value.int 181 0, Value.ref 782, Value.none, Value.ref 783, Value.ref 784, Value.ref 785, Value.int 1496 0, Value.int 1475 0, Value.str (Str.ofString "/claim/cut.py") 1497] }),
  (787, fnO (topAt 26) (Str.ofString "_law_piece") (Value.str (Str.ofString "law_te0036_02") 1474) (Value.none) (Value.ref 786)),
  (791, { cls := Value.type "code", data := Data.fields #[Value.str (Str.ofString "_law_small") 1499, Value.str (Str.ofString "_law_small") 1500, Value.str (Str.ofString "/claim/cut.py") 1501, Value.int 1487 0, Value.int 1 0, Value.int 0 0, Value.int 0 0, Value.int 3 0, Value.ref 788, Value.bool true, Value.int 181 0, Value.ref 789, Value.none, Value.none, Value.none, Value.ref 790, Value.int 1502 0, Value.int 1487 0, Value.str (Str.ofString "/claim/cut.py") 1503] }),
  (792, fnO (topAt 27) (Str.ofString "_law_small") (Value.str (Str.ofString "law_te0036_02") 1474) (Value.none) (Value.ref 791)),
  (796, { cls := Value.type "code", data := Data.fields #[Value.str (Str.ofString "_law_row") 1505, Value.str (Str.ofString "_law_row") 1506, Value.str (Str.ofString "/claim/cut.py") 1507, Value.int 1489 0, Value.int 1 0, Value.int 0 0, Value.int 0 0, Value.int 3 0, Value.ref 793, Value.bool true, Value.int 181 0, Value.ref 794, Value.none, Value.none, Value.none, Value.ref 795, Value.int 1508 0, Value.int 1489 0, Value.str (Str.ofString "/claim/cut.py") 1509] }),
  (797, fnO (topAt 28) (Str.ofString "_law_row") (Value.str (Str.ofString "law_te0036_02") 1474) (Value.none) (Value.ref 796)),
  (801, { cls := Value.type "code", data := Data.fields #[Value.str (Str.ofString "law") 1511, Value.str (Str.ofString "law") 1512, Value.str (Str.ofString "/claim/cut.py") 1513, Value.int 1491 0, Value.int 1 0, Value.int 0 0, Value.int 0 0, Value.int 3 0, Value.ref 798, Value.bool true, Value.int 181 0, Value.ref 799, Value.none, Value.none, Value.none, Value.ref 800, Value.int 1514 0, Value.int 1491 0, Value.str (Str.ofString "/claim/cut.py") 1515] }),
  (802, fnO (topAt 29) (Str.ofString "law") (Value.str (Str.ofString "law_te0036_02") 1474) (Value.none) (Value.ref 801))]
end Mine
end
section
open PySem PySem.W PySem.Calls PyProof.Rows
namespace Mine
/-! the looks at the law's text, piece by piece -/
theorem rl_nil (lk : Look) : noRoadLSs lk [] = true := by with_unfolding_all rfl
theorem rl_cons {lk : Look} {s : Stmt} {r : List Stmt} (h : noRoadLS lk s = true) (h2 : noRoadLSs lk r = true) : noRoadLSs lk (s :: r) = true := look_both h h2
theorem rl_append {lk : Look} : ∀ {a b : List Stmt}, noRoadLSs lk a = true → noRoadLSs lk b = true → noRoadLSs lk (a ++ b) = true
  | [], _, _, h => h
  | s :: r, b, h, h2 => by
    have h' := Bool.and_eq_true_iff.mp (show (noRoadLS lk s && noRoadLSs lk r) = true from h)
    exact rl_cons h'.1 (rl_append h'.2 h2)
theorem rl_cut {lk : Look} {l : List Stmt} (k : Nat) (h : noRoadLSs lk (l.take k) = true) (h2 : noRoadLSs lk (l.drop k) = true) : noRoadLSs lk l = true := by
  rw [← List.take_append_drop k l]; exact rl_append h h2
/-- all of a class but its own body -/
noncomputable def clsRest (lk : Look) : Stmt → Bool
  | .ClassDef _ bs ks _ ds tps _ _ _ _ _ => noRoadLs lk bs && noRoadLKws lk ks && noRoadLs lk ds && noRoadLTps lk tps
  | _ => false
theorem rl_five {a b c d e : Bool} (h : (a && b && c && d) = true) (h2 : e = true) : (a && b && e && c && d) = true := by
  subst h2; cases a <;> cases b <;> cases c <;> cases d <;> first | rfl | cases h
theorem rl_cls {lk : Look} {s : Stmt} (h : clsRest lk s = true) (h2 : noRoadLSs lk.inClass (bodyIn s) = true) : noRoadLS lk s = true := by
  cases s with
  | ClassDef n bs ks b ds tps a1 a2 a3 a4 a5 => exact rl_five (c := noRoadLs lk ds) h h2
  | _ => exact absurd (show (false : Bool) = true from h) Bool.false_ne_true
abbrev lawP : Program := PySem.Challenge.rw_te0036_02.row.prog
def lk0 : Look := { strict := false, foot := none, bare := [] }
theorem lk_strict : (!(importedModules lawP.main.body).all cThrough.contains) = false := by decide +kernel
theorem lk_bare : ((["vars", "dir", "locals"] : List Str).filter (readsOut lawP lawP.main.body)) = [] := by decide +kernel
theorem road_a : noRoadLSs lk0 (lawP.main.body.take 21) = true := by decide +kernel
theorem road_c0 : clsRest lk0 (topAt 21) = true := by decide +kernel
theorem road_c1 : noRoadLSs lk0.inClass ((bodyIn (topAt 21)).take 12) = true := by decide +kernel
theorem road_c2 : noRoadLSs lk0.inClass (((bodyIn (topAt 21)).drop 12).take 24) = true := by decide +kernel
theorem road_c3 : noRoadLSs lk0.inClass (((bodyIn (topAt 21)).drop 12).drop 24) = true := by decide +kernel
theorem road_z : noRoadLSs lk0 ((lawP.main.body.drop 21).drop 1) = true := by decide +kernel
theorem road_m : (lawP.main.body.drop 21).take 1 = [topAt 21] := by kernel_rfl
theorem road : noRoadLSs { strict := !(importedModules lawP.main.body).all cThrough.contains, foot := none, bare := (["vars", "dir", "locals"] : List Str).filter (readsOut lawP lawP.main.body) } lawP.main.body = true := by
  rw [lk_strict, lk_bare]
  refine rl_cut 21 road_a (rl_cut 1 ?_ road_z)
  rw [road_m]
  exact rl_cons (rl_cls road_c0 (rl_cut 12 road_c1 (rl_cut 24 road_c2 road_c3))) (rl_nil _)
theorem said : PySem.Challenge.rw_te0036_02.wellSaid = true := by
  unfold OpenLaw.wellSaid OpenRow.wellSaid OpenRow.partSaid looksOpen
  repeat' (with_reducible apply look_both)
  all_goals (first | with_reducible exact road | decide +kernel)
end Mine
end
section
open PySem PySem.W PySem.Calls PyProof.Rows
namespace Mine

theorem All2.length {α β : Type} {R : α → β → Prop} {l : List α} {m : List β} (h : All2 R l m) : l.length = m.length := by
  induction h with
  | nil => rfl
  | cons _ _ ih => simp [ih]
theorem All2.get {α β : Type} {R : α → β → Prop} {l : List α} {m : List β} (h : All2 R l m) : ∀ {i : Nat} {a : α}, l[i]? = some a → ∃ b, m[i]? = some b ∧ R a b := by
  induction h with
  | nil => intro i a e; simp at e
  | cons r _ ih =>
    intro i a e
    cases i with
    | zero => simp at e; subst e; exact ⟨_, rfl, r⟩
    | succ i => simpa using ih (by simpa using e)
theorem All2.append {α β : Type} {R : α → β → Prop} {l l' : List α} {m m' : List β} (h : All2 R l m) (h' : All2 R l' m') : All2 R (l ++ l') (m ++ m') := by
  induction h with
  | nil => exact h'
  | cons r _ ih => exact .cons r ih

theorem EntC.length {P : Params} {es : List (Str × AV)} {ds : List DictEntry} (h : EntC P es ds) : es.length = ds.length := by
  induction h with
  | nil => rfl
  | cons _ _ ih => simp [ih]
theorem EntC.noRef {P : Params} {es : List (Str × AV)} {ds : List DictEntry} (h : EntC P es ds) : ds.any (·.refKey) = false := by
  induction h with
  | nil => rfl
  | cons _ _ ih => rw [List.any_cons, ih]; rfl
theorem EntC.find {P : Params} {es : List (Str × AV)} {ds : List DictEntry} {x : Str} {av : AV} (h : EntC P es ds) (nd : (es.map (·.1)).Nodup) (hm : (x, av) ∈ es) :
    ∃ e, ds.find? (·.key.isStr x) = some e ∧ Conc av e.val := by
  induction h with
  | nil => cases hm
  | @cons k v l t y m c _ ih =>
    rw [List.map_cons, List.nodup_cons] at nd
    rw [List.find?_cons]
    by_cases q : k = x
    · subst q
      have hs : (Value.str k t).isStr k = true := by simp [Value.isStr]
      rw [show (({ hash := PyData.keyHash P k, key := Value.str k t, val := y } : DictEntry).key.isStr k) = true from hs]
      rcases List.mem_cons.mp hm with e | e
      · cases e; exact ⟨_, rfl, c⟩
      · exact absurd (List.mem_map_of_mem (f := (·.1)) e) nd.1
    · have hs : (Value.str k t).isStr x = false := by simp [Value.isStr, q]
      rw [show (({ hash := PyData.keyHash P k, key := Value.str k t, val := y } : DictEntry).key.isStr x) = false from hs]
      rcases List.mem_cons.mp hm with e | e
      · cases e; exact absurd rfl q
      · exact ih nd.2 e
theorem EntC.miss {P : Params} {es : List (Str × AV)} {ds : List DictEntry} {x : Str} (h : EntC P es ds) (hm : x ∉ es.map (·.1)) : ds.find? (·.key.isStr x) = none := by
  induction h with
  | nil => rfl
  | @cons k v l t y m c _ ih =>
    rw [List.map_cons, List.mem_cons, not_or] at hm
    rw [List.find?_cons]
    have hs : (Value.str k t).isStr x = false := by simp [Value.isStr, Ne.symm hm.1]
    rw [show (({ hash := PyData.keyHash P k, key := Value.str k t, val := y } : DictEntry).key.isStr x) = false from hs]
    exact ih hm.2
theorem EntC.getL {P : Params} {es : List (Str × AV)} {ds : List DictEntry} {x : Str} {av : AV} (h : EntC P es ds) (nd : (es.map (·.1)).Nodup) (hm : (x, av) ∈ es) :
    ∃ v, PySem.W.getL x ds = some (some v) ∧ Conc av v := by
  obtain ⟨e, he, c⟩ := h.find nd hm
  exact ⟨e.val, by unfold PySem.W.getL; rw [he], c⟩
theorem EntC.getL_none {P : Params} {es : List (Str × AV)} {ds : List DictEntry} {x : Str} (h : EntC P es ds) (hm : x ∉ es.map (·.1)) : PySem.W.getL x ds = some none := by
  unfold PySem.W.getL
  rw [h.miss hm, h.noRef]; rfl

/-- a stored entry -/
inductive UpdE (x : Str) (v : AV) : List (Str × AV) → List (Str × AV) → Prop
  | head {u r} : UpdE x v ((x, u) :: r) ((x, v) :: r)
  | tail {p r r'} : UpdE x v r r' → UpdE x v (p :: r) (p :: r')
theorem UpdE.keys {x : Str} {v : AV} {es es' : List (Str × AV)} (u : UpdE x v es es') : es'.map (·.1) = es.map (·.1) := by
  induction u with
  | head => rfl
  | tail _ ih => rw [List.map_cons, List.map_cons, ih]
theorem UpdE.mem {x : Str} {v : AV} {es es' : List (Str × AV)} (u : UpdE x v es es') : x ∈ es.map (·.1) := by
  induction u with
  | head => exact .head _
  | tail _ ih => exact .tail _ ih
theorem EntC.put {P : Params} {es es' : List (Str × AV)} {x : Str} {av : AV} {v : Value} (hv : Conc av v) (u : UpdE x av es es') : ∀ {ds : List DictEntry} {h : Int} {key : Value}, EntC P es ds → (es.map (·.1)).Nodup →
    EntC P es' (putL x h key v ds) ∧ ds.any (·.key.isStr x) = true := by
  induction u with
  | @head u r =>
    intro ds h key c _
    cases c with
    | @cons _ _ _ t y m c cs =>
      have hs : (Value.str x t).isStr x = true := by simp [Value.isStr]
      unfold putL
      rw [show (({ hash := PyData.keyHash P x, key := Value.str x t, val := y } : DictEntry).key.isStr x) = true from hs, if_pos rfl]
      exact ⟨.cons hv cs, by rw [List.any_cons]; simp [Value.isStr]⟩
  | @tail p r r' u ih =>
    intro ds h key c nd
    rw [List.map_cons, List.nodup_cons] at nd
    cases c with
    | @cons k _ _ t y m c cs =>
      have hk : k ≠ x := fun e => nd.1 (e ▸ u.mem)
      have hs : (Value.str k t).isStr x = false := by simp [Value.isStr, hk]
      obtain ⟨a, b⟩ := ih (h := h) (key := key) cs nd.2
      unfold putL
      rw [show (({ hash := PyData.keyHash P k, key := Value.str k t, val := y } : DictEntry).key.isStr x) = false from hs, if_neg (by decide)]
      exact ⟨.cons c a, by rw [List.any_cons, b, Bool.or_true]⟩
theorem EntC.putNew {P : Params} {es : List (Str × AV)} {x : Str} {av : AV} {v : Value} {t : Tok} (hv : Conc av v) {ds : List DictEntry} (c : EntC P es ds) (hm : x ∉ es.map (·.1)) :
    EntC P (es ++ [(x, av)]) (putL x (PyData.keyHash P x) (.str x t) v ds) ∧ ds.any (·.key.isStr x) = false := by
  induction c with
  | nil => exact ⟨.cons hv .nil, rfl⟩
  | @cons k _ l t' y m c cs ih =>
    rw [List.map_cons, List.mem_cons, not_or] at hm
    have hs : (Value.str k t').isStr x = false := by simp [Value.isStr, Ne.symm hm.1]
    obtain ⟨a, b⟩ := ih hm.2
    unfold putL
    rw [show (({ hash := PyData.keyHash P k, key := Value.str k t', val := y } : DictEntry).key.isStr x) = false from hs, if_neg (by decide)]
    exact ⟨.cons c a, by rw [List.any_cons, b, Bool.or_false]; exact hs⟩

/-- a stored object -/
inductive UpdH (a : Addr) (o o' : AO) : HL → HL → Prop
  | head {r} : UpdH a o o' ((a, o) :: r) ((a, o') :: r)
  | tail {p r r'} : UpdH a o o' r r' → UpdH a o o' (p :: r) (p :: r')
theorem UpdH.split {P : Params} {a : Addr} {o o' : AO} {H H' : HL} (u : UpdH a o o' H H') : ∀ {cells : List (Addr × Obj)}, HeapC P H cells →
    ∃ pre c post, cells = pre ++ (c ++ post) ∧ ObjC P a o c ∧ ∀ c', ObjC P a o' c' → HeapC P H' (pre ++ (c' ++ post)) := by
  induction u with
  | head => intro cells hc; cases hc with | cons x y => exact ⟨[], _, _, rfl, x, fun c' x' => by rw [List.nil_append]; exact .cons x' y⟩
  | tail u ih =>
    intro cells hc
    cases hc with
    | cons x y =>
      obtain ⟨pre, c, post, e, q, k⟩ := ih y
      subst e
      exact ⟨_ ++ pre, c, post, by rw [List.append_assoc], q, fun c' x' => by rw [List.append_assoc]; exact .cons x (k c' x')⟩
theorem HeapC.at {P : Params} {a : Addr} {o : AO} {H : HL} {cells : List (Addr × Obj)} (hc : HeapC P H cells) (hm : (a, o) ∈ H) : ∃ c, ObjC P a o c ∧ ∀ p ∈ c, p ∈ cells := by
  induction hc with
  | nil => cases hm
  | cons x y ih =>
    rcases List.mem_cons.mp hm with e | e
    · cases e; exact ⟨_, x, fun p hp => List.mem_append_left _ hp⟩
    · obtain ⟨c, q, k⟩ := ih e; exact ⟨c, q, fun p hp => List.mem_append_right _ (k p hp)⟩
theorem HeapC.append {P : Params} {H H' : HL} {c c' : List (Addr × Obj)} (x : HeapC P H c) (y : HeapC P H' c') : HeapC P (H ++ H') (c ++ c') := by
  induction x with
  | nil => exact y
  | cons p _ ih => rw [List.append_assoc]; exact .cons p ih
theorem upd_of_nodup {d : Addr} {o o' : Obj} : ∀ {pre post : List (Addr × Obj)}, ((pre ++ (d, o) :: post).map (·.1)).Nodup → Upd d o o' (pre ++ (d, o) :: post) (pre ++ (d, o') :: post)
  | [], post, h => .head fun p hp e => by
      rw [List.nil_append, List.map_cons, List.nodup_cons] at h
      exact h.1 (e ▸ List.mem_map_of_mem (f := (·.1)) hp)
  | p :: pre, post, h => by
      rw [List.cons_append, List.map_cons, List.nodup_cons] at h
      refine .tail (fun e => h.1 (e ▸ ?_)) (upd_of_nodup h.2)
      rw [List.map_append, List.map_cons]
      exact List.mem_append_right _ (.head _)
theorem nodup_same {d : Addr} {o o' : Obj} {pre post : List (Addr × Obj)} (h : ((pre ++ (d, o) :: post).map (·.1)).Nodup) : ((pre ++ (d, o') :: post).map (·.1)).Nodup := by
  rw [List.map_append, List.map_cons] at h ⊢; exact h

section
variable {P : Params} {Γ : Act} {S : St} {s : Shared}
theorem Rep.toks (r : Rep P Γ S s) (t : Nat) : Rep P Γ S { s with toks := t } := ⟨r.ex, r.gens, r.os⟩
end
end Mine
end
section
open PySem PySem.W PySem.Calls PyProof.Rows
namespace Mine

structure Gnd (K : Frag) (Γ : Act) : Prop where
  X : K.In Γ.h₀
  T : ∃ p loose mg mb, TopRead p loose mg mb Γ.h₀

section
variable {prog : Program} {w : World} {α β : Type} {n : Nat} {Γ : Act} {R : β → α → Prop} {S : St}
/-- from the judgement to the library's form -/
theorem W.to {t : Sem α} {K : β → St → Prop} (h : W prog w n Γ R t S K) {A : Around} {s : Shared} (r : Room n A) (p : Rep w.params Γ S s) {Q : α → Shared → Prop} {E : Value → Shared → Prop}
    (q : ∀ a b S' s', R b a → Rep w.params Γ S' s' → K b S' → Q a s') : wpAny (model prog w) A t Q E s :=
  wpAny_mono (h.run A s r p) (fun a s' ⟨b, S', x, y, z⟩ => q a b S' s' x y z) fun _ _ e => e.elim
end

/-- a plain Bool back -/
abbrev BoolR : Bool → Bool → Prop := fun a b => a = b
abbrev UnitR : Unit → Unit → Prop := fun _ _ => True

section
variable {prog : Program} {w : World} {n : Nat} {Γ : Act} {KF : Frag} {S : St} {loc : Locs} {gs : Array GenState} {H : HL} {env : Env} {q : Str} {sc : Scope} {f : Addr} {cd : Value} {k : AV → St → Prop} {kb : Bool → St → Prop} {pos : Pos}

/-! names -/
theorem r_local {x : Str} {av : AV} (hv : (x, av) ∈ loc) (h : k av ⟨loc, H, gs⟩) (hu : av ≠ .unb := by intro e; cases e) (hk : sc.kind = .function := by rfl) (hl : (envOf q sc Γ.L f cd).kindOf x = some .local := by rfl)
    (hd : (x == ("__debug__" : Str)) = false := by decide) : W prog w n Γ Conc (eval (.Name x pos) (envOf q sc Γ.L f cd)) ⟨loc, H, gs⟩ k := by
  refine .mk fun A s r p => ?_
  obtain ⟨m, cells, F, N, nd, l, c⟩ := p.ex
  rcases l.2 x av hv with e | ⟨v, hm, cv⟩
  · exact absurd e hu
  · exact ld F hm ⟨av, _, cv, p, h⟩ hk hl hd
/-! constants -/
theorem r_none {j : Nat} (h : k .none S) : W prog w n Γ Conc (eval (.Constant .none j pos) env) S k := .mk fun A s r p => Constant_none ⟨_, S, .none, p, h⟩
theorem r_bool {c : Bool} {j : Nat} (h : k (.bool c) S) : W prog w n Γ Conc (eval (.Constant (.bool c) j pos) env) S k := .mk fun A s r p => Constant_bool ⟨_, S, .bool _, p, h⟩
theorem r_int {i : Int} {j : Nat} (h : k (.int i) S) : W prog w n Γ Conc (eval (.Constant (.int i) j pos) env) S k := .mk fun A s r p => wpAny_Constant_int ⟨_, S, .int _ _, p.toks _, h⟩
theorem r_str {x : Str} {j : Nat} (h : k (.str x.cps.toList) S) : W prog w n Γ Conc (eval (.Constant (.str x) j pos) env) S k := .mk fun A s r p => Constant_str ⟨.str x.cps.toList, S, .str x.cps.toList _, p.toks _, h⟩

/-! composite expressions -/
theorem r_BinOp {l r : Expr} {op : Operator} (h : W prog w n Γ Conc (eval l env) S fun a S₁ => ∀ va, Conc a va → W prog w n Γ Conc (eval r env) S₁ fun b S₂ => ∀ vb, Conc b vb → W prog w n Γ Conc (binaryOp op va vb) S₂ k) :
    W prog w n Γ Conc (eval (.BinOp l op r pos) env) S k := .mk fun A s ro p =>
  wpAny_BinOp (h.to ro p fun a b S₁ s₁ c p₁ z => (z a c).to ro p₁ fun a' b' S₂ s₂ c' p₂ z' => (z' a' c').run A s₂ ro p₂)
theorem r_Compare {l r : Expr} {op : CmpOp} (h : W prog w n Γ Conc (eval l env) S fun a S₁ => ∀ va, Conc a va → W prog w n Γ Conc (eval r env) S₁ fun b S₂ => ∀ vb, Conc b vb → W prog w n Γ Conc (compareOp op va vb) S₂ k)
    (hm : behindInMarks op r = false := by with_unfolding_all rfl) : W prog w n Γ Conc (eval (.Compare l [op] [r] pos) env) S k := .mk fun A s ro p =>
  wpAny_Compare1 (h.to ro p fun a b S₁ s₁ c p₁ z => (z a c).to ro p₁ fun a' b' S₂ s₂ c' p₂ z' => (z' a' c').run A s₂ ro p₂) hm
theorem r_IfExp {t b o : Expr} (h : W prog w n Γ BoolR (isTrue t env (eval t env)) S fun c S' => (c = true → W prog w n Γ Conc (eval b env) S' k) ∧ (c = false → W prog w n Γ Conc (eval o env) S' k)) :
    W prog w n Γ Conc (eval (.IfExp t b o pos) env) S k := .mk fun A s ro p =>
  IfExp_ (h.to ro p fun a c S' s' e p' z => by
    cases (e : c = a)
    cases a
    · exact (z.2 rfl).run A s' ro p'
    · exact (z.1 rfl).run A s' ro p')
theorem r_And {e₁ e₂ : Expr} {rest : List Expr} (h : W prog w n Γ Conc (eval e₁ env) S fun a S₁ => ∀ v, Conc a v → W prog w n Γ BoolR (truthy v) S₁ fun c S₂ => (c = true → W prog w n Γ Conc (eval (.BoolOp .And (e₂ :: rest) pos) env) S₂ k) ∧ (c = false → k a S₂)) :
    W prog w n Γ Conc (eval (.BoolOp .And (e₁ :: e₂ :: rest) pos) env) S k := .mk fun A s ro p =>
  BoolOp_and (h.to ro p fun v a S₁ s₁ c p₁ z => (z v c).to ro p₁ fun b' b S₂ s₂ e p₂ z' => by
    cases (e : b = b')
    cases b'
    · exact ⟨a, S₂, c, p₂, z'.2 rfl⟩
    · exact (z'.1 rfl).run A s₂ ro p₂)
theorem r_Or {e₁ e₂ : Expr} {rest : List Expr} (h : W prog w n Γ Conc (eval e₁ env) S fun a S₁ => ∀ v, Conc a v → W prog w n Γ BoolR (truthy v) S₁ fun c S₂ => (c = false → W prog w n Γ Conc (eval (.BoolOp .Or (e₂ :: rest) pos) env) S₂ k) ∧ (c = true → k a S₂)) :
    W prog w n Γ Conc (eval (.BoolOp .Or (e₁ :: e₂ :: rest) pos) env) S k := .mk fun A s ro p =>
  BoolOp_or (h.to ro p fun v a S₁ s₁ c p₁ z => (z v c).to ro p₁ fun b' b S₂ s₂ e p₂ z' => by
    cases (e : b = b')
    cases b'
    · exact (z'.1 rfl).run A s₂ ro p₂
    · exact ⟨a, S₂, c, p₂, z'.2 rfl⟩)
theorem r_BoolOne {e : Expr} {op : BoolOp} (h : W prog w n Γ Conc (eval e env) S k) : W prog w n Γ Conc (eval (.BoolOp op [e] pos) env) S k := .mk fun A s ro p => BoolOp_one (h.run A s ro p)

/-! tests -/
variable {whole : Sem Value}
theorem t_Compare {l r : Expr} {op : CmpOp} (h : W prog w n Γ Conc (eval l env) S fun a S₁ => ∀ va, Conc a va → W prog w n Γ Conc (eval r env) S₁ fun b S₂ => ∀ vb, Conc b vb → W prog w n Γ Conc (compareOp op va vb) S₂ fun c S₃ => ∀ vc, Conc c vc → W prog w n Γ BoolR (truthy vc) S₃ kb)
    (hm : behindInMarks op r = false := by with_unfolding_all rfl) : W prog w n Γ BoolR (isTrue (.Compare l [op] [r] pos) env whole) S kb := .mk fun A s ro p =>
  wpAny_isTrue_Compare1 (h.to ro p fun a b S₁ s₁ c p₁ z => (z a c).to ro p₁ fun a' b' S₂ s₂ c' p₂ z' => (z' a' c').to ro p₂ fun a'' b'' S₃ s₃ c'' p₃ z'' => (z'' a'' c'').run A s₃ ro p₃) hm
theorem t_Chain {l r₁ r₂ : Expr} {o₁ o₂ : CmpOp} (h : W prog w n Γ Conc (eval l env) S fun a S₁ => ∀ va, Conc a va → W prog w n Γ Conc (eval r₁ env) S₁ fun b S₂ => ∀ vb, Conc b vb → W prog w n Γ Conc (compareOp o₁ va vb) S₂ fun c S₃ => ∀ vc, Conc c vc →
      W prog w n Γ BoolR (truthy vc) S₃ fun t S₄ => (t = false → kb false S₄) ∧ (t = true → W prog w n Γ Conc (eval r₂ env) S₄ fun d S₅ => ∀ vd, Conc d vd → W prog w n Γ Conc (compareOp o₂ vb vd) S₅ fun e S₆ => ∀ ve, Conc e ve → W prog w n Γ BoolR (truthy ve) S₆ kb))
    (hm : lastMarks [o₁, o₂] [r₁, r₂] = false := by with_unfolding_all rfl) : W prog w n Γ BoolR (isTrue (.Compare l [o₁, o₂] [r₁, r₂] pos) env whole) S kb := .mk fun A s ro p =>
  isTrue_chain (h.to ro p fun a b S₁ s₁ c p₁ z => test_link ((z a c).to ro p₁ fun a' b' S₂ s₂ c' p₂ z' => (z' a' c').to ro p₂ fun a'' b'' S₃ s₃ c'' p₃ z'' => (z'' a'' c'').to ro p₃ fun tb t S₄ s₄ e p₄ zt => by
    cases (e : t = tb)
    cases tb
    · exact ⟨false, S₄, rfl, p₄, zt.1 rfl⟩
    · exact test_last ((zt.2 rfl).to ro p₄ fun a₃ b₃ S₅ s₅ c₅ p₅ z₅ => (z₅ a₃ c₅).to ro p₅ fun a₆ b₆ S₆ s₆ c₆ p₆ z₆ => (z₆ a₆ c₆).run A s₆ ro p₆))) hm
theorem t_Not {x : Expr} (h : W prog w n Γ BoolR (isTrue x env (eval x env)) S fun b S' => kb (!b) S') : W prog w n Γ BoolR (isTrue (.UnaryOp .Not x pos) env whole) S kb := .mk fun A s ro p =>
  isTrue_not (h.to ro p fun a b S' s' c p' z => ⟨!b, S', by rw [show b = a from c], p', z⟩)
theorem t_And {x : Expr} {rest : List Expr} (h : W prog w n Γ BoolR (isTrue x env (eval x env)) S fun c S' => (c = true → W prog w n Γ BoolR (isTrue (.BoolOp .And rest pos) env whole) S' kb) ∧ (c = false → kb false S')) :
    W prog w n Γ BoolR (isTrue (.BoolOp .And (x :: rest) pos) env whole) S kb := .mk fun A s ro p =>
  isTrue_and (h.to ro p fun a c S' s' e p' z => by
    cases (e : c = a)
    cases a
    · exact ⟨false, S', rfl, p', z.2 rfl⟩
    · exact (z.1 rfl).run A s' ro p')
theorem t_And0 (h : kb true S) : W prog w n Γ BoolR (isTrue (.BoolOp .And [] pos) env whole) S kb := .mk fun A s ro p => isTrue_and_nil ⟨true, S, rfl, p, h⟩
theorem t_Or {x : Expr} {rest : List Expr} (h : W prog w n Γ BoolR (isTrue x env (eval x env)) S fun c S' => (c = false → W prog w n Γ BoolR (isTrue (.BoolOp .Or rest pos) env whole) S' kb) ∧ (c = true → kb true S')) :
    W prog w n Γ BoolR (isTrue (.BoolOp .Or (x :: rest) pos) env whole) S kb := .mk fun A s ro p =>
  isTrue_or (h.to ro p fun a c S' s' e p' z => by
    cases (e : c = a)
    cases a
    · exact (z.1 rfl).run A s' ro p'
    · exact ⟨true, S', rfl, p', z.2 rfl⟩)
theorem t_Or0 (h : kb false S) : W prog w n Γ BoolR (isTrue (.BoolOp .Or [] pos) env whole) S kb := .mk fun A s ro p => isTrue_or_nil ⟨false, S, rfl, p, h⟩
theorem t_plain {e : Expr} (h : W prog w n Γ Conc whole S fun a S₁ => ∀ v, Conc a v → W prog w n Γ BoolR (truthy v) S₁ kb)
    (he : isTrue e env whole = (do let v ← whole; standAt e.pos; holding [v] (truthy v)) := by rfl) : W prog w n Γ BoolR (isTrue e env whole) S kb := .mk fun A s ro p =>
  isTrue_plain (h.to ro p fun v a S₁ s₁ c p₁ z => (z v c).run A s₁ ro p₁) he

/-! taking a described value apart -/
theorem c_none {φ : Value → Prop} (h : φ .none) : ∀ v, Conc .none v → φ v := fun v c => by cases c; exact h
theorem c_bool {b : Bool} {φ : Value → Prop} (h : φ (.bool b)) : ∀ v, Conc (.bool b) v → φ v := fun v c => by cases c; exact h
theorem c_int {i : Int} {φ : Value → Prop} (h : ∀ t, φ (.int i t)) : ∀ v, Conc (.int i) v → φ v := fun v c => by cases c; exact h _
theorem c_str {l : List Nat} {φ : Value → Prop} (h : ∀ t, φ (.str ⟨l.toArray⟩ t)) : ∀ v, Conc (.str l) v → φ v := fun v c => by cases c; exact h _
theorem c_ref {a : Addr} {φ : Value → Prop} (h : φ (.ref a)) : ∀ v, Conc (.ref a) v → φ v := fun v c => by cases c; exact h
theorem c_raw {u : Value} {φ : Value → Prop} (h : φ u) : ∀ v, Conc (.raw u) v → φ v := fun v c => by cases c; exact h

/-! truth -/
theorem u_bool {b : Bool} (h : kb b S) : W prog w n Γ BoolR (truthy (.bool b)) S kb := .mk fun A s ro p => wpAny_truthy_bool ⟨b, S, rfl, p, h⟩
theorem u_none (h : kb false S) : W prog w n Γ BoolR (truthy .none) S kb := .mk fun A s ro p => truthy_none ⟨false, S, rfl, p, h⟩
theorem u_int {i : Int} {t : Tok} (h : kb (i != 0) S) : W prog w n Γ BoolR (truthy (.int i t)) S kb := .mk fun A s ro p => P.truthy_int ⟨_, S, rfl, p, h⟩
end
end Mine
end
section
open PySem PySem.W PySem.Calls PyProof.Rows
namespace Mine

/-! taking part of the heap -/
inductive Sel (p : Addr × AO) : HL → HL → Prop
  | head {r} : Sel p (p :: r) r
  | tail {q r r'} : Sel p r r' → Sel p (q :: r) (q :: r')
inductive Pick : HL → HL → Prop
  | refl {H} : Pick H H
  | nil {H} : Pick [] H
  | drop {p R H} : Pick R H → Pick R (p :: H)
  | cons {p R H H'} : Sel p H H' → Pick R H' → Pick (p :: R) H
theorem Sel.cells {P : Params} {p : Addr × AO} {H H' : HL} (s : Sel p H H') : ∀ {cells : List (Addr × Obj)}, HeapC P H cells → ∃ c rest, cells.Perm (c ++ rest) ∧ ObjC P p.1 p.2 c ∧ HeapC P H' rest := by
  induction s with
  | head => intro cells h; cases h with | cons x y => exact ⟨_, _, .refl _, x, y⟩
  | tail _ ih =>
    intro cells h
    cases h with
    | cons x y =>
      obtain ⟨c, rest, e, q, k⟩ := ih y
      refine ⟨c, _ ++ rest, ((e.append_left _).trans ?_), q, .cons x k⟩
      rw [← List.append_assoc, ← List.append_assoc]
      exact List.perm_append_comm.append_right _
theorem Pick.cells {P : Params} {R H : HL} (s : Pick R H) : ∀ {cells : List (Addr × Obj)}, HeapC P H cells → ∃ c rest, cells.Perm (c ++ rest) ∧ HeapC P R c := by
  induction s with
  | refl => intro cells h; exact ⟨cells, [], by rw [List.append_nil], h⟩
  | nil => intro cells h; exact ⟨[], cells, .refl _, .nil⟩
  | drop _ ih =>
    intro cells h
    cases h with
    | @cons _ _ _ c cs x y =>
      obtain ⟨c', rest, e, q⟩ := ih y
      refine ⟨c', c ++ rest, (e.append_left _).trans ?_, q⟩
      rw [← List.append_assoc, ← List.append_assoc]
      exact List.perm_append_comm.append_right _
  | cons s _ ih =>
    intro cells h
    obtain ⟨c, rest, e, q, k⟩ := s.cells h
    obtain ⟨c', rest', e', q'⟩ := ih k
    refine ⟨c ++ c', rest', e.trans ?_, .cons q q'⟩
    rw [List.append_assoc]
    exact e'.append_left _
theorem Rep.pick {P : Params} {Γ : Act} {loc : Locs} {R H : HL} {s : Shared} (r : Rep P Γ ⟨loc, H, gs⟩ s) (p : Pick R H) : Rep P Γ ⟨loc, R, gs⟩ s := by
  obtain ⟨m, cells, F, N, nd, l, c⟩ := r.ex
  obtain ⟨c', rest, e, q⟩ := p.cells c
  refine ⟨⟨m, c', F, fun p hp => N p (e.mem_iff.mpr (List.mem_append_left _ hp)), ?_, l, q⟩, r.gens, r.os⟩
  have := (e.map (·.1)).nodup_iff.mp nd
  rw [List.map_append, List.nodup_append] at this
  exact this.1
section
variable {prog : Program} {w : World} {α β : Type} {n : Nat} {Γ : Act} {R : β → α → Prop} {loc : Locs} {gs : Array GenState} {H H' : HL}
theorem W.pick {t : Sem α} {K : β → St → Prop} (p : Pick H' H) (h : W prog w n Γ R t ⟨loc, H', gs⟩ K) : W prog w n Γ R t ⟨loc, H, gs⟩ K := .mk fun A s r q => h.run A s r (q.pick p)
end

/-! the first locals of a call -/
def BindC : List (Str × AV) → List (Str × Value) → Prop := All2 fun a b => a.1 = b.1 ∧ Conc a.2 b.2
theorem BindC.lookup {ps : Locs} {bs : List (Str × Value)} (h : BindC ps bs) (nd : (ps.map (·.1)).Nodup) {x : Str} {av : AV} (hm : (x, av) ∈ ps) : ∃ v, bs.lookup x = some v ∧ Conc av v := by
  induction h with
  | nil => cases hm
  | @cons a b l m r _ ih =>
    rw [List.map_cons, List.nodup_cons] at nd
    obtain ⟨y, v⟩ := b
    obtain ⟨e, c⟩ := r
    rw [List.lookup_cons]
    rcases List.mem_cons.mp hm with q | q
    · subst q
      have : (x == y) = true := by rw [beq_iff_eq]; exact e
      rw [this]; exact ⟨v, rfl, c⟩
    · have : (x == y) = false := by
        rw [beq_eq_false_iff_ne]
        intro z
        exact nd.1 (by rw [e]; rw [← z]; exact List.mem_map_of_mem (f := (·.1)) q)
      rw [this]; exact ih nd.2 q
theorem BindC.rev {ps : Locs} {bs : List (Str × Value)} (h : BindC ps bs) : BindC ps.reverse bs.reverse := by
  induction h with
  | nil => exact .nil
  | cons r _ ih => rw [List.reverse_cons, List.reverse_cons]; exact ih.append (.cons r .nil)
def isUnb : AV → Bool
  | .unb => true
  | _ => false
theorem locC_of {ps : Locs} {bs : List (Str × Value)} {us : Locs} (h : BindC ps bs) (hu : (us.all fun p => isUnb p.2) = true) (nd : ((ps ++ us).map (·.1)).Nodup) : LocC (ps ++ us) (fun y => bs.reverse.lookup y) := by
  refine ⟨nd, fun x av hm => ?_⟩
  rcases List.mem_append.mp hm with q | q
  · refine .inr (h.rev.lookup ?_ (List.mem_reverse.mpr q))
    rw [List.map_append, List.nodup_append] at nd
    rw [List.map_reverse]
    exact List.pairwise_reverse.mpr (nd.1.imp fun h => Ne.symm h)
  · have := List.all_eq_true.mp hu _ q
    dsimp only at this
    cases av <;> first | exact .inl rfl | cases this

/-! what a block of statements comes back with -/
inductive FA where
  | next
  | brk
  | cont
  | ret (a : AV)
inductive FlowR : FA → Flow → Prop
  | next : FlowR .next .next
  | brk : FlowR .brk .brk
  | cont : FlowR .cont .cont
  | ret {a v} : Conc a v → FlowR (.ret a) (.ret v)
def retOf : FA → AV
  | .ret a => a
  | _ => .none
def flowVal (f : Flow) : Value := match f with | .ret v => v | _ => .none
theorem FlowR.back {fa : FA} {f : Flow} (h : FlowR fa f) : Conc (retOf fa) (flowVal f) := by
  cases h with
  | ret c => exact c
  | _ => exact .none

/-! the call of a def -/
theorem Gnd.keeps {K : Frag} {Γ : Act} (G : Gnd K Γ) {g : Heap} {L : Addr} {os : OsState} (st : Γ.h₀.StaysIn g) : Gnd K ⟨g, L, os⟩ :=
  ⟨G.X.keeps st, let ⟨a, b, c, d, T⟩ := G.T; ⟨a, b, c, d, T.keeps st⟩⟩

/-- the end of a def's body -/
def retK (k : AV → St → Prop) (loc : Locs) : FA → St → Prop := fun fa S' => ∃ H', Pick H' S'.heap ∧ k (retOf fa) ⟨loc, H', S'.gens⟩
/-- the judgement of a code that gives a value back -/
def WC (prog : Program) (w : World) (n : Nat) (Γ : Act) (c : Code) (S : St) (k : AV → St → Prop) : Prop :=
  ∀ A s, Room n A → Rep w.params Γ S s → codeAny (model prog w) A c (fun r s' => match r with | .ok (.ret v) => ∃ b S', Conc b v ∧ Rep w.params Γ S' s' ∧ k b S' | .ok _ => False | .error _ => False) s
section
variable {prog : Program} {w : World} {n : Nat} {Γ : Act} {KF : Frag} {loc ps : Locs} {gs : Array GenState} {H H' : HL} {S : St} {k : AV → St → Prop}
theorem WC.call {f : Value} {vs : List Value} {kw : List (Str × Value)} (h : WC prog w n Γ (.call f ⟨vs, kw⟩) S k) : W prog w n Γ Conc (call f vs kw) S k := .mk fun A s ro p => wpAny_call (h A s ro p)
theorem WC.room {c : Code} {m : Nat} (h : WC prog w m Γ c S k) (hm : m ≤ n) : WC prog w n Γ c S k := fun A s ro p => h A s (ro.mono hm) p
theorem WC.pick {c : Code} (q : Pick H' H) (h : WC prog w n Γ c ⟨loc, H', gs⟩ k) : WC prog w n Γ c ⟨loc, H, gs⟩ k := fun A s ro p => h A s ro (p.pick q)
theorem WC.meth {b g self : Addr} {vs : List Value} {kw : List (Str × Value)} (hb : (b, AO.meth g self) ∈ H) (h : WC prog w n Γ (.call (.ref g) ⟨.ref self :: vs, kw⟩) ⟨loc, H, gs⟩ k) : WC prog w n Γ (.call (.ref b) ⟨vs, kw⟩) ⟨loc, H, gs⟩ k := fun A s ro p => by
  obtain ⟨m, cells, F, N, nd, l, c⟩ := p.ex
  obtain ⟨c', oc, sub⟩ := c.at hb
  cases oc with
  | meth => exact method_call (N _ (sub _ (.head _))).1 (h A s ro p)
theorem WC.fn {name qual : Str} {params : Arguments} {body : List Stmt} {scope : Scope} {dV kV doc pm cdv ct oc : Value} {an od : Option Addr} {osl : Array (Option Value)} {f : Addr} {vs : List Value} {kw : List (Str × Value)} {binds : List (Str × Value)} {us : Locs}
    (G : Gnd KF Γ) (ho : KF.lookup f = some ⟨oc, od, .func (fnOf name qual params body scope dV kV doc pm an cdv ct), osl⟩) (hcd : codeIn KF cdv qual = true)
    (hbind : ∀ s : Shared, KF.In s.heap → BindsTo s (fnOf name qual params body scope dV kV doc pm an cdv ct) ⟨vs, kw⟩ binds) (hb : BindC ps binds) (hloc : (binds.all fun y => decide (scope.names.lookup y.1 = some .local)) = true)
    (hu : (us.all fun p => isUnb p.2) = true) (hnd : ((ps ++ us).map (·.1)).Nodup)
    (hco : scope.isCoroutine = false) (hgen : scope.isGenerator = false) (hk : scope.kind = .function) (hcell : ∀ x ∈ scope.names, x.2 ≠ .cell)
    (h : ∀ Γ', Gnd KF Γ' → W prog w n Γ' FlowR (execs body (envOf qual scope Γ'.L f cdv)) ⟨ps ++ us, H, gs⟩ (retK k loc)) :
    WC prog w (n + 1) Γ (.call (.ref f) ⟨vs, kw⟩) ⟨loc, H, gs⟩ k := by
  intro A s ro p
  obtain ⟨m, news, F, N, nd, l, c⟩ := p.ex
  obtain ⟨_, _, _, _, T⟩ := G.T
  have X := G.X.keeps F.keep
  refine codeAny_call_def (fd := fnOf name qual params body scope dV kV doc pm an cdv ct) (body := body) (binds := binds) ro.deep (X _ _ ho) rfl (T.nolimit.keeps F.keep) (codeRec_of X hcd) rfl (hbind s X) hcell (locs hloc) (fun h₁ hns hk₁ => ?_) hco hgen hk
  have nm : ∀ b o, Γ.h₀.get? b = some o → b ∉ news.map (·.1) := fun b o e q => by
    obtain ⟨p, hp, rfl⟩ := List.mem_map.mp q
    rw [(N p hp).2.2] at e; cases e
  have st : Γ.h₀.StaysIn (hideAll s.heap (news.map (·.1))) := fun b o e => hideAll_get _ (F.keep b o e) (nm b o e)
  obtain ⟨oL, es, ep, hL, hLd, hLk, hLf⟩ := F.ns
  have nL : Γ.L ∉ news.map (·.1) := fun q => by
    obtain ⟨p, hp, e⟩ := List.mem_map.mp q
    exact (N p hp).2.1 e
  have hLg := hideAll_get (news.map (·.1)) hL nL
  have R' : Rep w.params ⟨hideAll s.heap (news.map (·.1)), s.heap.objs.size, s.os⟩ ⟨ps ++ us, H, gs⟩ { s with heap := h₁, toks := s.toks + binds.length } :=
    ⟨⟨fun y => binds.reverse.lookup y, news, ⟨hns, fun b o e => hk₁ b o (of_hideAll _ e), Nat.le_of_eq (hideAll_size _ _)⟩,
      fun p hp => ⟨hk₁ _ _ (N p hp).1, Nat.ne_of_lt (Heap.lt_size (N p hp).1), hideAll_none _ (List.mem_map_of_mem hp)⟩, nd, locC_of hb hu hnd, c⟩, p.gens, rfl⟩
  refine wpAny_mono ((h ⟨hideAll s.heap (news.map (·.1)), s.heap.objs.size, s.os⟩ (G.keeps st)).run _ _ ro.deeper R') (fun fl s' hl => ?_) fun _ _ y => y.elim
  obtain ⟨fa, S', cf, r', H', pk, kk⟩ := hl
  have cb : Conc (retOf fa) (flowVal fl) := cf.back
  obtain ⟨m', news', F', N', nd', l', c'⟩ := (show Rep w.params _ ⟨S'.loc, H', S'.gens⟩ s' from Rep.pick (loc := S'.loc) (gs := S'.gens) (H := S'.heap) r' pk).ex
  refine ⟨retOf fa, ⟨loc, H', S'.gens⟩, cb, ⟨⟨m, news', ⟨⟨oL, es, ep, F'.keep Γ.L oL hLg, hLd, hLk, hLf⟩, fun b o e => F'.keep b o (st b o e), F.above⟩, fun p hp => ⟨(N' p hp).1, fun q => ?_, ?_⟩, nd', l, c'⟩, ?_, ?_⟩, kk⟩
  · have := (N' p hp).2.2; rw [q] at this; rw [hLg] at this; cases this
  · cases q : Γ.h₀.get? p.1 with
    | none => rfl
    | some o => have := (N' p hp).2.2; rw [st _ _ q] at this; cases this
  · exact r'.gens
  · exact r'.os.trans p.os
end
end Mine
end
section
open PySem PySem.W PySem.Calls PyProof.Rows
namespace Mine

/-! what the written part says of a class -/
def ownOk (K : Frag) (C : Addr) (name : Str) : Bool := plainGet K C name && (hasDictIn K C && (match findIn K (.ref C) name with | some attr => noGet K attr | none => false))
def setOk (K : Frag) (C : Addr) (name : Str) : Bool := (findIn K (.ref C) "__setattr__" == some (some (.builtin "object.__setattr__"))) && (plainOver K C && ((takerIn K C name == some none) && hasDictIn K C))
def methOk (K : Frag) (C : Addr) (name : Str) (f : Addr) : Bool := plainGet K C name && ((findIn K (.ref C) name == some (some (.ref f))) && (isFn K (.ref f) && (hasDictIn K C &&
  ((specialIn K (.ref f) "__get__" == some (some (.builtin "function.__get__"))) && ((takesIn K (.ref f) == some false) && !copiedNames.contains name)))))
def clsOk (K : Frag) (C : Addr) (name : Str) (v : Value) : Bool := plainGet K C name && (hasDictIn K C && ((findIn K (.ref C) name == some (some v)) && ((specialIn K v "__get__" == some none) && (handedIn v && !copiedNames.contains name))))
theorem and2 {a b : Bool} (h : (a && b) = true) : a = true ∧ b = true := Bool.and_eq_true_iff.mp h

/-- a described value is handed on as it stands -/
inductive Tame : AV → Prop
  | none : Tame .none
  | bool {b} : Tame (.bool b)
  | int {i} : Tame (.int i)
  | str {l} : Tame (.str l)
  | ref {a} : Tame (.ref a)
theorem Tame.handed {av : AV} {v : Value} (t : Tame av) (c : Conc av v) : handedIn v = true := by
  cases t <;> cases c <;> rfl

section
variable {prog : Program} {w : World} {n : Nat} {Γ : Act} {KF : Frag} {S : St} {loc : Locs} {gs : Array GenState} {H : HL} {env : Env} {q : Str} {sc : Scope} {f : Addr} {cd : Value} {k : AV → St → Prop} {kb : Bool → St → Prop} {pos : Pos}

theorem Rep.inst {P : Params} {s : Shared} (p : Rep P Γ ⟨loc, H, gs⟩ s) {x C : Addr} {es : List (Str × AV)} (hx : (x, .inst C es) ∈ H) :
    ∃ m cells d ds nn, Fr Γ.h₀ Γ.L s.heap m ∧ News Γ.h₀ Γ.L s.heap cells ∧ InstAt s.heap x (instObj C d) C (some (dictOf ds nn)) ∧ EntC P es ds ∧ (es.map (·.1)).Nodup := by
  obtain ⟨m, cells, F, N, nd, l, c⟩ := p.ex
  obtain ⟨c', oc, sub⟩ := c.at hx
  cases oc with
  | @inst C es ds nn d ec nk => exact ⟨m, cells, d, ds, nn, F, N, InstAt.of_news N (sub _ (.head _)) (sub _ (.tail _ (.head _))), ec, nk⟩

theorem r_Attr {v : Expr} {attr : Str} (h : W prog w n Γ Conc (eval v env) S fun a S₁ => ∀ va, Conc a va → W prog w n Γ Conc (getAttr va attr true) S₁ k)
    (he : eval (.Attribute v attr pos) env = (do let o ← eval v env; standAt pos.atName; let r ← holding [o] (getAttr o attr true); letTemporaryGo v o r; pure r) := by with_unfolding_all rfl) :
    W prog w n Γ Conc (eval (.Attribute v attr pos) env) S k := .mk fun A s ro p =>
  Attribute_any_ (h.to ro p fun a b S₁ s₁ c p₁ z => (z a c).run A s₁ ro p₁) he

theorem a_own {x C : Addr} {es : List (Str × AV)} {name : Str} {av : AV} {ex : Bool} (G : Gnd KF Γ) (hx : (x, .inst C es) ∈ H) (hm : (name, av) ∈ es) (ht : Tame av) (ho : ownOk KF C name = true) (h : k av ⟨loc, H, gs⟩) :
    W prog w n Γ Conc (getAttr (.ref x) name ex) ⟨loc, H, gs⟩ k := by
  refine .mk fun A s ro p => ?_
  obtain ⟨m, cells, d, ds, nn, F, N, I, ec, nk⟩ := p.inst hx
  obtain ⟨v, hv, c⟩ := ec.getL nk hm
  obtain ⟨a1, a2⟩ := and2 ho
  obtain ⟨a2, a3⟩ := and2 a2
  cases q : findIn KF (.ref C) name with
  | none => rw [q] at a3; cases a3
  | some attr =>
    rw [q] at a3
    exact get_own F G.X I a1 a2 q a3 hv (ht.handed c) ⟨av, _, c, p.toks _, h⟩

theorem a_cls {x C : Addr} {es : List (Str × AV)} {name : Str} {v : Value} {av : AV} {ex : Bool} (G : Gnd KF Γ) (hx : (x, .inst C es) ∈ H) (hm : name ∉ es.map (·.1)) (ho : clsOk KF C name v = true) (c : Conc av v) (h : k av ⟨loc, H, gs⟩) :
    W prog w n Γ Conc (getAttr (.ref x) name ex) ⟨loc, H, gs⟩ k := by
  refine .mk fun A s ro p => ?_
  obtain ⟨m, cells, d, ds, nn, F, N, I, ec, nk⟩ := p.inst hx
  obtain ⟨a1, a2⟩ := and2 ho
  obtain ⟨a2, a3⟩ := and2 a2
  obtain ⟨a3, a4⟩ := and2 a3
  obtain ⟨a4, a5⟩ := and2 a4
  obtain ⟨a5, a6⟩ := and2 a5
  exact get_cls F G.X I a1 a2 (beq_iff_eq.mp a3) (beq_iff_eq.mp a4) a5 (by simpa using a6) (ec.getL_none hm) ⟨av, _, c, p.toks _, h⟩

theorem a_bound {x C g : Addr} {es : List (Str × AV)} {name : Str} {ex : Bool} (G : Gnd KF Γ) (hx : (x, .inst C es) ∈ H) (hm : name ∉ es.map (·.1)) (ho : methOk KF C name g = true) (h : ∀ b, k (.ref b) ⟨loc, (b, .meth g x) :: H, gs⟩) :
    W prog w n Γ Conc (getAttr (.ref x) name ex) ⟨loc, H, gs⟩ k := by
  refine .mk fun A s ro p => ?_
  obtain ⟨m, cells, F, N, nd, l, c⟩ := p.ex
  obtain ⟨c', oc, sub⟩ := c.at hx
  cases oc with
  | @inst C es ds nn d ec nk =>
    obtain ⟨a1, a2⟩ := and2 ho
    obtain ⟨a2, a3⟩ := and2 a2
    obtain ⟨a3, a4⟩ := and2 a3
    obtain ⟨a4, a5⟩ := and2 a4
    obtain ⟨a5, a6⟩ := and2 a5
    obtain ⟨a6, a7⟩ := and2 a6
    refine kbm_bound F G.X N (InstAt.of_news N (sub _ (.head _)) (sub _ (.tail _ (.head _)))) a1 a4 (beq_iff_eq.mp a2) a3 (beq_iff_eq.mp a5) (beq_iff_eq.mp a6) (by simpa using a7) (ec.getL_none hm) fun b h' F' N' lt => ?_
    refine ⟨.ref b, ⟨loc, (b, .meth g x) :: H, gs⟩, .ref b, ⟨⟨m, (b, methodObj (.ref g) (.ref x)) :: cells, F', N', ?_, l, .cons (c := [_]) .meth c⟩, p.gens, p.os⟩, h b⟩
    rw [List.map_cons, List.nodup_cons]
    refine ⟨fun hq => ?_, nd⟩
    obtain ⟨p', hp', e⟩ := List.mem_map.mp hq
    have := lt p' hp'
    rw [e] at this; exact Nat.lt_irrefl _ this

/-! calls -/
abbrev EqR {α : Type} : α → α → Prop := fun a b => b = a
theorem r_CallMeth {o : Expr} {name : Str} {apos : Pos} {args : List Expr} {pl : Sem Bool} (h : W prog w n Γ Conc (eval o env) S fun a S₁ => ∀ va, Conc a va → W prog w n Γ EqR (getMethod va name pl) S₁ fun fx S₂ => W prog w n Γ Conc (callWith pos fx.1 fx.2 (backTo pos (starEach args env)) []) S₂ k)
    (he : eval (.Call (.Attribute o name apos) args [] pos) env = (do let ov ← eval o env; standAt apos.atName; let (f, first) ← holding [ov] (getMethod ov name pl); callWith pos f first (backTo pos (starEach args env)) []) := by rfl) :
    W prog w n Γ Conc (eval (.Call (.Attribute o name apos) args [] pos) env) S k := .mk fun A s ro p =>
  MethodCall_ (h.to ro p fun a b S₁ s₁ c p₁ z => (z a c).to ro p₁ fun a' b' S₂ s₂ e p₂ z' => by cases (e : a' = b'); exact z'.run A s₂ ro p₂) he
theorem r_Call {func : Expr} {args : List Expr} (h : W prog w n Γ Conc (eval func env) S fun a S₁ => ∀ va, Conc a va → W prog w n Γ Conc (callWith pos va [] (backTo pos (starEach args env)) []) S₁ k)
    (he : eval (.Call func args [] pos) env = (do callWith pos (← eval func env) [] (backTo pos (starEach args env)) (backToKw pos (keywordEach [] env))) := by rfl) :
    W prog w n Γ Conc (eval (.Call func args [] pos) env) S k := .mk fun A s ro p =>
  Call_ (h.to ro p fun a b S₁ s₁ c p₁ z => (z a c).run A s₁ ro p₁) he

abbrev PairV := Value × List Value
theorem m_inst {x C g : Addr} {es : List (Str × AV)} {name : Str} {pl : Sem Bool} {kp : PairV → St → Prop} (G : Gnd KF Γ) (hx : (x, .inst C es) ∈ H) (hm : name ∉ es.map (·.1)) (ho : methOk KF C name g = true) (h : kp (.ref g, [.ref x]) ⟨loc, H, gs⟩) :
    W prog w n Γ EqR (getMethod (.ref x) name pl) ⟨loc, H, gs⟩ kp := by
  refine .mk fun A s ro p => ?_
  obtain ⟨m, cells, d, ds, nn, F, N, I, ec, nk⟩ := p.inst hx
  obtain ⟨a1, a2⟩ := and2 ho
  obtain ⟨a2, a3⟩ := and2 a2
  exact method_inst F G.X I a1 (beq_iff_eq.mp a2) (and2 a3).1 (ec.getL_none hm) ⟨(.ref g, [.ref x]), _, rfl, p, h⟩
/-- the class's own attribute hides nothing: an object's own value is called -/
theorem m_str {l : List Nat} {t : Tok} {name : Str} {id : String} {pl : Sem Bool} {kp : PairV → St → Prop} (slot : Slot "str" name id) (hty : typeOf (.builtin id) = pure (.type "method_descriptor")) (h : kp (.builtin id, [.str ⟨l.toArray⟩ t]) S) :
    W prog w n Γ EqR (getMethod (.str ⟨l.toArray⟩ t) name pl) S kp := .mk fun A s ro p =>
  getMethod_builtin (typeIs_str _ _ _) F.plainAttrs_str slot hty (fun _ e => nomatch e) ⟨_, S, rfl, p, h⟩
theorem Rep.list {P : Params} {s : Shared} (p : Rep P Γ ⟨loc, H, gs⟩ s) {x : Addr} {xs : List AV} (hx : (x, .list xs) ∈ H) : ∃ vs nn, ConcL xs vs ∧ s.heap.get? x = some (listOf vs.toArray nn) := by
  obtain ⟨m, cells, F, N, nd, l, c⟩ := p.ex
  obtain ⟨c', oc, sub⟩ := c.at hx
  cases oc with
  | list cl => exact ⟨_, _, cl, (N _ (sub _ (.head _))).1⟩
theorem Rep.tuple {P : Params} {s : Shared} (p : Rep P Γ ⟨loc, H, gs⟩ s) {x : Addr} {xs : List AV} (hx : (x, .tuple xs) ∈ H) : ∃ vs, ConcL xs vs ∧ s.heap.get? x = some { cls := .type "tuple", data := .seq vs.toArray } := by
  obtain ⟨m, cells, F, N, nd, l, c⟩ := p.ex
  obtain ⟨c', oc, sub⟩ := c.at hx
  cases oc with
  | tuple cl => exact ⟨_, cl, (N _ (sub _ (.head _))).1⟩
theorem Rep.dict {P : Params} {s : Shared} (p : Rep P Γ ⟨loc, H, gs⟩ s) {x : Addr} {es : List (Str × AV)} (hx : (x, .dict es) ∈ H) : ∃ ds nn, EntC P es ds ∧ (es.map (·.1)).Nodup ∧ (x == sysModules) = false ∧ s.heap.get? x = some (dictOf ds nn) := by
  obtain ⟨m, cells, F, N, nd, l, c⟩ := p.ex
  obtain ⟨c', oc, sub⟩ := c.at hx
  cases oc with
  | dict ec nk lo => exact ⟨_, _, ec, nk, lo, (N _ (sub _ (.head _))).1⟩
theorem m_list {x : Addr} {xs : List AV} {name : Str} {id : String} {pl : Sem Bool} {kp : PairV → St → Prop} (hx : (x, .list xs) ∈ H) (slot : Slot "list" name id) (hty : typeOf (.builtin id) = pure (.type "method_descriptor")) (h : kp (.builtin id, [.ref x]) ⟨loc, H, gs⟩) :
    W prog w n Γ EqR (getMethod (.ref x) name pl) ⟨loc, H, gs⟩ kp := .mk fun A s ro p => by
  obtain ⟨vs, nn, cl, ho⟩ := p.list hx
  exact getMethod_builtin ⟨_, ho, rfl⟩ F.plainAttrs_list slot hty (fun a e => by cases e; exact ⟨_, ho, rfl⟩) ⟨_, _, rfl, p, h⟩
theorem m_dict {x : Addr} {xs : List (Str × AV)} {name : Str} {id : String} {pl : Sem Bool} {kp : PairV → St → Prop} (hx : (x, .dict xs) ∈ H) (slot : Slot "dict" name id) (hty : typeOf (.builtin id) = pure (.type "method_descriptor")) (h : kp (.builtin id, [.ref x]) ⟨loc, H, gs⟩) :
    W prog w n Γ EqR (getMethod (.ref x) name pl) ⟨loc, H, gs⟩ kp := .mk fun A s ro p => by
  obtain ⟨ds, nn, ec, nk, lo, ho⟩ := p.dict hx
  exact getMethod_builtin ⟨_, ho, rfl⟩ F.plainAttrs_dict slot hty (fun a e => by cases e; exact ⟨_, ho, rfl⟩) ⟨_, _, rfl, p, h⟩

/-! the arguments -/
variable {kl : List AV → St → Prop}
theorem l_nil (h : kl [] S) : W prog w n Γ ConcL (spliced (backTo pos (starEach [] env))) S kl := .mk fun A s ro p => args_nil ⟨[], S, .nil, p, h⟩
theorem l_cons {e : Expr} {rest : List Expr} (h : W prog w n Γ Conc (eval e env) S fun a S₁ => W prog w n Γ ConcL (spliced (backTo pos (starEach rest env))) S₁ fun as S₂ => kl (a :: as) S₂)
    (he : starEach (e :: rest) env = (false, eval e env) :: starEach rest env := by rfl) : W prog w n Γ ConcL (spliced (backTo pos (starEach (e :: rest) env))) S kl := .mk fun A s ro p =>
  args_cons (h.to ro p fun v a S₁ s₁ c p₁ z => z.to ro p₁ fun vs as S₂ s₂ cl p₂ z' => ⟨a :: as, S₂, .cons c cl, p₂, z'⟩) he
theorem cl_nil {φ : List Value → Prop} (h : φ []) : ∀ vs, ConcL [] vs → φ vs := fun vs c => by cases c; exact h
theorem cl_cons {a : AV} {as : List AV} {φ : List Value → Prop} (h : ∀ v, Conc a v → ∀ vs, ConcL as vs → φ (v :: vs)) : ∀ vs, ConcL (a :: as) vs → φ vs := fun vs c => by cases c with | cons x y => exact h _ x _ y

theorem cw_K {g : Value} {first : List Value} {e : Expr} {rest : List Expr} (G : Gnd KF Γ) (hk : keepIn KF g = true) (h : W prog w n Γ ConcL (spliced (backTo pos (starEach (e :: rest) env))) S fun as S₁ => ∀ vs, ConcL as vs → W prog w n Γ Conc (call g (first ++ vs)) S₁ k)
    (he : starEach (e :: rest) env = (false, eval e env) :: starEach rest env := by rfl) (hplain : (backTo pos (starEach rest env)).any (·.1) = false := by rfl) : W prog w n Γ Conc (callWith pos g first (backTo pos (starEach (e :: rest) env)) []) S k := .mk fun A s ro p =>
  callWith_K G.X hk (h.to ro p fun vs as S₁ s₁ cl p₁ z => ⟨by obtain ⟨_, _, F, _⟩ := p₁.ex; exact G.X.keeps F.keep, (z vs cl).run A s₁ ro p₁⟩) he hplain
theorem cw_K0 {g : Value} {first : List Value} (G : Gnd KF Γ) (hk : keepIn KF g = true) (h : W prog w n Γ Conc (call g (first ++ [])) S k) : W prog w n Γ Conc (callWith pos g first (backTo pos (starEach [] env)) []) S k := .mk fun A s ro p =>
  callWith_K0 (by obtain ⟨_, _, F, _⟩ := p.ex; exact G.X.keeps F.keep) hk (h.run A s ro p)
theorem cw_B {id : String} {first : List Value} {e : Expr} {rest : List Expr} (h : W prog w n Γ ConcL (spliced (backTo pos (starEach (e :: rest) env))) S fun as S₁ => ∀ vs, ConcL as vs → W prog w n Γ Conc (call (.builtin id) (first ++ vs)) S₁ k)
    (he : starEach (e :: rest) env = (false, eval e env) :: starEach rest env := by rfl) (hplain : (backTo pos (starEach rest env)).any (·.1) = false := by rfl) : W prog w n Γ Conc (callWith pos (.builtin id) first (backTo pos (starEach (e :: rest) env)) []) S k := .mk fun A s ro p => by
  have z := h.to (E := fun _ _ => False) (Q := fun vs s₁ => wpAny (model prog w) A (call (.builtin id) (first ++ vs)) (fun a s' => ∃ b S', Conc b a ∧ Rep w.params Γ S' s' ∧ k b S') (fun _ _ => False) s₁) ro p (fun vs as S₁ s₁ cl p₁ z => (z vs cl).run A s₁ ro p₁)
  rw [he] at z ⊢
  exact callWith_builtin (by show (false || (backTo pos (starEach rest env)).any (·.1)) = false; rw [hplain]; rfl) (evalArgs_plain z)
theorem cw_B0 {id : String} {first : List Value} (h : W prog w n Γ Conc (call (.builtin id) (first ++ [])) S k) : W prog w n Γ Conc (callWith pos (.builtin id) first (backTo pos (starEach [] env)) []) S k := .mk fun A s ro p =>
  callWith_builtin rfl (evalArgs_nil3 (h.run A s ro p))

/-! a bound method that is kept in a name is called -/
def MethK (b g self : Addr) (first : List Value) (prog : Program) (w : World) (n : Nat) (Γ : Act) (k : AV → St → Prop) (as : List AV) (S : St) : Prop := (b, AO.meth g self) ∈ S.heap ∧ ∀ vs, ConcL as vs → W prog w n Γ Conc (call (.ref b) (first ++ vs)) S k
theorem cw_M {b g self : Addr} {first : List Value} {e : Expr} {rest : List Expr} (G : Gnd KF Γ) (hf : fnIn KF g = true) (h : W prog w n Γ ConcL (spliced (backTo pos (starEach (e :: rest) env))) S fun as S₁ => MethK b g self first prog w n Γ k as S₁)
    (he : starEach (e :: rest) env = (false, eval e env) :: starEach rest env := by rfl) (hplain : (backTo pos (starEach rest env)).any (·.1) = false := by rfl) : W prog w n Γ Conc (callWith pos (.ref b) first (backTo pos (starEach (e :: rest) env)) []) S k := .mk fun A s ro p => by
  have z := h.to (E := fun _ _ => False) (Q := fun vs s₁ => MethP KF b g (.ref self) s₁.heap ∧ wpAny (model prog w) A (call (.ref b) (first ++ vs)) (fun a s' => ∃ b S', Conc b a ∧ Rep w.params Γ S' s' ∧ k b S') (fun _ _ => False) s₁) ro p
    (fun vs as S₁ s₁ cl p₁ z => ⟨by
      obtain ⟨m, cells, F, N, nd, l, c⟩ := p₁.ex
      obtain ⟨c', oc, sub⟩ := c.at z.1
      cases oc with
      | meth => exact ⟨(N _ (sub _ (.head _))).1, G.X.keeps F.keep⟩, (z.2 vs cl).run A s₁ ro p₁⟩)
  rw [he] at z ⊢
  exact callWith_of (by show ((false || (backTo pos (starEach rest env)).any (·.1)) || false) = false; rw [hplain]; rfl) (keeps_M hf) (evalArgs_plain z)
theorem cw_M0 {b g self : Addr} {first : List Value} (G : Gnd KF Γ) (hf : fnIn KF g = true) (hb : (b, AO.meth g self) ∈ H) (h : W prog w n Γ Conc (call (.ref b) (first ++ [])) ⟨loc, H, gs⟩ k) : W prog w n Γ Conc (callWith pos (.ref b) first (backTo pos (starEach [] env)) []) ⟨loc, H, gs⟩ k := .mk fun A s ro p =>
  callWith_M0 (K := KF) (g := g) (self := .ref self) (by
      obtain ⟨m, cells, F, N, nd, l, c⟩ := p.ex
      obtain ⟨c', oc, sub⟩ := c.at hb
      cases oc with
      | meth => exact ⟨(N _ (sub _ (.head _))).1, G.X.keeps F.keep⟩) hf (h.run A s ro p)
end
end Mine
end
section
open PySem PySem.W PySem.Calls PyProof.Rows
namespace Mine

/-- an entry is stored: over the old one, or as the last -/
inductive PutE (x : Str) (v : AV) (es : List (Str × AV)) : List (Str × AV) → Prop
  | old {es'} : UpdE x v es es' → PutE x v es es'
  | new : x ∉ es.map (·.1) → PutE x v es (es ++ [(x, v)])
theorem PutE.ok {P : Params} {x : Str} {av : AV} {v : Value} {t : Tok} {es es' : List (Str × AV)} {ds : List DictEntry} (u : PutE x av es es') (cv : Conc av v) (ec : EntC P es ds) (nk : (es.map (·.1)).Nodup) :
    EntC P es' (putL x (PyData.keyHash P x) (.str x t) v ds) ∧ (es'.map (·.1)).Nodup ∧ (getL x ds).isSome = true := by
  cases u with
  | old u =>
    refine ⟨(ec.put cv u nk).1, by rw [u.keys]; exact nk, ?_⟩
    obtain ⟨p, hp, e⟩ := List.mem_map.mp u.mem
    obtain ⟨y, av'⟩ := p
    cases e
    obtain ⟨z, hz, _⟩ := ec.getL nk hp
    rw [hz]; rfl
  | new hn =>
    refine ⟨(ec.putNew cv hn).1, ?_, by rw [ec.getL_none hn]; rfl⟩
    rw [List.map_append, List.nodup_append]
    refine ⟨nk, by simp, fun a ha b hb e => ?_⟩
    simp only [List.map_cons, List.map_nil, List.mem_singleton] at hb
    exact hn (hb ▸ e ▸ ha)
theorem LocC.set {loc loc' : Locs} {m : Str → Option Value} {x : Str} {av : AV} {v : Value} (l : LocC loc m) (u : UpdE x av loc loc') (c : Conc av v) : LocC loc' (fun y => if y = x then some v else m y) := by
  obtain ⟨nd, k⟩ := l
  induction u with
  | @head b r =>
    refine ⟨nd, fun y a hm => ?_⟩
    rcases List.mem_cons.mp hm with e | e
    · cases e; exact .inr ⟨v, if_pos rfl, c⟩
    · rw [List.map_cons, List.nodup_cons] at nd
      have hne : y ≠ x := fun q => nd.1 (q ▸ List.mem_map_of_mem (f := (·.1)) e)
      rcases k y a (.tail _ e) with z | ⟨z, hz, cz⟩
      · exact .inl z
      · exact .inr ⟨z, by show (if y = x then some v else m y) = some z; rw [if_neg hne]; exact hz, cz⟩
  | @tail p r r' u ih =>
    have nd' := nd
    rw [List.map_cons, List.nodup_cons] at nd
    obtain ⟨nd₂, k₂⟩ := ih nd.2 fun y a hm => k y a (.tail _ hm)
    refine ⟨by rw [List.map_cons, List.nodup_cons]; exact ⟨by rw [u.keys]; exact nd.1, nd₂⟩, fun y a hm => ?_⟩
    rcases List.mem_cons.mp hm with e | e
    · subst e
      have hne : y ≠ x := fun q => nd.1 (q ▸ u.mem)
      rcases k y a (.head _) with z | ⟨z, hz, cz⟩
      · exact .inl z
      · exact .inr ⟨z, by show (if y = x then some v else m y) = some z; rw [if_neg hne]; exact hz, cz⟩
    · exact k₂ y a e

section
variable {prog : Program} {w : World} {n : Nat} {Γ : Act} {KF : Frag} {S : St} {loc : Locs} {gs : Array GenState} {H H' : HL} {env : Env} {q : Str} {sc : Scope} {f : Addr} {cd : Value} {k : AV → St → Prop} {kb : Bool → St → Prop} {ku : Unit → St → Prop} {kf : FA → St → Prop} {pos pos' : Pos}

theorem a_set {x C : Addr} {es es' : List (Str × AV)} {name : Str} {av : AV} {v : Value} (G : Gnd KF Γ) (hu : UpdH x (.inst C es) (.inst C es') H H') (ue : PutE name av es es') (cv : Conc av v) (ho : setOk KF C name = true) (hz : es'.length ≤ 1000) (h : ku () ⟨loc, H', gs⟩) :
    W prog w n Γ UnitR (setAttr (.ref x) name v) ⟨loc, H, gs⟩ ku := by
  refine .mk fun A s ro p => ?_
  obtain ⟨m, cells, F, N, nd, l, c⟩ := p.ex
  obtain ⟨pre, c', post, e, oc, kk⟩ := hu.split c
  subst e
  cases oc with
  | @inst C es ds nn d ec nk =>
    obtain ⟨a1, a2⟩ := and2 ho
    obtain ⟨a2, a3⟩ := and2 a2
    obtain ⟨a3, a4⟩ := and2 a3
    obtain ⟨ec', nk', hl⟩ := ue.ok (t := s.toks + 1) cv ec nk
    have sh : pre ++ ([(x, instObj C d), (d, dictOf ds nn)] ++ post) = (pre ++ [(x, instObj C d)]) ++ (d, dictOf ds nn) :: post := by simp
    refine set_dict (es := ds) (n := nn) F G.X N (InstAt.of_news N (List.mem_append_right _ (.head _)) (List.mem_append_right _ (.tail _ (.head _)))) rfl (beq_iff_eq.mp a1) a2 (beq_iff_eq.mp a3) a4 hl rfl
      (news' := (pre ++ [(x, instObj C d)]) ++ (d, dictOf (putL name (PyData.keyHash w.params name) (.str name (s.toks + 1)) v ds) (putN name ds nn)) :: post) ?_ (by rw [← ec'.length]; exact hz) fun h' F' N' => ?_
    · rw [sh]
      exact upd_of_nodup (by rw [← sh]; exact nd)
    · refine ⟨(), ⟨loc, H', gs⟩, trivial, ⟨⟨m, _, F', N', nodup_same (by rw [← sh]; exact nd), l, ?_⟩, p.gens, p.os⟩, h⟩
      have := kk _ (.inst ec' nk' (n := putN name ds nn) (d := d))
      simpa using this

/-! statements -/
theorem s_nil (h : kf .next S) : W prog w n Γ FlowR (execs [] env) S kf := .mk fun A s ro p => wpAny_execs_nil ⟨.next, S, .next, p, h⟩
/-- the rest of a block is run when its first statement ends of itself -/
def seqK (prog : Program) (w : World) (n : Nat) (Γ : Act) (rest : List Stmt) (env : Env) (kf : FA → St → Prop) : FA → St → Prop := fun fa S => match fa with
  | .next => W prog w n Γ FlowR (execs rest env) S kf
  | fa => kf fa S
theorem s_cons {st : Stmt} {rest : List Stmt} (h : W prog w n Γ FlowR (exec st env) S (seqK prog w n Γ rest env kf)) : W prog w n Γ FlowR (execs (st :: rest) env) S kf := .mk fun A s ro p =>
  wpAny_execs_cons (h.to ro p fun fl fa S₁ s₁ c p₁ z => by
    cases c with
    | next => exact (z).run A s₁ ro p₁
    | brk => exact ⟨.brk, S₁, .brk, p₁, z⟩
    | cont => exact ⟨.cont, S₁, .cont, p₁, z⟩
    | ret cv => exact ⟨.ret _, S₁, .ret cv, p₁, z⟩)
theorem q_next {rest : List Stmt} (h : W prog w n Γ FlowR (execs rest env) S kf) : seqK prog w n Γ rest env kf .next S := h
theorem q_ret {rest : List Stmt} {a : AV} (h : kf (.ret a) S) : seqK prog w n Γ rest env kf (.ret a) S := h
theorem q_brk {rest : List Stmt} (h : kf .brk S) : seqK prog w n Γ rest env kf .brk S := h
theorem q_cont {rest : List Stmt} (h : kf .cont S) : seqK prog w n Γ rest env kf .cont S := h
theorem q_end {a : AV} {loc' : Locs} (p : Pick H' H) (h : k a ⟨loc, H', gs⟩) : retK k loc (.ret a) ⟨loc', H, gs⟩ := ⟨H', p, h⟩
theorem q_fall {loc' : Locs} (p : Pick H' H) (h : k .none ⟨loc, H', gs⟩) : retK k loc .next ⟨loc', H, gs⟩ := ⟨H', p, h⟩

theorem s_Pass (h : kf .next S) : W prog w n Γ FlowR (exec (.Pass pos) env) S kf := .mk fun A s ro p => wpAny_Pass ⟨.next, S, .next, p, h⟩
theorem s_Return {e : Expr} (h : W prog w n Γ Conc (eval e env) S fun a S₁ => kf (.ret a) S₁) : W prog w n Γ FlowR (exec (.Return (some e) pos) env) S kf := .mk fun A s ro p =>
  wpAny_Return_some (h.to ro p fun v a S₁ s₁ c p₁ z => ⟨.ret a, S₁, .ret c, p₁, z⟩)
theorem s_Break (h : kf .brk S) : W prog w n Γ FlowR (exec (.Break pos) env) S kf := .mk fun A s ro p => fun _ _ _ => ⟨.brk, S, .brk, p, h⟩
theorem s_If {t : Expr} {body orelse : List Stmt} (h : W prog w n Γ BoolR (isTrue t env (eval t env)) S fun c S' => (c = true → W prog w n Γ FlowR (execs body env) S' kf) ∧ (c = false → W prog w n Γ FlowR (execs orelse env) S' kf)) :
    W prog w n Γ FlowR (exec (.If t body orelse pos) env) S kf := .mk fun A s ro p =>
  wpAny_If (h.to ro p fun a c S' s' e p' z => by
    cases (e : c = a)
    cases a
    · exact (z.2 rfl).run A s' ro p'
    · exact (z.1 rfl).run A s' ro p')
theorem br_t {c : Bool} {X Y : Prop} (e : c = true) (h : X) : (c = true → X) ∧ (c = false → Y) := ⟨fun _ => h, fun q => by rw [e] at q; cases q⟩
theorem br_f {c : Bool} {X Y : Prop} (e : c = false) (h : Y) : (c = true → X) ∧ (c = false → Y) := ⟨fun q => (by rw [e] at q; cases q), fun _ => h⟩
theorem br_t' {c : Bool} {X Y : Prop} (e : c = true) (h : X) : (c = false → Y) ∧ (c = true → X) := ⟨fun q => (by rw [e] at q; cases q), fun _ => h⟩
theorem br_f' {c : Bool} {X Y : Prop} (e : c = false) (h : Y) : (c = false → Y) ∧ (c = true → X) := ⟨fun _ => h, fun q => by rw [e] at q; cases q⟩

theorem st_name {x : Str} {av : AV} {v : Value} {loc' : Locs} (u : UpdE x av loc loc') (c : Conc av v) (h : ku () ⟨loc', H, gs⟩) (hk : sc.kind = .function := by rfl) (hl : (envOf q sc Γ.L f cd).kindOf x = some .local := by rfl) :
    W prog w n Γ UnitR (storeName (envOf q sc Γ.L f cd) x v) ⟨loc, H, gs⟩ ku := .mk fun A s ro p => by
  obtain ⟨m, cells, F, N, nd, l, cc⟩ := p.ex
  refine wpAny_storeName_local hl F.ns (fun h' hn hs => ?_) (by show (sc.kind == .class || (sc.kind == .module && Γ.L != mainGlobals)) = false; rw [hk]; rfl)
  exact ⟨(), ⟨loc', H, gs⟩, trivial, ⟨⟨_, cells, F.set hn hs, fun p hp => ⟨(hs.2 _ (N p hp).2.1).trans (N p hp).1, (N p hp).2⟩, nd, l.set u c, cc⟩, p.gens, p.os⟩, h⟩
/-- a name is bound, then on -/
def StoreK (x : Str) (a : AV) (S : St) (kf : FA → St → Prop) : Prop := ∃ loc', UpdE x a S.loc loc' ∧ kf .next ⟨loc', S.heap, S.gens⟩
theorem st_ok {x : Str} {a : AV} {loc' : Locs} (u : UpdE x a loc loc') (h : kf .next ⟨loc', H, gs⟩) : StoreK x a ⟨loc, H, gs⟩ kf := ⟨loc', u, h⟩
theorem s_AugName {x : Str} {e : Expr} {op : Operator} {p' : Pos} {av : AV} (hv : (x, av) ∈ loc) (hu : av ≠ .unb) (h : ∀ v, Conc av v → W prog w n Γ Conc (eval e (envOf q sc Γ.L f cd)) ⟨loc, H, gs⟩ fun a S₁ => ∀ va, Conc a va → W prog w n Γ Conc (inplaceOp op v va) S₁ fun b S₂ => StoreK x b S₂ kf)
    (hk : sc.kind = .function := by rfl) (hl : (envOf q sc Γ.L f cd).kindOf x = some .local := by rfl) (hd : (x == ("__debug__" : Str)) = false := by decide) :
    W prog w n Γ FlowR (exec (.AugAssign (.Name x p') op e pos) (envOf q sc Γ.L f cd)) ⟨loc, H, gs⟩ kf := .mk fun A s ro p => by
  obtain ⟨m, cells, F, N, nd, l, cc⟩ := p.ex
  rcases l.2 x av hv with e | ⟨v, hm, cv⟩
  · exact absurd e hu
  · refine wpAny_AugAssign_Name (wpAny_loadName_local hk hl F.ns hm ?_)
    exact (h v cv).to ro p fun v a S₁ s₁ c p₁ z => (z v c).to ro p₁ fun v' b S₂ s₂ c₂ p₂ z => by
      obtain ⟨loc', u, z⟩ := z
      exact (st_name (w := w) (n := n) (prog := prog) (ku := fun _ S => kf .next S) u c₂ z hk hl).to ro p₂ fun _ _ S₂ s₂ _ p₂ z => ⟨.next, S₂, .next, p₂, z⟩
theorem s_AssignAttr {o e : Expr} {attr : Str} {p' : Pos} (h : W prog w n Γ Conc (eval e env) S fun a S₁ => ∀ v, Conc a v → W prog w n Γ Conc (eval o env) S₁ fun b S₂ => ∀ vo, Conc b vo → W prog w n Γ UnitR (setAttr vo attr v) S₂ fun _ S₃ => kf .next S₃)
    (hs : swapsWith e (some (.Attribute o attr p')) pos.line env = pure false := by rfl) : W prog w n Γ FlowR (exec (.Assign [.Attribute o attr p'] e pos) env) S kf := .mk fun A s ro p =>
  plainObj_wpAny_Assign_Attribute (h.to ro p fun v a S₁ s₁ c p₁ z => (z v c).to ro p₁ fun v' b S₂ s₂ c₂ p₂ z => (z v' c₂).to ro p₂ fun _ _ S₃ s₃ _ p₃ z => ⟨.next, S₃, .next, p₃, z⟩) hs
theorem s_AssignSub {o i e : Expr} {p' : Pos} (h : W prog w n Γ Conc (eval e env) S fun a S₁ => ∀ v, Conc a v → W prog w n Γ Conc (eval o env) S₁ fun b S₂ => ∀ vo, Conc b vo → W prog w n Γ Conc (eval i env) S₂ fun c S₃ => ∀ vi, Conc c vi → W prog w n Γ UnitR (setItem vo vi v) S₃ fun _ S₄ => kf .next S₄)
    (hs : swapsWith e (some (.Subscript o i p')) pos.line env = pure false := by rfl) : W prog w n Γ FlowR (exec (.Assign [.Subscript o i p'] e pos) env) S kf := .mk fun A s ro p =>
  wpAny_Assign_Subscript (h.to ro p fun v a S₁ s₁ c p₁ z => (z v c).to ro p₁ fun v' b S₂ s₂ c₂ p₂ z => (z v' c₂).to ro p₂ fun v'' b' S₃ s₃ c₃ p₃ z => (z v'' c₃).to ro p₃ fun _ _ S₃ s₃ _ p₃ z => ⟨.next, S₃, .next, p₃, z⟩) hs
theorem s_AugAttr {o e : Expr} {attr : Str} {p' : Pos} {op : Operator} (h : W prog w n Γ Conc (eval o env) S fun b S₁ => ∀ vo, Conc b vo → W prog w n Γ Conc (getAttr vo attr true) S₁ fun c S₂ => ∀ old, Conc c old → W prog w n Γ Conc (eval e env) S₂ fun a S₃ => ∀ v, Conc a v →
      W prog w n Γ Conc (inplaceOp op old v) S₃ fun d S₄ => ∀ new, Conc d new → W prog w n Γ UnitR (setAttr vo attr new) S₄ fun _ S₅ => kf .next S₅) : W prog w n Γ FlowR (exec (.AugAssign (.Attribute o attr p') op e pos) env) S kf := .mk fun A s ro p =>
  wpAny_AugAssign_AttributeAny (h.to ro p fun v a S₁ s₁ c p₁ z => (z v c).to ro p₁ fun v' b S₂ s₂ c₂ p₂ z => (z v' c₂).to ro p₂ fun v'' b' S₃ s₃ c₃ p₃ z => (z v'' c₃).to ro p₃ fun v b S₄ s₄ c₄ p₄ z => (z v c₄).to ro p₄ fun _ _ S₃ s₃ _ p₃ z => ⟨.next, S₃, .next, p₃, z⟩)
theorem s_AugSub {o i e : Expr} {p' : Pos} {op : Operator} (h : W prog w n Γ Conc (eval o env) S fun b S₁ => ∀ vo, Conc b vo → W prog w n Γ Conc (eval i env) S₁ fun bi S₁' => ∀ vi, Conc bi vi → W prog w n Γ Conc (getItem vo vi) S₁' fun c S₂ => ∀ old, Conc c old → W prog w n Γ Conc (eval e env) S₂ fun a S₃ => ∀ v, Conc a v →
      W prog w n Γ Conc (inplaceOp op old v) S₃ fun d S₄ => ∀ new, Conc d new → W prog w n Γ UnitR (setItem vo vi new) S₄ fun _ S₅ => kf .next S₅)
    (hi : ∀ ov iv new, augStore i ov iv new = (do holding [new, ov, iv] (setItem ov iv new); release [new, ov, iv] []; pure .next) := by intros; rfl) : W prog w n Γ FlowR (exec (.AugAssign (.Subscript o i p') op e pos) env) S kf := .mk fun A s ro p =>
  wpAny_AugAssign_SubscriptAny (h.to ro p fun v a S₁ s₁ c p₁ z => (z v c).to ro p₁ fun v' b S₂ s₂ c₂ p₂ z => (z v' c₂).to ro p₂ fun v'' b' S₃ s₃ c₃ p₃ z => (z v'' c₃).to ro p₃ fun v b S₄ s₄ c₄ p₄ z => (z v c₄).to ro p₄ fun v b S₄ s₄ c₄ p₄ z => (z v c₄).to ro p₄ fun _ _ S₃ s₃ _ p₃ z => ⟨.next, S₃, .next, p₃, z⟩) hi
/-- an expression alone, that is no object -/
inductive NoRef : AV → Prop
  | none : NoRef .none
  | bool {b} : NoRef (.bool b)
  | int {i} : NoRef (.int i)
  | str {l} : NoRef (.str l)
theorem s_Expr {e : Expr} (h : W prog w n Γ Conc (eval e env) S fun a S₁ => NoRef a ∧ kf .next S₁) (hi : interactive env = false := by rfl) (hs : swapsWith e none pos.line env = pure false := by rfl) : W prog w n Γ FlowR (exec (.Expr e pos) env) S kf := .mk fun A s ro p =>
  wpAny_Expr (h.to ro p fun v a S₁ s₁ c p₁ z => by
    obtain ⟨z, y⟩ := z
    cases z <;> cases c <;> exact ⟨.next, S₁, .next, p₁, y⟩) hi hs

/-! while -/
theorem s_While {t : Expr} {body orelse : List Stmt} (I : Nat → St → Prop)
    (turn : ∀ j S, I j S → W prog w n Γ BoolR (isTrue t env (eval t env)) S fun c S' =>
      (c = true → W prog w n Γ FlowR (execs body env) S' fun fa S₂ => match fa with | .next | .cont => ∃ j', j' < j ∧ I j' S₂ | .brk => kf .next S₂ | .ret a => kf (.ret a) S₂) ∧ (c = false → W prog w n Γ FlowR (execs orelse env) S' kf))
    (j : Nat) (h : I j S) : W prog w n Γ FlowR (exec (.While t body orelse pos) env) S kf := .mk fun A s ro p => by
  refine wpAny_While (codeAny_whileLoop (fun j s => ∃ S, I j S ∧ Rep w.params Γ S s) (fun j s i => ?_) j ⟨S, h, p⟩)
  obtain ⟨S, i, p⟩ := i
  refine (turn j S i).to ro p fun a c S' s' e p' z => ?_
  cases (e : c = a)
  cases a
  · exact (z.2 rfl).to ro p' fun fl fa S₂ s₂ c p₂ z => ⟨fa, S₂, c, p₂, z⟩
  · refine (z.1 rfl).to ro p' fun fl fa S₂ s₂ c p₂ z => ?_
    cases c with
    | next => obtain ⟨j', a, b⟩ := z; exact ⟨j', a, S₂, b, p₂⟩
    | cont => obtain ⟨j', a, b⟩ := z; exact ⟨j', a, S₂, b, p₂⟩
    | brk => exact ⟨.next, S₂, .next, p₂, z⟩
    | ret c => exact ⟨.ret _, S₂, .ret c, p₂, z⟩
end
end Mine
end
section
open PySem PySem.W PySem.Calls PyProof.Rows PySem.Builtin PySem.Builtin.Str
namespace Mine

abbrev mkS (l : List Nat) : Str := ⟨l.toArray⟩
theorem mkS_len (l : List Nat) : (mkS l).length = l.length := by show l.toArray.size = _; simp
theorem mkS_list (l : List Nat) : (mkS l).cps.toList = l := by show l.toArray.toList = l; simp
theorem mkS_append (a b : List Nat) : mkS a ++ mkS b = mkS (a ++ b) := by show Str.mk (a.toArray ++ b.toArray) = Str.mk _; simp
theorem mkS_eq (x : Str) : x = mkS x.cps.toList := by obtain ⟨a⟩ := x; show Str.mk a = Str.mk _; simp

/-! a slice with step one -/
def clipN (v : Option Int) (d n : Nat) : Nat := match v with
  | none => d
  | some i => (max 0 (min (if i < 0 then i + n else i) n)).toNat
def slc (l : List Nat) (lo hi : Option Int) : List Nat := (l.drop (clipN lo 0 l.length)).take (clipN hi l.length l.length - clipN lo 0 l.length)
theorem clipN_le (v : Option Int) (d n : Nat) (h : d ≤ n) : clipN v d n ≤ n := by
  unfold clipN
  split
  · exact h
  · omega
theorem toNat_back {x : Int} {n : Nat} (h0 : 0 ≤ x) (h1 : x ≤ n) : max 0 (min (x.toNat : Int) n) = x := by omega
theorem max_min_le (x : Int) (n : Nat) : max 0 (min x n) ≤ n := by omega
theorem indices_clip (lo hi : Option Int) (n : Nat) : strSliceIndices lo hi 1 n = strSliceIndices (some (clipN lo 0 n : Nat)) (some (clipN hi n n : Nat)) 1 n := by
  have e1 := clipN_le lo 0 n (Nat.zero_le _)
  have e2 := clipN_le hi n n (Nat.le_refl _)
  have h1 : ¬ ((clipN lo 0 n : Int) < 0) := by omega
  have h2 : ¬ ((clipN hi n n : Int) < 0) := by omega
  simp only [strSliceIndices, h1, h2, if_false, show ((1 : Int) > 0) = True from by simp, if_true]
  congr 1
  · cases lo with
    | none => simp only [clipN]; omega
    | some i => simp only [clipN]; split <;> exact (toNat_back (Int.le_max_left _ _) (max_min_le _ _)).symm
  · cases hi with
    | none => simp only [clipN]; omega
    | some i => simp only [clipN]; split <;> exact (toNat_back (Int.le_max_left _ _) (max_min_le _ _)).symm
theorem picks_clip (l : List Nat) (lo hi : Option Int) : (strSliceIndices lo hi 1 l.length).filterMap (l.toArray[·]?) = slc l lo hi ∧ ((strSliceIndices lo hi 1 l.length).length = l.length → slc l lo hi = l) := by
  rw [indices_clip]
  have e1 := clipN_le lo 0 l.length (Nat.zero_le _)
  have e2 := clipN_le hi l.length l.length (Nat.le_refl _)
  unfold slc
  generalize clipN lo 0 l.length = a at *
  generalize clipN hi l.length l.length = b at *
  rcases Nat.lt_or_ge b a with h | h
  · have z : strSliceIndices (some (a : Int)) (some (b : Int)) 1 l.length = [] := by
      have h1 : ¬ ((a : Int) < 0) := by omega
      have h2 : ¬ ((b : Int) < 0) := by omega
      have e3 : max (0 : Int) (min (a : Int) (l.length : Int)) = a := by omega
      have e4 : max (0 : Int) (min (b : Int) (l.length : Int)) = b := by omega
      simp only [strSliceIndices, sliceRange, h1, h2, if_false, e3, e4, show ((1 : Int) > 0) = True from by simp, if_true]
      rw [if_neg (by omega)]
      rfl
    rw [z]
    refine ⟨by simp; omega, fun q => ?_⟩
    simp only [List.length_nil] at q
    have : l = [] := List.length_eq_zero_iff.mp q.symm
    subst this; simp
  · have p := StrLaws.sliced_plain (mkS l) h (by rw [mkS_len]; exact e2)
    rw [mkS_len, mkS_list] at p
    refine ⟨p, fun q => ?_⟩
    rw [StrLaws.strSliceIndices_plain h e2, List.length_map, List.length_range] at q
    have ha : a = 0 := by omega
    have hb : b = l.length := by omega
    subst ha; subst hb; simp
theorem sliceMade_slc {s : Shared} {l : List Nat} {t : Tok} {lo hi : Option (Int × Tok)} {Q : Value → Shared → Prop} (hz : l.length ≤ sizeLine) (h : ∀ t' k, Q (.str (mkS (slc l (lo.map (·.1)) (hi.map (·.1)))) t') { s with toks := k }) : (sliceMade (mkS l) t lo hi none).post Q s := by
  obtain ⟨p1, p2⟩ := picks_clip l (lo.map (·.1)) (hi.map (·.1))
  unfold sliceMade slicePicked
  rw [mkS_len]
  show (if ((1 : Int) == 1 && (strSliceIndices (lo.map (·.1)) (hi.map (·.1)) 1 l.length).length == l.length) = true then Made.val (Value.str (mkS l) t) else Made.str (Str.mk ((strSliceIndices (lo.map (·.1)) (hi.map (·.1)) 1 l.length).filterMap (l.toArray[·]?)).toArray)).post Q s
  rw [p1]
  by_cases c : (strSliceIndices (lo.map (·.1)) (hi.map (·.1)) 1 l.length).length = l.length
  · rw [if_pos (by simp [c])]
    have := h t s.toks
    rw [p2 c] at this
    exact this
  · rw [if_neg (by simp [c])]
    refine ⟨?_, h _ _⟩
    show (mkS (slc l _ _)).length ≤ sizeLine
    rw [mkS_len]
    unfold slc
    simp only [List.length_take, List.length_drop]
    omega

section
variable {prog : Program} {w : World} {n : Nat} {Γ : Act} {KF : Frag} {S : St} {loc : Locs} {gs : Array GenState} {H H' : HL} {env : Env} {k : AV → St → Prop} {kb : Bool → St → Prop} {ku : Unit → St → Prop} {pos : Pos} {a b : Int} {t u : Tok} {x y : List Nat}

/-! ints -/
theorem o_addI (h : k (.int (a + b)) S) : W prog w n Γ Conc (binaryOp .Add (.int a t) (.int b u)) S k := .mk fun A s ro p => P.add_int ⟨_, S, .int _ _, p.toks _, h⟩
theorem o_subI (h : k (.int (a - b)) S) : W prog w n Γ Conc (binaryOp .Sub (.int a t) (.int b u)) S k := .mk fun A s ro p => P.sub_int ⟨_, S, .int _ _, p.toks _, h⟩
theorem o_iaddI (h : k (.int (a + b)) S) : W prog w n Γ Conc (inplaceOp .Add (.int a t) (.int b u)) S k := .mk fun A s ro p => P.iadd_int ⟨_, S, .int _ _, p.toks _, h⟩
theorem o_isubI (h : k (.int (a - b)) S) : W prog w n Γ Conc (inplaceOp .Sub (.int a t) (.int b u)) S k := .mk fun A s ro p => P.isub_int ⟨_, S, .int _ _, p.toks _, h⟩
theorem o_modI (hb : b ≠ 0) (h : k (.int (a.fmod b)) S) : W prog w n Γ Conc (binaryOp .Mod (.int a t) (.int b u)) S k := .mk fun A s ro p => mod_int' hb ⟨_, S, .int _ _, p.toks _, h⟩
theorem o_fdivI (hb : b ≠ 0) (hp : divisionGoesByPylong a b = false) (h : k (.int (a.fdiv b)) S) : W prog w n Γ Conc (binaryOp .FloorDiv (.int a t) (.int b u)) S k := .mk fun A s ro p => floordiv_int hb ⟨_, S, .int _ _, p.toks _, h⟩ (.inl hp)
theorem q_eqI (h : k (.bool (a == b)) S) : W prog w n Γ Conc (compareOp .Eq (.int a t) (.int b u)) S k := .mk fun A s ro p => P.eq_int ⟨_, S, .bool _, p, h⟩
theorem q_neI (h : k (.bool (a != b)) S) : W prog w n Γ Conc (compareOp .NotEq (.int a t) (.int b u)) S k := .mk fun A s ro p => P.ne_int ⟨_, S, .bool _, p, h⟩
theorem q_ltI (h : k (.bool (decide (a < b))) S) : W prog w n Γ Conc (compareOp .Lt (.int a t) (.int b u)) S k := .mk fun A s ro p => P.lt_int ⟨_, S, .bool _, p, h⟩
theorem q_leI (h : k (.bool (decide (a ≤ b))) S) : W prog w n Γ Conc (compareOp .LtE (.int a t) (.int b u)) S k := .mk fun A s ro p => P.le_int ⟨_, S, .bool _, p, h⟩
theorem q_gtI (h : k (.bool (decide (a > b))) S) : W prog w n Γ Conc (compareOp .Gt (.int a t) (.int b u)) S k := .mk fun A s ro p => P.gt_int ⟨_, S, .bool _, p, h⟩
theorem q_geI (h : k (.bool (decide (a ≥ b))) S) : W prog w n Γ Conc (compareOp .GtE (.int a t) (.int b u)) S k := .mk fun A s ro p => P.ge_int ⟨_, S, .bool _, p, h⟩
/-! bools and None -/
theorem q_eqB {c d : Bool} (h : k (.bool (c == d)) S) : W prog w n Γ Conc (compareOp .Eq (.bool c) (.bool d)) S k := .mk fun A s ro p => eq_bool ⟨_, S, .bool _, p, h⟩
theorem q_is {v v' : Value} (hp : plainIs v v' = true) (h : k (.bool (v == v')) S) : W prog w n Γ Conc (compareOp .Is v v') S k := .mk fun A s ro p => wpAny_is_plain hp ⟨_, S, .bool _, p, h⟩
theorem q_isNot {v v' : Value} (hp : plainIs v v' = true) (h : k (.bool (!(v == v'))) S) : W prog w n Γ Conc (compareOp .IsNot v v') S k := .mk fun A s ro p => wpAny_isNot_plain hp ⟨_, S, .bool _, p, h⟩
theorem q_isNN (h : k (.bool true) S) : W prog w n Γ Conc (compareOp .Is .none .none) S k := q_is rfl h
theorem q_isSN {z : Str} (h : k (.bool false) S) : W prog w n Γ Conc (compareOp .Is (.str z t) .none) S k := q_is rfl h
theorem q_isIN (h : k (.bool false) S) : W prog w n Γ Conc (compareOp .Is (.int a t) .none) S k := q_is rfl h
theorem q_isRN {r : Addr} (h : k (.bool false) S) : W prog w n Γ Conc (compareOp .Is (.ref r) .none) S k := q_is rfl h
theorem q_isNotNN (h : k (.bool false) S) : W prog w n Γ Conc (compareOp .IsNot .none .none) S k := q_isNot rfl h
theorem q_isNotSN {z : Str} (h : k (.bool true) S) : W prog w n Γ Conc (compareOp .IsNot (.str z t) .none) S k := q_isNot rfl h
theorem q_isNotB {c d : Bool} (h : k (.bool (!(c == d))) S) : W prog w n Γ Conc (compareOp .IsNot (.bool c) (.bool d)) S k := q_isNot rfl (by cases c <;> cases d <;> exact h)
theorem q_isB {c d : Bool} (h : k (.bool (c == d)) S) : W prog w n Γ Conc (compareOp .Is (.bool c) (.bool d)) S k := q_is rfl (by cases c <;> cases d <;> exact h)
/-! texts -/
theorem o_addS (hz : x.length + y.length ≤ 1048576) (h : k (.str (x ++ y)) S) : W prog w n Γ Conc (binaryOp .Add (.str ⟨x.toArray⟩ t) (.str ⟨y.toArray⟩ u)) S k := .mk fun A s ro p =>
  SBL.add (fun t' kk _ => ⟨.str (x ++ y), S, by rw [show (⟨x.toArray⟩ : Str) ++ ⟨y.toArray⟩ = _ from mkS_append x y]; exact .str _ _, p.toks _, h⟩) (by have := mkS_len x; have := mkS_len y; rw [mkS_len, mkS_len, sizeLine_eq]; omega)
theorem o_iaddS (hz : x.length + y.length ≤ 1048576) (h : k (.str (x ++ y)) S) : W prog w n Γ Conc (inplaceOp .Add (.str ⟨x.toArray⟩ t) (.str ⟨y.toArray⟩ u)) S k := .mk fun A s ro p =>
  SBL.iadd (fun t' kk _ => ⟨.str (x ++ y), S, by rw [show (⟨x.toArray⟩ : Str) ++ ⟨y.toArray⟩ = _ from mkS_append x y]; exact .str _ _, p.toks _, h⟩) (by rw [mkS_len, mkS_len, sizeLine_eq]; omega)
theorem q_eqS (h : k (.bool (x == y)) S) : W prog w n Γ Conc (compareOp .Eq (.str ⟨x.toArray⟩ t) (.str ⟨y.toArray⟩ u)) S k := .mk fun A s ro p => P.eq_str ⟨_, S, .bool _, p, by simpa using h⟩
theorem q_neS (h : k (.bool (x != y)) S) : W prog w n Γ Conc (compareOp .NotEq (.str ⟨x.toArray⟩ t) (.str ⟨y.toArray⟩ u)) S k := .mk fun A s ro p => P.ne_str ⟨_, S, .bool _, p, by simpa using h⟩
theorem q_leS (h : k (.bool (!decide (y < x))) S) : W prog w n Γ Conc (compareOp .LtE (.str ⟨x.toArray⟩ t) (.str ⟨y.toArray⟩ u)) S k := .mk fun A s ro p => P.le_str ⟨_, S, .bool _, p, by simpa using h⟩
theorem q_eqSN {z : Str} (h : k (.bool false) S) : W prog w n Γ Conc (compareOp .Eq (.str z t) .none) S k := .mk fun A s ro p => EqNone.eq_str_none ⟨_, S, .bool _, p, h⟩
theorem q_eqNS {z : Str} (h : k (.bool false) S) : W prog w n Γ Conc (compareOp .Eq .none (.str z t)) S k := .mk fun A s ro p => EqNone.eq_none_str ⟨_, S, .bool _, p, h⟩
theorem q_eqNN (h : k (.bool true) S) : W prog w n Γ Conc (compareOp .Eq .none .none) S k := .mk fun A s ro p => EqNone.eq_none_none ⟨_, S, .bool _, p, h⟩
theorem u_str (hz : x.length < 1048576) (h : kb (!x.isEmpty) S) : W prog w n Γ BoolR (truthy (.str ⟨x.toArray⟩ t)) S kb := .mk fun A s ro p =>
  SBL.truthy (by rw [mkS_len]; omega) ⟨_, S, by rw [mkS_len]; cases x <;> simp; omega, p.toks _, h⟩
theorem f_len (hz : x.length < 1048576) (h : k (.int x.length) S) : W prog w n Γ Conc (call (.builtin "len") [.str ⟨x.toArray⟩ t]) S k := .mk fun A s ro p =>
  SBL.len (by rw [mkS_len]; omega) ⟨.int x.length, S, by rw [mkS_len]; exact .int _ _, p.toks _, h⟩
theorem f_ord {c : Nat} (h : k (.int c) S) : W prog w n Γ Conc (call (.builtin "ord") [.str ⟨[c].toArray⟩ t]) S k := .mk fun A s ro p => P.ord_of_char ⟨.int c, S, .int _ _, p.toks _, h⟩
theorem f_chr (h0 : 0 ≤ a) (h1 : a ≤ 1114111) (h : k (.str [a.toNat]) S) : W prog w n Γ Conc (call (.builtin "chr") [.int a t]) S k := .mk fun A s ro p => chr_of_range h0 h1 ⟨.str [a.toNat], S, .str _ _, p.toks _, h⟩
theorem f_join {D : Addr} {xs : List (List Nat)} (hD : (D, .list (xs.map .str)) ∈ H) (hz : (xs.map (·.length)).sum + xs.length * x.length ≤ 1048576) (h : k (.str (Txt.join (mkS x) (xs.map mkS)).cps.toList) ⟨loc, H, gs⟩) :
    W prog w n Γ Conc (call (.builtin "str.join") [.str ⟨x.toArray⟩ t, .ref D]) ⟨loc, H, gs⟩ k := .mk fun A s ro p => by
  obtain ⟨vs, nn, cl, ho⟩ := p.list hD
  have sa : ∀ (xs : List (List Nat)) vs, ConcL (xs.map .str) vs → StrsAre vs (xs.map mkS) := by
    intro xs
    induction xs with
    | nil => intro vs c; cases c; exact .nil
    | cons a r ih => intro vs c; cases c with | cons c1 c2 => cases c1; exact .cons _ _ (ih _ c2)
  refine join_list (ys := xs.map mkS) ⟨_, ho, rfl, nn, rfl⟩ (sa xs vs cl) ?_ fun t' kk => ⟨.str (Txt.join (mkS x) (xs.map mkS)).cps.toList, _, ?_, p.toks _, h⟩
  · rw [List.map_map, List.length_map, mkS_len, show (fun y : Str => y.length) ∘ mkS = fun l => l.length from funext mkS_len]; omega
  · conv => rhs; rw [mkS_eq (Txt.join _ _)]
    exact .str _ _
end
end Mine
end
section
open PySem PySem.W PySem.Calls PyProof.Rows PySem.Builtin PySem.Builtin.Str
namespace Mine

/-! dicts with texts as keys, in the library's words -/
theorem EntC.pairs {prog : Program} {w : World} {es : List (Str × AV)} {ds : List DictEntry} (h : EntC w.params es ds) : ∃ kvs, Pairs (PySem.strKind prog w) ds kvs ∧ BindC es kvs ∧ (∀ e ∈ ds, ∃ k, (PySem.strKind prog w).is k e.key = true ∧ e.hash = (PySem.strKind prog w).hash k) := by
  induction h with
  | nil => exact ⟨[], .nil, .nil, fun e h => nomatch h⟩
  | @cons k v l t x m c _ ih =>
    obtain ⟨kvs, a, b, d⟩ := ih
    refine ⟨(k, x) :: kvs, .cons (strKind_is prog w k t) rfl a, .cons ⟨rfl, c⟩ b, fun e he => ?_⟩
    rcases List.mem_cons.mp he with q | q
    · subst q; exact ⟨k, strKind_is prog w k t, rfl⟩
    · exact d e q
theorem BindC.keys {es : List (Str × AV)} {kvs : List (Str × Value)} (h : BindC es kvs) : kvs.map (·.1) = es.map (·.1) := by
  induction h with
  | nil => rfl
  | cons r _ ih => rw [List.map_cons, List.map_cons, ih, r.1]
theorem isDict {prog : Program} {w : World} {es : List (Str × AV)} {ds : List DictEntry} {nn : Nat} (h : EntC w.params es ds) (nk : (es.map (·.1)).Nodup) : ∃ kvs, (dictOf ds nn).IsDictOf (PySem.strKind prog w) kvs ∧ BindC es kvs := by
  obtain ⟨kvs, a, b, d⟩ := h.pairs (prog := prog)
  exact ⟨kvs, ⟨ds.toArray, nn, ⟨rfl, rfl, rfl⟩, rfl, fun e he => d e (by simpa using he), by simpa using a, by rw [BindC.keys b]; exact nk⟩, b⟩
theorem ofDict {prog : Program} {w : World} {es : List (Str × AV)} {kvs : List (Str × Value)} {o : Obj} (h : o.IsDictOf (PySem.strKind prog w) kvs) (b : BindC es kvs) : ∃ ds nn, o = dictOf ds nn ∧ EntC w.params es ds := by
  obtain ⟨ea, ep, ⟨h1, h2, h3⟩, hd, hk, hp, -⟩ := h
  obtain ⟨c, dd, dt, sl⟩ := o
  cases h1; cases h2; cases h3; cases hd
  refine ⟨ea.toList, ep, by simp [dictOf], ?_⟩
  have hk' : ∀ e ∈ ea.toList, ∃ k, (PySem.strKind prog w).is k e.key = true ∧ e.hash = (PySem.strKind prog w).hash k := fun e he => hk e (by simpa using he)
  clear hk
  generalize ea.toList = ds at hk' hp
  clear ea
  induction hp generalizing es with
  | nil => cases b; exact .nil
  | @cons e kv ds kvs i v hp ih =>
    cases b with
    | @cons a _ l _ r rs =>
      obtain ⟨k, z⟩ := a
      obtain ⟨k', v'⟩ := kv
      obtain ⟨hsh, ky, vl⟩ := e
      obtain ⟨r1, r2⟩ := r
      dsimp only at r1 r2 i v
      subst r1
      subst v
      obtain ⟨t, rfl⟩ := Value.isStrOf_shape i
      obtain ⟨k₂, i₂, e₂⟩ := hk' _ (.head _)
      have : k₂ = k := by
        have := i₂
        simp only [PySem.strKind, Value.isStrOf] at this
        exact (beq_iff_eq.mp this).symm
      subst this
      dsimp only at e₂
      subst e₂
      exact .cons r2 (ih rs fun e he => hk' e (.tail _ he))
theorem BindC.valueAt {es : List (Str × AV)} {kvs : List (Str × Value)} (h : BindC es kvs) (nk : (es.map (·.1)).Nodup) {x : Str} {av : AV} (hm : (x, av) ∈ es) : ∃ v, PySem.valueAt kvs x = some v ∧ Conc av v := by
  induction h with
  | nil => cases hm
  | @cons a b l m r _ ih =>
    rw [List.map_cons, List.nodup_cons] at nk
    obtain ⟨y, v⟩ := b
    obtain ⟨e, c⟩ := r
    unfold PySem.valueAt
    rw [List.find?_cons]
    rcases List.mem_cons.mp hm with q | q
    · subst q
      dsimp only at e
      subst e
      simp only [decide_true]
      exact ⟨v, rfl, c⟩
    · have hne : y ≠ x := fun z => nk.1 (by rw [e, z]; exact List.mem_map_of_mem (f := (·.1)) q)
      simp only [hne, decide_false]
      exact ih nk.2 q
theorem BindC.absent {es : List (Str × AV)} {kvs : List (Str × Value)} (h : BindC es kvs) {x : Str} (hm : x ∉ es.map (·.1)) : PySem.valueAt kvs x = none := valueAt_none_of_not_mem (by rw [BindC.keys h]; exact hm)
theorem BindC.stored {es es' : List (Str × AV)} {kvs : List (Str × Value)} (h : BindC es kvs) (nk : (es.map (·.1)).Nodup) {x : Str} {av : AV} {v : Value} (c : Conc av v) (u : PutE x av es es') : BindC es' (PySem.stored kvs x v) ∧ (es'.map (·.1)).Nodup := by
  cases u with
  | new hn =>
    rw [stored_absent (BindC.absent h hn)]
    refine ⟨All2.append h (.cons ⟨rfl, c⟩ .nil), ?_⟩
    rw [List.map_append, List.nodup_append]
    refine ⟨nk, by simp, fun a ha b hb e => ?_⟩
    simp only [List.map_cons, List.map_nil, List.mem_singleton] at hb
    exact hn (hb ▸ e ▸ ha)
  | old u =>
    refine ⟨?_, by rw [u.keys]; exact nk⟩
    have hx : kvs.any (fun kv => kv.1 = x) = true := by
      have : x ∈ kvs.map (·.1) := by rw [BindC.keys h]; exact u.mem
      obtain ⟨p, hp, e⟩ := List.mem_map.mp this
      exact List.any_eq_true.mpr ⟨p, hp, by simpa using e⟩
    unfold PySem.stored
    rw [if_pos hx]
    clear hx
    have same : ∀ (l : List (Str × AV)) (m : List (Str × Value)), BindC l m → x ∉ l.map (·.1) → m.map (fun kv => if kv.1 = x then (kv.1, v) else kv) = m := by
      intro l m b
      induction b with
      | nil => intro _; rfl
      | @cons p q l m r _ ih =>
        intro hn
        rw [List.map_cons, List.mem_cons, not_or] at hn
        rw [List.map_cons, ih hn.2, if_neg (by rw [← r.1]; exact Ne.symm hn.1)]
    induction u generalizing kvs with
    | @head b r =>
      cases h with
      | @cons _ q _ m r1 rs =>
        rw [List.map_cons, List.nodup_cons] at nk
        rw [List.map_cons, same _ _ rs nk.1, if_pos r1.1.symm]
        exact .cons ⟨r1.1, c⟩ rs
    | @tail p r r' u ih =>
      cases h with
      | @cons _ q _ m r1 rs =>
        rw [List.map_cons, List.nodup_cons] at nk
        rw [List.map_cons, if_neg (by rw [← r1.1]; exact fun e => nk.1 (e ▸ u.mem))]
        exact .cons r1 (ih rs nk.2)
inductive UpdHF : Prop
theorem updF_of_nodup {d : Addr} {o : Obj} : ∀ {pre post : List (Addr × Obj)}, ((pre ++ (d, o) :: post).map (·.1)).Nodup → UpdF d o (pre ++ (d, o) :: post) (fun o' => pre ++ (d, o') :: post)
  | [], post, h => .head fun p hp e => by
      rw [List.nil_append, List.map_cons, List.nodup_cons] at h
      exact h.1 (e ▸ List.mem_map_of_mem (f := (·.1)) hp)
  | p :: pre, post, h => by
      rw [List.cons_append, List.map_cons, List.nodup_cons] at h
      refine .tail (fun e => h.1 (e ▸ ?_)) (updF_of_nodup h.2)
      rw [List.map_append, List.map_cons]
      exact List.mem_append_right _ (.head _)

section
variable {prog : Program} {w : World} {n : Nat} {Γ : Act} {KF : Frag} {S : St} {loc : Locs} {gs : Array GenState} {H H' : HL} {env : Env} {k : AV → St → Prop} {kb : Bool → St → Prop} {ku : Unit → St → Prop} {pos p' : Pos} {t u : Tok}

theorem Rep.fresh {s : Shared} {P : Params} (p : Rep P Γ S s) (o : Obj) (hf : o.isFreed = false := by rfl) : Rep P Γ S { s with heap := s.heap.push o } := by
  obtain ⟨m, cells, F, N, nd, l, c⟩ := p.ex
  exact ⟨⟨m, cells, F.push _, fun q hq => N.push F _ hf q (.tail _ hq), nd, l, c⟩, p.gens, p.os⟩

/-- a new object on top -/
theorem Rep.new {s : Shared} {P : Params} (p : Rep P Γ ⟨loc, H, gs⟩ s) {o : Obj} {ao : AO} (oc : ObjC P s.heap.objs.size ao [(s.heap.objs.size, o)]) (hf : o.isFreed = false := by rfl) : Rep P Γ ⟨loc, (s.heap.objs.size, ao) :: H, gs⟩ { s with heap := s.heap.push o } := by
  obtain ⟨m, cells, F, N, nd, l, c⟩ := p.ex
  refine ⟨⟨m, (s.heap.objs.size, o) :: cells, F.push _, N.push F _ hf, ?_, l, .cons (c := [_]) oc c⟩, p.gens, p.os⟩
  rw [List.map_cons, List.nodup_cons]
  refine ⟨fun hq => ?_, nd⟩
  obtain ⟨q, hq, e⟩ := List.mem_map.mp hq
  have := Heap.lt_size (N q hq).1
  rw [e] at this
  exact Nat.lt_irrefl _ this

/-! displays -/
def NewL (k : AV → St → Prop) (as : List AV) (S : St) : Prop := as.length ≤ 100000 ∧ ∀ a, k (.ref a) ⟨S.loc, (a, .list as) :: S.heap, S.gens⟩
def NewT (k : AV → St → Prop) (as : List AV) (S : St) : Prop := as.length ≤ 100000 ∧ ∀ a, k (.ref a) ⟨S.loc, (a, .tuple as) :: S.heap, S.gens⟩
theorem nl_ok {as : List AV} (hl : as.length ≤ 100000) (h : ∀ a, k (.ref a) ⟨loc, (a, .list as) :: H, gs⟩) : NewL k as ⟨loc, H, gs⟩ := ⟨hl, h⟩
theorem nt_ok {as : List AV} (hl : as.length ≤ 100000) (h : ∀ a, k (.ref a) ⟨loc, (a, .tuple as) :: H, gs⟩) : NewT k as ⟨loc, H, gs⟩ := ⟨hl, h⟩
def NewD (k : AV → St → Prop) (d : Addr) (es : List (Str × AV)) (S : St) : Prop := (es.map (·.1)).Nodup ∧ ∃ H', UpdH d (.dict []) (.dict es) S.heap H' ∧ k (.ref d) ⟨S.loc, H', S.gens⟩
theorem nd_ok {d : Addr} {es : List (Str × AV)} (hn : (es.map (·.1)).Nodup) (u : UpdH d (.dict []) (.dict es) H H') (h : k (.ref d) ⟨loc, H', gs⟩) : NewD k d es ⟨loc, H, gs⟩ := ⟨hn, H', u, h⟩
theorem d_List {elts : List Expr} (h : W prog w n Γ ConcL (spliced (backTo pos (starEach elts env))) S fun as S₁ => NewL k as S₁) : W prog w n Γ Conc (eval (.List elts pos) env) S k := .mk fun A s ro p =>
  List_ (h.to ro p fun vs as S₁ s₁ cl p₁ z => wpAny_newObj_type ⟨.ref s₁.heap.objs.size, ⟨S₁.loc, (s₁.heap.objs.size, .list as) :: S₁.heap, S₁.gens⟩, .ref _, p₁.new (.list cl), z.2 _⟩ (by
    show vs.toArray.size ≤ sizeLine; rw [List.size_toArray, ← cl.length, sizeLine_eq]; have := z.1; omega))
theorem d_Tuple {elts : List Expr} {j : Nat} (h : W prog w n Γ ConcL (spliced (backTo pos (starEach elts env))) S fun as S₁ => NewT k as S₁) : W prog w n Γ Conc (eval (.Tuple elts j pos) env) S k := .mk fun A s ro p =>
  Tuple_ (h.to ro p fun vs as S₁ s₁ cl p₁ z => wpAny_newObj_type ⟨.ref s₁.heap.objs.size, ⟨S₁.loc, (s₁.heap.objs.size, .tuple as) :: S₁.heap, S₁.gens⟩, .ref _, p₁.new (.tuple cl), z.2 _⟩ (by
    show vs.toArray.size ≤ sizeLine; rw [List.size_toArray, ← cl.length, sizeLine_eq]; have := z.1; omega))
/-- the pairs of a dict's display -/
def P2 : List (Str × AV) → List (Value × Value) → Prop := All2 fun e p => (∃ t, p.1 = .str e.1 t) ∧ Conc e.2 p.2
variable {kp : List (Str × AV) → St → Prop}
theorem e2_nil (h : kp [] S) : W prog w n Γ P2 (evalPairs (pairTrees [] [] env pos)) S kp := W.pure .nil h
theorem e2_cons {ke ve : Expr} {ks : List (Option Expr)} {vs : List Expr} (h : W prog w n Γ Conc (eval ke env) S fun a S₁ => ∃ l, a = .str l ∧ W prog w n Γ Conc (eval ve env) S₁ fun b S₂ => W prog w n Γ P2 (evalPairs (pairTrees ks vs env pos)) S₂ fun ps S₃ => kp ((mkS l, b) :: ps) S₃) :
    W prog w n Γ P2 (evalPairs (pairTrees (some ke :: ks) (ve :: vs) env pos)) S kp := .mk fun A s ro p => by
  show wpAny _ _ (do let kv ← eval ke env; let vv ← holding [kv] (do let x ← eval ve env; standAt pos; pure x); return (kv, vv) :: (← holding [kv, vv] (evalPairs (pairTrees ks vs env pos)))) _ _ _
  refine wpAny_bind (h.to ro p fun v a S₁ s₁ c p₁ z => ?_)
  obtain ⟨l, rfl, z⟩ := z
  cases c
  refine wpAny_bind (wpAny_holding (wpAny_bind (z.to ro p₁ fun v' b S₂ s₂ c₂ p₂ z => wpAny_bind (wpAny_standAt (wpAny_pure ?_)))))
  exact wpAny_bind (wpAny_holding (z.to ro p₂ fun ps' ps S₃ s₃ c₃ p₃ z => wpAny_pure ⟨_, S₃, .cons ⟨⟨_, rfl⟩, c₂⟩ c₃, p₃, z⟩))
theorem e2_lit {x : Str} {j : Nat} {ve : Expr} {ks : List (Option Expr)} {vs : List Expr} (h : W prog w n Γ Conc (eval ve env) S fun b S₂ => W prog w n Γ P2 (evalPairs (pairTrees ks vs env pos)) S₂ fun ps S₃ => kp ((x, b) :: ps) S₃) :
    W prog w n Γ P2 (evalPairs (pairTrees (some (.Constant (.str x) j p') :: ks) (ve :: vs) env pos)) S kp := e2_cons (r_str ⟨_, rfl, h⟩)
theorem P2.keys {es : List (Str × AV)} {ps : List (Value × Value)} (h : P2 es ps) : allStrKeys ps = true ∧ BindC es (strPairs ps) := by
  induction h with
  | nil => exact ⟨rfl, .nil⟩
  | @cons a b l m r _ ih =>
    obtain ⟨b1, b2⟩ := b
    obtain ⟨⟨t, e⟩, c⟩ := r
    dsimp only at e
    subst e
    exact ⟨ih.1, .cons ⟨rfl, c⟩ ih.2⟩
theorem d_Dict {keys : List (Option Expr)} {values : List Expr} (G : Gnd KF Γ) (hall : keys.all (·.isSome) = true) (hl : keys.length = values.length) (h0 : keys ≠ []) (hlen : keys.length ≤ 15)
    (h : ∀ d, W prog w n Γ P2 (evalPairs (pairTrees keys values env pos)) ⟨loc, (d, .dict []) :: H, gs⟩ fun es S₁ => NewD k d es S₁) :
    W prog w n Γ Conc (eval (.Dict keys values pos) env) ⟨loc, H, gs⟩ k := .mk fun A s ro p => by
  obtain ⟨_, _, _, _, T⟩ := G.T
  obtain ⟨m, cells, F, N, nd, l, c⟩ := p.ex
  refine kdn_eval (knd := PySem.strKind prog w) F N T.nolimit hall hl h0 hlen fun d h' o F' N' lt lo hd => ?_
  obtain ⟨ds, nn, rfl, ec⟩ := ofDict (es := []) hd .nil
  have p' : Rep w.params Γ ⟨loc, (d, .dict []) :: H, gs⟩ { s with heap := h' } := ⟨⟨m, (d, dictOf ds nn) :: cells, F', N', by
    rw [List.map_cons, List.nodup_cons]
    refine ⟨fun hq => ?_, nd⟩
    obtain ⟨q, hq, e⟩ := List.mem_map.mp hq
    have := lt q hq
    rw [e] at this
    exact Nat.lt_irrefl _ this, l, .cons (c := [_]) (.dict ec .nil lo) c⟩, p.gens, p.os⟩
  refine (h d).to ro p' fun ps es S₁ s₁ c₁ p₁ z => ?_
  obtain ⟨nk, H', uh, z⟩ := z
  obtain ⟨m₁, cells₁, F₁, N₁, nd₁, l₁, c₁'⟩ := p₁.ex
  obtain ⟨pre, c', post, e, oc, kk⟩ := uh.split c₁'
  subst e
  obtain ⟨ak, bc⟩ := c₁.keys
  cases oc with
  | @dict _ ds₁ nn₁ ec₁ nk₁ lo₁ =>
    cases ec₁
    refine kdn_made_str F₁ N₁ (updF_of_nodup nd₁) (by obtain ⟨kvs, a, b⟩ := isDict (prog := prog) (nn := nn₁) (EntC.nil (P := w.params)) .nil; cases b; exact a) ak (by rw [BindC.keys bc]; exact nk) fun h₂ o' F₂ N₂ hd₂ => ?_
    obtain ⟨ds₂, nn₂, rfl, ec₂⟩ := ofDict hd₂ bc
    exact ⟨.ref d, ⟨S₁.loc, H', S₁.gens⟩, .ref d, ⟨⟨m₁, _, F₂, N₂, nodup_same nd₁, l₁, kk _ (.dict ec₂ nk lo₁)⟩, p₁.gens, p₁.os⟩, z⟩
end
end Mine
end
section
open PySem PySem.W PySem.Calls PyProof.Rows PySem.Builtin PySem.Builtin.Str
namespace Mine

/-! equality of plain values -/
inductive Pl : AV → Prop
  | none : Pl .none
  | bool {b} : Pl (.bool b)
  | int {i} : Pl (.int i)
  | str {l} : Pl (.str l)
def eqA : AV → AV → Bool
  | .none, .none => true
  | .bool a, .bool b => a == b
  | .int a, .int b => a == b
  | .str a, .str b => a == b
  | .bool a, .int b => (if a then 1 else 0) == b
  | .int a, .bool b => a == (if b then 1 else 0)
  | _, _ => false
theorem eqA_s (x y : List Nat) : eqA (.str x) (.str y) = (x == y) := rfl
theorem eqA_i (x y : Int) : eqA (.int x) (.int y) = (x == y) := rfl
theorem eqA_self {a : AV} (p : Pl a) : eqA a a = true := by cases p <;> first | rfl | exact beq_self_eq_true _
theorem mkS_beq (x y : List Nat) : ((mkS x) == (mkS y)) = (x == y) := by
  by_cases h : x = y
  · subst h; simp
  · have : mkS x ≠ mkS y := fun e => h (by have := congrArg (fun s : Str => s.cps.toList) e; simpa using this)
    rw [beq_eq_false_iff_ne.mpr h, beq_eq_false_iff_ne.mpr this]
theorem eqAt_pl {A : Around} {s : Shared} {a b : AV} {v v' : Value} (ha : Pl a) (hb : Pl b) (ca : Conc a v) (cb : Conc b v') : SeqAt.EqAt A s v v' (eqA a b) := by
  cases ha <;> cases hb <;> cases ca <;> cases cb
  · exact .same _
  · exact .none_bool _
  · exact .none_int _ _
  · exact .none_str _ _
  · exact .bool_none _
  · exact .bool_bool _ _
  · exact .bool_int _ _ _
  · exact .bool_str _ _ _
  · exact .int_none _ _
  · exact .int_bool _ _ _
  · exact .int_int _ _ _ _
  · exact .int_str _ _ _ _
  · exact .str_none _ _
  · exact .str_bool _ _ _
  · exact .str_int _ _ _ _
  · rename_i x y t u
    have := SeqAt.EqAt.str_str (A := A) (s := s) (mkS x) t (mkS y) u
    rw [mkS_beq] at this
    exact this
theorem All2.mem {α β : Type} {R : α → β → Prop} {l : List α} {m : List β} (h : All2 R l m) {b : β} (hb : b ∈ m) : ∃ a ∈ l, R a b := by
  induction h with
  | nil => cases hb
  | cons r _ ih =>
    rcases List.mem_cons.mp hb with q | q
    · subst q; exact ⟨_, .head _, r⟩
    · obtain ⟨a, h, r⟩ := ih q; exact ⟨a, .tail _ h, r⟩
theorem any_conc {A : Around} {s : Shared} {xs : List AV} {vs : List Value} {a : AV} {v : Value} (hx : ∀ x ∈ xs, Pl x) (ha : Pl a) (ca : Conc a v) (cl : ConcL xs vs) : ∃ e : Value → Bool, (∀ y ∈ vs, SeqAt.EqAt A s y v (e y)) ∧ vs.any e = xs.any fun x => eqA x a := by
  classical
  refine ⟨fun y => if h : ∃ x ∈ xs, Conc x y then eqA h.choose a else false, fun y hy => ?_, ?_⟩
  · obtain ⟨x, hm, c⟩ := cl.mem hy
    have h : ∃ x ∈ xs, Conc x y := ⟨x, hm, c⟩
    simp only [h, dif_pos]
    exact eqAt_pl (hx _ h.choose_spec.1) ha h.choose_spec.2 ca
  · have key : ∀ (xs' : List AV) (vs' : List Value), ConcL xs' vs' → (∀ x ∈ xs', x ∈ xs) → (vs'.any fun y => if h : ∃ x ∈ xs, Conc x y then eqA h.choose a else false) = xs'.any fun x => eqA x a := by
      intro xs' vs' c
      induction c with
      | nil => intro _; rfl
      | @cons x y l m r _ ih =>
        intro hs
        rw [List.any_cons, List.any_cons, ih fun z hz => hs z (.tail _ hz)]
        congr 1
        have h : ∃ x ∈ xs, Conc x y := ⟨x, hs x (.head _), r⟩
        rw [dif_pos h]
        have hp := hx _ h.choose_spec.1
        have hp' := hx x (hs x (.head _))
        have hc := h.choose_spec.2
        generalize h.choose = x' at hp hc
        cases hp <;> cases hp' <;> cases hc <;> cases r <;> rfl
    exact key xs vs cl fun x h => h

def strsOf : List Value → Option (List (List Nat))
  | [] => some []
  | .str x _ :: r => (strsOf r).map (x.cps.toList :: ·)
  | _ => none
theorem strsOf_conc : ∀ {l : List Value} {xs : List (List Nat)}, strsOf l = some xs → ConcL (xs.map .str) l
  | [], _, e => by cases e; exact .nil
  | v :: r, xs, e => by
    cases v <;> try cases e
    rename_i x t
    unfold strsOf at e
    cases q : strsOf r with
    | none => rw [q] at e; cases e
    | some ys => rw [q] at e; cases e; exact .cons (.str x.cps.toList t) (strsOf_conc q)
theorem seqIndex_some {a : Int} {n j : Nat} (h : seqIndex? a n = some j) : j < n ∧ ((0 ≤ a ∧ a = j) ∨ (a < 0 ∧ a + n = j)) := by
  unfold seqIndex? at h
  by_cases neg : a < 0
  · simp only [neg, if_true] at h
    by_cases c : (decide (0 ≤ a + (n : Int)) && decide (a + (n : Int) < n)) = true
    · rw [if_pos c] at h; cases h
      simp only [Bool.and_eq_true, decide_eq_true_eq] at c
      omega
    · rw [if_neg c] at h; cases h
  · simp only [neg, if_false] at h
    by_cases c : (decide (0 ≤ a) && decide (a < (n : Int))) = true
    · rw [if_pos c] at h; cases h
      simp only [Bool.and_eq_true, decide_eq_true_eq] at c
      omega
    · rw [if_neg c] at h; cases h
/-- a tuple of texts that stands in the written part -/
def strTup (K : Frag) (a : Addr) : Option (List (List Nat)) := match K.lookup a with
  | some ⟨.type "tuple", none, .seq vs _, _⟩ => strsOf vs.toList
  | _ => none
theorem strTup_of {K : Frag} {h : Heap} (X : K.In h) {a : Addr} {xs : List (List Nat)} (e : strTup K a = some xs) : ∃ vs, h.IsTuple a vs.toArray ∧ ConcL (xs.map .str) vs := by
  unfold strTup at e
  split at e
  · rename_i vs nn sl q
    exact ⟨vs.toList, ⟨_, X _ _ q, rfl, nn, by simp⟩, strsOf_conc e⟩
  · cases e

theorem upd_list {P : Params} {cells : List (Addr × Obj)} {H H' : HL} {D : Addr} {xs : List AV} {ao : AO} (hu : UpdH D (.list xs) ao H H') (c : HeapC P H cells) (nd : (cells.map (·.1)).Nodup) :
    ∃ vs nn pre post, ConcL xs vs ∧ cells = pre ++ (D, listOf vs.toArray nn) :: post ∧ (∀ o', Upd D (listOf vs.toArray nn) o' cells (pre ++ (D, o') :: post)) ∧ (∀ o', ((pre ++ (D, o') :: post).map (·.1)).Nodup) ∧ ∀ c', ObjC P D ao c' → HeapC P H' (pre ++ (c' ++ post)) := by
  obtain ⟨pre, c', post, e, oc, kk⟩ := hu.split c
  subst e
  cases oc with
  | @list _ vs nn cl =>
    exact ⟨vs, nn, pre, post, cl, rfl, fun o' => upd_of_nodup nd, fun o' => nodup_same nd, kk⟩

theorem tail_any {prog : Program} {w : World} {A : Around} {E : Value → Shared → Prop} {s : Shared} {value slice : Expr} {o i : Value} {T id : String} {Q : Value → Shared → Prop} (hT : s.TypeIs o T) (hl : typeLookup (.type T) "__getitem__" = pure (some (.builtin id)))
    (h : wpAny (model prog w) A (getItem o i) Q E s) : wpAny (model prog w) A (subscriptTail value slice o i) Q E s := by
  unfold subscriptTail
  refine wpAny_bind ?_
  rw [getitemInPython_of_ne hT.not_modules]
  refine wpAny_bind (wpAny_specialOf hT hl ?_)
  have g : wpAny (model prog w) A (getItem o i) (fun r s₃ => wpAny (model prog w) A (letTemporaryGo value o r >>= fun _ => pure r) Q E s₃) E s := wpAny_mono h (fun r s₃ h₃ => wpAny_bind (wpAny_letTemporaryGo (wpAny_pure h₃))) fun _ _ x => x
  have fin : wpAny (model prog w) A (subscripted slice false o i) (fun r s₃ => wpAny (model prog w) A (letTemporaryGo value o r >>= fun _ => pure r) Q E s₃) E s := by
    unfold subscripted
    split
    · exact wpAny_operating g
    · rename_i q; cases q
    · exact wpAny_operating g
  first
    | exact wpAny_pure (wpAny_bind fin)
    | exact wpAny_bind (wpAny_pure (wpAny_bind fin))
    | exact wpAny_bind fin
theorem ne_pre {cells pre post : List (Addr × Obj)} {d : Addr} {o : Obj} (nd : (cells.map (·.1)).Nodup) (e : cells = pre ++ (d, o) :: post) : ∀ p ∈ pre, p.1 ≠ d := fun p hp q => by
  subst e
  rw [List.map_append, List.map_cons, List.nodup_append] at nd
  exact nd.2.2 p.1 (List.mem_map_of_mem (f := (·.1)) hp) d (.head _) q
theorem ne_post {cells pre post : List (Addr × Obj)} {d : Addr} {o : Obj} (nd : (cells.map (·.1)).Nodup) (e : cells = pre ++ (d, o) :: post) : ∀ p ∈ post, p.1 ≠ d := fun p hp q => by
  subst e
  rw [List.map_append, List.map_cons, List.nodup_append, List.nodup_cons] at nd
  exact nd.2.1.1 (q ▸ List.mem_map_of_mem (f := (·.1)) hp)
theorem setAt {prog : Program} {w : World} {A : Around} {E : Value → Shared → Prop} {s : Shared} {D : Addr} {vs : List Value} {nn j : Nat} {a : Int} {u : Tok} {v : Value} {Q : Unit → Shared → Prop} (ha : a = (j : Int)) (ho : s.heap.get? D = some (listOf vs.toArray nn)) (hj : j < vs.length) (hz : (j : Int) < 9223372036854775808)
    (h : Q () { s with heap := s.heap.update D (Obj.mapSeq (·.setIfInBounds j v)) }) : wpAny (model prog w) A (setItem (.ref D) (.int a u) v) Q E s := by
  have il : s.heap.IsList D vs.toArray := ⟨_, ho, rfl, nn, rfl⟩
  have hx : vs.toArray[j]? = some vs[j] := by simp [hj]
  unfold setItem
  try with_reducible refine wpAny_holding ?_
  first | refine wpAny_bind (wpAny_pure ?_) | skip
  refine wpAny_bind (wpAny_sequenceKey il.typeIs (by decide) ?_)
  refine wpAny_bind (wpAny_callSpecial?_slot (name := Str.ofString "__setitem__") il.typeIs slot_list_setitem (wpAny_call_entry slot_list_setitem il.typeIs entry_list_setitem ?_ (args_list_setitem _ _ _)))
  show wpAny _ _ (Builtin.List.listSubscript? (.int a u) >>= _) _ _ s
  refine wpAny_bind (wpAny_listSubscript_int (fitsIndex_of (by omega) (by omega)) ?_)
  subst ha
  clear hz
  show wpAny _ _ ((seqItemAt D j >>= fun r => pure (r.map (j, ·))) >>= _) _ _ s
  refine wpAny_bind (wpAny_bind (wpAny_seqItemAt ho rfl (wpAny_pure ?_)))
  rw [hx]
  show wpAny _ _ (setSeqItemAt D j v >>= _) _ _ s
  refine wpAny_bind (wpAny_setSeqItemAt ho rfl ?_)
  exact wpAny_bind (wpAny_pure (wpAny_pure ⟨.none, rfl, wpAny_pure h⟩))
theorem Tame.bd {av : AV} (t : Tame av) : av ≠ .unb := by cases t <;> intro e <;> cases e
section
variable {prog : Program} {w : World} {n : Nat} {Γ : Act} {KF : Frag} {S : St} {loc : Locs} {gs : Array GenState} {H H' : HL} {env : Env} {k : AV → St → Prop} {kb : Bool → St → Prop} {ku : Unit → St → Prop} {kf : FA → St → Prop} {pos p' : Pos} {t u : Tok}

/-! membership -/
theorem q_inT {a : Addr} {xs : List AV} {av : AV} {v : Value} (ha : (a, .tuple xs) ∈ H) (hx : ∀ x ∈ xs, Pl x) (pv : Pl av) (cv : Conc av v) (h : k (.bool (xs.any fun x => eqA x av)) ⟨loc, H, gs⟩) : W prog w n Γ Conc (compareOp .In v (.ref a)) ⟨loc, H, gs⟩ k := .mk fun A s ro p => by
  obtain ⟨vs, cl, ho⟩ := p.tuple ha
  obtain ⟨e, he, hq⟩ := any_conc (A := A.in1) (s := s) hx pv cv cl
  exact SeqAt.in_tupleAt e ⟨_, ho, rfl, _, rfl⟩ (fun y hy => he y (by simpa using hy)) ⟨_, _, by rw [List.any_toArray, hq]; exact .bool _, p, h⟩
theorem q_inK {a : Addr} {xs : List (List Nat)} {av : AV} {v : Value} (G : Gnd KF Γ) (ha : strTup KF a = some xs) (pv : Pl av) (cv : Conc av v) (h : k (.bool ((xs.map AV.str).any fun x => eqA x av)) S) : W prog w n Γ Conc (compareOp .In v (.ref a)) S k := .mk fun A s ro p => by
  obtain ⟨_, _, F, _⟩ := p.ex
  obtain ⟨vs, ht, cl⟩ := strTup_of (G.X.keeps F.keep) ha
  obtain ⟨e, he, hq⟩ := any_conc (A := A.in1) (s := s) (fun x hx => by obtain ⟨l, _, rfl⟩ := List.mem_map.mp hx; exact .str) pv cv cl
  exact SeqAt.in_tupleAt e ht (fun y hy => he y (by simpa using hy)) ⟨_, S, by rw [List.any_toArray, hq]; exact .bool _, p, h⟩
theorem q_inS {x y : List Nat} (h : k (.bool !(occurrences (mkS x) (mkS y) 0 (mkS x).length 1).isEmpty) S) : W prog w n Γ Conc (compareOp .In (.str ⟨y.toArray⟩ u) (.str ⟨x.toArray⟩ t)) S k := .mk fun A s ro p => P.in_str ⟨_, S, .bool _, p, h⟩

/-! subscripts -/
theorem x_Sub {v sl : Expr} (h : W prog w n Γ Conc (eval v env) S fun a S₁ => ∀ vo, Conc a vo → W prog w n Γ Conc (eval sl env) S₁ fun b S₂ => ∀ vi, Conc b vi → W prog w n Γ Conc (subscriptTail v sl vo vi) S₂ k) : W prog w n Γ Conc (eval (.Subscript v sl pos) env) S k := .mk fun A s ro p =>
  Subscript_ (h.to ro p fun a b S₁ s₁ c p₁ z => (z a c).to ro p₁ fun a' b' S₂ s₂ c' p₂ z' => (z' a' c').run A s₂ ro p₂)
theorem i_list {l : Addr} {xs : List AV} {a : Int} {j : Nat} {av : AV} (hl : (l, .list xs) ∈ H) (hj : seqIndex? a xs.length = some j) (hx : xs[j]? = some av) (hz : xs.length ≤ 1048576) (h : k av ⟨loc, H, gs⟩) : W prog w n Γ Conc (getItem (.ref l) (.int a u)) ⟨loc, H, gs⟩ k := .mk fun A s ro p => by
  obtain ⟨vs, nn, cl, ho⟩ := p.list hl
  obtain ⟨v, hv, c⟩ := cl.get hx
  have hlen := cl.length
  have il : s.heap.IsList l vs.toArray := ⟨_, ho, rfl, nn, rfl⟩
  obtain ⟨h1, h2⟩ := seqIndex_some hj
  rcases h2 with ⟨h2, h3⟩ | ⟨h2, h3⟩
  · exact wpAny_getItem_list il h2 (by omega) (by rw [show a.toNat = j by omega]; simpa using hv) ⟨av, _, c, p, h⟩
  · exact wpAny_getItem_list_neg il h2 (by rw [List.size_toArray, ← hlen]; omega) (by omega) (by rw [List.size_toArray, ← hlen, show (a + (xs.length : Int)).toNat = j by omega]; simpa using hv) ⟨av, _, c, p, h⟩
theorem t_list {v sl : Expr} {l : Addr} {a : Int} (h : W prog w n Γ Conc (getItem (.ref l) (.int a u)) ⟨loc, H, gs⟩ k) {xs : List AV} (hl : (l, .list xs) ∈ H) : W prog w n Γ Conc (subscriptTail v sl (.ref l) (.int a u)) ⟨loc, H, gs⟩ k := .mk fun A s ro p => by
  obtain ⟨vs, nn, cl, ho⟩ := p.list hl
  exact tail_any (T := "list") ⟨_, ho, rfl⟩ list_getitem_lookup (h.run A s ro p)
theorem i_strJ {x : List Nat} {a : Int} {j c : Nat} (hj : seqIndex? a x.length = some j) (hc : x[j]? = some c) (hz : x.length ≤ 1048576) (h : k (.str [c]) S) : W prog w n Γ Conc (getItem (.str ⟨x.toArray⟩ t) (.int a u)) S k := .mk fun A s ro p => by
  have e : (Str.length ⟨x.toArray⟩) = x.length := mkS_len x
  refine P.getItem_str (c := c) ?_ ?_ ⟨.str [c], S, .str _ _, p.toks _, h⟩
  · obtain ⟨h1, h2⟩ := seqIndex_some hj
    rw [decide_eq_false (by omega), decide_eq_false (by omega)]; rfl
  · rw [e, hj]; simpa using hc
theorem t_str {v sl : Expr} {x : Str} {a : Int} (h : W prog w n Γ Conc (getItem (.str x t) (.int a u)) S k) : W prog w n Γ Conc (subscriptTail v sl (.str x t) (.int a u)) S k := .mk fun A s ro p =>
  tail_any (T := "str") (typeIs_str _ _ _) F.slot_str_getitem.lookup (h.run A s ro p)
theorem i_tuple {l : Addr} {xs : List AV} {a : Int} {j : Nat} {av : AV} {v sl : Expr} (hl : (l, .tuple xs) ∈ H) (hlo : -(2 ^ 63) ≤ a) (hhi : a < 2 ^ 63) (hj : seqIndex? a xs.length = some j) (hx : xs[j]? = some av) (h : k av ⟨loc, H, gs⟩) : W prog w n Γ Conc (subscriptTail v sl (.ref l) (.int a u)) ⟨loc, H, gs⟩ k := .mk fun A s ro p => by
  obtain ⟨vs, cl, ho⟩ := p.tuple hl
  obtain ⟨x, hv, c⟩ := cl.get hx
  exact tail_any (T := "tuple") ⟨_, ho, rfl⟩ F.slot_tuple_getitem.lookup (getItem_tuple (items := vs.toArray) ⟨_, ho, rfl, _, rfl⟩ hlo hhi (by rw [List.size_toArray, ← cl.length]; exact hj) (by simpa using hv) ⟨av, _, c, p, h⟩)

/-- a dict of the written part with texts as keys -/
def StatD (K : Frag) (P : Params) (d : Addr) (es : List (Str × AV)) : Prop := ∃ ds nn, K.lookup d = some (dictOf ds nn) ∧ EntC P es ds ∧ (es.map (·.1)).Nodup
def SubK (x : Str) (k : AV → St → Prop) (a : AV) (S : St) : Prop := ∃ d es av, a = .ref d ∧ (d, AO.dict es) ∈ S.heap ∧ (x, av) ∈ es ∧ k av S
theorem sb_ok {x : Str} {d : Addr} {es : List (Str × AV)} {av : AV} (hd : (d, AO.dict es) ∈ H) (hm : (x, av) ∈ es) (h : k av ⟨loc, H, gs⟩) : SubK x k (.ref d) ⟨loc, H, gs⟩ := ⟨d, es, av, rfl, hd, hm, h⟩
theorem x_SubLit {v : Expr} {x : Str} {j : Nat} (h : W prog w n Γ Conc (eval v env) S fun a S₁ => SubK x k a S₁) :
    W prog w n Γ Conc (eval (.Subscript v (.Constant (.str x) j p') pos) env) S k := .mk fun A s ro p =>
  Subscript_ (h.to ro p fun a b S₁ s₁ c p₁ z => by
    obtain ⟨d, es, av, rfl, hd, hm, z⟩ := z
    cases c
    refine Constant_str ?_
    obtain ⟨ds, nn, ec, nk, lo, ho⟩ := p₁.dict hd
    obtain ⟨kvs, hD, bc⟩ := isDict (prog := prog) (nn := nn) ec nk
    obtain ⟨y, hy, cy⟩ := bc.valueAt nk hm
    have dd : s₁.heap.DictOf (PySem.strKind prog w) d kvs := Heap.dictOf_iff.mpr ⟨_, ho, hD⟩
    exact tail_any (T := "dict") dd.typeIs slot_dict_getitem.lookup (wpAny_getItem_of (knd := PySem.strKind prog w) (strKind_is prog w x _) dd.mapOf hy ⟨av, S₁, cy, (p₁.toks _).toks _, z⟩))
def SubKK (K : Frag) (P : Params) (es : List (Str × AV)) (x : Str) (k : AV → St → Prop) (a : AV) (S : St) : Prop := ∃ d av, a = .ref d ∧ StatD K P d es ∧ (x, av) ∈ es ∧ k av S
theorem sk_ok {P : Params} {x : Str} {d : Addr} {es : List (Str × AV)} {av : AV} (hd : StatD KF P d es) (hm : (x, av) ∈ es) (h : k av S) : SubKK KF P es x k (.ref d) S := ⟨d, av, rfl, hd, hm, h⟩
theorem x_SubLitK {v : Expr} {x : Str} {j : Nat} {es : List (Str × AV)} (G : Gnd KF Γ) (h : W prog w n Γ Conc (eval v env) S fun a S₁ => SubKK KF w.params es x k a S₁) :
    W prog w n Γ Conc (eval (.Subscript v (.Constant (.str x) j p') pos) env) S k := .mk fun A s ro p =>
  Subscript_ (h.to ro p fun a b S₁ s₁ c p₁ z => by
    obtain ⟨d, av, rfl, ⟨ds, nn, hk, ec, nk⟩, hm, z⟩ := z
    cases c
    refine Constant_str ?_
    obtain ⟨_, _, F, _⟩ := p₁.ex
    have ho := G.X.keeps F.keep _ _ hk
    obtain ⟨kvs, hD, bc⟩ := isDict (prog := prog) (nn := nn) ec nk
    obtain ⟨y, hy, cy⟩ := bc.valueAt nk hm
    have dd : s₁.heap.DictOf (PySem.strKind prog w) d kvs := Heap.dictOf_iff.mpr ⟨_, ho, hD⟩
    exact tail_any (T := "dict") dd.typeIs slot_dict_getitem.lookup (wpAny_getItem_of (knd := PySem.strKind prog w) (strKind_is prog w x _) dd.mapOf hy ⟨av, S₁, cy, (p₁.toks _).toks _, z⟩))
theorem i_setD {d : Addr} {es es' : List (Str × AV)} {x : Str} {av : AV} {v : Value} (hu : UpdH d (.dict es) (.dict es') H H') (ue : PutE x av es es') (cv : Conc av v) (hz : es.length ≤ 1000) (h : ku () ⟨loc, H', gs⟩) : W prog w n Γ UnitR (setItem (.ref d) (.str x t) v) ⟨loc, H, gs⟩ ku := .mk fun A s ro p => by
  obtain ⟨m, cells, F, N, nd, l, c⟩ := p.ex
  obtain ⟨pre, c', post, e, oc, kk⟩ := hu.split c
  subst e
  cases oc with
  | @dict _ ds nn ec nk lo =>
    obtain ⟨kvs, hD, bc⟩ := isDict (prog := prog) (nn := nn) ec nk
    obtain ⟨bc', nk'⟩ := bc.stored nk cv ue
    refine kda_set (knd := PySem.strKind prog w) F N (updF_of_nodup nd) hD (strKind_is prog w x t) (by have := bc.length; rw [← this, sizeLine_eq]; omega) fun h' o' F' N' hd' => ?_
    obtain ⟨ds', nn', rfl, ec'⟩ := ofDict hd' bc'
    exact ⟨(), ⟨loc, H', gs⟩, trivial, ⟨⟨m, _, F', N', nodup_same nd, l, kk _ (.dict ec' nk' lo)⟩, p.gens, p.os⟩, h⟩
theorem i_getD {d : Addr} {es : List (Str × AV)} {x : Str} {av : AV} (hd : (d, .dict es) ∈ H) (hm : (x, av) ∈ es) (h : k av ⟨loc, H, gs⟩) : W prog w n Γ Conc (getItem (.ref d) (.str x t)) ⟨loc, H, gs⟩ k := .mk fun A s ro p => by
  obtain ⟨ds, nn, ec, nk, lo, ho⟩ := p.dict hd
  obtain ⟨kvs, hD, bc⟩ := isDict (prog := prog) (nn := nn) ec nk
  obtain ⟨y, hy, cy⟩ := bc.valueAt nk hm
  have dd : s.heap.DictOf (PySem.strKind prog w) d kvs := Heap.dictOf_iff.mpr ⟨_, ho, hD⟩
  exact wpAny_getItem_of (knd := PySem.strKind prog w) (strKind_is prog w x _) dd.mapOf hy ⟨av, _, cy, p.toks _, h⟩
theorem i_setL {D : Addr} {xs : List AV} {a : Int} {j : Nat} {av : AV} {v : Value} (hj : a = (j : Int)) (hlt : j < xs.length) (hu : UpdH D (.list xs) (.list (xs.set j av)) H H') (cv : Conc av v) (hz : xs.length ≤ 1048576) (h : ku () ⟨loc, H', gs⟩) : W prog w n Γ UnitR (setItem (.ref D) (.int a u) v) ⟨loc, H, gs⟩ ku := .mk fun A s ro p => by
  obtain ⟨m, cells, F, N, nd, l, c⟩ := p.ex
  obtain ⟨vs, nn, pre, post, cl, e, U, nd', kk⟩ := upd_list hu c nd
  subst hj
  have D1 := N (D, listOf vs.toArray nn) (by rw [e]; simp)
  refine setAt rfl D1.1 (by rw [← cl.length]; exact hlt) (by omega) ?_
  refine ⟨(), ⟨loc, H', gs⟩, trivial, ⟨⟨m, pre ++ (D, (listOf vs.toArray nn).mapSeq (·.setIfInBounds j v)) :: post, F.change (Heap.SameBut.update ..) D1.2.1 D1.2.2, ?_, nd' _, l, kk [_] ?_⟩, p.gens, p.os⟩, h⟩
  · rw [e] at N
    exact news_set N (ne_pre nd e) (ne_post nd e) (Heap.SameBut.update ..) (Heap.get?_update_self _ D1.1 rfl)
  · have e2 : ∀ (xs : List AV) (vs : List Value) (j : Nat), ConcL xs vs → ConcL (xs.set j av) (vs.set j v) := by
      intro xs vs j cl
      induction cl generalizing j with
      | nil => exact .nil
      | cons r rs ih =>
        cases j with
        | zero => exact .cons cv rs
        | succ j => exact .cons r (ih j)
    have e3 : ∃ nn', (listOf vs.toArray nn).mapSeq (·.setIfInBounds j v) = listOf (vs.set j v).toArray nn' := by
      refine ⟨(if (vs.toArray.setIfInBounds j v).size == vs.toArray.size then nn else nn + 1), ?_⟩
      show (⟨.type "list", none, .seq (vs.toArray.setIfInBounds j v) (if (vs.toArray.setIfInBounds j v).size == vs.toArray.size then nn else nn + 1), #[]⟩ : Obj) = _
      rw [List.setIfInBounds_toArray]
    obtain ⟨nn', e3⟩ := e3
    rw [e3]
    exact .list (e2 _ _ j cl)

/-! lists' methods -/
theorem f_append {D : Addr} {xs : List AV} {av : AV} {v : Value} (hu : UpdH D (.list xs) (.list (xs ++ [av])) H H') (cv : Conc av v) (hz : xs.length ≤ 1048576) (h : k .none ⟨loc, H', gs⟩) : W prog w n Γ Conc (call (.builtin "list.append") [.ref D, v]) ⟨loc, H, gs⟩ k := .mk fun A s ro p => by
  obtain ⟨m, cells, F, N, nd, l, c⟩ := p.ex
  obtain ⟨vs, nn, pre, post, cl, e, U, nd', kk⟩ := upd_list hu c nd
  refine append_K F N (U _) (fun h' F' N' => ⟨.none, ⟨loc, H', gs⟩, .none, ⟨⟨m, _, F', N', nd' _, l, ?_⟩, p.gens, p.os⟩, h⟩) (by rw [List.size_toArray, ← cl.length, sizeLine_eq]; omega)
  rw [List.push_toArray]
  exact kk _ (.list (cl.append (.cons cv .nil)))
theorem f_pop0 {D : Addr} {xs : List AV} {av : AV} (hu : UpdH D (.list (av :: xs)) (.list xs) H H') (hz : xs.length ≤ 1048576) (h : k av ⟨loc, H', gs⟩) : W prog w n Γ Conc (call (.builtin "list.pop") [.ref D, .int 0 u]) ⟨loc, H, gs⟩ k := .mk fun A s ro p => by
  obtain ⟨m, cells, F, N, nd, l, c⟩ := p.ex
  obtain ⟨vs, nn, pre, post, cl, e, U, nd', kk⟩ := upd_list hu c nd
  cases cl with
  | @cons _ v _ vs cv cl =>
    refine kl_popAt (k := 0) (p := []) (q := vs) (y := v) F N (by decide) (by simp [seqIndex?]) (by simp [kl_cut]) (U _) (by simp; rw [← cl.length, sizeLine_eq]; omega) fun h' F' N' => ⟨av, ⟨loc, H', gs⟩, cv, ⟨⟨m, _, F', N', nd' _, l, ?_⟩, p.gens, p.os⟩, h⟩
    rw [List.nil_append]
    exact kk _ (.list cl)
theorem kl_last_append (l : List Value) (v : Value) : kl_last (l ++ [v]) = some (l, v) := by
  induction l with
  | nil => rfl
  | cons a r ih => rw [List.cons_append]; unfold kl_last; rw [ih]
theorem u_list {D : Addr} {xs : List AV} (hD : (D, .list xs) ∈ H) (hz : xs.length ≤ 1048576) (h : kb (!xs.isEmpty) ⟨loc, H, gs⟩) : W prog w n Γ BoolR (truthy (.ref D)) ⟨loc, H, gs⟩ kb := .mk fun A s ro p => by
  obtain ⟨vs, nn, cl, ho⟩ := p.list hD
  refine wpAny_truthy_list ⟨_, ho, rfl, nn, rfl⟩ (by rw [List.size_toArray, ← cl.length]; omega) ⟨!xs.isEmpty, _, ?_, (p.toks _), h⟩
  cases cl <;> rfl
theorem f_lenL {D : Addr} {xs : List AV} (hD : (D, .list xs) ∈ H) (hz : xs.length ≤ 1048576) (h : k (.int xs.length) ⟨loc, H, gs⟩) : W prog w n Γ Conc (call (.builtin "len") [.ref D]) ⟨loc, H, gs⟩ k := .mk fun A s ro p => by
  obtain ⟨vs, nn, cl, ho⟩ := p.list hD
  refine len_list ⟨_, ho, rfl, nn, rfl⟩ (by rw [List.size_toArray, ← cl.length]; omega) ⟨.int xs.length, _, ?_, (p.toks _), h⟩
  rw [List.size_toArray, ← cl.length]; exact .int _ _

/-! slices of a text -/
def PartR : Option Int → Value → Prop := fun l v => ∃ lt : Option (Int × Tok), v = partValue lt ∧ lt.map (·.1) = l
variable {kpt : Option Int → St → Prop}
theorem p_none (h : kpt none S) : W prog w n Γ PartR (evalPart none env) S kpt := .mk fun A s ro p => evalPart_none_step ⟨none, S, ⟨none, rfl, rfl⟩, p, h⟩
def IntK (kpt : Option Int → St → Prop) (a : AV) (S : St) : Prop := ∃ i, a = .int i ∧ kpt (some i) S
theorem ik_ok {i : Int} (h : kpt (some i) S) : IntK kpt (.int i) S := ⟨i, rfl, h⟩
theorem p_some {e : Expr} (h : W prog w n Γ Conc (eval e env) S fun a S' => IntK kpt a S') : W prog w n Γ PartR (evalPart (some e) env) S kpt := .mk fun A s ro p =>
  evalPart_some_step (h.to ro p fun v a S₁ s₁ c p₁ z => by
    obtain ⟨i, rfl, z⟩ := z
    cases c with
    | int i t => exact ⟨some i, S₁, ⟨some (i, t), rfl, rfl⟩, p₁, z⟩)
def SlcK (prog : Program) (w : World) (n : Nat) (Γ : Act) (lo hi : Option Expr) (env : Env) (k : AV → St → Prop) (a : AV) (S : St) : Prop := ∃ l, a = .str l ∧ l.length ≤ 1048576 ∧ W prog w n Γ PartR (evalPart lo env) S fun lo' S₂ => W prog w n Γ PartR (evalPart hi env) S₂ fun hi' S₃ => k (.str (slc l lo' hi')) S₃
/-! the same with all conditions named -/
variable {q : Str} {sc : Scope} {f : Addr} {cd : Value}
theorem r_USub {e : Expr} (h : W prog w n Γ Conc (eval e env) S fun a S₁ => ∀ v, Conc a v → W prog w n Γ Conc (unaryOp .USub v) S₁ k) : W prog w n Γ Conc (eval (.UnaryOp .USub e pos) env) S k := .mk fun A s ro p =>
  UnaryOp_ (h.to ro p fun a b S₁ s₁ c p₁ z => (z a c).run A s₁ ro p₁)
theorem o_neg {a : Int} (h : k (.int (-a)) S) : W prog w n Γ Conc (unaryOp .USub (.int a t)) S k := .mk fun A s ro p => P.neg_int ⟨_, S, .int _ _, p.toks _, h⟩
end
end Mine
end
section
open PySem PySem.W PySem.Calls PyProof.Rows PySem.Builtin PySem.Builtin.Str
namespace Mine

theorem gives_count4 (x y : Str) (i j : Int) (t u v z : Tok) : Gives («str.count» ⟨[.str x t, .str y u, .int i v, .int j z], []⟩) (.int (occurrences x y (fromIndex x.length i) (min (fromIndex x.length j) x.length) (x.length + 1)).length) := by
  show Gives (retInt (occurrences x y (fromIndex x.length i) (min (fromIndex x.length j) x.length) (x.length + 1)).length) _
  exact .of_eq rfl
theorem gives_rfind4 (x y : Str) (i j : Int) (t u v z : Tok) : Gives («str.rfind» ⟨[.str x t, .str y u, .int i v, .int j z], []⟩) (.int (match lastOccurrence x y (fromIndex x.length i) (min (fromIndex x.length j) x.length) with | some i => (i : Int) | none => -1)) := by
  show Gives (match lastOccurrence x y (fromIndex x.length i) (min (fromIndex x.length j) x.length) with | some i => retInt i | none => (do rule "str.rfind.not-found"; retInt (-1))) _
  cases lastOccurrence x y (fromIndex x.length i) (min (fromIndex x.length j) x.length) with
  | none => exact .rule (.of_eq rfl)
  | some i => exact .of_eq rfl
/-! a text without the sought -/
theorem sub_none {l : List Nat} {c i : Nat} {y : List Nat} (h : c ∉ l) : subAt (mkS l) (mkS (c :: y)) i = false := by
  cases q : subAt (mkS l) (mkS (c :: y)) i with
  | false => rfl
  | true =>
    rw [StrLaws.subAt_eq, mkS_list, mkS_list] at q
    have e := eq_of_beq q
    rw [mkS_len] at e
    have : c ∈ (l.drop i).take (c :: y).length := by rw [e]; exact .head _
    exact absurd (List.mem_of_mem_drop (List.mem_of_mem_take this)) h
theorem occ_none {l : List Nat} {c : Nat} {y : List Nat} {lo hi lim : Nat} (h : c ∉ l) : occurrences (mkS l) (mkS (c :: y)) lo hi lim = [] := by
  cases q : occurrences (mkS l) (mkS (c :: y)) lo hi lim with
  | nil => rfl
  | cons i r =>
    have := (StrLaws.occ_spec (mkS l) (mkS (c :: y)) lo hi lim i (by rw [q]; exact .head _)).2
    rw [sub_none h] at this; cases this
theorem last_none {l : List Nat} {c : Nat} {y : List Nat} {lo hi : Nat} (h : c ∉ l) : lastOccurrence (mkS l) (mkS (c :: y)) lo hi = none := by
  rw [StrLaws.last_eq]
  have : ∀ (r : List Nat), (forIn (m := Id) r none (StrLaws.lastBody (mkS l) (mkS (c :: y)) hi)).run = none := by
    intro r
    induction r with
    | nil => rfl
    | cons a r ih =>
      rw [List.forIn_cons]
      unfold StrLaws.lastBody at ih ⊢
      rw [if_neg (by rw [sub_none h]; simp)]
      exact ih
  exact this _

section
variable {prog : Program} {w : World} {n : Nat} {Γ : Act} {KF : Frag} {S : St} {loc : Locs} {gs : Array GenState} {H H' : HL} {env : Env} {k : AV → St → Prop} {kb : Bool → St → Prop} {ku : Unit → St → Prop} {kf : FA → St → Prop} {pos p' : Pos} {t u t' u' : Tok}
theorem f_count0 {l y : List Nat} {c : Nat} {i j : Int} (hc : c ∉ l) (h : k (.int 0) S) : W prog w n Γ Conc (call (.builtin "str.count") [.str ⟨l.toArray⟩ t, .str ⟨(c :: y).toArray⟩ u, .int i t', .int j u']) S k := .mk fun A s ro p =>
  call_gives F.slot_str_count (typeIs_str _ _ _) F.entry_str_count (F.args_str_count_4 _ _ _ _) (gives_count4 _ _ _ _ _ _ _ _) ⟨.int 0, S, by rw [occ_none (l := l) hc]; exact .int _ _, p.toks _, h⟩
theorem f_rfind0 {l y : List Nat} {c : Nat} {i j : Int} (hc : c ∉ l) (h : k (.int (-1)) S) : W prog w n Γ Conc (call (.builtin "str.rfind") [.str ⟨l.toArray⟩ t, .str ⟨(c :: y).toArray⟩ u, .int i t', .int j u']) S k := .mk fun A s ro p =>
  call_gives F.slot_str_rfind (typeIs_str _ _ _) F.entry_str_rfind (F.args_str_rfind_4 _ _ _ _) (gives_rfind4 _ _ _ _ _ _ _ _) ⟨.int (-1), S, by rw [last_none (l := l) hc]; exact .int _ _, p.toks _, h⟩
theorem f_replace0 {l y z : List Nat} {c : Nat} (hc : c ∉ l) (h : k (.str l) S) : W prog w n Γ Conc (call (.builtin "str.replace") [.str ⟨l.toArray⟩ t, .str ⟨(c :: y).toArray⟩ u, .str ⟨z.toArray⟩ u']) S k := .mk fun A s ro p => by
  have e : ∀ lim, occurrences (mkS l) (mkS (c :: y)) 0 (mkS l).length lim = [] := fun lim => occ_none hc
  refine call_gives F.slot_str_replace (typeIs_str _ _ _) F.entry_str_replace (F.args_str_replace_3 _ _ _) (gives_str_replace (mkS l) (mkS (c :: y)) (mkS z) t u u' ?_) ?_
  · rw [e]; intro q; cases q
  · rw [e]; exact ⟨.str l, S, .str _ _, p, h⟩
theorem q_inC {x : List Nat} {c : Nat} (h : k (.bool (decide (c ∈ x))) S) : W prog w n Γ Conc (compareOp .In (.str ⟨[c].toArray⟩ u) (.str ⟨x.toArray⟩ t)) S k := q_inS (by
  have := StrLaws.found_one (mkS x) c
  rw [mkS_list] at this
  rw [show mkS [c] = (⟨#[c]⟩ : Str) from rfl, this]; exact h)
end
end Mine
end
section
open PySem PySem.W PySem.Calls PyProof.Rows PySem.Builtin PySem.Builtin.Str
namespace Mine

structure EnvOk (env : Env) (L : Addr) : Prop where
  kind : env.scope.kind = .function
  loc : env.locals = L
  glob : env.globals = mainGlobals
  bi : env.builtins = builtinsNs

theorem Fr.ext {h₀ h h' : Heap} {L d : Addr} {m : Str → Option Value} (F : Fr h₀ L h m) (e : Heap.ExtBut d h h') (n1 : d ≠ L) (n2 : h₀.get? d = none) : Fr h₀ L h' m := by
  obtain ⟨oL, es, ep, hL, r⟩ := F.ns
  exact ⟨⟨oL, es, ep, e L oL (Ne.symm n1) hL, r⟩, fun b o q => e b o (fun z => by rw [z, n2] at q; cases q) (F.keep b o q), F.above⟩

section
variable {P : Params} {Γ : Act} {loc : Locs} {gs : Array GenState} {H H' : HL} {s : Shared}
theorem Rep.obj (p : Rep P Γ ⟨loc, H, gs⟩ s) {x : Addr} {q : Obj → Prop} (hx : (x, .obj q) ∈ H) : ∃ o, s.heap.get? x = some o ∧ q o := by
  obtain ⟨m, cells, F, N, nd, l, c⟩ := p.ex
  obtain ⟨c', oc, sub⟩ := c.at hx
  cases oc with
  | obj h => exact ⟨_, (N _ (sub _ (.head _))).1, h⟩
/-- an object of one's own is changed -/
theorem Rep.objSet (p : Rep P Γ ⟨loc, H, gs⟩ s) {x : Addr} {q q' : Obj → Prop} (hu : UpdH x (.obj q) (.obj q') H H') {h' : Heap} {t : Nat} (hs : Heap.SameBut x s.heap h') {o' : Obj} (ho : h'.get? x = some o') (hq : q' o') : Rep P Γ ⟨loc, H', gs⟩ { s with heap := h', toks := t } := by
  obtain ⟨m, cells, F, N, nd, l, c⟩ := p.ex
  obtain ⟨pre, c', post, e, oc, kk⟩ := hu.split c
  cases oc with
  | @obj q o h =>
    have e' : cells = pre ++ (x, o) :: post := e
    have D := N (x, o) (by rw [e']; simp)
    refine ⟨⟨m, pre ++ (x, o') :: post, F.change hs D.2.1 D.2.2, ?_, ?_, l, kk [_] (.obj hq)⟩, p.gens, p.os⟩
    · rw [e'] at N
      exact news_set N (ne_pre nd e') (ne_post nd e') hs ho
    · rw [e'] at nd; exact nodup_same nd
/-- an object of one's own is let go -/
theorem Rep.objGone (p : Rep P Γ ⟨loc, H, gs⟩ s) {x : Addr} {q : Obj → Prop} (hs' : Sel (x, .obj q) H H') {h' : Heap} (he : Heap.ExtBut x s.heap h') : Rep P Γ ⟨loc, H', gs⟩ { s with heap := h' } := by
  obtain ⟨m, cells, F, N, nd, l, c⟩ := p.ex
  obtain ⟨c', rest, e, oc, kk⟩ := hs'.cells c
  cases oc with
  | @obj q o h =>
    have D := N (x, o) (e.mem_iff.mpr (by simp))
    have nd' := (e.map (·.1)).nodup_iff.mp nd
    rw [List.map_append, List.nodup_append] at nd'
    refine ⟨⟨m, rest, Mine.Fr.ext F he D.2.1 D.2.2, fun r hr => ?_, nd'.2.1, l, kk⟩, p.gens, p.os⟩
    have R := N r (e.mem_iff.mpr (List.mem_append_right _ hr))
    exact ⟨he _ _ (fun z => nd'.2.2 x (.head _) r.1 (List.mem_map_of_mem (f := (·.1)) hr) z.symm) R.1, R.2⟩
end

section
variable {prog : Program} {w : World} {n : Nat} {Γ : Act} {KF : Frag} {S : St} {loc : Locs} {gs : Array GenState} {H H' : HL} {env : Env} {k : AV → St → Prop} {kb : Bool → St → Prop} {ku : Unit → St → Prop} {kf : FA → St → Prop} {pos p' : Pos} {t u t' u' : Tok}

/-! names, in any def's or comprehension's frame -/
theorem e_loc {x : Str} {av : AV} (eo : EnvOk env Γ.L) (hv : (x, av) ∈ loc) (hu : Tame av) (hl : env.kindOf x = some .local) (hd : (x == ("__debug__" : Str)) = false) (h : k av ⟨loc, H, gs⟩) : W prog w n Γ Conc (eval (.Name x pos) env) ⟨loc, H, gs⟩ k := .mk fun A s ro p => by
  obtain ⟨m, cells, F, N, nd, l, c⟩ := p.ex
  rcases l.2 x av hv with e | ⟨v, hm, cv⟩
  · exact absurd e hu.bd
  · exact wpAny_Name (wpAny_loadName_local eo.kind hl (by rw [eo.loc]; exact F.ns) hm ⟨av, _, cv, p, h⟩) hd
theorem e_glob {x : Str} {v : Value} {av : AV} (eo : EnvOk env Γ.L) (G : Gnd KF Γ) (e : nsIn KF mainGlobals x = some (some v)) (c : Conc av v) (hx : env.kindOf x = some .globalImplicit) (hd : (x == ("__debug__" : Str)) = false) (h : k av S) : W prog w n Γ Conc (eval (.Name x pos) env) S k := .mk fun A s ro p => by
  obtain ⟨m, cells, F, N, nd, l, c'⟩ := p.ex
  obtain ⟨_, _, _, _, T⟩ := G.T
  exact Calls.Name_function_global eo.kind hx (Calls.loadGlobal_global (by rw [eo.glob]; exact T.g.keeps F.keep) (mg_of G.X T.g e) ⟨av, S, c, p, h⟩) hd
theorem e_bi {x : Str} {v : Value} (eo : EnvOk env Γ.L) (G : Gnd KF Γ) (e : nsIn KF mainGlobals x = some none) (hv : bootBuiltins x = some v) (hn : (x == ("__name__" : Str)) = false) (hx : env.kindOf x = some .globalImplicit) (hd : (x == ("__debug__" : Str)) = false) (h : k (.raw v) S) : W prog w n Γ Conc (eval (.Name x pos) env) S k := .mk fun A s ro p => by
  obtain ⟨m, cells, F, N, nd, l, c'⟩ := p.ex
  obtain ⟨_, _, _, _, T⟩ := G.T
  exact Calls.Name_function_global eo.kind hx (Calls.loadGlobal_builtin (by rw [eo.glob]; exact T.g.keeps F.keep) (mg_none_of G.X T.g e) (by rw [eo.bi]; exact T.b.keeps F.keep) ((T.builtins x (beq_eq_false_iff_ne.mp hn)).trans hv) ⟨_, S, .raw v, p, h⟩) hd
theorem e_store {x : Str} {av : AV} {v : Value} {loc' : Locs} (eo : EnvOk env Γ.L) (u : UpdE x av loc loc') (c : Conc av v) (hl : env.kindOf x = some .local) (h : ku () ⟨loc', H, gs⟩) : W prog w n Γ UnitR (storeName env x v) ⟨loc, H, gs⟩ ku := .mk fun A s ro p => by
  obtain ⟨m, cells, F, N, nd, l, cc⟩ := p.ex
  refine wpAny_storeName_local hl (by rw [eo.loc]; exact F.ns) (fun h' hn hs => ?_) (by rw [eo.kind]; rfl)
  rw [eo.loc] at hn hs
  exact ⟨(), ⟨loc', H, gs⟩, trivial, ⟨⟨_, cells, F.set hn hs, fun p hp => ⟨(hs.2 _ (N p hp).2.1).trans (N p hp).1, (N p hp).2⟩, nd, l.set u c, cc⟩, p.gens, p.os⟩, h⟩
theorem e_Assign {x : Str} {e : Expr} {p' : Pos} (eo : EnvOk env Γ.L) (hs : swapsWith e (some (.Name x p')) pos.line env = pure false) (hl : env.kindOf x = some .local) (h : W prog w n Γ Conc (eval e env) S fun a S₁ => StoreK x a S₁ kf) :
    W prog w n Γ FlowR (exec (.Assign [.Name x p'] e pos) env) S kf := .mk fun A s ro p =>
  wpAny_Assign_Name (h.to ro p fun v a S₁ s₁ c p₁ z => by
    obtain ⟨loc', u, z⟩ := z
    exact (e_store (w := w) (n := n) (prog := prog) (ku := fun _ S => kf .next S) eo u c hl z).to ro p₁ fun _ _ S₂ s₂ _ p₂ z => ⟨.next, S₂, .next, p₂, z⟩) hs
theorem e_Aug {x : Str} {e : Expr} {op : Operator} {p' : Pos} {av : AV} (eo : EnvOk env Γ.L) (hv : (x, av) ∈ loc) (hu : Tame av) (hl : env.kindOf x = some .local)
    (h : ∀ v, Conc av v → W prog w n Γ Conc (eval e env) ⟨loc, H, gs⟩ fun a S₁ => ∀ va, Conc a va → W prog w n Γ Conc (inplaceOp op v va) S₁ fun b S₂ => StoreK x b S₂ kf) :
    W prog w n Γ FlowR (exec (.AugAssign (.Name x p') op e pos) env) ⟨loc, H, gs⟩ kf := .mk fun A s ro p => by
  obtain ⟨m, cells, F, N, nd, l, cc⟩ := p.ex
  rcases l.2 x av hv with e | ⟨v, hm, cv⟩
  · exact absurd e hu.bd
  · refine wpAny_AugAssign_Name (wpAny_loadName_local eo.kind hl (by rw [eo.loc]; exact F.ns) hm ?_)
    exact (h v cv).to ro p fun v a S₁ s₁ c p₁ z => (z v c).to ro p₁ fun v' b S₂ s₂ c₂ p₂ z => by
      obtain ⟨loc', u, z⟩ := z
      exact (e_store (w := w) (n := n) (prog := prog) (ku := fun _ S => kf .next S) eo u c₂ hl z).to ro p₂ fun _ _ S₂ s₂ _ p₂ z => ⟨.next, S₂, .next, p₂, z⟩
def StoreU (prog : Program) (w : World) (x : Str) (a : AV) (S : St) (ku : Unit → St → Prop) : Prop := ∃ loc', UpdE x a S.loc loc' ∧ ku () ⟨loc', S.heap, S.gens⟩
theorem g_name {x : Str} {av : AV} {v : Value} {loc' : Locs} (eo : EnvOk env Γ.L) (u : UpdE x av loc loc') (c : Conc av v) (hl : env.kindOf x = some .local) (h : ku () ⟨loc', H, gs⟩) : W prog w n Γ UnitR (assign (.Name x pos) env v) ⟨loc, H, gs⟩ ku := .mk fun A s ro p =>
  wpAny_assign_Name ((e_store eo u c hl h).run A s ro p)

/-! a chain as a value -/
theorem r_Chain {l r₁ r₂ : Expr} {o₁ o₂ : CmpOp} (hm : lastMarks [o₁, o₂] [r₁, r₂] = false) (h : W prog w n Γ Conc (eval l env) S fun a S₁ => ∀ va, Conc a va → W prog w n Γ Conc (eval r₁ env) S₁ fun b S₂ => ∀ vb, Conc b vb → W prog w n Γ Conc (compareOp o₁ va vb) S₂ fun c S₃ => ∀ vc, Conc c vc →
      W prog w n Γ BoolR (truthy vc) S₃ fun t S₄ => (t = false → k c S₄) ∧ (t = true → W prog w n Γ Conc (eval r₂ env) S₄ fun d S₅ => ∀ vd, Conc d vd → W prog w n Γ Conc (compareOp o₂ vb vd) S₅ k)) :
    W prog w n Γ Conc (eval (.Compare l [o₁, o₂] [r₁, r₂] pos) env) S k := .mk fun A s ro p =>
  Compare_chain (h.to ro p fun a b S₁ s₁ c p₁ z => chain_link ((z a c).to ro p₁ fun a' b' S₂ s₂ c' p₂ z' => (z' a' c').to ro p₂ fun a'' b'' S₃ s₃ c'' p₃ z'' => (z'' a'' c'').to ro p₃ fun tb t S₄ s₄ e p₄ zt => by
    cases (e : t = tb)
    cases tb
    · exact ⟨b'', S₄, c'', p₄, zt.1 rfl⟩
    · exact chain_last ((zt.2 rfl).to ro p₄ fun a₃ b₃ S₅ s₅ c₅ p₅ z₅ => (z₅ a₃ c₅).run A s₅ ro p₅))) hm

/-! iteration -/
def OptR : Option AV → Option Value → Prop
  | none, none => True
  | some a, some v => Conc a v
  | _, _ => False
variable {ko : Option AV → St → Prop}
def strIt (x : List Nat) (i : Nat) : Obj → Prop := fun o => ∃ ty t, (ty = "str_ascii_iterator" ∨ ty = "str_iterator") ∧ o.cls = .type ty ∧ o.data = .fields #[.str (mkS x) t, .int i 0]
def lstIt (l : Addr) (i : Nat) : Obj → Prop := fun o => o.cls = .type "list_iterator" ∧ o.data = .fields #[.ref l, .int i 0]
def rngIt (x left : Int) : Obj → Prop := fun o => o = { cls := .type "range_iterator", dict := none, data := .fields #[rawInt x, rawInt left, rawInt 1], slots := #[] }
def rngOf (b : Int) : Obj → Prop := fun o => ∃ t u v, o = { cls := .type "range", dict := none, data := .fields #[.int 0 t, .int b u, .int 1 v], slots := #[] }
theorem it_str {x : List Nat} (h : ∀ it, k (.ref it) ⟨loc, (it, .obj (strIt x 0)) :: H, gs⟩) : W prog w n Γ Conc (pyIter (.str ⟨x.toArray⟩ t)) ⟨loc, H, gs⟩ k := .mk fun A s ro p =>
  wpAny_pyIter_strU ⟨.ref s.heap.objs.size, _, .ref _, p.new (.obj ⟨strIterType (mkS x), t, by unfold strIterType; cases (mkS x).cps.all (· < 128) <;> simp, rfl, rfl⟩), h _⟩
theorem nx_str {x : List Nat} {i c : Nat} {it : Addr} (hc : x[i]? = some c) (hu : UpdH it (.obj (strIt x i)) (.obj (strIt x (i + 1))) H H') (hi : (it, AO.obj (strIt x i)) ∈ H) (h : ko (some (.str [c])) ⟨loc, H', gs⟩) : W prog w n Γ OptR (pyNext (.ref it)) ⟨loc, H, gs⟩ ko := .mk fun A s ro p => by
  obtain ⟨o, ho, ty, t, hty, hcls, hd⟩ := p.obj hi
  have hx : (mkS x).cps[i]? = some c := by simpa using hc
  rcases hty with rfl | rfl
  · refine wpAny_pyNext_ascii_item ⟨o, ho, hcls, hd⟩ hx fun h' hit hs => ?_
    obtain ⟨o', ho', hc', hd'⟩ := hit
    exact ⟨some (.str [c]), ⟨loc, H', gs⟩, .str [c] _, p.objSet hu hs ho' ⟨_, t, .inl rfl, hc', hd'⟩, h⟩
  · refine wpAny_pyNext_wide_item ⟨o, ho, hcls, hd⟩ hx fun h' hit hs => ?_
    obtain ⟨o', ho', hc', hd'⟩ := hit
    exact ⟨some (.str [c]), ⟨loc, H', gs⟩, .str [c] _, p.objSet hu hs ho' ⟨_, t, .inr rfl, hc', hd'⟩, h⟩
theorem nx_strEnd {x : List Nat} {i : Nat} {it : Addr} (hc : x[i]? = none) (hu : Sel (it, .obj (strIt x i)) H H') (hi : (it, AO.obj (strIt x i)) ∈ H) (h : ko none ⟨loc, H', gs⟩) : W prog w n Γ OptR (pyNext (.ref it)) ⟨loc, H, gs⟩ ko := .mk fun A s ro p => by
  obtain ⟨o, ho, ty, t, hty, hcls, hd⟩ := p.obj hi
  have hx : (mkS x).cps[i]? = none := by simpa using hc
  rcases hty with rfl | rfl
  · exact wpAny_pyNext_ascii_end ro.handled ⟨o, ho, hcls, hd⟩ hx fun h' he => ⟨none, ⟨loc, H', gs⟩, trivial, p.objGone hu he, h⟩
  · exact wpAny_pyNext_wide_end ro.handled ⟨o, ho, hcls, hd⟩ hx fun h' he => ⟨none, ⟨loc, H', gs⟩, trivial, p.objGone hu he, h⟩
theorem it_strIt {x : List Nat} {i : Nat} {it : Addr} (hi : (it, AO.obj (strIt x i)) ∈ H) (h : k (.ref it) ⟨loc, H, gs⟩) : W prog w n Γ Conc (pyIter (.ref it)) ⟨loc, H, gs⟩ k := .mk fun A s ro p => by
  obtain ⟨o, ho, ty, t, hty, hcls, hd⟩ := p.obj hi
  rcases hty with rfl | rfl
  · exact wpAny_pyIter_striter_ascii ⟨o, ho, hcls, hd⟩ ⟨_, _, .ref _, p, h⟩
  · exact wpAny_pyIter_striter_wide ⟨o, ho, hcls, hd⟩ ⟨_, _, .ref _, p, h⟩
theorem it_list {l : Addr} {xs : List AV} (hl : (l, AO.list xs) ∈ H) (h : ∀ it, k (.ref it) ⟨loc, (it, .obj (lstIt l 0)) :: H, gs⟩) : W prog w n Γ Conc (pyIter (.ref l)) ⟨loc, H, gs⟩ k := .mk fun A s ro p => by
  obtain ⟨vs, nn, cl, ho⟩ := p.list hl
  exact wpAny_pyIter_list ⟨_, ho, rfl, nn, rfl⟩ ⟨.ref s.heap.objs.size, _, .ref _, p.new (.obj ⟨rfl, rfl⟩), h _⟩
theorem it_lstIt {l it : Addr} {i : Nat} (hi : (it, AO.obj (lstIt l i)) ∈ H) (h : k (.ref it) ⟨loc, H, gs⟩) : W prog w n Γ Conc (pyIter (.ref it)) ⟨loc, H, gs⟩ k := .mk fun A s ro p => by
  obtain ⟨o, ho, hcls, hd⟩ := p.obj hi
  exact wpAny_pyIter_listiter ⟨o, ho, hcls, hd⟩ ⟨_, _, .ref _, p, h⟩
theorem nx_list {l it : Addr} {xs : List AV} {i : Nat} {av : AV} (hl : (l, AO.list xs) ∈ H) (hx : xs[i]? = some av) (hu : UpdH it (.obj (lstIt l i)) (.obj (lstIt l (i + 1))) H H') (hi : (it, AO.obj (lstIt l i)) ∈ H) (h : ko (some av) ⟨loc, H', gs⟩) : W prog w n Γ OptR (pyNext (.ref it)) ⟨loc, H, gs⟩ ko := .mk fun A s ro p => by
  obtain ⟨vs, nn, cl, hol⟩ := p.list hl
  obtain ⟨v, hv, cv⟩ := cl.get hx
  obtain ⟨o, ho, hcls, hd⟩ := p.obj hi
  refine wpAny_pyNext_list_item ⟨o, ho, hcls, hd⟩ ⟨_, hol, rfl, nn, rfl⟩ (by simpa using hv) fun h' hit hs => ?_
  obtain ⟨o', ho', hc', hd'⟩ := hit
  exact ⟨some av, ⟨loc, H', gs⟩, cv, p.objSet hu hs ho' ⟨hc', hd'⟩, h⟩
theorem nx_listEnd {l it : Addr} {xs : List AV} {i : Nat} (hl : (l, AO.list xs) ∈ H) (hx : xs[i]? = none) (hu : Sel (it, .obj (lstIt l i)) H H') (hi : (it, AO.obj (lstIt l i)) ∈ H) (h : ko none ⟨loc, H', gs⟩) : W prog w n Γ OptR (pyNext (.ref it)) ⟨loc, H, gs⟩ ko := .mk fun A s ro p => by
  obtain ⟨vs, nn, cl, hol⟩ := p.list hl
  obtain ⟨o, ho, hcls, hd⟩ := p.obj hi
  refine wpAny_pyNext_list_end ro.handled ⟨o, ho, hcls, hd⟩ ⟨_, hol, rfl, nn, rfl⟩ (by rw [List.getElem?_eq_none_iff] at hx; simp; rw [← cl.length]; exact hx) fun h' he => ⟨none, ⟨loc, H', gs⟩, trivial, p.objGone hu he, h⟩
theorem f_range {b : Int} (h : ∀ r, k (.ref r) ⟨loc, (r, .obj (rngOf b)) :: H, gs⟩) : W prog w n Γ Conc (call (.type "range") [.int b t]) ⟨loc, H, gs⟩ k := .mk fun A s ro p =>
  call_range_1 ⟨.ref s.heap.objs.size, _, .ref _, (p.new (.obj ⟨_, _, _, rfl⟩)).toks _, h _⟩
theorem it_range {r : Addr} {b : Int} (hr : (r, AO.obj (rngOf b)) ∈ H) (hs : Builtin.Range.small 0 b 1 = true) (h : ∀ it, k (.ref it) ⟨loc, (it, .obj (rngIt 0 (Builtin.Range.rangeSize 0 b 1))) :: H, gs⟩) : W prog w n Γ Conc (pyIter (.ref r)) ⟨loc, H, gs⟩ k := .mk fun A s ro p => by
  obtain ⟨o, ho, t, u, v, e⟩ := p.obj hr
  have hI : IsRange s.heap r 0 b 1 t u v := by show _ = _; rw [ho, e]
  exact wpAny_pyIter_range hI hs ⟨.ref s.heap.objs.size, ⟨loc, (s.heap.objs.size, .obj (rngIt 0 (Builtin.Range.rangeSize 0 b 1))) :: H, gs⟩, .ref _, p.new (.obj rfl), h _⟩
theorem nx_range {it : Addr} {x left : Int} (hl : 0 < left) (hu : UpdH it (.obj (rngIt x left)) (.obj (rngIt (x + 1) (left - 1))) H H') (hi : (it, AO.obj (rngIt x left)) ∈ H) (h : ko (some (.int x)) ⟨loc, H', gs⟩) : W prog w n Γ OptR (pyNext (.ref it)) ⟨loc, H, gs⟩ ko := .mk fun A s ro p => by
  obtain ⟨o, ho, e⟩ := p.obj hi
  have hI : IsRangeIter s.heap it x left 1 := by show _ = _; rw [ho, e]
  refine wpAny_pyNext_range_item hI hl fun h' hit hs => ?_
  exact ⟨some (.int x), ⟨loc, H', gs⟩, .int x _, p.objSet hu hs hit rfl, h⟩
theorem nx_rangeEnd {it : Addr} {x left : Int} (hl : left ≤ 0) (hu : Sel (it, .obj (rngIt x left)) H H') (hi : (it, AO.obj (rngIt x left)) ∈ H) (h : ko none ⟨loc, H', gs⟩) : W prog w n Γ OptR (pyNext (.ref it)) ⟨loc, H, gs⟩ ko := .mk fun A s ro p => by
  obtain ⟨o, ho, e⟩ := p.obj hi
  have hI : IsRangeIter s.heap it x left 1 := by show _ = _; rw [ho, e]
  exact wpAny_pyNext_range_end ro.handled hI hl fun h' he => ⟨none, ⟨loc, H', gs⟩, trivial, p.objGone hu he, h⟩

/-! for -/
theorem s_For {target iter : Expr} {body orelse : List Stmt} (I : Addr → Nat → St → Prop)
    (hi : W prog w n Γ Conc (eval iter env) S fun a S₁ => ∀ v, Conc a v → W prog w n Γ Conc (pyIter v) S₁ fun b S₂ => ∃ it j, b = .ref it ∧ I it j S₂)
    (turn : ∀ it j S, I it j S → W prog w n Γ OptR (pyNext (.ref it)) S fun r S₁ => match r with
      | none => W prog w n Γ FlowR (execs orelse env) S₁ kf
      | some a => ∀ v, Conc a v → W prog w n Γ UnitR (assign target env v) S₁ fun _ S₂ => W prog w n Γ FlowR (execs body env) S₂ fun fa S₃ => match fa with
        | .next | .cont => ∃ j', j' < j ∧ I it j' S₃ | .brk => kf .next S₃ | .ret a => kf (.ret a) S₃)
    (hs : ∀ x, foldedSetIterable iter env x = pure x) (ht : ∀ it v, letOwnedTupleGo target (.ref it) v = pure ()) : W prog w n Γ FlowR (exec (.For target iter body orelse pos) env) S kf := .mk fun A s ro p =>
  wpAny_For (hi.to ro p fun v a S₁ s₁ c p₁ z => (z v c).to ro p₁ fun v' b S₂ s₂ c₂ p₂ z => by
    obtain ⟨it, j, rfl, z⟩ := z
    cases c₂
    refine codeAny_forLoop (fun j s => ∃ S, I it j S ∧ Rep w.params Γ S s) (fun j s i => ?_) j ⟨S₂, z, p₂⟩ (ht it)
    obtain ⟨S, i, p⟩ := i
    refine (turn it j S i).to ro p fun r o S' s' e p' z => ?_
    cases o with
    | none =>
      cases r with
      | none => exact (show W prog w n Γ FlowR (execs orelse env) S' kf from z).to ro p' fun fl fa S₂ s₂ c p₂ z => ⟨fa, S₂, c, p₂, z⟩
      | some v => exact e.elim
    | some a =>
      cases r with
      | none => exact e.elim
      | some v =>
        refine ((show ∀ v, Conc a v → W prog w n Γ UnitR (assign target env v) S' _ from z) v e).to ro p' fun _ _ S₂ s₂ _ p₂ z => ?_
        refine z.to ro p₂ fun fl fa S₃ s₃ c p₃ z => ?_
        cases c with
        | next => obtain ⟨j', a, b⟩ := z; exact ⟨j', a, S₃, b, p₃⟩
        | cont => obtain ⟨j', a, b⟩ := z; exact ⟨j', a, S₃, b, p₃⟩
        | brk => exact ⟨.next, S₃, .next, p₃, z⟩
        | ret c => exact ⟨.ret _, S₃, .ret c, p₃, z⟩) hs

/-! a list's comprehension, with one clause and no test -/
def compEnv (scope : Scope) (env : Env) (L : Addr) : Env := { newEnv scope L env.globals [] env.qual none .none (some env) 0 with scope := scope }
theorem r_ListComp {target iter elt : Expr} {scope : Scope} {us : Locs} (I : Addr → Addr → Nat → St → Prop) (eo : EnvOk env Γ.L) (G : Gnd KF Γ)
    (hi : W prog w n Γ Conc (eval iter env) ⟨loc, H, gs⟩ fun a S₁ => ∀ v, Conc a v → W prog w n Γ Conc (pyIter v) S₁ fun b S₂ => ∃ it, b = .ref it ∧ S₂.loc = loc ∧ ∀ acc, ∃ j, I it acc j ⟨us, (acc, .list []) :: S₂.heap, S₂.gens⟩)
    (again : ∀ Γ' it acc j S, Gnd KF Γ' → Γ.h₀.StaysIn Γ'.h₀ → I it acc j S → W prog w n Γ' Conc (pyIter (.ref it)) S fun b S' => b = .ref it ∧ I it acc j S')
    (turn : ∀ Γ' it acc j S, Gnd KF Γ' → Γ.h₀.StaysIn Γ'.h₀ → EnvOk (compEnv scope env Γ'.L) Γ'.L → I it acc j S → W prog w n Γ' OptR (pyNext (.ref it)) S fun r S₁ => match r with
      | none => ∃ H', Pick H' S₁.heap ∧ k (.ref acc) ⟨loc, H', S₁.gens⟩
      | some a => ∀ v, Conc a v → W prog w n Γ' UnitR (assign target (compEnv scope env Γ'.L) v) S₁ fun _ S₂ => W prog w n Γ' Conc (eval elt (compEnv scope env Γ'.L)) S₂ fun b S₃ => ∀ x, Conc b x →
          W prog w n Γ' Conc (call (.builtin "list.append") [.ref acc, x]) S₃ fun _ S₄ => ∃ j', j' < j ∧ I it acc j' S₄)
    (hu : (us.all fun p => isUnb p.2) = true) (hnd : (us.map (·.1)).Nodup)
    (hs : ∀ x, foldedSetIterable iter env x = pure x) (ht : ∀ it v, letOwnedTupleGo target (.ref it) v = pure ())
    (hfree : ∀ x ∈ scope.names, x.2 ≠ .free) (hcell : ∀ x ∈ scope.names, x.2 ≠ .cell) (hkind : scope.kind = .function) (hnames : ∀ x ∈ scope.names, x.2 = .local → scope.names.lookup x.1 = some .local) :
    W prog w n Γ Conc (eval (.ListComp elt [⟨target, iter, [], 0⟩] scope pos) env) ⟨loc, H, gs⟩ k := .mk fun A s ro p => by
  refine wpAny_ListComp hfree hkind hnames (hi.to ro p fun v a S₁ s₁ c p₁ z => (z v c).to ro p₁ fun v' b S₂ s₂ c₂ p₂ zz => ?_) hs
  cases S₂ with
  | mk loc₂ H₂ gs₂ =>
  obtain ⟨it, rfl, el, zz⟩ := zz
  cases c₂
  dsimp only at el zz
  subst el
  obtain ⟨j, zz⟩ := zz s₂.heap.objs.size
  refine wpAny_newObj_type ?_ (by show (0 : Nat) ≤ sizeLine; exact Nat.zero_le _)
  have p₃ : Rep w.params Γ ⟨loc₂, (s₂.heap.objs.size, .list []) :: H₂, gs₂⟩ { s₂ with heap := s₂.heap.push { cls := .type "list", data := .seq #[] } } := p₂.new (.list .nil)
  generalize s₂.heap.objs.size = acc at p₃ zz ⊢
  generalize { s₂ with heap := s₂.heap.push { cls := .type "list", data := .seq #[] } } = s₃ at p₃ ⊢
  obtain ⟨m, news, F, N, nd, l, c⟩ := p₃.ex
  refine wpAny_newFunctionEnv hcell (by intro _ h; cases h) (fun h₁ hns hsb => ?_) hkind
  have nm : ∀ b o, Γ.h₀.get? b = some o → b ∉ news.map (·.1) := fun b o e q => by
    obtain ⟨p, hp, rfl⟩ := List.mem_map.mp q
    rw [(N p hp).2.2] at e; cases e
  have st : Γ.h₀.StaysIn (hideAll s₃.heap (news.map (·.1))) := fun b o e => hideAll_get _ (F.keep b o e) (nm b o e)
  obtain ⟨oL, es, ep, hL, hLd, hLk, hLf⟩ := F.ns
  have nL : Γ.L ∉ news.map (·.1) := fun q => by
    obtain ⟨p, hp, e⟩ := List.mem_map.mp q
    exact (N p hp).2.1 e
  have hLg := hideAll_get (news.map (·.1)) hL nL
  have hk₁ : ∀ b o, s₃.heap.get? b = some o → h₁.get? b = some o := fun b o e => (hsb.2 b (Nat.ne_of_lt (Heap.lt_size e))).trans (Heap.get?_push_of_some _ e)
  have G' : Gnd KF ⟨hideAll s₃.heap (news.map (·.1)), s₃.heap.objs.size, s₃.os⟩ := G.keeps st
  have E' : EnvOk (compEnv scope env s₃.heap.objs.size) s₃.heap.objs.size := ⟨hkind, rfl, eo.glob, eo.bi⟩
  have R' : Rep w.params ⟨hideAll s₃.heap (news.map (·.1)), s₃.heap.objs.size, s₃.os⟩ ⟨us, (acc, .list []) :: H₂, gs₂⟩ { s₃ with heap := h₁, toks := s₃.toks + ([] : List (Str × Value)).length } :=
    ⟨⟨_, news, ⟨hns, fun b o e => hk₁ b o (of_hideAll _ e), Nat.le_of_eq (hideAll_size _ _)⟩,
      fun p hp => ⟨hk₁ _ _ (N p hp).1, Nat.ne_of_lt (Heap.lt_size (N p hp).1), hideAll_none _ (List.mem_map_of_mem hp)⟩, nd, locC_of (ps := []) (us := us) .nil hu hnd, c⟩, p₃.gens, rfl⟩
  generalize hΓ : (⟨hideAll s₃.heap (news.map (·.1)), s₃.heap.objs.size, s₃.os⟩ : Act) = Γ' at G' R'
  have hΓL : Γ'.L = s₃.heap.objs.size := by rw [← hΓ]
  have st' : Γ.h₀.StaysIn Γ'.h₀ := by rw [← hΓ]; exact st
  have ho₃ := p₃.os
  have back : ∀ S₁ s₁, Rep w.params Γ' S₁ s₁ → (∃ H', Pick H' S₁.heap ∧ k (.ref acc) ⟨loc₂, H', S₁.gens⟩) → ∃ m', s₁.heap.Ns s₃.heap.objs.size m' ∧ ∀ h', Heap.SameBut s₃.heap.objs.size s₁.heap h' → ∃ b S', Conc b (.ref acc) ∧ Rep w.params Γ S' { s₁ with heap := h' } ∧ k b S' := by
    intro S₁ s₁ r' ⟨H', pk, kk⟩
    obtain ⟨m', news', F', N', nd', l', c'⟩ := (show Rep w.params Γ' ⟨S₁.loc, H', S₁.gens⟩ s₁ from Rep.pick (loc := S₁.loc) (gs := S₁.gens) (H := S₁.heap) r' pk).ex
    have eos := r'.os
    subst hΓ
    refine ⟨m', F'.ns, fun h' hs' => ⟨.ref acc, ⟨loc₂, H', S₁.gens⟩, .ref acc, ⟨⟨m, news', ⟨⟨oL, es, ep, ?_, hLd, hLk, hLf⟩, fun b o e => ?_, F.above⟩, fun p hp => ⟨(hs'.2 _ (N' p hp).2.1).trans (N' p hp).1, fun q => ?_, ?_⟩, nd', l, c'⟩, r'.gens, ?_⟩, kk⟩⟩
    · exact (hs'.2 _ (Nat.ne_of_lt (Heap.lt_size hL))).trans (F'.keep Γ.L oL hLg)
    · exact (hs'.2 _ (Nat.ne_of_lt (Heap.lt_size (F.keep b o e)))).trans (F'.keep b o (st b o e))
    · have := (N' p hp).2.2; rw [q] at this; rw [hLg] at this; cases this
    · cases q : Γ.h₀.get? p.1 with
      | none => rfl
      | some o => have := (N' p hp).2.2; rw [st _ _ q] at this; cases this
    · exact eos.trans ho₃
  have loop : ∀ s₄ S₄ j', Rep w.params Γ' S₄ s₄ → I it acc j' S₄ → codeAny (model prog w) A (.compLoop (.ListComp elt [⟨target, iter, [], 0⟩] scope pos) 0 (.ref it) (.ref acc) (compEnv scope env s₃.heap.objs.size))
      (fun r s' => ∃ m, s'.heap.Ns s₃.heap.objs.size m ∧ ∀ h', Heap.SameBut s₃.heap.objs.size s'.heap h' → match r with
        | .ok _ => ∃ b S', Conc b (.ref acc) ∧ Rep w.params Γ S' { s' with heap := h' } ∧ k b S'
        | .error x => wpAny (model prog w) A (passOn "comprehension.variables-let-go" x (compEnv scope env s₃.heap.objs.size)) (fun a s' => ∃ b S', Conc b a ∧ Rep w.params Γ S' s' ∧ k b S') (fun _ _ => False) { s' with heap := h' }) s₄ := by
    intro s₄ S₄ j' p₄ i₄
    refine codeAny_compLoop_list (fun j s => ∃ S, I it acc j S ∧ Rep w.params Γ' S s) (fun j s i => ?_) j' ⟨S₄, i₄, p₄⟩ (ht it)
    obtain ⟨S, i, p⟩ := i
    have tt := turn Γ' it acc j S G' st' (by rw [hΓL]; exact E') i
    rw [hΓL] at tt
    refine tt.to ro p fun r o S' s' e p' z => ?_
    cases o with
    | none =>
      cases r with
      | none => exact back S' s' p' z
      | some v => exact e.elim
    | some a =>
      cases r with
      | none => exact e.elim
      | some v =>
        refine ((show ∀ v, Conc a v → W prog w n Γ' UnitR (assign target (compEnv scope env s₃.heap.objs.size) v) S' _ from z) v e).to ro p' fun _ _ S₂ s₂ _ p₂ z => ?_
        refine z.to ro p₂ fun x b S₃ s₃ c₃ p₃ z => (z x c₃).to ro p₃ fun _ _ S₄ s₄ _ p₄ z => ?_
        obtain ⟨j', a, b⟩ := z
        exact ⟨j', a, S₄, b, p₄⟩
  refine codeAny_compStart_list (loop _ _ j R' zz) ?_
  refine (again Γ' it acc j _ G' st' zz).to ro R' fun v b S' s' cc p' z => ?_
  obtain ⟨rfl, z⟩ := z
  cases cc
  exact loop _ _ j p' z
end
end Mine
end
section
open PySem PySem.W PySem.Calls PyProof.Rows PySem.Builtin PySem.Builtin.Str
namespace Mine
def usualOk (K : Frag) (C : Addr) (name : Str) : Bool := plainGet K C name && (match findIn K (.ref C) name with
  | some r => r.all (fun a => (typeIn K a).any fun t => t != .type "function" && t != .type "method_descriptor" && t != .type "wrapper_descriptor")
  | none => false)
def makeOk (K : Frag) (C fI : Addr) : Bool := makesIn K C && ((findIn K (.ref C) "__init__" == some (some (.ref fI))) && (typeIn K (.ref fI) == some (.type "function")))
structure ClsFacts (K : Frag) (C : Addr) : Prop where
  pg : plainGet K C "" = true
  hd : hasDictIn K C = true
  sa : findIn K (.ref C) "__setattr__" = some (some (.builtin "object.__setattr__"))
  po : plainOver K C = true
theorem own_of {K : Frag} {C : Addr} {name : Str} (c : ClsFacts K C) (e : findIn K (.ref C) name = some none) : ownOk K C name = true := by
  unfold ownOk
  rw [show plainGet K C name = plainGet K C "" from rfl, c.pg, c.hd, e]; rfl
theorem set_of {K : Frag} {C : Addr} {name : Str} (c : ClsFacts K C) (e : findIn K (.ref C) name = some none) : setOk K C name = true := by
  unfold setOk takerIn
  rw [c.sa, c.po, c.hd, e]; simp
theorem usual_of {K : Frag} {C : Addr} {name : Str} (c : ClsFacts K C) (e : findIn K (.ref C) name = some none) : usualOk K C name = true := by
  unfold usualOk
  rw [show plainGet K C name = plainGet K C "" from rfl, c.pg, e]; rfl
theorem fn_get : fastLookup "function" "__get__" = some (some (.builtin "function.__get__")) := by kernel_rfl
theorem fn_set : fastLookup "function" "__set__" = some none := by kernel_rfl
theorem fn_del : fastLookup "function" "__delete__" = some none := by kernel_rfl
theorem meth_of {K : Frag} {C f : Addr} {name : Str} (c : ClsFacts K C) (e : findIn K (.ref C) name = some (some (.ref f))) (hf : typeIn K (.ref f) = some (.type "function")) (hc : copiedNames.contains name = false) : methOk K C name f = true := by
  have g : specialIn K (.ref f) "__get__" = some (some (.builtin "function.__get__")) := by unfold specialIn; rw [hf]; exact fn_get
  have s : takesIn K (.ref f) = some false := by
    have s1 : specialIn K (.ref f) "__set__" = some none := by unfold specialIn; rw [hf]; exact fn_set
    have s2 : specialIn K (.ref f) "__delete__" = some none := by unfold specialIn; rw [hf]; exact fn_del
    unfold takesIn; rw [s1]; dsimp only; rw [s2]; rfl
  unfold methOk isFn
  rw [show plainGet K C name = plainGet K C "" from rfl, c.pg, e, hf, c.hd, g, s, hc]; simp
section
variable {prog : Program} {w : World} {n : Nat} {Γ : Act} {KF : Frag} {S : St} {loc : Locs} {gs : Array GenState} {H H' : HL} {env : Env} {k : AV → St → Prop} {kb : Bool → St → Prop} {ku : Unit → St → Prop} {kf : FA → St → Prop} {pos p' : Pos} {t u t' u' : Tok}
theorem m_own {x C : Addr} {es : List (Str × AV)} {name : Str} {av : AV} {pl : Sem Bool} {kp : PairV → St → Prop} (G : Gnd KF Γ) (hx : (x, .inst C es) ∈ H) (hm : (name, av) ∈ es) (ht : Tame av) (ho : ownOk KF C name = true) (hu : usualOk KF C name = true) (h : ∀ v, Conc av v → kp (v, []) ⟨loc, H, gs⟩) :
    W prog w n Γ EqR (getMethod (.ref x) name pl) ⟨loc, H, gs⟩ kp := .mk fun A s ro p => by
  obtain ⟨m, cells, d, ds, nn, F, N, I, ec, nk⟩ := p.inst hx
  obtain ⟨a1, a2⟩ := and2 hu
  cases q : findIn KF (.ref C) name with
  | none => rw [q] at a2; cases a2
  | some r =>
    rw [q] at a2
    refine method_usual (G.X.keeps F.keep) I (plainGet_of a1).1 (plainGet_of a1).2 q a2 ?_
    exact (a_own (prog := prog) (n := n) (ex := false) (k := fun a S => ∀ v, Conc a v → kp (v, []) S) G hx hm ht ho h).to ro p fun v a S₁ s₁ c p₁ z => ⟨(v, []), S₁, rfl, p₁, z v c⟩
theorem under_make (A : Around) (C : Addr) (vs : List Value) (kw : List (Str × Value)) : (A.under (.builtin "type.__call__" ⟨.ref C :: vs, kw⟩)).depth = A.depth + 1 ∧ (A.under (.builtin "type.__call__" ⟨.ref C :: vs, kw⟩)).units = A.units + 1 ∧ (A.under (.builtin "type.__call__" ⟨.ref C :: vs, kw⟩)).handled = A.handled :=
  ⟨rfl, rfl, rfl⟩
theorem WC.make {C fI : Addr} {vs : List Value} {kw : List (Str × Value)} (G : Gnd KF Γ) (hm : makeOk KF C fI = true) (h : ∀ x, WC prog w n Γ (.call (.ref fI) ⟨.ref x :: vs, kw⟩) ⟨loc, (x, .inst C []) :: H, gs⟩ (fun a S' => a = .none ∧ k (.ref x) S')) :
    WC prog w (n + 1) Γ (.call (.ref C) ⟨vs, kw⟩) ⟨loc, H, gs⟩ k := fun A s ro p => by
  obtain ⟨m, cells, F, N, nd, l, c⟩ := p.ex
  obtain ⟨a1, a2⟩ := and2 hm
  obtain ⟨a2, a3⟩ := and2 a2
  refine make_K F N (G.X.keeps F.keep) a1 (beq_iff_eq.mp a2) (beq_iff_eq.mp a3) fun x dx h' F' N' lt1 lt2 => ?_
  have p' : Rep w.params Γ ⟨loc, (x, .inst C []) :: H, gs⟩ { s with heap := h' } := by
    refine ⟨⟨m, (x, instObj C dx) :: (dx, emptyDict) :: cells, F', N', ?_, l, .cons (c := [_, _]) (.inst .nil .nil (n := 0)) c⟩, p.gens, p.os⟩
    rw [List.map_cons, List.nodup_cons, List.map_cons, List.nodup_cons]
    refine ⟨fun hq => ?_, fun hq => ?_, nd⟩
    · rcases List.mem_cons.mp hq with e | e
      · exact Nat.ne_of_gt lt2 e
      · obtain ⟨q, hq, e⟩ := List.mem_map.mp e
        have := lt1 q hq
        rw [e] at this
        exact absurd (Nat.lt_trans this lt2) (Nat.lt_irrefl _)
    · obtain ⟨q, hq, e⟩ := List.mem_map.mp hq
      have := lt1 q hq
      rw [e] at this
      exact Nat.lt_irrefl _ this
  obtain ⟨u1, u2, u3⟩ := under_make A C vs kw
  have ro' : Room n (A.under (.builtin "type.__call__" ⟨.ref C :: vs, kw⟩)) := ⟨by have := ro.units; omega, by have := ro.depth; omega, by rw [u3]; exact ro.handled⟩
  refine codeAny_mono (h x _ _ ro' p') fun r s' hr => ?_
  cases r with
  | error e => exact hr
  | ok f =>
    cases f with
    | ret v =>
      obtain ⟨b, S', cb, p₂, rfl, kk⟩ := hr
      cases cb
      exact ⟨rfl, .ref x, S', .ref x, p₂, kk⟩
    | _ => exact hr
/-! calls, the first argument written out -/
theorem kB1 {id : String} {x : Value} {e : Expr} {rest : List Expr} (he : starEach (e :: rest) env = (false, eval e env) :: starEach rest env) (hplain : (backTo pos (starEach rest env)).any (·.1) = false)
    (h : W prog w n Γ ConcL (spliced (backTo pos (starEach (e :: rest) env))) S fun as S₁ => ∀ vs, ConcL as vs → W prog w n Γ Conc (call (.builtin id) (x :: vs)) S₁ k) : W prog w n Γ Conc (callWith pos (.builtin id) [x] (backTo pos (starEach (e :: rest) env)) []) S k := cw_B h he hplain
theorem kBn {id : String} {e : Expr} {rest : List Expr} (he : starEach (e :: rest) env = (false, eval e env) :: starEach rest env) (hplain : (backTo pos (starEach rest env)).any (·.1) = false)
    (h : W prog w n Γ ConcL (spliced (backTo pos (starEach (e :: rest) env))) S fun as S₁ => ∀ vs, ConcL as vs → W prog w n Γ Conc (call (.builtin id) vs) S₁ k) : W prog w n Γ Conc (callWith pos (.builtin id) [] (backTo pos (starEach (e :: rest) env)) []) S k := cw_B h he hplain
theorem kB10 {id : String} {x : Value} (h : W prog w n Γ Conc (call (.builtin id) [x]) S k) : W prog w n Γ Conc (callWith pos (.builtin id) [x] (backTo pos (starEach [] env)) []) S k := cw_B0 h
theorem kK1 {g x : Value} {e : Expr} {rest : List Expr} (G : Gnd KF Γ) (hk : keepIn KF g = true) (he : starEach (e :: rest) env = (false, eval e env) :: starEach rest env) (hplain : (backTo pos (starEach rest env)).any (·.1) = false)
    (h : W prog w n Γ ConcL (spliced (backTo pos (starEach (e :: rest) env))) S fun as S₁ => ∀ vs, ConcL as vs → W prog w n Γ Conc (call g (x :: vs)) S₁ k) : W prog w n Γ Conc (callWith pos g [x] (backTo pos (starEach (e :: rest) env)) []) S k := cw_K G hk h he hplain
theorem kKn {g : Value} {e : Expr} {rest : List Expr} (G : Gnd KF Γ) (hk : keepIn KF g = true) (he : starEach (e :: rest) env = (false, eval e env) :: starEach rest env) (hplain : (backTo pos (starEach rest env)).any (·.1) = false)
    (h : W prog w n Γ ConcL (spliced (backTo pos (starEach (e :: rest) env))) S fun as S₁ => ∀ vs, ConcL as vs → W prog w n Γ Conc (call g vs) S₁ k) : W prog w n Γ Conc (callWith pos g [] (backTo pos (starEach (e :: rest) env)) []) S k := cw_K G hk h he hplain
theorem kK10 {g x : Value} (G : Gnd KF Γ) (hk : keepIn KF g = true) (h : W prog w n Γ Conc (call g [x]) S k) : W prog w n Γ Conc (callWith pos g [x] (backTo pos (starEach [] env)) []) S k := cw_K0 G hk h
theorem kK00 {g : Value} (G : Gnd KF Γ) (hk : keepIn KF g = true) (h : W prog w n Γ Conc (call g []) S k) : W prog w n Γ Conc (callWith pos g [] (backTo pos (starEach [] env)) []) S k := cw_K0 G hk h
theorem kM0 {b g self : Addr} (G : Gnd KF Γ) (hb : (b, AO.meth g self) ∈ H) (hf : fnIn KF g = true) (h : W prog w n Γ Conc (call (.ref b) []) ⟨loc, H, gs⟩ k) : W prog w n Γ Conc (callWith pos (.ref b) [] (backTo pos (starEach [] env)) []) ⟨loc, H, gs⟩ k := cw_M0 G hf hb h
def MethN (b g self : Addr) (prog : Program) (w : World) (n : Nat) (Γ : Act) (k : AV → St → Prop) (as : List AV) (S : St) : Prop := (b, AO.meth g self) ∈ S.heap ∧ ∀ vs, ConcL as vs → W prog w n Γ Conc (call (.ref b) vs) S k
theorem mn_ok {b g self : Addr} {as : List AV} (hb : (b, AO.meth g self) ∈ H) (h : ∀ vs, ConcL as vs → W prog w n Γ Conc (call (.ref b) vs) ⟨loc, H, gs⟩ k) : MethN b g self prog w n Γ k as ⟨loc, H, gs⟩ := ⟨hb, h⟩
theorem kMn {b g self : Addr} {e : Expr} {rest : List Expr} (G : Gnd KF Γ) (hb : (b, AO.meth g self) ∈ H) (hf : fnIn KF g = true) (he : starEach (e :: rest) env = (false, eval e env) :: starEach rest env) (hplain : (backTo pos (starEach rest env)).any (·.1) = false)
    (h : W prog w n Γ ConcL (spliced (backTo pos (starEach (e :: rest) env))) ⟨loc, H, gs⟩ fun as S₁ => MethN b g self prog w n Γ k as S₁) : W prog w n Γ Conc (callWith pos (.ref b) [] (backTo pos (starEach (e :: rest) env)) []) ⟨loc, H, gs⟩ k := cw_M G hf h he hplain
/-- a text that is written in the code -/
theorem r_lit {x : Str} {l : List Nat} {j : Nat} (e : x = mkS l) (h : k (.str l) S) : W prog w n Γ Conc (eval (.Constant (.str x) j pos) env) S k := r_str (by rw [e, mkS_list]; exact h)
end
end Mine
end
section
open PySem PySem.W PySem.Calls PyProof.Rows PySem.Builtin PySem.Builtin.Str
namespace Mine
section
variable {prog : Program} {w : World} {n : Nat} {Γ : Act} {KF : Frag} {S : St} {loc : Locs} {gs : Array GenState} {H H' : HL} {env : Env} {k : AV → St → Prop} {kb : Bool → St → Prop} {ku : Unit → St → Prop} {kf : FA → St → Prop} {pos p' : Pos} {t u t' u' : Tok}
theorem g_attr {o : Expr} {attr : Str} {v : Value} (h : W prog w n Γ Conc (eval o env) S fun b S₁ => ∀ vo, Conc b vo → W prog w n Γ UnitR (setAttr vo attr v) S₁ ku) : W prog w n Γ UnitR (assign (.Attribute o attr pos) env v) S ku := .mk fun A s ro p => by
  rw [PySem.assign_Attribute]
  refine wpAny_bind (wpAny_holding (h.to ro p fun vo b S₁ s₁ c p₁ z => wpAny_bind (wpAny_standAt (wpAny_bind (wpAny_holding ((z vo c).to ro p₁ fun _ _ S₂ s₂ _ p₂ z => ?_))))))
  exact wpAny_release' ⟨(), S₂, trivial, p₂, z⟩
/-- two are taken out of a tuple -/
def TupK (prog : Program) (w : World) (n : Nat) (Γ : Act) (e₁ e₂ : Expr) (env : Env) (kf : FA → St → Prop) (a : AV) (S : St) : Prop := ∃ r a₁ a₂, a = .ref r ∧ (r, AO.tuple [a₁, a₂]) ∈ S.heap ∧ ∀ v₁, Conc a₁ v₁ → W prog w n Γ UnitR (assign e₁ env v₁) S fun _ S₂ => ∀ v₂, Conc a₂ v₂ → W prog w n Γ UnitR (assign e₂ env v₂) S₂ fun _ S₃ => kf .next S₃
theorem tk_ok {e₁ e₂ : Expr} {r : Addr} {a₁ a₂ : AV} (hr : (r, AO.tuple [a₁, a₂]) ∈ H) (h : ∀ v₁, Conc a₁ v₁ → W prog w n Γ UnitR (assign e₁ env v₁) ⟨loc, H, gs⟩ fun _ S₂ => ∀ v₂, Conc a₂ v₂ → W prog w n Γ UnitR (assign e₂ env v₂) S₂ fun _ S₃ => kf .next S₃) : TupK prog w n Γ e₁ e₂ env kf (.ref r) ⟨loc, H, gs⟩ := ⟨r, a₁, a₂, rfl, hr, h⟩
theorem s_AssignTup {e₁ e₂ value : Expr} {j : Nat} (hs : swapsWithSole [.Tuple [e₁, e₂] j p'] value pos.line env = pure false) (hw : swappedStores [.Tuple [e₁, e₂] j p'] value env = pure none)
    (he : assignEach [e₁, e₂] env = [(false, assign e₁ env), (false, assign e₂ env)]) (h : W prog w n Γ Conc (eval value env) S fun a S₁ => TupK prog w n Γ e₁ e₂ env kf a S₁) : W prog w n Γ FlowR (exec (.Assign [.Tuple [e₁, e₂] j p'] value pos) env) S kf := .mk fun A s ro p =>
  Assign_Tuple (h.to ro p fun v a S₁ s₁ c p₁ z => by
    obtain ⟨loc₁, H₁, gs₁⟩ := S₁
    obtain ⟨r, a₁, a₂, rfl, hr, z⟩ := z
    cases c
    obtain ⟨vs, cl, ho⟩ := p₁.tuple hr
    cases cl with
    | @cons _ v₁ _ _ c₁ cl =>
    cases cl with
    | @cons _ v₂ _ _ c₂ cl =>
    cases cl
    refine wpAny_assign_Tuple ro.handled (items := [v₁, v₂].toArray) ⟨_, ho, rfl, _, rfl⟩ (by rw [he]; rfl) (by rw [he]; rfl) fun h' he' => ?_
    rw [he]
    have p₂ : Rep w.params Γ ⟨loc₁, H₁, gs₁⟩ { s₁ with heap := h' } := by
      obtain ⟨m, cells, F, N, nd, l, cc⟩ := p₁.ex
      exact ⟨⟨m, cells, F.extBut he' (Nat.le_refl _), N.extBut he' (Nat.le_refl _), nd, l, cc⟩, p₁.gens, p₁.os⟩
    show wpAny _ _ (assignInOrder [assign e₁ env, assign e₂ env] [v₁, v₂]) _ _ _
    unfold assignInOrder
    refine wpAny_bind (wpAny_holding ((z v₁ c₁).to ro p₂ fun _ _ S₂ s₂ _ p₂ z => ?_))
    unfold assignInOrder
    refine wpAny_bind (wpAny_holding ((z v₂ c₂).to ro p₂ fun _ _ S₃ s₃ _ p₃ z => ?_))
    unfold assignInOrder
    exact wpAny_pure ⟨.next, S₃, .next, p₃, z⟩) hs hw
theorem meth_bool : typeLookup (.type "method") "__bool__" = pure none := am_miss_of_fast (by kernel_rfl)
theorem meth_len : typeLookup (.type "method") "__len__" = pure none := am_miss_of_fast (by kernel_rfl)
theorem u_meth {b g self : Addr} (hb : (b, AO.meth g self) ∈ H) (h : kb true ⟨loc, H, gs⟩) : W prog w n Γ BoolR (truthy (.ref b)) ⟨loc, H, gs⟩ kb := .mk fun A s ro p => by
  obtain ⟨m, cells, F, N, nd, l, c⟩ := p.ex
  obtain ⟨c', oc, sub⟩ := c.at hb
  cases oc with
  | meth =>
    have hT : s.TypeIs (.ref b) "method" := ⟨_, (N _ (sub _ (.head _))).1, rfl⟩
    unfold truthy
    refine wpAny_bind (wpAny_callSpecial?_none (name := Str.ofString "__bool__") hT meth_bool ?_)
    refine wpAny_bind (wpAny_specialOf hT meth_len ?_)
    exact wpAny_pure ⟨true, _, rfl, p, h⟩
theorem o_modP {a b : Int} (hb : 0 < b) (h : k (.int (a % b)) S) : W prog w n Γ Conc (binaryOp .Mod (.int a t) (.int b u)) S k := o_modI (by omega) (by rw [Int.fmod_eq_emod_of_nonneg _ (by omega)]; exact h)
theorem o_divP {a b : Int} (hb : 0 < b) (hs : b < 1000) (h : k (.int (a / b)) S) : W prog w n Γ Conc (binaryOp .FloorDiv (.int a t) (.int b u)) S k := o_fdivI (by omega) (PyProof.noPylong_small (by omega)) (by rw [Int.fdiv_eq_ediv_of_nonneg _ (by omega)]; exact h)
/-- a def's summary is used -/
theorem call_sp {m : Nat} {f : Value} {vs : List Value} (hm : m ≤ n) (pck : Pick H' H) (h : WC prog w m Γ (.call f ⟨vs, []⟩) ⟨loc, H', gs⟩ k) : W prog w n Γ Conc (call f vs) ⟨loc, H, gs⟩ k := ((h.room hm).pick pck).call
theorem call_spM {m : Nat} {b g self : Addr} {vs : List Value} (hb : (b, AO.meth g self) ∈ H) (hm : m ≤ n) (pck : Pick H' H) (h : WC prog w m Γ (.call (.ref g) ⟨.ref self :: vs, []⟩) ⟨loc, H', gs⟩ k) : W prog w n Γ Conc (call (.ref b) vs) ⟨loc, H, gs⟩ k := (WC.meth hb ((h.room hm).pick pck)).call
theorem nr_n {P : Prop} (h : P) : NoRef .none ∧ P := ⟨.none, h⟩
theorem nr_s {P : Prop} {l : List Nat} (h : P) : NoRef (.str l) ∧ P := ⟨.str, h⟩
end
end Mine
end
section
open PySem PySem.W PySem.Calls PyProof.Rows PySem.Builtin PySem.Builtin.Str
namespace Mine
def isLet (c : Nat) : Bool := decide ((97 ≤ c ∧ c ≤ 122) ∨ (65 ≤ c ∧ c ≤ 90))
def isSp (c : Nat) : Bool := decide (c = 9 ∨ c = 10 ∨ c = 12 ∨ c = 32 ∨ c = 13)
abbrev letL : List (List Nat) := ((List.range 26).map fun a => [a + 97]) ++ (List.range 26).map fun a => [a + 65]
abbrev spL : List (List Nat) := [[9], [10], [12], [32], [13]]
theorem any_str (xs : List (List Nat)) (l : List Nat) : ((xs.map AV.str).any fun x => eqA x (.str l)) = decide (l ∈ xs) := by
  induction xs with
  | nil => rfl
  | cons a r ih =>
    rw [List.map_cons, List.any_cons, ih]
    show ((a == l) || _) = _
    by_cases h : a = l
    · subst h; simp
    · have h2 : ¬ l = a := fun e => h e.symm
      simp [h, h2]
theorem let_any (c : Nat) : ((letL.map AV.str).any fun x => eqA x (.str [c])) = isLet c := by
  rw [any_str]
  unfold isLet
  rw [decide_eq_decide]
  simp only [letL, List.mem_append, List.mem_map, List.mem_range, List.cons.injEq, and_true]
  constructor
  · rintro (⟨a, h, rfl⟩ | ⟨a, h, rfl⟩) <;> omega
  · rintro (h | h)
    · exact .inl ⟨c - 97, by omega, by omega⟩
    · exact .inr ⟨c - 65, by omega, by omega⟩
theorem sp_any (c : Nat) : ((spL.map AV.str).any fun x => eqA x (.str [c])) = isSp c := by
  rw [any_str]
  unfold isSp
  rw [decide_eq_decide]
  simp only [spL, List.mem_cons, List.cons.injEq, and_true, List.not_mem_nil, or_false]
theorem any_int (xs : List Int) (i : Int) : ((xs.map AV.int).any fun x => eqA x (.int i)) = decide (i ∈ xs) := by
  induction xs with
  | nil => rfl
  | cons a r ih =>
    rw [List.map_cons, List.any_cons, ih]
    show ((a == i) || _) = _
    by_cases h : a = i
    · subst h; simp
    · have h2 : ¬ i = a := fun e => h e.symm
      simp [h, h2]
def intsOf : List Value → Option (List Int)
  | [] => some []
  | .int x _ :: r => (intsOf r).map (x :: ·)
  | _ => none
theorem intsOf_conc : ∀ {l : List Value} {xs : List Int}, intsOf l = some xs → ConcL (xs.map .int) l
  | [], _, e => by cases e; exact .nil
  | v :: r, xs, e => by
    cases v <;> try cases e
    rename_i x t
    unfold intsOf at e
    cases q : intsOf r with
    | none => rw [q] at e; cases e
    | some ys => rw [q] at e; cases e; exact .cons (.int x t) (intsOf_conc q)
def intTup (K : Frag) (a : Addr) : Option (List Int) := match K.lookup a with
  | some ⟨.type "tuple", none, .seq vs _, _⟩ => intsOf vs.toList
  | _ => none
theorem intTup_of {K : Frag} {h : Heap} (X : K.In h) {a : Addr} {xs : List Int} (e : intTup K a = some xs) : ∃ vs, h.IsTuple a vs.toArray ∧ ConcL (xs.map .int) vs := by
  unfold intTup at e
  split at e
  · rename_i vs nn sl q
    exact ⟨vs.toList, ⟨_, X _ _ q, rfl, nn, by simp⟩, intsOf_conc e⟩
  · cases e
/-- one more at the end, in plain form -/
inductive Snoc {α : Type} (p : α) : List α → List α → Prop
  | nil : Snoc p [] [p]
  | cons {q r r'} : Snoc p r r' → Snoc p (q :: r) (q :: r')
theorem Snoc.eq {α : Type} {p : α} {r r' : List α} (s : Snoc p r r') : r' = r ++ [p] := by
  induction s with
  | nil => rfl
  | cons _ ih => rw [ih]; rfl
theorem put_new {x : Str} {v : AV} {es es' : List (Str × AV)} (hn : x ∉ es.map (·.1)) (hs : Snoc (x, v) es es') : PutE x v es es' := by
  rw [hs.eq]; exact .new hn
section
variable {prog : Program} {w : World} {n : Nat} {Γ : Act} {KF : Frag} {S : St} {loc : Locs} {gs : Array GenState} {H H' : HL} {env : Env} {k : AV → St → Prop} {kb : Bool → St → Prop} {ku : Unit → St → Prop} {kf : FA → St → Prop} {pos p' : Pos} {t u t' u' : Tok}
theorem s_Assert {test : Expr} {msg : Option Expr} (h : W prog w n Γ BoolR (isTrue test env (eval test env)) S fun c S' => c = true ∧ kf .next S') : W prog w n Γ FlowR (exec (.Assert test msg pos) env) S kf := .mk fun A s ro p =>
  wpAny_Assert_holds (h.to ro p fun a c S' s' e p' z => by
    obtain ⟨rfl, z⟩ := z
    cases (e : true = a)
    exact ⟨rfl, .next, S', .next, p', z⟩)
theorem as_ok {c : Bool} (e : c = true) {P : Prop} (h : P) : c = true ∧ P := ⟨e, h⟩
theorem q_let {a : Addr} {c : Nat} (G : Gnd KF Γ) (ha : strTup KF a = some letL) (h : k (.bool (isLet c)) S) : W prog w n Γ Conc (compareOp .In (.str ⟨[c].toArray⟩ t) (.ref a)) S k := q_inK G ha (.str (l := [c])) (.str [c] t) (by rw [let_any]; exact h)
theorem q_sp {a : Addr} {c : Nat} (G : Gnd KF Γ) (ha : strTup KF a = some spL) (h : k (.bool (isSp c)) S) : W prog w n Γ Conc (compareOp .In (.str ⟨[c].toArray⟩ t) (.ref a)) S k := q_inK G ha (.str (l := [c])) (.str [c] t) (by rw [sp_any]; exact h)
theorem q_intK {a : Addr} {xs : List Int} {i : Int} (G : Gnd KF Γ) (ha : intTup KF a = some xs) (h : k (.bool (decide (i ∈ xs))) S) : W prog w n Γ Conc (compareOp .In (.int i t) (.ref a)) S k := .mk fun A s ro p => by
  obtain ⟨_, _, F, _⟩ := p.ex
  obtain ⟨vs, ht, cl⟩ := intTup_of (G.X.keeps F.keep) ha
  obtain ⟨e, he, hq⟩ := any_conc (A := A.in1) (s := s) (xs := xs.map .int) (a := .int i) (v := .int i t) (fun x hx => by obtain ⟨l, _, rfl⟩ := List.mem_map.mp hx; exact .int) .int (.int i t) cl
  refine SeqAt.in_tupleAt e ht (fun y hy => he y (by simpa using hy)) ⟨.bool (decide (i ∈ xs)), S, ?_, p, h⟩
  rw [List.any_toArray, hq]
  rw [any_int]; exact .bool _
theorem i_getDl {d : Addr} {es : List (Str × AV)} {x : Str} {l : List Nat} {av : AV} (e : x = mkS l) (hd : (d, .dict es) ∈ H) (hm : (x, av) ∈ es) (h : k av ⟨loc, H, gs⟩) : W prog w n Γ Conc (getItem (.ref d) (.str ⟨l.toArray⟩ t)) ⟨loc, H, gs⟩ k := by
  subst e; exact i_getD hd hm h
theorem i_setDl {d : Addr} {es es' : List (Str × AV)} {x : Str} {l : List Nat} {av : AV} {v : Value} (e : x = mkS l) (cv : Conc av v) (hd : (d, AO.dict es) ∈ H) (ue : PutE x av es es') (hu : UpdH d (.dict es) (.dict es') H H') (hz : es.length ≤ 1000) (h : ku () ⟨loc, H', gs⟩) : W prog w n Γ UnitR (setItem (.ref d) (.str ⟨l.toArray⟩ t) v) ⟨loc, H, gs⟩ ku := by
  subst e; exact i_setD hu ue cv hz h
theorem f_appendN {D : Addr} {xs xs' : List AV} {av : AV} {v : Value} (hi : (D, AO.list xs) ∈ H) (cv : Conc av v) (hs : Snoc av xs xs') (hu : UpdH D (.list xs) (.list xs') H H') (hz : xs.length ≤ 1048576) (h : k .none ⟨loc, H', gs⟩) : W prog w n Γ Conc (call (.builtin "list.append") [.ref D, v]) ⟨loc, H, gs⟩ k := by
  have e := hs.eq
  subst e
  exact f_append hu cv hz h
end
end Mine
end
section
open PySem PySem.W PySem.Calls PyProof.Rows PySem.Builtin PySem.Builtin.Str
namespace Mine
/-- a slice of a list, step one -/
def slcL {α : Type} (l : List α) (lo hi : Option Int) : List α := (l.drop (clipN lo 0 l.length)).take (clipN hi l.length l.length - clipN lo 0 l.length)
theorem slcL_conc {xs : List AV} {vs : List Value} (c : ConcL xs vs) (lo hi : Option Int) : ConcL (slcL xs lo hi) (slcL vs lo hi) := by
  have hd : ∀ {xs : List AV} {vs : List Value}, ConcL xs vs → ∀ k, ConcL (xs.drop k) (vs.drop k) := by
    intro xs vs c
    induction c with
    | nil => intro k; simp; exact .nil
    | cons r _ ih => intro k; cases k with
      | zero => exact .cons r (by simpa using ih 0)
      | succ k => exact ih k
  have ht : ∀ {xs : List AV} {vs : List Value}, ConcL xs vs → ∀ k, ConcL (xs.take k) (vs.take k) := by
    intro xs vs c
    induction c with
    | nil => intro k; simp; exact .nil
    | cons r _ ih => intro k; cases k with
      | zero => exact .nil
      | succ k => exact .cons r (ih k)
  unfold slcL
  rw [← c.length]
  exact ht (hd c _) _
theorem sliceBounds_clip (lo hi : Option Int) (n : Nat) : sliceBounds lo hi none n = ((clipN lo 0 n : Int), (clipN hi n n : Int), 1) := by
  unfold sliceBounds
  simp only [Option.getD_none, show (1 : Int) > 0 by decide, if_true]
  congr 1
  · cases lo with
    | none => rfl
    | some i => simp only [clipN]; split <;> omega
  · congr 1
    cases hi with
    | none => rfl
    | some i => simp only [clipN]; split <;> omega
theorem slicePick_clip (vs : List Value) (lo hi : Option Int) : slicePick vs.toArray lo hi none = (slcL vs lo hi).toArray := by
  have e1 := clipN_le lo 0 vs.length (Nat.zero_le _)
  have e2 := clipN_le hi vs.length vs.length (Nat.le_refl _)
  have e : slicePick vs.toArray lo hi none = slicePick vs.toArray (some (clipN lo 0 vs.length : Nat)) (some (clipN hi vs.length vs.length : Nat)) none := by
    unfold slicePick
    rw [sliceBounds_clip, sliceBounds_clip]
    simp only [List.size_toArray]
    have a1 : clipN (some (clipN lo 0 vs.length : Int)) 0 vs.length = clipN lo 0 vs.length := by
      generalize clipN lo 0 vs.length = q at *
      simp only [clipN]; split <;> omega
    have a2 : clipN (some (clipN hi vs.length vs.length : Int)) vs.length vs.length = clipN hi vs.length vs.length := by
      generalize clipN hi vs.length vs.length = q at *
      simp only [clipN]; split <;> omega
    rw [a1, a2]
  rw [e]
  unfold slcL
  generalize clipN lo 0 vs.length = a at *
  generalize clipN hi vs.length vs.length = b at *
  rcases Nat.lt_or_ge b a with h | h
  · rw [show b - a = 0 by omega, List.take_zero]
    unfold slicePick
    rw [sliceBounds_clip]
    have a1 : clipN (some (a : Int)) 0 vs.toArray.size = a := by simp only [clipN, List.size_toArray]; split <;> omega
    have a2 : clipN (some (b : Int)) vs.toArray.size vs.toArray.size = b := by simp only [clipN, List.size_toArray]; split <;> omega
    rw [a1, a2]
    unfold sliceRange
    dsimp only
    rw [if_pos (by decide), if_neg (by omega)]
    rfl
  · rw [slicePick_run _ _ _ (by simpa using e2) h]
/-- a list: of the heap's new part, or that stood before -/
def LAt (Γ : Act) (l : Addr) (xs : List AV) (H : HL) : Prop := (l, AO.list xs) ∈ H ∨ ∃ vs, Γ.h₀.IsList l vs.toArray ∧ ConcL xs vs
theorem LAt.is {P : Params} {Γ : Act} {loc : Locs} {gs : Array GenState} {H : HL} {s : Shared} {l : Addr} {xs : List AV} (x : LAt Γ l xs H) (p : Rep P Γ ⟨loc, H, gs⟩ s) : ∃ vs, s.heap.IsList l vs.toArray ∧ ConcL xs vs := by
  rcases x with x | ⟨vs, hl, c⟩
  · obtain ⟨vs, nn, cl, ho⟩ := p.list x
    exact ⟨vs, ⟨_, ho, rfl, nn, rfl⟩, cl⟩
  · obtain ⟨m, cells, F, _⟩ := p.ex
    obtain ⟨o, ho, r⟩ := hl
    exact ⟨vs, ⟨o, F.keep _ _ ho, r⟩, c⟩
inductive SetAt {α : Type} (v : α) : Nat → List α → List α → Prop
  | zero {x r} : SetAt v 0 (x :: r) (v :: r)
  | succ {n x r r'} : SetAt v n r r' → SetAt v (n + 1) (x :: r) (x :: r')
theorem SetAt.eq {α : Type} {v : α} {n : Nat} {r r' : List α} (s : SetAt v n r r') : r' = r.set n v ∧ n < r.length := by
  induction s with
  | zero => exact ⟨rfl, Nat.zero_lt_succ _⟩
  | succ _ ih => exact ⟨by rw [ih.1]; rfl, Nat.succ_lt_succ ih.2⟩
section
variable {prog : Program} {w : World} {n : Nat} {Γ : Act} {KF : Frag} {S : St} {loc : Locs} {gs : Array GenState} {H H' : HL} {env : Env} {k : AV → St → Prop} {kb : Bool → St → Prop} {ku : Unit → St → Prop} {kf : FA → St → Prop} {pos p' : Pos} {t u t' u' : Tok}
def LkK (Γ : Act) (k : AV → St → Prop) (l : Addr) (lo hi : Option Int) (S : St) : Prop := ∃ xs, LAt Γ l xs S.heap ∧ xs.length ≤ 1048576 ∧ ∀ r, k (.ref r) ⟨S.loc, (r, .list (slcL xs lo hi)) :: S.heap, S.gens⟩
theorem lk_ok {l : Addr} {xs : List AV} {lo hi : Option Int} (hl : (l, AO.list xs) ∈ H) (hz : xs.length ≤ 1048576) (h : ∀ r, k (.ref r) ⟨loc, (r, .list (slcL xs lo hi)) :: H, gs⟩) : LkK Γ k l lo hi ⟨loc, H, gs⟩ := ⟨xs, .inl hl, hz, h⟩
theorem lk_old {l : Addr} {xs : List AV} {vs : List Value} {lo hi : Option Int} (hl : Γ.h₀.IsList l vs.toArray) (c : ConcL xs vs) (hz : xs.length ≤ 1048576) (h : ∀ r, k (.ref r) ⟨loc, (r, .list (slcL xs lo hi)) :: H, gs⟩) : LkK Γ k l lo hi ⟨loc, H, gs⟩ := ⟨xs, .inr ⟨vs, hl, c⟩, hz, h⟩
def SlkK (prog : Program) (w : World) (n : Nat) (Γ : Act) (lo hi : Option Expr) (env : Env) (k : AV → St → Prop) (a : AV) (S : St) : Prop := ∃ l, a = .ref l ∧ W prog w n Γ PartR (evalPart lo env) S fun lo' S₂ => W prog w n Γ PartR (evalPart hi env) S₂ fun hi' S₃ => LkK Γ k l lo' hi' S₃
theorem partOf {o : Option Int} {v : Value} (c : PartR o v) : IsPart v o := by
  obtain ⟨lt, rfl, e⟩ := c
  cases lt with
  | none => cases e; exact .none
  | some p => cases e; exact .int _ _
theorem x_SliceX {v : Expr} {lo hi : Option Expr} (h : W prog w n Γ Conc (eval v env) S fun a S₁ => SlcK prog w n Γ lo hi env k a S₁ ∨ SlkK prog w n Γ lo hi env k a S₁) : W prog w n Γ Conc (eval (.Subscript v (.Slice lo hi none p') pos) env) S k := .mk fun A s ro p =>
  Subscript_ (h.to ro p fun vo a S₁ s₁ c p₁ z => by
    rcases z with ⟨l, rfl, hz, z⟩ | ⟨l, rfl, z⟩
    · cases c with
      | str l t =>
        refine wpAny_Slice (z.to ro p₁ fun vl lo' S₂ s₂ c₂ p₂ z => z.to ro p₂ fun vu hi' S₃ s₃ c₃ p₃ z => ?_)
        obtain ⟨lt, rfl, e₁⟩ := c₂
        obtain ⟨ut, rfl, e₂⟩ := c₃
        rw [evalPart_none]
        refine wpAny_pure (tail_any (T := "str") (typeIs_str _ _ _) F.slot_str_getitem.lookup (wpAny_getItem_str_slice (l := lt) (u := ut) (st := none) ⟨_, Heap.get?_push_size _ rfl, rfl, rfl⟩ rfl (sliceMade_slc (l := l) (by rw [sizeLine_eq]; omega) fun t' kk => ?_)))
        rw [e₁, e₂]
        exact ⟨.str (slc l lo' hi'), S₃, .str _ _, (p₃.fresh _).toks _, z⟩
    · cases c
      refine wpAny_Slice (z.to ro p₁ fun vl lo' S₂ s₂ c₂ p₂ z => z.to ro p₂ fun vu hi' S₃ s₃ c₃ p₃ z => ?_)
      obtain ⟨xs, hl, hz, z⟩ := z
      obtain ⟨loc₃, H₃, gs₃⟩ := S₃
      obtain ⟨vs, il, cl⟩ := hl.is p₃
      rw [evalPart_none]
      refine wpAny_pure (tail_any (T := "list") (Heap.IsList.typeIs (s := { s₃ with heap := s₃.heap.push { cls := .type "slice", data := .fields #[vl, vu, .none] } }) (il.push _)) list_getitem_lookup
        (wpAny_getItem_list_slice (il.push _) (Heap.IsSliceOf.new ..) (partOf c₂) (partOf c₃) .none (by simp) ?_ (by rw [List.size_toArray, ← cl.length, sizeLine_eq]; omega)))
      have p₄ := p₃.fresh { cls := .type "slice", data := .fields #[vl, vu, .none] }
      rw [slicePick_clip]
      exact ⟨.ref _, ⟨loc₃, (_, .list (slcL xs lo' hi')) :: H₃, gs₃⟩, .ref _, p₄.new (.list (n := 0) (slcL_conc cl lo' hi')), z _⟩)
theorem sx_str {l : List Nat} {lo hi : Option Expr} {X : Prop} (hz : l.length ≤ 1048576) (h : W prog w n Γ PartR (evalPart lo env) S fun lo' S₂ => W prog w n Γ PartR (evalPart hi env) S₂ fun hi' S₃ => k (.str (slc l lo' hi')) S₃) : SlcK prog w n Γ lo hi env k (.str l) S ∨ X := .inl ⟨l, rfl, hz, h⟩
theorem sx_list {l : Addr} {lo hi : Option Expr} {X : Prop} (h : W prog w n Γ PartR (evalPart lo env) S fun lo' S₂ => W prog w n Γ PartR (evalPart hi env) S₂ fun hi' S₃ => LkK Γ k l lo' hi' S₃) : X ∨ SlkK prog w n Γ lo hi env k (.ref l) S := .inr ⟨l, rfl, h⟩
theorem i_setLn {D : Addr} {xs xs' : List AV} {a : Int} {j : Nat} {av : AV} {v : Value} (hj : a = (j : Int)) (cv : Conc av v) (hl : (D, AO.list xs) ∈ H) (hs : SetAt av j xs xs') (hu : UpdH D (.list xs) (.list xs') H H') (hz : xs.length ≤ 1048576) (h : ku () ⟨loc, H', gs⟩) : W prog w n Γ UnitR (setItem (.ref D) (.int a u) v) ⟨loc, H, gs⟩ ku := by
  obtain ⟨e, hlt⟩ := hs.eq
  subst e
  exact i_setL hj hlt hu cv hz h
end
end Mine
end
section
open PySem PySem.W PySem.Calls PyProof.Rows PySem.Builtin PySem.Builtin.Str
namespace Mine
theorem lk_list_keys : typeLookup (.type "list") "keys" = pure none := by rw [typeLookup_type, builtinLookup_eq_fast]; kernel_rfl
theorem entry_dul : entryFor table "dict.update.loop" = some Builtin.«dict.update.loop» := entryFor_of_tree (by kernel_rfl)
section
variable {prog : Program} {w : World} {A : Around} {E : Value → Shared → Prop}
theorem keys_miss {s : Shared} {a : Addr} {xs : Array Value} {k : Nat} {Q : Option Value → Shared → Prop} (hx : s.heap.get? a = some ⟨.type "list", none, .seq xs k, #[]⟩) (hA : A.handled = none)
    (h : ∀ h' tk, (∀ b o, s.heap.get? b = some o → h'.get? b = some o) → Q none { s with heap := h', toks := tk }) : wpAny (model prog w) A (getAttr? (.ref a) "keys") Q E s := by
  obtain ⟨hp, g, d, tk, os⟩ := s
  have hT : ∀ tk', (⟨hp, g, d, tk', os⟩ : Shared).TypeIs (.ref a) "list" := fun _ => ⟨_, hx, rfl⟩
  have f1 := sub_AttributeError
  have f3 := F.slot_list_getattribute.lookup
  have f4 := F.slot_list_getattribute.bind (.ref a)
  have f5 := am_list_getattr_none
  unfold getAttr? getAttrBy? getAttrBy
  repeat (any_goals (first | assumption | exact hT _ | ((with_reducible show wpAny _ _ (call (Value.builtin "list.__getattribute__") _ _) _ _ _); refine call_meets F.slot_list_getattribute (hT _) am_entry_list_getattribute (F.args_list_getattribute_2 _ _) (meets_getattribute_miss_list a xs k #[] "keys" _ lk_list_keys (by decide +kernel)) ⟨hx, hA, fun h' tk' e hx' => ?_⟩) | wp_step))
  obtain ⟨t', u', he⟩ := hx'.there
  show wpAny _ _ (getattributeRaised _ _ _ _ _ _ _) _ _ _
  unfold getattributeRaised
  repeat (any_goals (first | assumption | wp_step))
  exact h _ _ hx'.keeps
end
end Mine
end
section
open PySem PySem.W PySem.Calls PyProof.Rows PySem.Builtin PySem.Builtin.Str
namespace Mine
section
variable {prog : Program} {w : World} {A : Around} {E : Value → Shared → Prop}
/-- dict of a list with one pair in it -/
theorem dict_one {s : Shared} {raw pr : Addr} {n₁ n₂ : Nat} {x : Str} {t : Tok} {v : Value} {Q : Value → Shared → Prop} (hh : A.handled = none)
    (h1 : s.heap.get? raw = some (listOf #[.ref pr] n₁)) (h2 : s.heap.get? pr = some (listOf #[.str x t, v] n₂))
    (h : ∀ h' tk, (∀ b o, s.heap.get? b = some o → h'.get? b = some o) → h'.DictOf (PySem.strKind prog w) s.heap.objs.size [(x, v)] → Q (.ref s.heap.objs.size) { s with heap := h', toks := tk }) :
    wpAny (model prog w) A (call (.type "dict") [.ref raw]) Q E s := by
  refine callType_codes (Q₁ := fun obj s₁ => obj = .ref s.heap.objs.size ∧ s₁ = { s with heap := s.heap.push { cls := .type "dict", data := .dict #[] } }) F.kt_called_dict (F.kt_typeCall_dict_1 _) F.entry_dict_init (kt_code_dict_new _ ⟨rfl, rfl⟩) ?_
  rintro obj s₁ ⟨rfl, rfl⟩
  generalize hd : s.heap.objs.size = d at h
  have hnew : (s.heap.push { cls := .type "dict", data := .dict #[] }).DictOf (PySem.strKind prog w) d [] := hd ▸ Heap.DictOf.new s.heap
  have k1 : ∀ b o, s.heap.get? b = some o → (s.heap.push { cls := .type "dict", data := .dict #[] }).get? b = some o := fun b o e => Heap.get?_push_of_some _ e
  generalize s.heap.push { cls := .type "dict", data := .dict #[] } = g₁ at hnew k1
  refine ⟨hnew.typeIs, F.args_dict_init_2 _ _, ?_⟩
  unfold Builtin.«dict.__init__»
  refine wpAny_bind ?_
  unfold Builtin.Dict.selfAndRest
  refine wpAny_bind (wpAny_notOrdered_dict hnew.typeIs ?_)
  show wpAny _ _ (pure (d, [Value.ref raw])) _ _ _
  refine wpAny_pure ?_
  show wpAny _ _ (Builtin.Dict.updateFrom "dict.__init__" d (.ref raw) [] .none) _ _ _
  unfold Builtin.Dict.updateFrom
  refine wpAny_bind (wpAny_typeOf (T := "list") ⟨_, k1 _ _ h1, rfl⟩ ?_)
  rw [if_pos (by decide)]
  refine wpAny_bind ?_
  refine keys_miss (k1 _ _ h1) hh fun g₂ tk k2 => ?_
  rw [if_pos (show (none : Option Value).isNone = true from rfl)]
  refine wpAny_bind ?_
  refine wpAny_rule ?_
  have l2 : g₂.IsList raw #[.ref pr] := ⟨_, k2 _ _ (k1 _ _ h1), rfl, n₁, rfl⟩
  refine wpAny_bind ?_
  refine wpAny_pyIter_list (s := { s with heap := g₂, toks := tk }) l2 ?_
  refine wpAny_pure ⟨Code.quiet_builtin _ (by decide +kernel), ?_⟩
  have k3 : ∀ b o, g₂.get? b = some o → (g₂.push { cls := .type "list_iterator", data := .fields #[.ref raw, .int 0 0] }).get? b = some o := fun b o e => Heap.get?_push_of_some _ e
  have it0 : (g₂.push { cls := .type "list_iterator", data := .fields #[.ref raw, .int 0 0] }).IsListIter g₂.objs.size raw 0 := ⟨_, Heap.get?_push_size _ rfl, rfl, rfl⟩
  have nl : g₂.get? g₂.objs.size = none := by
    cases q : g₂.get? g₂.objs.size with
    | none => rfl
    | some o => exact absurd (Heap.lt_size q) (Nat.lt_irrefl _)
  show codeAny _ _ (.builtin "dict.update.loop" ⟨[.ref d, .ref g₂.objs.size, rawInt 0, .none], []⟩) _ { s with heap := g₂.push { cls := .type "list_iterator", data := .fields #[.ref raw, .int 0 0] }, toks := tk }
  generalize g₂.objs.size = it at it0 nl
  generalize g₂.push { cls := .type "list_iterator", data := .fields #[.ref raw, .int 0 0] } = g₃ at k3 it0
  have hd2 : Heap.DictOf (PySem.strKind prog w) g₂ d [] := let ⟨o, es, ep, ho, r⟩ := hnew; ⟨o, es, ep, k2 _ _ ho, r⟩
  have hd3 : Heap.DictOf (PySem.strKind prog w) g₃ d [] := let ⟨o, es, ep, ho, r⟩ := hd2; ⟨o, es, ep, k3 _ _ ho, r⟩
  have dit : d ≠ it := fun e => by obtain ⟨_, _, _, ho, _⟩ := hd2; rw [e] at ho; rw [ho] at nl; cases nl
  have ks : ∀ b o, s.heap.get? b = some o → g₃.get? b = some o ∧ b ≠ it ∧ b ≠ d := fun b o e => by
    have e2 := k2 _ _ (k1 _ _ e)
    refine ⟨k3 _ _ e2, fun q => ?_, fun q => ?_⟩
    · rw [q] at e2; rw [e2] at nl; cases nl
    · have := Heap.lt_size e
      rw [q, ← hd] at this
      exact Nat.lt_irrefl _ this
  refine codeAny_builtin entry_dul ?_
  rw [Around.under_plain (by rfl) rfl]
  unfold Builtin.«dict.update.loop»
  show wpAny _ _ (pyNext (.ref it) >>= _) _ _ _
  have l3 : g₃.IsList raw #[.ref pr] := ⟨_, (ks _ _ h1).1, rfl, n₁, rfl⟩
  refine wpAny_bind (wpAny_pyNext_list_item (s := { s with heap := g₃, toks := tk }) it0 l3 (by rfl) fun g₄ it1 sb => ?_)
  have k4 : ∀ b o, b ≠ it → g₃.get? b = some o → g₄.get? b = some o := fun b o ne e => (sb.2 b ne).trans e
  refine wpAny_bind (wpAny_holding (wpAny_bind (wpAny_tryCatch (wpAny_mono (?_ : wpAny _ _ (Builtin.Dict.pairItems (.ref pr)) (fun r s' => r = [.str x t, v] ∧ s' = { s with heap := g₄, toks := tk }) (fun _ _ => False) _) ?_ ?_))))
  · unfold Builtin.Dict.pairItems
    have hp : g₄.get? pr = some (listOf #[.str x t, v] n₂) := k4 _ _ (ks _ _ h2).2.1 (ks _ _ h2).1
    refine wpAny_bind (wpAny_typeOf (T := "list") ⟨_, hp, rfl⟩ ?_)
    rw [if_pos (by decide)]
    exact wpAny_bind (wpAny_seqItems hp rfl (wpAny_pure ⟨rfl, rfl⟩))
  · rintro r s' ⟨rfl, rfl⟩
    have hd4 : Heap.DictOf (PySem.strKind prog w) g₄ d [] := let ⟨o, es, ep, ho, r⟩ := hd3; ⟨o, es, ep, k4 _ _ dit ho, r⟩
    show wpAny _ _ (holding [.str x t, v] (dictSet d (.str x t) v)) _ _ _
    refine wpAny_holding (wpAny_dictSet_pairs (knd := PySem.strKind prog w) (k := x) (by simp [PySem.strKind, Value.isStrOf]) hd4 fun g₅ hd5 sb5 => ?_)
    refine wpAny_pure ⟨Code.quiet_builtin _ (by decide +kernel), codeAny_builtin entry_dul ?_⟩
    rw [Around.under_plain (by rfl) rfl]
    unfold Builtin.«dict.update.loop»
    show wpAny _ _ (pyNext (.ref it) >>= _) _ _ _
    have k5 : ∀ b o, b ≠ d → g₄.get? b = some o → g₅.get? b = some o := fun b o ne e => (sb5.2 b ne).trans e
    have l5 : g₅.IsList raw #[.ref pr] := ⟨_, k5 _ _ (ks _ _ h1).2.2 (k4 _ _ (ks _ _ h1).2.1 (ks _ _ h1).1), rfl, n₁, rfl⟩
    have it2 : g₅.IsListIter it raw 1 := let ⟨o, ho, r⟩ := it1; ⟨o, k5 _ _ (Ne.symm dit) ho, r⟩
    refine wpAny_bind (wpAny_pyNext_list_end (s := { s with heap := g₅, toks := tk + 1 }) hh it2 l5 (by rfl) fun g₆ eb => ?_)
    show wpAny _ _ (Builtin.Dict.addKeywords d [] >>= _) _ _ _
    refine wpAny_bind (wpAny_pure (wpAny_pure ⟨rfl, h g₆ (tk + 1) (fun b o e => ?_) ?_⟩))
    · obtain ⟨e3, n1, n2⟩ := ks _ _ e
      exact eb _ _ n1 (k5 _ _ n2 (k4 _ _ n1 e3))
    · obtain ⟨o, es, ep, ho, r⟩ := hd5
      exact ⟨o, es, ep, eb _ _ dit ho, r⟩
  · intro _ _ e; exact e.elim
end
section
variable {prog : Program} {w : World} {n : Nat} {Γ : Act} {KF : Frag} {S : St} {loc : Locs} {gs : Array GenState} {H H' : HL} {env : Env} {k : AV → St → Prop} {kb : Bool → St → Prop} {ku : Unit → St → Prop} {kf : FA → St → Prop} {pos p' : Pos} {t u t' u' : Tok}
theorem Rep.keeps {P : Params} {s : Shared} (p : Rep P Γ S s) {h' : Heap} {tk : Nat} (e : ∀ b o, s.heap.get? b = some o → h'.get? b = some o) : Rep P Γ S { s with heap := h', toks := tk } := by
  obtain ⟨m, cells, F, N, nd, l, c⟩ := p.ex
  exact ⟨⟨m, cells, ⟨F.ns.keeps e, fun b o x => e _ _ (F.keep b o x), F.above⟩, fun q hq => ⟨e _ _ (N q hq).1, (N q hq).2⟩, nd, l, c⟩, p.gens, p.os⟩
theorem Rep.addCell {P : Params} {s : Shared} (p : Rep P Γ ⟨loc, H, gs⟩ s) {h' : Heap} {tk : Nat} {d : Addr} {o : Obj} {ao : AO} (e : ∀ b o, s.heap.get? b = some o → h'.get? b = some o) (hn : s.heap.get? d = none) (hd : h'.get? d = some o) (oc : ObjC P d ao [(d, o)]) :
    Rep P Γ ⟨loc, (d, ao) :: H, gs⟩ { s with heap := h', toks := tk } := by
  have p' := p.keeps (tk := tk) e
  obtain ⟨m, cells, F, N, nd, l, c⟩ := p.ex
  refine ⟨⟨m, (d, o) :: cells, ⟨F.ns.keeps e, fun b o x => e _ _ (F.keep b o x), F.above⟩, fun q hq => ?_, ?_, l, .cons (c := [_]) oc c⟩, p.gens, p.os⟩
  · rcases List.mem_cons.mp hq with rfl | hq
    · refine ⟨hd, fun x => ?_, ?_⟩
      · obtain ⟨_, _, _, ho, _⟩ := F.ns
        dsimp only at x
        rw [← x, hn] at ho; cases ho
      · cases z : Γ.h₀.get? d with
        | none => rfl
        | some o' => rw [F.keep _ _ z] at hn; cases hn
    · exact ⟨e _ _ (N q hq).1, (N q hq).2⟩
  · rw [List.map_cons, List.nodup_cons]
    refine ⟨fun hq => ?_, nd⟩
    obtain ⟨q, hq, x⟩ := List.mem_map.mp hq
    dsimp only at x
    rw [← x, (N q hq).1] at hn; cases hn
theorem f_dict1 {raw pr : Addr} {l : List Nat} {av : AV} (G : Gnd KF Γ) (hr : (raw, AO.list [.ref pr]) ∈ H) (hp : (pr, AO.list [.str l, av]) ∈ H) (h : ∀ d, k (.ref d) ⟨loc, (d, .dict [(mkS l, av)]) :: H, gs⟩) :
    W prog w n Γ Conc (call (.type "dict") [.ref raw]) ⟨loc, H, gs⟩ k := .mk fun A s ro p => by
  obtain ⟨vs, n₁, c₁, h1⟩ := p.list hr
  obtain ⟨vs', n₂, c₂, h2⟩ := p.list hp
  cases c₁ with
  | cons a b =>
  cases a; cases b
  cases c₂ with
  | cons a b =>
  cases b with
  | cons b c =>
  cases c
  cases a with
  | str _ t =>
  refine dict_one ro.handled h1 h2 fun h' tk e hd => ?_
  obtain ⟨_, _, _, _, T⟩ := G.T
  have lo : (s.heap.objs.size == sysModules) = false := by
    obtain ⟨_, _, F, _⟩ := p.ex
    exact F.notModules (modules_low T.nolimit)
  obtain ⟨o, ho, hd⟩ := Heap.dictOf_iff.mp hd
  obtain ⟨ds, nn, rfl, ec⟩ := ofDict (es := [(mkS l, av)]) hd (.cons ⟨rfl, b⟩ .nil)
  refine ⟨.ref _, ⟨loc, (_, .dict [(mkS l, av)]) :: H, gs⟩, .ref _, p.addCell e ?_ ho (.dict ec (by simp) lo), h _⟩
  cases q : s.heap.get? s.heap.objs.size with
  | none => rfl
  | some o => exact absurd (Heap.lt_size q) (Nat.lt_irrefl _)
theorem f_lenD {D : Addr} {es : List (Str × AV)} (hD : (D, .dict es) ∈ H) (hz : es.length ≤ 1000) (h : k (.int es.length) ⟨loc, H, gs⟩) : W prog w n Γ Conc (call (.builtin "len") [.ref D]) ⟨loc, H, gs⟩ k := .mk fun A s ro p => by
  obtain ⟨ds, nn, ec, nk, lo, ho⟩ := p.dict hD
  obtain ⟨kvs, hd, bc⟩ := isDict (prog := prog) (nn := nn) ec nk
  have hl : kvs.length = es.length := (All2.length bc).symm
  exact call_len_dict (knd := PySem.strKind prog w) lo (Heap.dictOf_iff.mpr ⟨_, ho, hd⟩) (by rw [hl]; omega) (by first | exact ⟨.int es.length, _, by rw [hl]; exact .int _ _, p.toks _, h⟩ | exact fun _ => ⟨.int es.length, _, by rw [hl]; exact .int _ _, p.toks _, h⟩)
theorem kT1 {T : String} {e : Expr} {rest : List Expr} (he : starEach (e :: rest) env = (false, eval e env) :: starEach rest env) (hplain : (backTo pos (starEach rest env)).any (·.1) = false)
    (h : W prog w n Γ ConcL (spliced (backTo pos (starEach (e :: rest) env))) S fun as S₁ => ∀ vs, ConcL as vs → W prog w n Γ Conc (call (.type T) vs) S₁ k) : W prog w n Γ Conc (callWith pos (.type T) [] (backTo pos (starEach (e :: rest) env)) []) S k := .mk fun A s ro p =>
  PyProof.Rows.callWith_type1 (h.to ro p fun vs as S₁ s₁ cl p₁ z => (z vs cl).run A s₁ ro p₁) he hplain
/-- a loop over a list with nothing in it -/
def For0K (prog : Program) (w : World) (n : Nat) (Γ : Act) (orelse : List Stmt) (env : Env) (kf : FA → St → Prop) (a : AV) (S : St) : Prop := ∃ l, a = .ref l ∧ (l, AO.list []) ∈ S.heap ∧ W prog w n Γ FlowR (execs orelse env) S kf
theorem f0_ok {l : Addr} {xs : List AV} {orelse : List Stmt} (hl : (l, AO.list xs) ∈ H) (hx : xs = []) (h : W prog w n Γ FlowR (execs orelse env) ⟨loc, H, gs⟩ kf) : For0K prog w n Γ orelse env kf (.ref l) ⟨loc, H, gs⟩ := ⟨l, rfl, hx ▸ hl, h⟩
theorem s_For0 {target iter : Expr} {body orelse : List Stmt} (hs : ∀ x, foldedSetIterable iter env x = pure x)
    (h : W prog w n Γ Conc (eval iter env) S fun a S₁ => For0K prog w n Γ orelse env kf a S₁) : W prog w n Γ FlowR (exec (.For target iter body orelse pos) env) S kf := .mk fun A s ro p =>
  wpAny_For (h.to ro p fun v a S₁ s₁ c p₁ z => by
    obtain ⟨l, rfl, hl, z⟩ := z
    cases c
    obtain ⟨loc₁, H₁, gs₁⟩ := S₁
    refine (it_list (n := n) (k := fun b S₂ => ∃ it, b = .ref it ∧ S₂ = ⟨loc₁, (it, .obj (lstIt l 0)) :: H₁, gs₁⟩) hl fun it => ⟨it, rfl, rfl⟩).to ro p₁ fun v' b S₂ s₂ c₂ p₂ z₂ => ?_
    obtain ⟨it, rfl, rfl⟩ := z₂
    cases c₂
    refine codeAny_forLoop_any (fun _ s => Rep w.params Γ ⟨loc₁, (it, .obj (lstIt l 0)) :: H₁, gs₁⟩ s) (fun _ s p => ?_) 0 p₂
    refine (nx_listEnd (n := n) (xs := []) (ko := fun o S' => o = none ∧ S' = ⟨loc₁, H₁, gs₁⟩) (.tail _ hl) rfl .head (.head _) ⟨rfl, rfl⟩).to ro p fun r o S' s' e p' z' => ?_
    obtain ⟨rfl, rfl⟩ := z'
    cases r with
    | none => exact (show W prog w n Γ FlowR (execs orelse env) _ kf from z).to ro p' fun fl fa S₂ s₂ c p₂ z => ⟨fa, S₂, c, p₂, z⟩
    | some v => exact e.elim) hs
end
end Mine
end
section
open PySem PySem.W PySem.Calls PyProof.Rows PySem.Builtin PySem.Builtin.Str
namespace Mine
/-! the frame of a generator is an object of the one who asks it -/
def frP (loc : Locs) (o : Obj) : Prop := ∃ m es ep, o.data = .dict es ep ∧ StrKeys es ∧ (∀ name, nsFind es name = m name) ∧ LocC loc m
theorem HeapC.split {P : Params} : ∀ {H₁ H₂ : HL} {cells : List (Addr × Obj)}, HeapC P (H₁ ++ H₂) cells → ∃ c₁ c₂, cells = c₁ ++ c₂ ∧ HeapC P H₁ c₁ ∧ HeapC P H₂ c₂
  | [], _, _, h => ⟨[], _, rfl, .nil, h⟩
  | _ :: H₁, H₂, _, h => by
    cases h with
    | @cons _ _ _ c cs x y =>
      obtain ⟨c₁, c₂, rfl, a, b⟩ := HeapC.split y
      exact ⟨c ++ c₁, c₂, (List.append_assoc _ _ _).symm, .cons x a, b⟩
def isObjs (f : Addr → Obj) (bs : List Addr) : HL := bs.map fun b => (b, .obj (· = f b))
theorem HeapC.objs {P : Params} (f : Addr → Obj) : ∀ bs : List Addr, HeapC P (isObjs f bs) (bs.map fun b => (b, f b))
  | [] => .nil
  | b :: r => .cons (c := [_]) (.obj rfl) (HeapC.objs f r)
theorem HeapC.objs_eq {P : Params} {f : Addr → Obj} : ∀ {bs : List Addr} {cells : List (Addr × Obj)}, HeapC P (isObjs f bs) cells → cells = bs.map fun b => (b, f b)
  | [], _, h => by cases h; rfl
  | b :: r, _, h => by
    cases h with
    | cons x y =>
      cases x with
      | obj e =>
        rw [HeapC.objs_eq y, e]
        rfl
theorem Rep.enter {P : Params} {Γr Γc : Act} {Lg : Addr} {locc locg : Locs} {H : HL} {gs : Array GenState} {s : Shared} (st : Γr.h₀.StaysIn Γc.h₀) (ab : Γr.h₀.objs.size ≤ Lg) (p : Rep P Γc ⟨locc, (Lg, .obj (frP locg)) :: H, gs⟩ s) :
    ∃ ext : HL, Rep P ⟨Γr.h₀, Lg, s.os⟩ ⟨locg, H ++ ext, gs⟩ s ∧ ∀ s' locg' H' gs', Rep P ⟨Γr.h₀, Lg, s.os⟩ ⟨locg', H' ++ ext, gs'⟩ s' → Rep P Γc ⟨locc, (Lg, .obj (frP locg')) :: H', gs'⟩ s' := by
  obtain ⟨m, cells, F, N, nd, l, c⟩ := p.ex
  cases c with
  | @cons _ _ _ cL cH x y =>
  cases x with
  | @obj _ oL hoL =>
  obtain ⟨mg, es, ep, hd, hk, hf, lg⟩ := hoL
  have eL := N (Lg, oL) (.head _)
  dsimp only at eL
  classical
  let f : Addr → Obj := fun b => (s.heap.get? b).getD default
  let bs : List Addr := (List.range s.heap.objs.size).filter fun b => decide ((s.heap.get? b).isSome = true ∧ b ≠ Lg ∧ b ∉ cH.map (·.1) ∧ Γr.h₀.get? b = none)
  have hbs : ∀ b, b ∈ bs ↔ ∃ o, s.heap.get? b = some o ∧ b ≠ Lg ∧ b ∉ cH.map (·.1) ∧ Γr.h₀.get? b = none := fun b => by
    simp only [bs, List.mem_filter, List.mem_range, decide_eq_true_eq]
    constructor
    · rintro ⟨_, h1, h2⟩
      obtain ⟨o, ho⟩ := Option.isSome_iff_exists.mp h1
      exact ⟨o, ho, h2⟩
    · rintro ⟨o, ho, h2⟩
      exact ⟨Heap.lt_size ho, by rw [ho]; rfl, h2⟩
  have hf' : ∀ b ∈ bs, s.heap.get? b = some (f b) := fun b hb => by
    obtain ⟨o, ho, _⟩ := (hbs b).mp hb
    show _ = some ((s.heap.get? b).getD default)
    rw [ho]; rfl
  have ebs : (bs.map fun b => (b, f b)).map (·.1) = bs := by rw [List.map_map]; exact List.map_id _
  have nh : ((Lg, oL) :: cH).map (·.1) = Lg :: cH.map (·.1) := rfl
  have nd2 : Lg ∉ cH.map (·.1) ∧ (cH.map (·.1)).Nodup := by
    have := nd
    rw [show ([(Lg, oL)] ++ cH) = (Lg, oL) :: cH from rfl, nh, List.nodup_cons] at this
    exact this
  refine ⟨isObjs f bs, ⟨⟨mg, cH ++ bs.map (fun b => (b, f b)), ⟨⟨oL, es, ep, eL.1, hd, hk, hf⟩, fun b o e => F.keep b o (st b o e), ab⟩, fun q hq => ?_, ?_, lg, y.append (.objs f bs)⟩, p.gens, rfl⟩, ?_⟩
  · rcases List.mem_append.mp hq with hq | hq
    · refine ⟨(N q (.tail _ hq)).1, fun e => nd2.1 ((show q.1 = Lg from e) ▸ List.mem_map_of_mem (f := (·.1)) hq), ?_⟩
      cases z : Γr.h₀.get? q.1 with
      | none => rfl
      | some o => have := (N q (.tail _ hq)).2.2; rw [st _ _ z] at this; cases this
    · obtain ⟨b, hb, rfl⟩ := List.mem_map.mp hq
      obtain ⟨o, ho, h1, h2, h3⟩ := (hbs b).mp hb
      exact ⟨hf' b hb, h1, h3⟩
  · rw [List.map_append, ebs, List.nodup_append]
    refine ⟨nd2.2, List.nodup_range.filter _, fun b hb b' hb' e => ?_⟩
    subst e
    obtain ⟨_, _, _, h2, _⟩ := (hbs b).mp hb'
    exact h2 hb
  · intro s' locg' H' gs' p'
    obtain ⟨m', cells', F', N', nd', l', c'⟩ := p'.ex
    obtain ⟨c₁, c₂, rfl, hc₁, hc₂⟩ := c'.split
    have e₂ := hc₂.objs_eq
    subst e₂
    obtain ⟨oL', es', ep', hL', hd', hk', hf''⟩ := F'.ns
    dsimp only at hL'
    rw [List.map_append, ebs, List.nodup_append] at nd'
    -- an old object, not of the generator's
    have old : ∀ b o, s.heap.get? b = some o → b ≠ Lg → b ∉ cH.map (·.1) → s'.heap.get? b = some o ∧ b ∉ c₁.map (·.1) := fun b o e h1 h2 => by
      cases z : Γr.h₀.get? b with
      | some o' =>
        have := F.keep b o' (st b o' z)
        rw [e] at this
        cases this
        refine ⟨F'.keep b o z, fun hq => ?_⟩
        obtain ⟨q, hq2, rfl⟩ := List.mem_map.mp hq
        have := (N' q (List.mem_append_left _ hq2)).2.2
        dsimp only at this
        rw [z] at this; cases this
      | none =>
        have hb : b ∈ bs := (hbs b).mpr ⟨o, e, h1, h2, z⟩
        have e1 := hf' b hb
        rw [e] at e1
        have e2 := (N' (b, f b) (List.mem_append_right _ (List.mem_map_of_mem (f := fun b => (b, f b)) hb))).1
        dsimp only at e2
        exact ⟨by rw [e2, ← e1], fun hq => nd'.2.2 b hq b hb rfl⟩
    have nL : ∀ b o, Γc.h₀.get? b = some o → b ≠ Lg ∧ b ∉ cH.map (·.1) := fun b o e => by
      refine ⟨fun q => ?_, fun hq => ?_⟩
      · rw [q, eL.2.2] at e; cases e
      · obtain ⟨q, hq2, rfl⟩ := List.mem_map.mp hq
        have := (N q (.tail _ hq2)).2.2
        rw [e] at this; cases this
    obtain ⟨oc, esc, epc, hoc, hdc, hkc, hfc⟩ := F.ns
    have nC : Γc.L ≠ Lg ∧ Γc.L ∉ cH.map (·.1) := ⟨fun q => eL.2.1 q.symm, fun hq => by
      obtain ⟨q, hq, e⟩ := List.mem_map.mp hq
      exact (N q (.tail _ hq)).2.1 e⟩
    refine ⟨⟨m, (Lg, oL') :: c₁, ⟨⟨oc, esc, epc, (old _ _ hoc nC.1 nC.2).1, hdc, hkc, hfc⟩, fun b o e => (old b o (F.keep b o e) (nL b o e).1 (nL b o e).2).1, F.above⟩, fun q hq => ?_, ?_, l, .cons (c := [_]) (.obj ⟨m', es', ep', hd', hk', hf'', l'⟩) hc₁⟩, p'.gens, p'.os.trans p.os⟩
    · rcases List.mem_cons.mp hq with rfl | hq
      · exact ⟨hL', eL.2⟩
      · refine ⟨(N' q (List.mem_append_left _ hq)).1, fun e => (old _ _ hoc nC.1 nC.2).2 (e ▸ List.mem_map_of_mem (f := (·.1)) hq), ?_⟩
        cases z : Γc.h₀.get? q.1 with
        | none => rfl
        | some o => exact absurd (List.mem_map_of_mem (f := (·.1)) hq) (old _ _ (F.keep _ _ z) (nL _ _ z).1 (nL _ _ z).2).2
    · rw [List.map_cons, List.nodup_cons]
      refine ⟨fun hq => ?_, nd'.1⟩
      obtain ⟨q, hq, e⟩ := List.mem_map.mp hq
      exact (N' q (List.mem_append_left _ hq)).2.1 e
end Mine
end
section
open PySem PySem.W PySem.Calls PyProof.Rows PySem.Builtin PySem.Builtin.Str
namespace Mine
/-- the judgement of a piece of a generator's run: to a yield or to the end -/
def GS (prog : Program) (w : World) (m : Nat) (Γ : Act) (c : Code) (t : Sem PySem.Fin) (fs : List Frame) (S : St) (Q : End → St → Prop) : Prop :=
  ∀ A s, Room m A → Rep w.params Γ S s → X.SegX (model prog w) A c t fs s (fun e s' => ∃ S', Rep w.params Γ S' s' ∧ Q e S')
def Fits (m n : Nat) (c : Code) (fs : List Frame) : Prop := ∀ A, Room m A → Room n (A.over c fs)
/-- what comes after a while of a generator -/
def whK (env : Env) (K : Flow → Sem PySem.Fin) (Hh : Value → Sem PySem.Fin) (gd : Bool → Bool) (lv : List Value → List Value) : Result → Sem PySem.Fin :=
  fun r => ((match r with | .ok f => (.pure f : Sem Flow) | .error e => .raise e).onRaise fun (x : Value) => do
        if (← field x 1) == Value.none then unsupported "frame.own-activation:exception-without-traceback"
        setFlight x env.frame).wrap K Hh gd lv
section
variable {prog : Program} {w : World} {α β : Type} {m n : Nat} {Γ : Act} {S : St} {c : Code} {fs : List Frame} {Q : End → St → Prop} {env : Env} {K : Flow → Sem PySem.Fin} {Hh : Value → Sem PySem.Fin} {gd : Bool → Bool} {lv : List Value → List Value}
theorem gs_wrap {R : β → α → Prop} {t : Sem α} {K : α → Sem PySem.Fin} (hr : Fits m n c fs) (h : W prog w n Γ R t S fun b S' => ∀ a, R b a → GS prog w m Γ c (K a) fs S' Q) : GS prog w m Γ c (t.wrap K Hh gd lv) fs S Q := fun A s ro p => by
  rintro Γ₀ p₀ rfl hΓ
  exact runs_wrap_of_wp (Φ := fun e s' => e.quiet = true ∧ ∃ S', Rep w.params Γ S' s' ∧ Q e S') K Hh gd lv t
    (h.to (E := fun _ _ => False) (Q := fun a s' => X.SegX (model prog w) A Γ₀.code (K a) fs s' (fun e s' => ∃ S', Rep w.params Γ S' s' ∧ Q e S')) (hr A ro) p (fun a b S' s' rb p' z => z a rb A s' ro p') (Γ₀.over fs) p₀ (hΓ.over fs))
    (fun a p' s' h' => h' Γ₀ p' rfl hΓ) (fun x p' s' h' => h'.elim)
theorem gs_at {q : Pos} {k : Unit → Sem PySem.Fin} (h : GS prog w m Γ c (k ()) fs S Q) : GS prog w m Γ c (.at q k) fs S Q := fun A s ro p => X.s_cmd prog w A c fs _ (m := standAt q) (k := k) (wpAny_standAt (h A s ro p))
theorem gs_point {k : Unit → Sem PySem.Fin} (h : GS prog w m Γ c (k ()) fs S Q) : GS prog w m Γ c (.point [] k) fs S Q := fun A s ro p => X.s_skim prog w A c fs _ s (.point [] k) 1 (h A s ro p)
theorem gs_nil (h : GS prog w m Γ c (K .next) fs S Q) : GS prog w m Γ c ((execs [] env).wrap K Hh gd lv) fs S Q := h
theorem gs_cons {st : Stmt} {rest : List Stmt} (h : GS prog w m Γ c ((exec st env).wrap (fun f => match f with | .next => (execs rest env).wrap K Hh gd lv | f => K f) Hh gd lv) fs S Q) : GS prog w m Γ c ((execs (st :: rest) env).wrap K Hh gd lv) fs S Q := by
  rw [execs_cons_wrap]; exact h
/-- a statement that ends of itself -/
theorem gs_stmt {st : Stmt} {rest : List Stmt} (hr : Fits m n c fs) (h : W prog w n Γ FlowR (exec st env) S fun fa S' => fa = .next ∧ GS prog w m Γ c ((execs rest env).wrap K Hh gd lv) fs S' Q) : GS prog w m Γ c ((execs (st :: rest) env).wrap K Hh gd lv) fs S Q :=
  gs_cons (gs_wrap hr (h.mono fun fa S' z fl cf => by obtain ⟨rfl, z⟩ := z; cases cf; exact z))
theorem gs_While {test : Expr} {body orelse : List Stmt} {pos : Pos} (h : ∀ p, GS prog w m Γ (.whileLoop test body orelse env) (denote table (.whileLoop test body orelse env)) (.ret (whK env K Hh gd lv) none (gd false) (lv []) c p [] :: fs) S Q) :
    GS prog w m Γ c ((exec (.While test body orelse pos) env).wrap K Hh gd lv) fs S Q :=
  gs_at fun A s ro p => X.s_call prog w A c fs _ s (.whileLoop test body orelse env) none (gd false) (lv []) (whK env K Hh gd lv) fun q => h q A s ro p
theorem gs_pop {f : Flow} {c₁ : Code} {p₁ : Pos} {k : Result → Sem PySem.Fin} {hd : Option Value} {g : Bool} {l : List Value} {kp} (h : GS prog w m Γ c₁ (k (.ok f)) fs S Q) : GS prog w m Γ c (.pure (.done f)) (.ret k hd g l c₁ p₁ kp :: fs) S Q :=
  fun A s ro p => X.s_pop prog w A c fs _ s (.ok f) _ rfl k hd g l c₁ p₁ kp (h A s ro p)
theorem gs_end {f : Flow} (h : Q (.ret (.ok f)) S) : GS prog w m Γ c (.pure (.done f)) [] S Q :=
  fun A s ro p => X.s_end prog w A c _ s (.ok f) _ rfl ⟨S, p, h⟩
theorem gs_again {c' : Code} (hq : c'.quiet = true) (h : GS prog w m Γ c' (denote table c') fs S Q) : GS prog w m Γ c (.pure (.again c')) fs S Q :=
  fun A s ro p => X.s_again prog w A c fs _ s c' hq (h A s ro p)
theorem gs_turn {test : Expr} {body orelse : List Stmt} (hr : Fits m n (.whileLoop test body orelse env) fs) (h : W prog w n Γ BoolR (isTrue test env (eval test env)) S fun b S' =>
      (b = true → GS prog w m Γ (.whileLoop test body orelse env) ((execs body env).wrap (fun f => match f with
            | .next | .cont => .pure (.again (.whileLoop test body orelse env))
            | .brk => .pure (.done .next)
            | .ret v => .pure (.done (.ret v))) (fun e => (do noteFrame e env; theTreesLotGoes e : Sem Unit).wrap (fun _ => .raise e) .raise id id) id id) fs S' Q) ∧
      (b = false → GS prog w m Γ (.whileLoop test body orelse env) ((execs orelse env).wrap (fun f => .pure (.done f)) (fun e => (do noteFrame e env; theTreesLotGoes e : Sem Unit).wrap (fun _ => .raise e) .raise id id) id id) fs S' Q)) :
    GS prog w m Γ (.whileLoop test body orelse env) (denote table (.whileLoop test body orelse env)) fs S Q := by
  show GS prog w m Γ _ ((whileTurn test body orelse env).onRaise (fun x => do noteFrame x env; theTreesLotGoes x)) fs S Q
  unfold whileTurn
  rw [Sem.onRaise_eq_wrap, Sem.bind_eq_wrap', Sem.wrap_wrap]
  refine gs_wrap hr (h.mono fun b S' hb a e => ?_)
  cases (e : b = a)
  cases b with
  | true =>
    show GS prog w m Γ _ (Sem.wrap _ _ _ _ (if true = true then _ else _)) fs S' Q
    rw [if_pos rfl, Sem.bind_eq_wrap', Sem.wrap_wrap]
    rw [Sem.wrap_congr (execs body env) _ _ (K' := fun f => match f with
            | .next | .cont => .pure (.again (.whileLoop test body orelse env))
            | .brk => .pure (.done .next)
            | .ret v => .pure (.done (.ret v))) (H' := (fun e => (do noteFrame e env; theTreesLotGoes e : Sem Unit).wrap (fun _ => .raise e) .raise id id))
        (fun f => by cases f <;> rfl)
        (fun e => by first | exact Sem.bind_eq_wrap _ _ | (show (do noteFrame e env; theTreesLotGoes e : Sem Unit).bind (fun _ => .raise e) = _; rw [Sem.bind_eq_wrap]))]
    exact hb.1 rfl
  | false =>
    show GS prog w m Γ _ (Sem.wrap _ _ _ _ (if false = true then _ else _)) fs S' Q
    rw [if_neg Bool.false_ne_true, Sem.bind_eq_wrap', Sem.wrap_wrap]
    rw [Sem.wrap_congr (execs orelse env) _ _ (K' := fun f => (.pure (.done f) : Sem PySem.Fin)) (H' := (fun e => (do noteFrame e env; theTreesLotGoes e : Sem Unit).wrap (fun _ => .raise e) .raise id id))
        (fun f => by rfl)
        (fun e => by first | exact Sem.bind_eq_wrap _ _ | (show (do noteFrame e env; theTreesLotGoes e : Sem Unit).bind (fun _ => .raise e) = _; rw [Sem.bind_eq_wrap]))]
    exact hb.2 rfl
theorem gs_func {body : List Stmt} (h : GS prog w m Γ (.func body env) ((execs body env).wrap (fun f => .pure (.done (.ret (match f with | .ret v => v | _ => .none))))
      (fun e => (leaving env e).wrap (fun _ => .raise e) .raise id id) id id) fs S Q) : GS prog w m Γ (.func body env) (denote table (.func body env)) fs S Q := by
  show GS prog w m Γ _ (.point [] fun _ => ((execs body env).onRaise (leaving env)) >>= _) fs S Q
  refine gs_point ?_
  rw [Sem.onRaise_eq_wrap, Sem.bind_eq_wrap', Sem.wrap_wrap]
  rw [Sem.wrap_congr (execs body env) _ _ (K' := fun f => .pure (.done (.ret (match f with | .ret v => v | _ => .none))))
    (H' := fun e => (leaving env e).wrap (fun _ => .raise e) .raise id id) (fun f => by cases f <;> rfl)
    (fun e => by rw [Sem.bind_eq_wrap, Sem.wrap_wrap]; rfl)]
  exact h
theorem gs_Yield {e : Expr} {ypos pos : Pos} (hr : Fits m n c fs) (hfs : splitAtGen fs = none) (hgd : gd false = false) (hfg : fs.any Frame.guarded = false)
    (h : W prog w n Γ Conc (eval e env) S fun a S' => ∀ v, Conc a v → ∀ l k p, k (.send .none) = K .next → Q (.susp v false l k c p fs) S') (hco : env.scope.isCoroutine = false := by rfl) (hi : interactive env = false := by rfl) :
    GS prog w m Γ c ((exec (.Expr (.Yield (some e) ypos) pos) env).wrap K Hh gd lv) fs S Q := by
  rw [exec_Expr env _ pos hi rfl]
  show GS prog w m Γ c (.at pos fun _ => ((eval e env >>= fun v => (standAt ypos >>= fun _ => yieldOut env v)) >>= fun x =>
    dropValue (.Yield (some e) ypos) pos x).wrap K Hh gd lv) fs S Q
  have hy : ∀ v, yieldOut env v = yieldValue v := fun v => by simp only [yieldOut, hco, Bool.false_eq_true, if_false]
  simp only [hy]
  refine gs_at ?_
  rw [Sem.bind_eq_wrap', Sem.bind_eq_wrap', Sem.wrap_wrap, Sem.wrap_wrap]
  refine gs_wrap hr (h.mono fun a S' z v cv => ?_)
  refine gs_at ?_
  intro A s ro p
  have := z v cv
  show X.SegX (model prog w) A c (.yield v (gd false) _ _) fs s _
  rw [hgd]
  exact X.s_yield prog w A c fs _ s v _ _ hfs hfg fun q => ⟨S', p, this _ _ q rfl⟩
end
end Mine
end
section
open PySem PySem.W PySem.Calls PyProof.Rows PySem.Builtin PySem.Builtin.Str
namespace Mine
inductive TokOut where
  | plain (ty : Int) (data : List Nat)
  | tag (name key : List Nat)
inductive Piece : TokOut → Addr → HL → Prop
  | plain {ty d tk} : Piece (.plain ty d) tk [(tk, .dict [("type", .int ty), ("data", .str d)])]
  | tag {nm ky tk dd} : Piece (.tag nm ky) tk [(tk, .dict [("type", .int 3), ("name", .str nm), ("data", .ref dd), ("selfClosing", .bool false), ("selfClosingAcknowledged", .bool false)]), (dd, .dict [(mkS ky, .str [])])]
def Starts (gst : GenState) (c : Code) (t : Sem PySem.Fin) (fs : List Frame) : Prop :=
  (gst = .fresh c ∧ t = denote table c ∧ fs = []) ∨ ∃ k l p cl, gst = .suspended k l c p fs cl ∧ t = k (.send .none)
/-- what a generator will still do: each piece that it hands out, and how it ends -/
def Goes (prog : Program) (w : World) (m : Nat) (h₀ : Heap) (Lg : Addr) (locg : Locs) (EndP : HL → Prop) : List TokOut → HL → GenState → Prop
  | [], base, gst => ∃ c t fs, Starts gst c t fs ∧ ∀ F gs os A s, Room m A → Rep w.params ⟨h₀, Lg, os⟩ ⟨locg, base ++ F, gs⟩ s →
      X.SegX (model prog w) A c t fs s (fun e s' => e.result = .returned .none ∧ ∃ base', EndP base' ∧ Rep w.params ⟨h₀, Lg, os⟩ ⟨locg, base' ++ F, gs⟩ s')
  | o :: rest, base, gst => ∃ c t fs, Starts gst c t fs ∧ ∀ F gs os A s, Room m A → Rep w.params ⟨h₀, Lg, os⟩ ⟨locg, base ++ F, gs⟩ s →
      X.SegX (model prog w) A c t fs s (fun e s' => ∃ tk piece base', e.result = .yielded (.ref tk) ∧ Piece o tk piece ∧ Rep w.params ⟨h₀, Lg, os⟩ ⟨locg, piece ++ (base' ++ F), gs⟩ s' ∧ Goes prog w m h₀ Lg locg EndP rest base' e.genState)
def genP (g : Nat) (o : Obj) : Prop := ∃ nm qn, o.cls = .type "generator" ∧ o.data = .fields #[.int g 0, nm, qn] ∧ o.slots = #[]
theorem Rep.setGen {P : Params} {Γ : Act} {loc : Locs} {H : HL} {gs : Array GenState} {s : Shared} (p : Rep P Γ ⟨loc, H, gs⟩ s) (g : Nat) (x : GenState) : Rep P Γ ⟨loc, H, gs.setIfInBounds g x⟩ (s.setGen g x) :=
  ⟨p.ex, by show s.gens.setIfInBounds g x = _; rw [p.gens], p.os⟩
section
variable {prog : Program} {w : World} {A : Around} {E : Value → Shared → Prop}
theorem wake_wp {α : Type} {Q : α → Shared → Prop} {s : Shared} {g : Nat} {gst : GenState} {l : List Value} {k : GenResult → Sem α} {c : Code} {t : Sem PySem.Fin} {fs : List Frame} (hg : s.gens[g]? = some gst) (hs : Starts gst c t fs)
    (x : X.SegX (model prog w) A c t fs (s.setGen g .running) (fun e s₁ => wpAny (model prog w) A (k e.result) Q E (s₁.setGen g e.genState))) : wpAny (model prog w) A (.resume g (.send .none) l k) Q E s := fun Γ p hΓ =>
  X.wake_any _ prog w hg (by rcases hs with ⟨a, b, c⟩ | ⟨k, l, p, cl, a, b⟩; exact .inl ⟨a, rfl, b, c⟩; exact .inr ⟨k, l, p, cl, a, b⟩) (fun Γ => Γ.In A) (fun _ h => h) x Γ p hΓ
theorem next_gen {s : Shared} {a : Addr} {g : Nat} {gst : GenState} {Q : Option Value → Shared → Prop} {c : Code} {t : Sem PySem.Fin} {fs : List Frame} (hh : A.handled = none) (hl : s.heap.NoLimit) (hroom : A.depth < recursionLimit)
    (hg : s.heap.IsGen a g) (hgs : s.gens[g]? = some gst) (hs : Starts gst c t fs)
    (x : X.SegX (model prog w) A.in1 c t fs (s.setGen g .running) (fun e s₁ => (∃ v, e.result = .yielded v ∧ Q (some v) (s₁.setGen g e.genState)) ∨
      (e.result = .returned .none ∧ ∀ h', (∀ b o, s₁.heap.get? b = some o → h'.get? b = some o) → Q none { s₁.setGen g .finished with heap := h' }))) : wpAny (model prog w) A (pyNext (.ref a)) Q E s := by
  unfold pyNext
  refine wpAny_bind (wpAny_attempt (wpAny_callSpecial?_slot (name := PySem.Str.ofString "__next__") hg.typeIs slot_gen_next
    (wpAny_call_entry slot_gen_next hg.typeIs entry_gen_next ?_ (args_gen_next _))))
  show wpAny _ _ (Builtin.Generator.genWake (.ref a) (.send .none)) _ _ s
  unfold Builtin.Generator.genWake
  refine wpAny_bind (wpAny_holding (wpAny_genNumber hg (wpAny_bind (wpAny_genState hgs ?_))))
  have key : ∀ {α : Type} {Q' : PySem.Fin → Shared → Prop} {E' : Value → Shared → Prop} {k : GenResult → Sem PySem.Fin},
      (∀ (e : End) (s₁ : Shared), ((∃ v, e.result = .yielded v ∧ Q (some v) (s₁.setGen g e.genState)) ∨
        (e.result = .returned .none ∧ ∀ h' : Heap, (∀ b o, s₁.heap.get? b = some o → h'.get? b = some o) → Q none { s₁.setGen g .finished with heap := h' })) → wpAny (model prog w) A.in1 (k e.result) Q' E' (s₁.setGen g e.genState)) →
      wpAny (model prog w) A.in1 (.resume g (.send .none) [] k) Q' E' s := fun {α Q' E' k} hk => wake_wp hgs hs (x.mono hk)
  cases gst with
  | running => rcases hs with ⟨e, _⟩ | ⟨_, _, _, _, e, _⟩ <;> cases e
  | finished => rcases hs with ⟨e, _⟩ | ⟨_, _, _, _, e, _⟩ <;> cases e
  | _ =>
    refine wpAny_bind (wpAny_roomToWake hl hroom ?_)
    show wpAny _ _ (.resume g (.send .none) [] _) _ _ s
    refine key (α := Unit) fun e s₁ he => ?_
    rcases he with ⟨v, er, hq⟩ | ⟨er, hq⟩
    · rw [er]
      exact wpAny_pure ⟨v, rfl, wpAny_pure hq⟩
    · rw [er]
      have eg : e.genState = .finished := by
        cases e with
        | ret r => rfl
        | susp v g l k c p fs => cases er
      rw [eg]
      show wpAny _ _ (newExc (.type "StopIteration") [] >>= _) _ _ _
      refine wpAny_bind ?_
      simp only [newExc, newTuple]
      refine wpAny_bind (wpAny_newObj_type ?_ (by size_fits))
      refine wpAny_bind (m := firstArgMember _ _) (wpAny_of_eq (a := Value.none) (by first | rfl | (simp only [firstArgMember]; rfl)) ?_)
      refine wpAny_newObj_type ?_ (by size_fits)
      simp only [raiseNew]
      refine wpAny_bind (wpAny_bind (wpAny_handled ?_))
      rw [show A.in1.handled = none from hh]
      refine wpAny_throw ?_
      refine wpAny_bind (wpAny_isInstance (T := "StopIteration") (b := true) ⟨_, Heap.get?_push_size _ rfl, rfl⟩ isSubtype_stop ?_)
      exact wpAny_pure (hq _ fun b o hb => Heap.get?_push_of_some _ (Heap.get?_push_of_some _ hb))
end
section
variable {prog : Program} {w : World} {m n : Nat} {Γ Γr Γc : Act} {KF : Frag} {S : St} {loc locc locg : Locs} {gs : Array GenState} {H H' F base : HL} {Lg ga : Addr} {g : Nat} {gst : GenState} {EndP : HL → Prop} {rest : List TokOut} {o : TokOut} {k : AV → St → Prop} {ko : Option AV → St → Prop}
theorem Rep.isGen {P : Params} {s : Shared} (p : Rep P Γ ⟨loc, H, gs⟩ s) (hi : (ga, AO.obj (genP g)) ∈ H) : s.heap.IsGen ga g := by
  obtain ⟨o, ho, nm, qn, h1, h2, h3⟩ := p.obj hi
  exact ⟨o, nm, qn, ho, h1, h2, h3⟩
theorem it_gen (hi : (ga, AO.obj (genP g)) ∈ H) (h : k (.ref ga) ⟨loc, H, gs⟩) : W prog w n Γ Conc (pyIter (.ref ga)) ⟨loc, H, gs⟩ k := .mk fun A s ro p => wpAny_pyIter_gen (p.isGen hi) ⟨_, _, .ref _, p, h⟩
theorem nx_gen (G : Gnd KF Γr) (st : Γr.h₀.StaysIn Γc.h₀) (ab : Γr.h₀.objs.size ≤ Lg) (hm : m + 1 ≤ n) (hg : gs[g]? = some gst) (go : Goes prog w m Γr.h₀ Lg locg EndP (o :: rest) base gst)
    (h : ∀ tk piece base' gst', Piece o tk piece → Goes prog w m Γr.h₀ Lg locg EndP rest base' gst' → ko (some (.ref tk)) ⟨locc, (Lg, .obj (frP locg)) :: (piece ++ (base' ++ ((ga, .obj (genP g)) :: F))), gs.setIfInBounds g gst'⟩) :
    W prog w n Γc OptR (pyNext (.ref ga)) ⟨locc, (Lg, .obj (frP locg)) :: (base ++ ((ga, .obj (genP g)) :: F)), gs⟩ ko := .mk fun A s ro p => by
  obtain ⟨_, _, _, _, T⟩ := G.T
  have ro' : Room (m + 1) A := ro.mono hm
  have ig := p.isGen (ga := ga) (g := g) (.tail _ (List.mem_append_right _ (.head _)))
  have lim : s.heap.NoLimit := (T.nolimit.keeps st).keeps (by obtain ⟨_, _, Fr, _⟩ := p.ex; exact Fr.keep)
  obtain ⟨c, t, fs, hs, go⟩ := go
  obtain ⟨ext, p₁, back⟩ := p.enter st ab
  have p₂ := p₁.setGen g .running
  rw [List.append_assoc] at p₂
  refine next_gen ro.handled lim ro'.deep ig (by rw [p.gens]; exact hg) hs ((go _ _ _ _ _ ro'.in1 p₂).mono fun e s₁ he => ?_)
  obtain ⟨tk, piece, base', er, pc, p₃, go'⟩ := he
  refine .inl ⟨.ref tk, er, some (.ref tk), ⟨locc, (Lg, .obj (frP locg)) :: (piece ++ (base' ++ ((ga, .obj (genP g)) :: F))), gs.setIfInBounds g e.genState⟩, .ref tk, ?_, h tk piece base' _ pc go'⟩
  have p₄ := back s₁ locg (piece ++ (base' ++ ((ga, .obj (genP g)) :: F))) _ (by rw [List.append_assoc, List.append_assoc]; exact p₃)
  have p₅ := p₄.setGen g e.genState
  rw [Array.setIfInBounds_setIfInBounds] at p₅
  exact p₅
theorem nx_genEnd (G : Gnd KF Γr) (st : Γr.h₀.StaysIn Γc.h₀) (ab : Γr.h₀.objs.size ≤ Lg) (hm : m + 1 ≤ n) (hg : gs[g]? = some gst) (go : Goes prog w m Γr.h₀ Lg locg EndP [] base gst)
    (h : ∀ base', EndP base' → ko none ⟨locc, (Lg, .obj (frP locg)) :: (base' ++ ((ga, .obj (genP g)) :: F)), gs.setIfInBounds g .finished⟩) :
    W prog w n Γc OptR (pyNext (.ref ga)) ⟨locc, (Lg, .obj (frP locg)) :: (base ++ ((ga, .obj (genP g)) :: F)), gs⟩ ko := .mk fun A s ro p => by
  obtain ⟨_, _, _, _, T⟩ := G.T
  have ro' : Room (m + 1) A := ro.mono hm
  have ig := p.isGen (ga := ga) (g := g) (.tail _ (List.mem_append_right _ (.head _)))
  have lim : s.heap.NoLimit := (T.nolimit.keeps st).keeps (by obtain ⟨_, _, Fr, _⟩ := p.ex; exact Fr.keep)
  obtain ⟨c, t, fs, hs, go⟩ := go
  obtain ⟨ext, p₁, back⟩ := p.enter st ab
  have p₂ := p₁.setGen g .running
  rw [List.append_assoc] at p₂
  refine next_gen ro.handled lim ro'.deep ig (by rw [p.gens]; exact hg) hs ((go _ _ _ _ _ ro'.in1 p₂).mono fun e s₁ he => ?_)
  obtain ⟨er, base', he, p₃⟩ := he
  refine .inr ⟨er, fun h' kk => ⟨none, ⟨locc, (Lg, .obj (frP locg)) :: (base' ++ ((ga, .obj (genP g)) :: F)), gs.setIfInBounds g .finished⟩, trivial, ?_, h base' he⟩⟩
  have p₄ := back s₁ locg (base' ++ ((ga, .obj (genP g)) :: F)) _ (by rw [List.append_assoc]; exact p₃)
  have p₅ := (p₄.setGen g .finished).keeps (tk := (s₁.setGen g .finished).toks) (h' := h') kk
  rw [Array.setIfInBounds_setIfInBounds] at p₅
  exact p₅
end
end Mine
end
section
open PySem PySem.W PySem.Calls PyProof.Rows PySem.Builtin PySem.Builtin.Str
namespace Mine
section
variable {prog : Program} {w : World} {m n : Nat} {Γ : Act} {KF : Frag} {S : St} {loc ps us : Locs} {gs : Array GenState} {H H' F base : HL} {k : AV → St → Prop} {A : Around} {E : Value → Shared → Prop}
theorem specialOf_inst {s : Shared} {x C : Addr} {ox : Obj} {od : Option Obj} {name : Str} {r : Option Value} {Q : Option Value → Shared → Prop} (X : KF.In s.heap) (I : InstAt s.heap x ox C od) (e : findIn KF (.ref C) name = some r) (h : Q r s) : wpAny (model prog w) A (specialOf (.ref x) name) Q E s := by
  obtain ⟨hx, hc, _⟩ := I
  unfold specialOf
  refine wpAny_bind ?_
  unfold typeOf
  refine wpAny_bind (wpAny_loadPart hx ?_)
  rw [hc]
  refine wpAny_pure ?_
  exact (looks_findIn X e).at (h := s.heap) (g := s.gens) (d := s.drawn) (tk := s.toks) (os := s.os) h
theorem bound_inst {s : Shared} {x C f : Addr} {ox : Obj} {od : Option Obj} {name : Str} {refuse : Sem Value} {Q : Option Value → Shared → Prop} (X : KF.In s.heap) (I : InstAt s.heap x ox C od) (e : findIn KF (.ref C) name = some (some (.ref f))) (hT : s.TypeIs (.ref f) "function")
    (hc : wpAny (model prog w) A (PySem.call (.ref f) [.ref x]) (fun v => Q (some v)) E s) : wpAny (model prog w) A (callSpecialIfBoundUnlessNone? (.ref x) name refuse) Q E s := by
  simp only [callSpecialIfBoundUnlessNone?, bindSpecialIfBound?]
  refine wpAny_holding (wpAny_bind (wpAny_bind (specialOf_inst X I e ?_)))
  have hb : ∀ {Q' : Value × List Value → Shared → Prop} {E' : Value → Shared → Prop}, Q' (.ref f, [.ref x]) s → wpAny (model prog w) A (bindSpecial (.ref f) (.ref x)) Q' E' s := fun hq => by
    unfold bindSpecial
    refine wpAny_bind (wpAny_typeOf hT ?_)
    rw [if_pos (by decide)]
    exact wpAny_pure hq
  refine wpAny_bind (wpAny_askSetting (wpAny_ite ?_))
  have fin : wpAny (model prog w) A (if (Value.ref f == Value.none) = true then (refuse >>= fun v => pure (some v)) else (PySem.call (.ref f) [.ref x] >>= fun v => pure (some v))) Q E s := by
    rw [if_neg (by intro h; cases h)]
    exact wpAny_bind (wpAny_mono hc (fun v s' h' => wpAny_pure h') fun _ _ h' => h')
  split
  · exact wpAny_bind (hb (wpAny_pure fin))
  · exact wpAny_tryCatch (wpAny_bind (hb (wpAny_pure fin)))
theorem it_inst {name qual : Str} {params : Arguments} {body : List Stmt} {scope : Scope} {dV kV doc pm cdv ct oc : Value} {an od : Option Addr} {osl : Array (Option Value)} {f self C : Addr} {es : List (Str × AV)} {binds : List (Str × Value)}
    (G : Gnd KF Γ) (hx : (self, AO.inst C es) ∈ H) (hfi : findIn KF (.ref C) "__iter__" = some (some (.ref f))) (hcls : oc = .type "function")
    (ho : KF.lookup f = some ⟨oc, od, .func (fnOf name qual params body scope dV kV doc pm an cdv ct), osl⟩) (hcd : codeIn KF cdv qual = true)
    (hbind : ∀ s : Shared, KF.In s.heap → BindsTo s (fnOf name qual params body scope dV kV doc pm an cdv ct) ⟨[.ref self], []⟩ binds) (hb : BindC ps binds) (hloc : (binds.all fun y => decide (scope.names.lookup y.1 = some .local)) = true)
    (hu : (us.all fun p => isUnb p.2) = true) (hnd : ((ps ++ us).map (·.1)).Nodup)
    (hco : scope.isCoroutine = false) (hgen : scope.isGenerator = true) (hk : scope.kind = .function) (hcell : ∀ x ∈ scope.names, x.2 ≠ .cell)
    (h : ∀ Lg ga, Γ.h₀.objs.size ≤ Lg → k (.ref ga) ⟨loc, (ga, .obj (genP gs.size)) :: (Lg, .obj (frP (ps ++ us))) :: H, gs.push (.fresh (.func body (envOf qual scope Lg f cdv)))⟩) :
    W prog w (n + 1) Γ Conc (pyIter (.ref self)) ⟨loc, H, gs⟩ k := .mk fun A s ro p => by
  obtain ⟨m, cells, d, ds, nn, F, N, I, ec, nk⟩ := p.inst hx
  obtain ⟨_, _, _, _, T⟩ := G.T
  have X := G.X.keeps F.keep
  have lim : s.heap.NoLimit := T.nolimit.keeps F.keep
  have hf := X _ _ ho
  subst hcls
  have call : wpAny (model prog w) A (call (.ref f) [.ref self]) (fun v s' => v = .ref (s.heap.objs.size + 1) ∧ s'.TypeIs v "generator" ∧ ∃ b S', Conc b v ∧ Rep w.params Γ S' s' ∧ k b S') (fun _ _ => False) s := by
    refine wpAny_call (codeAny_call_generator (body := body) ro.deep hf rfl hco hgen rfl (codeRec_of X hcd) ?_)
    refine hbind s X _ _ _ _ ?_
    refine wpAny_newFunctionEnv hcell (locs hloc) (fun h₁ hns hsb => ?_) hk
    obtain ⟨oL, esL, ep, hL, hLd, hLk, hLf⟩ := hns
    have hk₁ : ∀ b o, s.heap.get? b = some o → h₁.get? b = some o := fun b o e => (hsb.2 b (Nat.ne_of_lt (Heap.lt_size e))).trans (Heap.get?_push_of_some _ e)
    have nL : s.heap.get? s.heap.objs.size = none := by
      cases q : s.heap.get? s.heap.objs.size with
      | none => rfl
      | some o => exact absurd (Heap.lt_size q) (Nat.lt_irrefl _)
    have p₁ : Rep w.params Γ ⟨loc, (s.heap.objs.size, .obj (frP (ps ++ us))) :: H, gs⟩ { s with heap := h₁, toks := s.toks + binds.length } :=
      p.addCell (tk := s.toks + binds.length) hk₁ nL hL (.obj ⟨_, esL, ep, hLd, hLk, hLf, locC_of hb hu hnd⟩)
    have sz : h₁.objs.size = s.heap.objs.size + 1 := by
      have := hsb.1
      simpa using this
    refine ⟨lim.keeps hk₁, ?_⟩
    have p₂ := p₁.new (o := { cls := .type "generator", data := .fields #[.int s.gens.size 0, .str name (s.toks + binds.length), .str qual (s.toks + binds.length + 1)] }) (ao := .obj (genP gs.size)) (.obj ⟨_, _, rfl, by rw [show s.gens = gs from p.gens], rfl⟩)
    have e := h s.heap.objs.size h₁.objs.size (Nat.le_trans F.above (Nat.le_of_lt F.ns.lt))
    refine ⟨by show Value.ref h₁.objs.size = _; rw [sz], ⟨_, Heap.get?_push_size _ rfl, rfl⟩, .ref h₁.objs.size, ⟨loc, (h₁.objs.size, .obj (genP gs.size)) :: (s.heap.objs.size, .obj (frP (ps ++ us))) :: H, gs.push (.fresh (.func body (envOf qual scope s.heap.objs.size f cdv)))⟩, .ref _, ⟨p₂.ex, ?_, p₂.os⟩, e⟩
    show s.gens.push _ = _
    rw [show s.gens = gs from p.gens]
    rfl
  unfold pyIter
  refine wpAny_bind (specialOf_inst X I hfi ?_)
  show wpAny _ _ (callSpecialIfBoundUnlessNone? (.ref self) "__iter__" _ >>= _) _ _ _
  refine wpAny_bind (bound_inst X I hfi ⟨_, hf, rfl⟩ (wpAny_mono call (fun v s' z => ?_) fun _ _ e => e))
  obtain ⟨_, hT, z⟩ := z
  exact wpAny_bind (wpAny_specialOf hT slot_gen_next.lookup (wpAny_pure z))
end
end Mine
end
section
open PySem PySem.W PySem.Calls PyProof.Rows PySem.Builtin PySem.Builtin.Str
namespace Mine
open AutoSeq1 (wpAny_loadPart')
open MeetsSeq MeetsSeq2 MeetsSeq3
/-- two values are found equal -/
def EqT (prog : Program) (w : World) (A : Around) (s : Shared) (y x : Value) : Prop := ∀ (E : Value → Shared → Prop) (Q : Bool → Shared → Prop), Q true s → wpAny (model prog w) A (eqBool y x) Q E s
section
variable {prog : Program} {w : World} {A : Around} {E : Value → Shared → Prop} {s : Shared} {R : Result → Shared → Prop}
abbrev FinP (prog : Program) (w : World) (A : Around) (R : Result → Shared → Prop) : PySem.Fin → Shared → Prop := fun fin s' => match fin with | .done f => R (.ok f) s' | .again c' => c'.quiet = true ∧ codeAny (model prog w) A c' R s'
theorem ne_loopT (l b : Addr) (items items2 : Array Value) (n n2 : Nat) (hsz : items.size = items2.size) (k : Nat) : ∀ i : Nat, items.size - i = k → ∀ s : Shared, s.heap.get? l = some { cls := .type "list", data := .seq items n } → s.heap.get? b = some { cls := .type "list", data := .seq items2 n2 } →
    (∀ j (h1 : j < items.size) (h2 : j < items2.size), EqT prog w A.in1 s items[j] items2[j]) → R (.ok (.ret (.bool false))) s →
    wpAny (model prog w) A.in1 (Builtin.«list.__eq__.loop» ⟨[.ref l, .ref b, rawInt i, rawInt 3], []⟩) (FinP prog w A R) (fun e s' => R (.error e) s') s := by
  induction k with
  | zero =>
    intro i hk s hl hb he h
    obtain ⟨hp, g, d, tk, os⟩ := s
    wp_walk using wpAny_loadPart' hl, wpAny_loadPart' hb
    have hi1 : items[((i : Nat) : Int).toNat]? = none := by simp; omega
    have hi2 : items2[((i : Nat) : Int).toNat]? = none := by simp; omega
    rw [hi1, hi2]
    wp_walk using wpAny_loadPart' hl, wpAny_loadPart' hb
    show R (.ok (.ret (.bool (items.size != items2.size)))) _
    rw [hsz]
    simpa using h
  | succ k ih =>
    intro i hk s hl hb he h
    obtain ⟨hp, g, d, tk, os⟩ := s
    wp_walk using wpAny_loadPart' hl, wpAny_loadPart' hb
    have hlt : i < items.size := by omega
    have hlt2 : i < items2.size := by omega
    have hi1 : items[((i : Nat) : Int).toNat]? = some items[i] := by simp [hlt]
    have hi2 : items2[((i : Nat) : Int).toNat]? = some items2[i] := by simp [hlt2]
    have hc : ((i : Int) + 1) = ((i + 1 : Nat) : Int) := by omega
    rw [hi1, hi2]
    refine wpAny_bind (he i hlt hlt2 _ _ ?_)
    wp_walk
    rw [hc]
    exact ⟨plainId_quiet plain_eq_loop _, codeAny_builtin entry_eq_loop (by
      rw [Around.under_plainId plain_eq_loop _]
      exact ih (i + 1) (by omega) _ hl hb he h)⟩
theorem list_neT (l b : Addr) (items items2 : Array Value) (n n2 : Nat) (hsz : items.size = items2.size) (hl : s.heap.get? l = some { cls := .type "list", data := .seq items n }) (hb : s.heap.get? b = some { cls := .type "list", data := .seq items2 n2 })
    (he : ∀ j (h1 : j < items.size) (h2 : j < items2.size), EqT prog w A.in1 s items[j] items2[j]) (h : R (.ok (.ret (.bool false))) s) :
    wpAny (model prog w) A.in1 (Builtin.«list.__ne__» ⟨[.ref l, .ref b], []⟩) (FinP prog w A R) (fun e s' => R (.error e) s') s := by
  obtain ⟨hp, g, d, tk, os⟩ := s
  have f3 := AutoSeq1.sub_list_list
  have hne : ¬ (items.size != items2.size) = true := by simp [hsz]
  wp_walk using wpAny_loadPart' hl, wpAny_loadPart' hb
  exact ⟨plainId_quiet plain_eq_loop _, codeAny_builtin entry_eq_loop (by
    rw [Around.under_plainId plain_eq_loop _]
    exact ne_loopT l b items items2 n n2 hsz _ 0 rfl _ hl hb he h)⟩
theorem call_fin {T : String} {name : Str} {id : String} {b : Builtin} {self : Value} {rest : List Value} {Q : Value → Shared → Prop} (h : Slot T name id) (hT : s.TypeIs self T) (hb : entryFor table id = some b) (ha : argsOk id ⟨self :: rest, []⟩)
    (hc : wpAny (model prog w) A.in1 (b ⟨self :: rest, []⟩) (FinP prog w A (wants Q E)) (fun e s' => wants Q E (.error e) s') s) : wpAny (model prog w) A (call (.builtin id) (self :: rest)) Q E s :=
  wpAny_call (codeAny_call_builtin h.plain hb (h.check _ _ _ _ _ _ _ _ hT ha hc))
/-- lists whose members are found equal do not differ -/
theorem listsT {l b : Addr} {vs us : List Value} {n n2 : Nat} {Q : Value → Shared → Prop} (hl : s.heap.get? l = some (listOf vs.toArray n)) (hb : s.heap.get? b = some (listOf us.toArray n2)) (hu : A.units < cLine)
    (he : All2 (fun y x => EqT prog w A.in1 s y x) vs us) (h : Q (.bool false) s) : wpAny (model prog w) A (compareOp .NotEq (.ref l) (.ref b)) Q E s := by
  have hsz : vs.toArray.size = us.toArray.size := by simpa using he.length
  refine wpAny_richCompare_same_room (op := .NotEq) (T := "list") ⟨_, hl, rfl⟩ ⟨_, hb, rfl⟩ F.slot_list_ne (call_fin F.slot_list_ne ⟨_, hl, rfl⟩ F.entry_list_ne (F.args_list_ne_2 _ _)
    (list_neT l b vs.toArray us.toArray n n2 hsz hl hb (fun j h1 h2 => ?_) ⟨(fun x => nomatch x), h⟩)) hu
  have key : ∀ {vs us : List Value}, All2 (fun y x => EqT prog w A.in1 s y x) vs us → ∀ (j : Nat) (h1 : j < vs.length) (h2 : j < us.length), EqT prog w A.in1 s vs[j] us[j] := by
    intro vs us c
    induction c with
    | nil => intro j h1; cases h1
    | cons r _ ih => intro j h1 h2; cases j with
      | zero => exact r
      | succ j => exact ih j _ _
  have := key he j (by simpa using h1) (by simpa using h2)
  simpa using this
theorem EqT.of_refs {l b : Addr} (h : ∀ (E : Value → Shared → Prop) (Q : Value → Shared → Prop), Q (.bool true) s → wpAny (model prog w) A (richCompare .Eq (.ref l) (.ref b)) Q E s) : EqT prog w A s (.ref l) (.ref b) := fun E Q hq => by
  unfold eqBool
  refine wpAny_holding ?_
  by_cases hne : l = b
  · subst hne
    refine wpAny_ite_split (fun _ => ?_) (fun hab => absurd (beq_self_eq_true _) hab)
    exact wpAny_bind (wpAny_rule (wpAny_pure hq))
  · refine wpAny_ite_split (fun hab => absurd (by have := eq_of_beq hab; injection this) hne) (fun _ => ?_)
    exact wpAny_bind (h E _ (wpAny_truthy_bool hq))
/-- pairs -/
theorem tuplesT {l b : Addr} {x₁ x₂ y₁ y₂ : Value} (hl : s.heap.get? l = some { cls := .type "tuple", data := .seq #[x₁, x₂] }) (hb : s.heap.get? b = some { cls := .type "tuple", data := .seq #[y₁, y₂] }) (hu : A.units < cLine)
    (h1 : EqT prog w A.in1 s x₁ y₁) (h2 : EqT prog w A.in1 s x₂ y₂) : EqT prog w A s (.ref l) (.ref b) := by
  refine EqT.of_refs fun E Q h => ?_
  refine wpAny_richCompare_same_room (op := .Eq) (T := "tuple") ⟨_, hl, rfl⟩ ⟨_, hb, rfl⟩ F.slot_tuple_eq (call_fin F.slot_tuple_eq ⟨_, hl, rfl⟩ F.entry_tuple_eq (F.args_tuple_eq_2 _ _) ?_) hu
  obtain ⟨hp, g, d, tk, os⟩ := s
  have f2 := AutoSeq1.sub_tuple_tuple
  wp_walk using wpAny_loadPart' hl, wpAny_loadPart' hb, wpAny_forIn_list _ (fun rest q s' => q.1 = none ∧ s' = ⟨hp, g, d, tk, os⟩ ∧ ∀ p ∈ rest, EqT prog w A.in1 ⟨hp, g, d, tk, os⟩ p.1 p.2) _
  case turn =>
    rintro ⟨y, x⟩ rest q s' ⟨hq, rfl, hz⟩
    refine wpAny_bind (hz _ (.head _) _ _ ?_)
    wp_walk
    exact ⟨rfl, rfl, fun p hp => hz p (.tail _ hp)⟩
  case fin =>
    rintro ⟨b1, b2⟩ s' ⟨hb', rfl, _⟩
    simp only at hb'
    subst hb'
    wp_walk
    exact ⟨(fun x => nomatch x), by simpa [Builtin.Tuple.tupleCompareSizes] using h⟩
  case h =>
    refine ⟨rfl, rfl, fun p hp => ?_⟩
    simp only [List.zip_cons_cons, List.zip_nil_right, List.mem_cons, List.not_mem_nil, or_false] at hp
    rcases hp with rfl | rfl
    · exact h1
    · exact h2
end
end Mine
end
section
open PySem PySem.W PySem.Calls PyProof.Rows PySem.Builtin PySem.Builtin.Str
namespace Mine
section
variable {prog : Program} {w : World} {A : Around} {E : Value → Shared → Prop} {s : Shared} {K : Type} [DecidableEq K] {knd : KeyKind prog w K}
theorem same_pairsT {nm : String} {a b : Addr} {ka kb : List (K × Value)} {Q : Bool → Shared → Prop} (ha : (a == sysModules) = false) (hb : (b == sysModules) = false)
    (da : s.heap.DictOf knd a ka) (db : s.heap.DictOf knd b kb) (hl : ka.length = kb.length) (hits : ∀ p ∈ ka, ∃ y, valueAt kb p.1 = some y ∧ EqT prog w A s p.2 y) (h : Q true s) :
    wpAny (model prog w) A (Builtin.Dict.samePairs nm a b) Q E s := by
  obtain ⟨oa, es, ep, hoa, _, hda, hka, hpa, _⟩ := da
  obtain ⟨ob, es', ep', hob, _, hdb, hkb, hpb, _⟩ := db
  have hla : ka.length = es.size := by rw [← hpa.length]; exact Array.length_toList
  have hlb : kb.length = es'.size := by rw [← hpb.length]; exact Array.length_toList
  have hfind : ∀ k, findBy knd.is es' k = valueAt kb k := fun k => by
    rw [← hpb.find k]
    clear hlb hpb hkb hdb hob
    obtain ⟨l⟩ := es'
    simp [findBy]
  have hsz : es.size = es'.size := by omega
  unfold Builtin.Dict.samePairs Builtin.Dict.showsAll
  rw [if_neg (show ¬ (a == sysModules) = true by rw [ha]; exact Bool.false_ne_true), if_neg (show ¬ (b == sysModules) = true by rw [hb]; exact Bool.false_ne_true)]
  refine wpAny_bind (wpAny_pure (wpAny_bind (wpAny_pure ?_)))
  refine wpAny_bind (wpAny_dictEntries hoa hda ?_)
  dsimp only
  refine wpAny_bind (wpAny_dictEntries hob hdb ?_)
  rw [if_neg (by rw [hsz]; simp)]
  refine wpAny_bind (wpAny_dictEpoch hoa hda ?_)
  refine wpAny_bind ?_
  rw [Std.Legacy.Range.forIn_eq_forIn_range']
  simp only [Std.Legacy.Range.size, Nat.sub_zero, Nat.add_sub_cancel, Nat.div_one]
  refine wpAny_forIn_list _ (fun rest q s' => s' = s ∧ q = (none, ()) ∧ ∃ i, rest = List.range' i (es.size - i) ∧ i ≤ es.size) _ ?_ ?_ _ _ ⟨rfl, rfl, 0, by simp, Nat.zero_le _⟩
  · rintro x rest q s' ⟨rfl, rfl, i, hr, hi⟩
    have hlt : i < es.size := by
      rcases Nat.lt_or_ge i es.size with h | h
      · exact h
      · rw [Nat.sub_eq_zero_of_le h] at hr; simp at hr
    obtain ⟨rfl, hrest⟩ : x = i ∧ rest = List.range' (i + 1) (es.size - (i + 1)) := by
      have e : es.size - i = (es.size - (i + 1)) + 1 := by omega
      rw [e, List.range'_succ] at hr
      injection hr with h1 h2
      exact ⟨h1, h2⟩
    refine wpAny_bind (wpAny_dictEntries hoa hda ?_)
    rw [Array.getElem?_eq_getElem hlt]
    have hlt' : x < ka.length := by rw [hla]; exact hlt
    obtain ⟨k, v, hkv⟩ : ∃ k v, ka[x] = (k, v) := ⟨_, _, rfl⟩
    have hmem : (k, v) ∈ ka := hkv ▸ List.getElem_mem hlt'
    obtain ⟨hkey, hval⟩ := hpa.get? (i := x) (e := es[x]) (k := k) (v := v) (by rw [Array.getElem?_toList]; exact Array.getElem?_eq_getElem hlt) (by rw [List.getElem?_eq_getElem hlt', hkv])
    obtain ⟨k', hk', hh⟩ := hka es[x] (Array.getElem_mem hlt)
    have ekk : k' = k := knd.inj _ _ _ hk' hkey
    rw [ekk] at hh
    show wpAny _ _ (holding [es[x].key, es[x].val] _ >>= _) _ _ _
    rw [hh]
    obtain ⟨y, hy, he⟩ := hits _ hmem
    dsimp only at hy he
    refine wpAny_bind (wpAny_holding (wpAny_bind (wpAny_dictFind_of hkey hob hdb hkb ?_)))
    cases hj : es'.findIdx? fun e => knd.is k e.key with
    | none =>
      have hn : valueAt kb k = none := by rw [← hfind k, findBy_of_findIdx?, hj]
      rw [hn] at hy; exact nomatch hy
    | some j =>
      obtain ⟨hjlt, _, _⟩ := Array.findIdx?_eq_some_iff_getElem.mp hj
      have hv' : valueAt kb k = some es'[j].val := by
        rw [← hfind k, findBy_of_findIdx?, hj]
        simp [Array.getElem?_eq_getElem hjlt]
      refine wpAny_bind (wpAny_dictEntries hob hdb ?_)
      rw [Array.getElem?_eq_getElem hjlt]
      have ey : es'[j].val = y := Option.some.inj (hv'.symm.trans hy)
      rw [← ey, ← hval] at he
      refine wpAny_holding (he _ _ ?_)
      show wpAny _ _ (if (!true) = true then _ else _) _ _ _
      rw [if_neg (by decide)]
      refine wpAny_bind (wpAny_dictEpoch hoa hda ?_)
      rw [if_neg (by simp)]
      exact wpAny_pure ⟨rfl, rfl, x + 1, hrest, hlt⟩
  · rintro q s' ⟨rfl, rfl, i, hr, hi⟩
    exact wpAny_pure h
theorem dictsT {a b : Addr} {ka kb : List (K × Value)} (ha : (a == sysModules) = false) (hb : (b == sysModules) = false)
    (da : s.heap.DictOf knd a ka) (db : s.heap.DictOf knd b kb) (hu : A.units < cLine) (hl : ka.length = kb.length) (hits : ∀ p ∈ ka, ∃ y, valueAt kb p.1 = some y ∧ EqT prog w A.in1 s p.2 y) : EqT prog w A s (.ref a) (.ref b) := by
  refine EqT.of_refs fun E Q h => ?_
  refine wpAny_richCompare_same_room (op := .Eq) da.typeIs db.typeIs PySem.F.slot_dict_eq (wpAny_call_entry PySem.F.slot_dict_eq da.typeIs PySem.F.entry_dict_eq ?_ (PySem.F.args_dict_eq_2 _ _)) hu
  show wpAny _ _ (Builtin.Dict.dictSlotArgs "__eq__" ⟨[.ref a, .ref b], []⟩ >>= _) _ _ s
  refine wpAny_bind ?_
  unfold Builtin.Dict.dictSlotArgs
  refine wpAny_bind (wpAny_notOrdered_dict da.typeIs ?_)
  show wpAny _ _ (pure (Value.ref a, Value.ref b)) _ _ s
  refine wpAny_pure ?_
  refine wpAny_bind (wpAny_isInstance (T := "dict") db.typeIs PySem.F.sub_dict_dict ?_)
  simp only [Bool.not_true, Bool.false_eq_true, if_false]
  refine wpAny_bind (wpAny_pure (wpAny_bind (wpAny_pure ?_)))
  refine wpAny_bind (same_pairsT ha hb da db hl hits ?_)
  refine wpAny_pure ⟨_, rfl, ?_, ?_⟩
  · exact fun x => nomatch x
  · simpa using h
end
/-- equal in depth, as the described heap has it -/
def DEq (H : HL) : Nat → AV → AV → Prop
  | 0, a, b => Pl a ∧ a = b
  | n + 1, a, b => (Pl a ∧ a = b) ∨ (∃ x y a₁ a₂ b₁ b₂, a = .ref x ∧ b = .ref y ∧ (x, AO.tuple [a₁, a₂]) ∈ H ∧ (y, AO.tuple [b₁, b₂]) ∈ H ∧ DEq H n a₁ b₁ ∧ DEq H n a₂ b₂) ∨
      (∃ x y es es', a = .ref x ∧ b = .ref y ∧ (x, AO.dict es) ∈ H ∧ (y, AO.dict es') ∈ H ∧ All2 (fun p q => p.1 = q.1 ∧ DEq H n p.2 q.2) es es')
theorem DEq.plain {H : HL} {n : Nat} {a : AV} (p : Pl a) : DEq H n a a := by cases n; exact ⟨p, rfl⟩; exact .inl ⟨p, rfl⟩
theorem DEq.tuple {H : HL} {n : Nat} {x y : Addr} {a₁ a₂ b₁ b₂ : AV} (hx : (x, AO.tuple [a₁, a₂]) ∈ H) (hy : (y, AO.tuple [b₁, b₂]) ∈ H) (h1 : DEq H n a₁ b₁) (h2 : DEq H n a₂ b₂) : DEq H (n + 1) (.ref x) (.ref y) := .inr (.inl ⟨x, y, a₁, a₂, b₁, b₂, rfl, rfl, hx, hy, h1, h2⟩)
theorem DEq.dict {H : HL} {n : Nat} {x y : Addr} {es es' : List (Str × AV)} (hx : (x, AO.dict es) ∈ H) (hy : (y, AO.dict es') ∈ H) (h : All2 (fun p q => p.1 = q.1 ∧ DEq H n p.2 q.2) es es') : DEq H (n + 1) (.ref x) (.ref y) := .inr (.inr ⟨x, y, es, es', rfl, rfl, hx, hy, h⟩)
theorem All2.memL {α β : Type} {R : α → β → Prop} {l : List α} {m : List β} (h : All2 R l m) {a : α} (ha : a ∈ l) : ∃ b ∈ m, R a b := by
  induction h with
  | nil => cases ha
  | cons r _ ih =>
    rcases List.mem_cons.mp ha with q | q
    · subst q; exact ⟨_, .head _, r⟩
    · obtain ⟨b, h, r⟩ := ih q; exact ⟨b, .tail _ h, r⟩
section
variable {prog : Program} {w : World} {n : Nat} {Γ : Act} {loc : Locs} {gs : Array GenState} {H : HL} {k : AV → St → Prop}
theorem EqT.pl {A : Around} {s : Shared} {a : AV} {v v' : Value} (p : Pl a) (c : Conc a v) (c' : Conc a v') : EqT prog w A s v v' := fun E Q h => by
  have := eqAt_pl (A := A) (s := s) p p c c'
  have e : eqA a a = true := eqA_self p
  rw [e] at this
  exact this prog w E Q h
theorem DEq.eqT {s : Shared} (p : Rep w.params Γ ⟨loc, H, gs⟩ s) : ∀ (m : Nat) {a b : AV} {v v' : Value} {A : Around}, DEq H m a b → Conc a v → Conc b v' → A.units + m < cLine → EqT prog w A s v v' := by
  intro m
  induction m with
  | zero =>
    intro a b v v' A d c c' hu
    obtain ⟨q, rfl⟩ := d
    exact EqT.pl q c c'
  | succ m ih =>
    intro a b v v' A d c c' hu
    have hu' : A.in1.units + m < cLine := by simp only [Around.in1_units]; omega
    rcases d with ⟨q, rfl⟩ | ⟨x, y, a₁, a₂, b₁, b₂, rfl, rfl, hx, hy, d₁, d₂⟩ | ⟨x, y, es, es', rfl, rfl, hx, hy, al⟩
    · exact EqT.pl q c c'
    · cases c; cases c'
      obtain ⟨vs, cl, ho⟩ := p.tuple hx
      obtain ⟨us, cl', ho'⟩ := p.tuple hy
      cases cl with
      | cons q₁ cl =>
      cases cl with
      | cons q₂ cl =>
      cases cl
      cases cl' with
      | cons r₁ cl' =>
      cases cl' with
      | cons r₂ cl' =>
      cases cl'
      exact tuplesT ho ho' (by omega) (ih d₁ q₁ r₁ hu') (ih d₂ q₂ r₂ hu')
    · cases c; cases c'
      obtain ⟨ds, nn, ec, nk, lo, ho⟩ := p.dict hx
      obtain ⟨ds', nn', ec', nk', lo', ho'⟩ := p.dict hy
      obtain ⟨kvs, hd, bc⟩ := isDict (prog := prog) (nn := nn) ec nk
      obtain ⟨kvs', hd', bc'⟩ := isDict (prog := prog) (nn := nn') ec' nk'
      refine dictsT (knd := PySem.strKind prog w) lo lo' (Heap.dictOf_iff.mpr ⟨_, ho, hd⟩) (Heap.dictOf_iff.mpr ⟨_, ho', hd'⟩) (by omega) (by rw [← All2.length bc, ← All2.length bc', All2.length al]) fun q hq => ?_
      obtain ⟨e, he, r1, r2⟩ := bc.mem hq
      obtain ⟨e', he', f1, f2⟩ := All2.memL al he
      obtain ⟨k', v'⟩ := e'
      obtain ⟨y, hy, cy⟩ := bc'.valueAt nk' he'
      refine ⟨y, ?_, ih f2 r2 cy hu'⟩
      rw [← r1, f1]; exact hy
theorem q_neLists {l b : Addr} {xs ys : List AV} (hl : (l, AO.list xs) ∈ H) (hb : (b, AO.list ys) ∈ H) (m : Nat) (hm : m ≤ 30) (d : All2 (DEq H m) xs ys) (h : k (.bool false) ⟨loc, H, gs⟩) : W prog w (n + 1) Γ Conc (compareOp .NotEq (.ref l) (.ref b)) ⟨loc, H, gs⟩ k := .mk fun A s ro p => by
  obtain ⟨vs, nn, cl, ho⟩ := p.list hl
  obtain ⟨us, nn', cl', ho'⟩ := p.list hb
  have hu := ro.units
  refine listsT ho ho' (by omega) ?_ ⟨.bool false, _, .bool _, p, h⟩
  have hu' : A.in1.units + m < cLine := by simp only [Around.in1_units]; omega
  clear ho ho'
  clear hl hb
  induction d generalizing vs us with
  | nil => cases cl; cases cl'; exact .nil
  | cons r _ ih =>
    cases cl with
    | cons c1 c2 =>
    cases cl' with
    | cons c3 c4 => exact .cons (r.eqT p m c1 c3 hu') (ih _ c2 _ c4)
theorem kk_ok {l : List Nat} {X : List Nat → Prop} (h : X l) : ∃ l', AV.str l = .str l' ∧ X l' := ⟨l, rfl, h⟩
end
end Mine
end
section
open PySem PySem.W PySem.Calls PyProof.Rows PySem.Builtin PySem.Builtin.Str
namespace Mine
section
variable {prog : Program} {w : World} {n : Nat} {KF : Frag} {ps us : Locs}
/-- the call of a def from outside, no frame below -/
theorem top_fn {p : Program} {loose : List Str} {mg mb : Str → Option Value} {A : Around} {s : Shared} {name qual : Str} {params : Arguments} {body : List Stmt} {scope : Scope} {dV kV doc pm cdv ct oc : Value} {an od : Option Addr} {osl : Array (Option Value)} {f : Addr} {vs : List Value} {kw : List (Str × Value)} {binds : List (Str × Value)}
    {k : AV → Array GenState → Prop}
    (X : KF.In s.heap) (T : TopRead p loose mg mb s.heap) (ho : KF.lookup f = some ⟨oc, od, .func (fnOf name qual params body scope dV kV doc pm an cdv ct), osl⟩) (hcd : codeIn KF cdv qual = true)
    (hbind : ∀ s : Shared, KF.In s.heap → BindsTo s (fnOf name qual params body scope dV kV doc pm an cdv ct) ⟨vs, kw⟩ binds) (hb : BindC ps binds) (hloc : (binds.all fun y => decide (scope.names.lookup y.1 = some .local)) = true)
    (hu : (us.all fun p => isUnb p.2) = true) (hnd : ((ps ++ us).map (·.1)).Nodup)
    (hco : scope.isCoroutine = false) (hgen : scope.isGenerator = false) (hk : scope.kind = .function) (hcell : ∀ x ∈ scope.names, x.2 ≠ .cell)
    (ro : Room (n + 1) A) (h : ∀ L, W prog w n ⟨s.heap, L, s.os⟩ FlowR (execs body (envOf qual scope L f cdv)) ⟨ps ++ us, [], s.gens⟩ (fun fa S' => k (retOf fa) S'.gens)) :
    codeAny (model prog w) A (.call (.ref f) ⟨vs, kw⟩) (fun r s' => match r with
      | .ok (.ret v) => ∃ b, Conc b v ∧ k b s'.gens ∧ s'.os = s.os ∧ ∀ b o, s.heap.get? b = some o → s'.heap.get? b = some o
      | _ => False) s := by
  refine codeAny_call_def (fd := fnOf name qual params body scope dV kV doc pm an cdv ct) (body := body) (binds := binds) ro.deep (X _ _ ho) rfl T.nolimit (codeRec_of X hcd) rfl (hbind s X) hcell (locs hloc) (fun h₁ hns hk₁ => ?_) hco hgen hk
  have R' : Rep w.params ⟨s.heap, s.heap.objs.size, s.os⟩ ⟨ps ++ us, [], s.gens⟩ { s with heap := h₁, toks := s.toks + binds.length } :=
    ⟨⟨fun y => binds.reverse.lookup y, [], ⟨hns, hk₁, Nat.le_refl _⟩, (fun _ hq => nomatch hq), List.nodup_nil, locC_of hb hu hnd, .nil⟩, rfl, rfl⟩
  refine wpAny_mono ((h s.heap.objs.size).run _ _ ro.deeper R') (fun fl s' hl => ?_) fun _ _ y => y.elim
  obtain ⟨fa, S', cf, r', kk⟩ := hl
  obtain ⟨m', news', F', N', nd', l', c'⟩ := r'.ex
  exact ⟨retOf fa, cf.back, by rw [show s'.gens = S'.gens from r'.gens]; exact kk, r'.os, F'.keep⟩
end
end Mine
end
section
open PySem PySem.W PySem.Calls PyProof.Rows PySem.Builtin PySem.Builtin.Str
namespace Mine
inductive TupC : List AV → List AV → HL → Prop
  | nil : TupC [] [] []
  | cons {x xs rs Hp tp} : TupC xs rs Hp → TupC (x :: xs) (.ref tp :: rs) ((tp, .tuple [x, .bool false]) :: Hp)
theorem TupC.snoc {x xs rs Hp tp} (r : TupC xs rs Hp) : TupC (xs ++ [x]) (rs ++ [.ref tp]) (Hp ++ [(tp, .tuple [x, .bool false])]) := by
  induction r with
  | nil => exact .cons .nil
  | cons _ ih => exact .cons ih
theorem TupC.len {xs rs Hp} (r : TupC xs rs Hp) : rs.length = xs.length := by
  induction r with
  | nil => rfl
  | cons _ ih => rw [List.length_cons, List.length_cons, ih]
theorem Sel.perm' {p : Addr × AO} : ∀ {A B : HL}, Sel p (A ++ p :: B) (A ++ B)
  | [], _ => .head
  | _ :: _, _ => .tail Sel.perm'
theorem Pick.of_permX' : ∀ {R X H : HL}, (R ++ X).Perm H → Pick R H
  | [], _, _, _ => .nil
  | p :: R, X, H, h => by
    obtain ⟨a, b, rfl⟩ := List.append_of_mem (h.mem_iff.mp (.head _))
    exact .cons Sel.perm' (Pick.of_permX' (X := X) (List.Perm.cons_inv (h.trans List.perm_middle)))
section
variable {prog : Program} {w : World} {n : Nat} {Γ : Act} {KF : Frag} {S : St} {loc : Locs} {gs : Array GenState} {H H' : HL} {env : Env} {k : AV → St → Prop} {pos : Pos}
/-- a list's members, each in a pair with False -/
theorem r_pairs {target iter elt : Expr} {scope : Scope} {lst : Addr} {xs : List AV} {y : Str} (eo : EnvOk env Γ.L) (G : Gnd KF Γ)
    (q1 : W prog w n Γ Conc (eval iter env) ⟨loc, H, gs⟩ (fun a S => a = .ref lst ∧ S = ⟨loc, H, gs⟩)) (hm : (lst, AO.list xs) ∈ H) (hz : xs.length ≤ 1000)
    (q2 : ∀ Γ' x H' av v, Gnd KF Γ' → EnvOk (compEnv scope env Γ'.L) Γ'.L → x ∈ xs → Conc x v → W prog w n Γ' UnitR (assign target (compEnv scope env Γ'.L) v) ⟨[(y, av)], H', gs⟩ (fun _ S₂ => W prog w n Γ' Conc (eval elt (compEnv scope env Γ'.L)) S₂ (fun b S₃ => ∃ tp, b = .ref tp ∧ S₃ = ⟨[(y, x)], (tp, .tuple [x, .bool false]) :: H', gs⟩)))
    (hs : ∀ x, foldedSetIterable iter env x = pure x) (ht : ∀ it v, letOwnedTupleGo target (.ref it) v = pure ())
    (hfree : ∀ x ∈ scope.names, x.2 ≠ .free) (hcell : ∀ x ∈ scope.names, x.2 ≠ .cell) (hkind : scope.kind = .function) (hnames : ∀ x ∈ scope.names, x.2 = .local → scope.names.lookup x.1 = some .local)
    (h : ∀ acc rs Hp, TupC xs rs Hp → k (.ref acc) ⟨loc, (acc, .list rs) :: (Hp ++ H), gs⟩) :
    W prog w n Γ Conc (eval (.ListComp elt [⟨target, iter, [], 0⟩] scope pos) env) ⟨loc, H, gs⟩ k := by
  refine r_ListComp (us := [(y, .unb)]) (fun it acc j S => ∃ i av rs Hp, j = xs.length - i ∧ i ≤ xs.length ∧ TupC (xs.take i) rs Hp ∧ S.gens = gs ∧ S.loc = [(y, av)] ∧ Pick ((acc, .list rs) :: (it, .obj (lstIt lst i)) :: (Hp ++ H)) S.heap) eo G ?p1 ?p2 ?p3 rfl (by simp) hs ht hfree hcell hkind hnames
  case p1 =>
    refine q1.mono fun a S z v c => ?_
    obtain ⟨rfl, rfl⟩ := z
    cases c
    refine it_list hm fun it => ?_
    refine ⟨it, rfl, rfl, fun acc => ⟨xs.length - 0, 0, .unb, [], [], rfl, Nat.zero_le _, ?_, rfl, rfl, .refl⟩⟩
    rw [List.take_zero]; exact .nil
  case p2 =>
    rintro Γ' it acc j ⟨loc', H', gs'⟩ G' _ ⟨i, av, rs, Hp, rfl, hi, tc, rfl, rfl, pk⟩
    refine W.pick pk (it_lstIt (l := lst) (i := i) (.tail _ (.head _)) ⟨rfl, i, av, rs, Hp, rfl, hi, tc, rfl, rfl, .refl⟩)
  case p3 =>
    rintro Γ' it acc j ⟨loc', H', gs'⟩ G' _ E ⟨i, av, rs, Hp, rfl, hi, tc, rfl, rfl, pk⟩
    refine W.pick pk ?_
    have hm' : (lst, AO.list xs) ∈ (acc, .list rs) :: (it, .obj (lstIt lst i)) :: (Hp ++ H) := .tail _ (.tail _ (List.mem_append_right _ hm))
    cases hx : xs[i]? with
    | none =>
      have hi' : i = xs.length := by
        have := List.getElem?_eq_none_iff.mp hx
        omega
      subst hi'
      rw [List.take_length] at tc
      refine nx_listEnd hm' hx (.tail .head) (.tail _ (.head _)) ?_
      exact ⟨_, .refl, h acc rs Hp tc⟩
    | some x =>
      have hi' : i < xs.length := by
        rcases Nat.lt_or_ge i xs.length with q | q
        · exact q
        · rw [List.getElem?_eq_none q] at hx; cases hx
      refine nx_list hm' hx (.tail .head) (.tail _ (.head _)) ?_
      dsimp only
      intro v cv
      refine (q2 Γ' x _ av v G' E (List.mem_of_getElem? hx) cv).mono fun _ S₂ z => z.mono fun b S₃ z u cu => ?_
      obtain ⟨tp, rfl, rfl⟩ := z
      have hl : rs.length ≤ 1048576 := by
        rw [tc.len, List.length_take]; omega
      refine f_append (xs := rs) (.tail .head) cu hl ?_
      have tc' := tc.snoc (x := x) (tp := tp)
      refine ⟨xs.length - (i + 1), by omega, i + 1, x, _, _, rfl, by omega, by rw [List.take_add_one, hx]; exact tc', rfl, rfl, ?_⟩
      refine Pick.of_permX' (X := []) ?_
      rw [List.append_nil]
      refine List.Perm.trans ?_ (List.Perm.swap _ _ _)
      refine .cons _ ?_
      refine List.Perm.trans ?_ (List.Perm.swap _ _ _)
      refine .cons _ ?_
      rw [List.append_assoc]
      exact List.perm_middle
end
end Mine
end
section
open PySem PySem.W PySem.Calls PyProof.Rows
namespace Mine
/-- an evaluation that gives `a` and leaves the state as it is -/
structure D (prog : Program) (w : World) (n : Nat) (Γ : Act) (S : St) (t : Sem Value) (a : AV) : Prop where
  run : ∀ k : AV → St → Prop, k a S → W prog w n Γ Conc t S k
structure DB (prog : Program) (w : World) (n : Nat) (Γ : Act) (S : St) (t : Sem Bool) (b : Bool) : Prop where
  run : ∀ k : Bool → St → Prop, k b S → W prog w n Γ BoolR t S k
structure D1 (prog : Program) (w : World) (n : Nat) (Γ : Act) (S : St) (f : Value → Sem Value) (a c : AV) : Prop where
  run : ∀ k : AV → St → Prop, k c S → ∀ va, Conc a va → W prog w n Γ Conc (f va) S k
structure D2 (prog : Program) (w : World) (n : Nat) (Γ : Act) (S : St) (f : Value → Value → Sem Value) (a b c : AV) : Prop where
  run : ∀ k : AV → St → Prop, k c S → ∀ va, Conc a va → ∀ vb, Conc b vb → W prog w n Γ Conc (f va vb) S k
structure DU (prog : Program) (w : World) (n : Nat) (Γ : Act) (S : St) (a : AV) (b : Bool) : Prop where
  run : ∀ k : Bool → St → Prop, k b S → ∀ va, Conc a va → W prog w n Γ BoolR (truthy va) S k
structure DL (prog : Program) (w : World) (n : Nat) (Γ : Act) (S : St) (env : Env) (pos : Pos) (args : List Expr) (as : List AV) : Prop where
  run : ∀ k : List AV → St → Prop, k as S → W prog w n Γ ConcL (spliced (backTo pos (starEach args env))) S k
section
variable {prog : Program} {w : World} {n : Nat} {Γ : Act} {KF : Frag} {loc loc' : Locs} {H H' : HL} {gs : Array GenState} {env : Env} {S : St} {pos p' p₁ : Pos} {k : AV → St → Prop} {kb : Bool → St → Prop} {kf : FA → St → Prop} {rest : List Stmt} {a b c av : AV} {t : Sem Value} {tb : Sem Bool} {e l r v o : Expr}
theorem W.ofD (d : D prog w n Γ S t a) (h : k a S) : W prog w n Γ Conc t S k := d.run k h
theorem W.ofDB {c : Bool} (d : DB prog w n Γ S tb c) (h : kb c S) : W prog w n Γ BoolR tb S kb := d.run kb h
theorem D.name {x : Str} (eo : EnvOk env Γ.L) (hv : (x, av) ∈ loc) (hu : Tame av) (hl : env.kindOf x = some .local) (hd : (x == ("__debug__" : Str)) = false) : D prog w n Γ ⟨loc, H, gs⟩ (eval (.Name x pos) env) av := ⟨fun _ h => e_loc eo hv hu hl hd h⟩
theorem D.glob {x : Str} {v : Value} (eo : EnvOk env Γ.L) (G : Gnd KF Γ) (e : nsIn KF mainGlobals x = some (some v)) (c : Conc av v) (hx : env.kindOf x = some .globalImplicit) (hd : (x == ("__debug__" : Str)) = false) : D prog w n Γ S (eval (.Name x pos) env) av := ⟨fun _ h => e_glob eo G e c hx hd h⟩
theorem D.bi {x : Str} {v : Value} (eo : EnvOk env Γ.L) (G : Gnd KF Γ) (e : nsIn KF mainGlobals x = some none) (hv : bootBuiltins x = some v) (hn : (x == ("__name__" : Str)) = false) (hx : env.kindOf x = some .globalImplicit) (hd : (x == ("__debug__" : Str)) = false) : D prog w n Γ S (eval (.Name x pos) env) (.raw v) := ⟨fun _ h => e_bi eo G e hv hn hx hd h⟩
theorem D.lit {x : Str} {l : List Nat} {j : Nat} (e : x = mkS l) : D prog w n Γ S (eval (.Constant (.str x) j pos) env) (.str l) := ⟨fun _ h => r_lit e h⟩
theorem D.int {i : Int} {j : Nat} : D prog w n Γ S (eval (.Constant (.int i) j pos) env) (.int i) := ⟨fun _ h => r_int h⟩
theorem D.nn {j : Nat} : D prog w n Γ S (eval (.Constant .none j pos) env) .none := ⟨fun _ h => r_none h⟩
theorem D.bool {c : Bool} {j : Nat} : D prog w n Γ S (eval (.Constant (.bool c) j pos) env) (.bool c) := ⟨fun _ h => r_bool h⟩
theorem D.attr {x C : Addr} {es : List (Str × AV)} {name : Str} (h : D prog w n Γ ⟨loc, H, gs⟩ (eval v env) (.ref x)) (G : Gnd KF Γ) (hx : (x, .inst C es) ∈ H) (hm : (name, av) ∈ es) (ht : Tame av) (ho : ownOk KF C name = true)
    (he : eval (.Attribute v name pos) env = (do let o ← eval v env; standAt pos.atName; let r ← holding [o] (getAttr o name true); letTemporaryGo v o r; pure r)) : D prog w n Γ ⟨loc, H, gs⟩ (eval (.Attribute v name pos) env) av :=
  ⟨fun k hk => r_Attr (h.run _ (c_ref (a_own G hx hm ht ho hk))) he⟩
theorem D.bin {op : Operator} (hl : D prog w n Γ S (eval l env) a) (hr : D prog w n Γ S (eval r env) b) (h2 : D2 prog w n Γ S (binaryOp op) a b c) : D prog w n Γ S (eval (.BinOp l op r pos) env) c := ⟨fun k hk => r_BinOp (hl.run _ fun va ca => hr.run _ (h2.run k hk va ca))⟩
theorem D.cmp {op : CmpOp} (hm : behindInMarks op r = false) (hl : D prog w n Γ S (eval l env) a) (hr : D prog w n Γ S (eval r env) b) (h2 : D2 prog w n Γ S (compareOp op) a b c) : D prog w n Γ S (eval (.Compare l [op] [r] pos) env) c := ⟨fun k hk => r_Compare (hl.run _ fun va ca => hr.run _ (h2.run k hk va ca)) hm⟩
theorem D.neg {i : Int} (h : D prog w n Γ S (eval e env) (.int i)) : D prog w n Γ S (eval (.UnaryOp .USub e pos) env) (.int (-i)) := ⟨fun k hk => r_USub (h.run _ (c_int fun _ => o_neg hk))⟩
theorem D.sub {x : Str} {d : Addr} {es : List (Str × AV)} {j : Nat} (h : D prog w n Γ ⟨loc, H, gs⟩ (eval v env) (.ref d)) (hd : (d, AO.dict es) ∈ H) (hm : (x, av) ∈ es) : D prog w n Γ ⟨loc, H, gs⟩ (eval (.Subscript v (.Constant (.str x) j p') pos) env) av := ⟨fun k hk => x_SubLit (h.run _ (sb_ok hd hm hk))⟩
theorem D.subK {x : Str} {d : Addr} {es : List (Str × AV)} {j : Nat} (G : Gnd KF Γ) (h : D prog w n Γ S (eval v env) (.ref d)) (hd : StatD KF w.params d es) (hm : (x, av) ∈ es) : D prog w n Γ S (eval (.Subscript v (.Constant (.str x) j p') pos) env) av := ⟨fun k hk => x_SubLitK G (h.run _ (sk_ok hd hm hk))⟩
theorem D.idx (hl : D prog w n Γ S (eval l env) a) (hr : D prog w n Γ S (eval r env) b) (h2 : D2 prog w n Γ S (subscriptTail l r) a b c) : D prog w n Γ S (eval (.Subscript l r pos) env) c := ⟨fun k hk => x_Sub (hl.run _ fun va ca => hr.run _ (h2.run k hk va ca))⟩
theorem D.call1 {x : Str} {id : String} (hf : D prog w n Γ S (eval (.Name x p₁) env) (.raw (.builtin id))) (he : starEach [e] env = (false, eval e env) :: starEach [] env) (hplain : (backTo pos (starEach [] env)).any (·.1) = false) (ha : D prog w n Γ S (eval e env) a)
    (h1 : D1 prog w n Γ S (fun v => call (.builtin id) [v]) a c) (hc : eval (.Call (.Name x p₁) [e] [] pos) env = (do callWith pos (← eval (.Name x p₁) env) [] (backTo pos (starEach [e] env)) (backToKw pos (keywordEach [] env)))) : D prog w n Γ S (eval (.Call (.Name x p₁) [e] [] pos) env) c :=
  ⟨fun k hk => r_Call (hf.run _ (c_raw (kBn he hplain (l_cons (ha.run _ (l_nil (cl_cons fun v cv => cl_nil (h1.run k hk v cv)))) he)))) hc⟩
/-! two values -/
section
variable {i j : Int} {x y : List Nat}
theorem D2.ii {f : Value → Value → Sem Value} (h : ∀ (t u : Tok) (k : AV → St → Prop), k c S → W prog w n Γ Conc (f (.int i t) (.int j u)) S k) : D2 prog w n Γ S f (.int i) (.int j) c := ⟨fun k hk => c_int fun _ => (c_int fun _ => (h _ _ k hk))⟩
theorem D2.ino {f : Value → Value → Sem Value} (h : ∀ (t : Tok) (k : AV → St → Prop), k c S → W prog w n Γ Conc (f (.int i t) .none) S k) : D2 prog w n Γ S f (.int i) .none c := ⟨fun k hk => c_int fun _ => (c_none (h _ k hk))⟩
theorem D2.ir {f : Value → Value → Sem Value} {g₂ : Addr} (h : ∀ (t : Tok) (k : AV → St → Prop), k c S → W prog w n Γ Conc (f (.int i t) (.ref g₂)) S k) : D2 prog w n Γ S f (.int i) (.ref g₂) c := ⟨fun k hk => c_int fun _ => (c_ref (h _ k hk))⟩
theorem D2.nn {f : Value → Value → Sem Value} (h : ∀ (k : AV → St → Prop), k c S → W prog w n Γ Conc (f .none .none) S k) : D2 prog w n Γ S f .none .none c := ⟨fun k hk => c_none (c_none (h  k hk))⟩
theorem D2.ns {f : Value → Value → Sem Value} (h : ∀ (u : Tok) (k : AV → St → Prop), k c S → W prog w n Γ Conc (f .none (.str ⟨y.toArray⟩ u)) S k) : D2 prog w n Γ S f .none (.str y) c := ⟨fun k hk => c_none (c_str fun _ => (h _ k hk))⟩
theorem D2.ri {f : Value → Value → Sem Value} {g : Addr} (h : ∀ (u : Tok) (k : AV → St → Prop), k c S → W prog w n Γ Conc (f (.ref g) (.int j u)) S k) : D2 prog w n Γ S f (.ref g) (.int j) c := ⟨fun k hk => c_ref (c_int fun _ => (h _ k hk))⟩
theorem D2.rn {f : Value → Value → Sem Value} {g : Addr} (h : ∀ (k : AV → St → Prop), k c S → W prog w n Γ Conc (f (.ref g) .none) S k) : D2 prog w n Γ S f (.ref g) .none c := ⟨fun k hk => c_ref (c_none (h  k hk))⟩
theorem D2.si {f : Value → Value → Sem Value} (h : ∀ (t u : Tok) (k : AV → St → Prop), k c S → W prog w n Γ Conc (f (.str ⟨x.toArray⟩ t) (.int j u)) S k) : D2 prog w n Γ S f (.str x) (.int j) c := ⟨fun k hk => c_str fun _ => (c_int fun _ => (h _ _ k hk))⟩
theorem D2.sn {f : Value → Value → Sem Value} (h : ∀ (t : Tok) (k : AV → St → Prop), k c S → W prog w n Γ Conc (f (.str ⟨x.toArray⟩ t) .none) S k) : D2 prog w n Γ S f (.str x) .none c := ⟨fun k hk => c_str fun _ => (c_none (h _ k hk))⟩
theorem D2.sr {f : Value → Value → Sem Value} {g₂ : Addr} (h : ∀ (t : Tok) (k : AV → St → Prop), k c S → W prog w n Γ Conc (f (.str ⟨x.toArray⟩ t) (.ref g₂)) S k) : D2 prog w n Γ S f (.str x) (.ref g₂) c := ⟨fun k hk => c_str fun _ => (c_ref (h _ k hk))⟩
theorem D2.ss {f : Value → Value → Sem Value} (h : ∀ (t u : Tok) (k : AV → St → Prop), k c S → W prog w n Γ Conc (f (.str ⟨x.toArray⟩ t) (.str ⟨y.toArray⟩ u)) S k) : D2 prog w n Γ S f (.str x) (.str y) c := ⟨fun k hk => c_str fun _ => (c_str fun _ => (h _ _ k hk))⟩
theorem d2_addI : D2 prog w n Γ S (binaryOp .Add) (.int i) (.int j) (.int (i + j)) := D2.ii fun _ _ k h => o_addI h
theorem d2_subI : D2 prog w n Γ S (binaryOp .Sub) (.int i) (.int j) (.int (i - j)) := D2.ii fun _ _ k h => o_subI h
theorem d2_modP (hb : 0 < j) : D2 prog w n Γ S (binaryOp .Mod) (.int i) (.int j) (.int (i % j)) := D2.ii fun _ _ k h => o_modP hb h
theorem d2_divP (hb : 0 < j) (hs : j < 1000) : D2 prog w n Γ S (binaryOp .FloorDiv) (.int i) (.int j) (.int (i / j)) := D2.ii fun _ _ k h => o_divP hb hs h
theorem d2_iaddI : D2 prog w n Γ S (inplaceOp .Add) (.int i) (.int j) (.int (i + j)) := D2.ii fun _ _ k h => o_iaddI h
theorem d2_isubI : D2 prog w n Γ S (inplaceOp .Sub) (.int i) (.int j) (.int (i - j)) := D2.ii fun _ _ k h => o_isubI h
theorem d2_addS (hz : x.length + y.length ≤ 1048576) : D2 prog w n Γ S (binaryOp .Add) (.str x) (.str y) (.str (x ++ y)) := D2.ss fun _ _ k h => o_addS hz h
theorem d2_iaddS (hz : x.length + y.length ≤ 1048576) : D2 prog w n Γ S (inplaceOp .Add) (.str x) (.str y) (.str (x ++ y)) := D2.ss fun _ _ k h => o_iaddS hz h
theorem d2_eqI : D2 prog w n Γ S (compareOp .Eq) (.int i) (.int j) (.bool (i == j)) := D2.ii fun _ _ k h => q_eqI h
theorem d2_neI : D2 prog w n Γ S (compareOp .NotEq) (.int i) (.int j) (.bool (i != j)) := D2.ii fun _ _ k h => q_neI h
theorem d2_ltI : D2 prog w n Γ S (compareOp .Lt) (.int i) (.int j) (.bool (decide (i < j))) := D2.ii fun _ _ k h => q_ltI h
theorem d2_leI : D2 prog w n Γ S (compareOp .LtE) (.int i) (.int j) (.bool (decide (i ≤ j))) := D2.ii fun _ _ k h => q_leI h
theorem d2_gtI : D2 prog w n Γ S (compareOp .Gt) (.int i) (.int j) (.bool (decide (i > j))) := D2.ii fun _ _ k h => q_gtI h
theorem d2_geI : D2 prog w n Γ S (compareOp .GtE) (.int i) (.int j) (.bool (decide (i ≥ j))) := D2.ii fun _ _ k h => q_geI h
theorem d2_eqS : D2 prog w n Γ S (compareOp .Eq) (.str x) (.str y) (.bool (x == y)) := D2.ss fun _ _ k h => q_eqS h
theorem d2_neS : D2 prog w n Γ S (compareOp .NotEq) (.str x) (.str y) (.bool (x != y)) := D2.ss fun _ _ k h => q_neS h
theorem d2_leS : D2 prog w n Γ S (compareOp .LtE) (.str x) (.str y) (.bool (!decide (y < x))) := D2.ss fun _ _ k h => q_leS h
theorem d2_eqSN : D2 prog w n Γ S (compareOp .Eq) (.str x) .none (.bool false) := D2.sn fun _ k h => q_eqSN h
theorem d2_eqNS : D2 prog w n Γ S (compareOp .Eq) .none (.str x) (.bool false) := D2.ns fun _ k h => q_eqNS h
theorem d2_eqNN : D2 prog w n Γ S (compareOp .Eq) .none .none (.bool true) := D2.nn fun k h => q_eqNN h
theorem d2_isNN : D2 prog w n Γ S (compareOp .Is) .none .none (.bool true) := D2.nn fun k h => q_isNN h
theorem d2_isSN : D2 prog w n Γ S (compareOp .Is) (.str x) .none (.bool false) := D2.sn fun _ k h => q_isSN h
theorem d2_isIN : D2 prog w n Γ S (compareOp .Is) (.int i) .none (.bool false) := D2.ino fun _ k h => q_isIN h
theorem d2_isRN {g : Addr} : D2 prog w n Γ S (compareOp .Is) (.ref g) .none (.bool false) := D2.rn fun k h => q_isRN h
theorem d2_isNotNN : D2 prog w n Γ S (compareOp .IsNot) .none .none (.bool false) := D2.nn fun k h => q_isNotNN h
theorem d2_isNotSN : D2 prog w n Γ S (compareOp .IsNot) (.str x) .none (.bool true) := D2.sn fun _ k h => q_isNotSN h
theorem d2_inT {g : Addr} {xs : List AV} (ha : (g, .tuple xs) ∈ H) (hx : ∀ x ∈ xs, Pl x) (pv : Pl av) : D2 prog w n Γ ⟨loc, H, gs⟩ (compareOp .In) av (.ref g) (.bool (xs.any fun x => eqA x av)) := ⟨fun k h va ca => c_ref (q_inT ha hx pv ca h)⟩
theorem d2_inC {c : Nat} : D2 prog w n Γ S (compareOp .In) (.str [c]) (.str x) (.bool (decide (c ∈ x))) := D2.ss fun _ _ k h => q_inC h
theorem d2_let {g : Addr} {c : Nat} (G : Gnd KF Γ) (ha : strTup KF g = some letL) : D2 prog w n Γ S (compareOp .In) (.str [c]) (.ref g) (.bool (isLet c)) := D2.sr fun _ k h => q_let G ha h
theorem d2_sp {g : Addr} {c : Nat} (G : Gnd KF Γ) (ha : strTup KF g = some spL) : D2 prog w n Γ S (compareOp .In) (.str [c]) (.ref g) (.bool (isSp c)) := D2.sr fun _ k h => q_sp G ha h
theorem d2_intK {g : Addr} {xs : List Int} (G : Gnd KF Γ) (ha : intTup KF g = some xs) : D2 prog w n Γ S (compareOp .In) (.int i) (.ref g) (.bool (decide (i ∈ xs))) := D2.ir fun _ k h => q_intK G ha h
theorem d2_list {g : Addr} {xs : List AV} {m : Nat} (hl : (g, .list xs) ∈ H) (hj : seqIndex? i xs.length = some m) (hx : xs[m]? = some av) (hz : xs.length ≤ 1048576) : D2 prog w n Γ ⟨loc, H, gs⟩ (subscriptTail l r) (.ref g) (.int i) av := D2.ri fun _ k h => t_list (i_list hl hj hx hz h) hl
theorem d2_str {m c : Nat} (hj : seqIndex? i x.length = some m) (hc : x[m]? = some c) (hz : x.length ≤ 1048576) : D2 prog w n Γ S (subscriptTail l r) (.str x) (.int i) (.str [c]) := D2.si fun _ _ k h => t_str (i_strJ hj hc hz h)
theorem d2_tup {g : Addr} {xs : List AV} {m : Nat} (hl : (g, .tuple xs) ∈ H) (hlo : -(2 ^ 63) ≤ i) (hhi : i < 2 ^ 63) (hj : seqIndex? i xs.length = some m) (hx : xs[m]? = some av) : D2 prog w n Γ ⟨loc, H, gs⟩ (subscriptTail l r) (.ref g) (.int i) av := D2.ri fun _ k h => i_tuple hl hlo hhi hj hx h
theorem d1_len (hz : x.length < 1048576) : D1 prog w n Γ S (fun v => call (.builtin "len") [v]) (.str x) (.int x.length) := ⟨fun k h => c_str fun _ => (f_len hz h)⟩
theorem d1_ord {c : Nat} : D1 prog w n Γ S (fun v => call (.builtin "ord") [v]) (.str [c]) (.int c) := ⟨fun k h => c_str fun _ => (f_ord h)⟩
theorem d1_chr (h0 : 0 ≤ i) (h1 : i ≤ 1114111) : D1 prog w n Γ S (fun v => call (.builtin "chr") [v]) (.int i) (.str [i.toNat]) := ⟨fun k h => c_int fun _ => (f_chr h0 h1 h)⟩
theorem d1_lenL {g : Addr} {xs : List AV} (hD : (g, .list xs) ∈ H) (hz : xs.length ≤ 1048576) : D1 prog w n Γ ⟨loc, H, gs⟩ (fun v => call (.builtin "len") [v]) (.ref g) (.int xs.length) := ⟨fun k h => c_ref (f_lenL hD hz h)⟩
theorem d1_lenD {g : Addr} {es : List (Str × AV)} (hD : (g, .dict es) ∈ H) (hz : es.length ≤ 1000) : D1 prog w n Γ ⟨loc, H, gs⟩ (fun v => call (.builtin "len") [v]) (.ref g) (.int es.length) := ⟨fun k h => c_ref (f_lenD hD hz h)⟩
theorem du_bool {b : Bool} : DU prog w n Γ S (.bool b) b := ⟨fun k h => c_bool (u_bool h)⟩
theorem du_none : DU prog w n Γ S .none false := ⟨fun k h => c_none (u_none h)⟩
theorem du_int : DU prog w n Γ S (.int i) (i != 0) := ⟨fun k h => c_int fun _ => (u_int h)⟩
theorem du_str (hz : x.length < 1048576) : DU prog w n Γ S (.str x) (!x.isEmpty) := ⟨fun k h => c_str fun _ => (u_str hz h)⟩
theorem du_list {g : Addr} {xs : List AV} (hD : (g, .list xs) ∈ H) (hz : xs.length ≤ 1048576) : DU prog w n Γ ⟨loc, H, gs⟩ (.ref g) (!xs.isEmpty) := ⟨fun k h => c_ref (u_list hD hz h)⟩
theorem du_meth {g f s : Addr} (hb : (g, AO.meth f s) ∈ H) : DU prog w n Γ ⟨loc, H, gs⟩ (.ref g) true := ⟨fun k h => c_ref (u_meth hb h)⟩
end
/-! tests -/
section
variable {whole : Sem Value} {c d : Bool} {x : Expr} {xs : List Expr}
theorem DB.cmp {op : CmpOp} (hm : behindInMarks op r = false) (hl : D prog w n Γ S (eval l env) a) (hr : D prog w n Γ S (eval r env) b) (h2 : D2 prog w n Γ S (compareOp op) a b (.bool c)) : DB prog w n Γ S (isTrue (.Compare l [op] [r] pos) env whole) c := ⟨fun kb hk => t_Compare (hl.run _ fun va ca => hr.run _ (h2.run _ (c_bool (u_bool hk)) va ca)) hm⟩
theorem DB.not (h : DB prog w n Γ S (isTrue x env (eval x env)) c) : DB prog w n Γ S (isTrue (.UnaryOp .Not x pos) env whole) (!c) := ⟨fun kb hk => t_Not (h.run _ hk)⟩
theorem DB.and0 : DB prog w n Γ S (isTrue (.BoolOp .And [] pos) env whole) true := ⟨fun kb hk => t_And0 hk⟩
theorem DB.andT (h : DB prog w n Γ S (isTrue x env (eval x env)) c) (e : c = true) (h2 : DB prog w n Γ S (isTrue (.BoolOp .And xs pos) env whole) d) : DB prog w n Γ S (isTrue (.BoolOp .And (x :: xs) pos) env whole) d := ⟨fun kb hk => t_And (h.run _ (br_t e (h2.run _ hk)))⟩
theorem DB.andF (h : DB prog w n Γ S (isTrue x env (eval x env)) c) (e : c = false) : DB prog w n Γ S (isTrue (.BoolOp .And (x :: xs) pos) env whole) false := ⟨fun kb hk => t_And (h.run _ (br_f e hk))⟩
theorem DB.or0 : DB prog w n Γ S (isTrue (.BoolOp .Or [] pos) env whole) false := ⟨fun kb hk => t_Or0 hk⟩
theorem DB.orF (h : DB prog w n Γ S (isTrue x env (eval x env)) c) (e : c = false) (h2 : DB prog w n Γ S (isTrue (.BoolOp .Or xs pos) env whole) d) : DB prog w n Γ S (isTrue (.BoolOp .Or (x :: xs) pos) env whole) d := ⟨fun kb hk => t_Or (h.run _ (br_f' e (h2.run _ hk)))⟩
theorem DB.orT (h : DB prog w n Γ S (isTrue x env (eval x env)) c) (e : c = true) : DB prog w n Γ S (isTrue (.BoolOp .Or (x :: xs) pos) env whole) true := ⟨fun kb hk => t_Or (h.run _ (br_t' e hk))⟩
theorem DB.plain (he : isTrue e env whole = (do let v ← whole; standAt e.pos; holding [v] (truthy v))) (h : D prog w n Γ S whole a) (u : DU prog w n Γ S a c) : DB prog w n Γ S (isTrue e env whole) c := ⟨fun kb hk => t_plain (h.run _ (u.run _ hk)) he⟩
end
/-! arguments -/
theorem DL.nil : DL prog w n Γ S env pos [] [] := ⟨fun kl h => l_nil h⟩
theorem DL.cons {xs : List Expr} {as : List AV} (he : starEach (e :: xs) env = (false, eval e env) :: starEach xs env) (h : D prog w n Γ S (eval e env) a) (ht : DL prog w n Γ S env pos xs as) : DL prog w n Γ S env pos (e :: xs) (a :: as) := ⟨fun kl hk => l_cons (h.run _ (ht.run _ hk)) he⟩
/-! statements -/
theorem y_Assign {x : Str} (eo : EnvOk env Γ.L) (hs : swapsWith e (some (.Name x p')) pos.line env = pure false) (hl : env.kindOf x = some .local) (d : D prog w n Γ ⟨loc, H, gs⟩ (eval e env) a) (u : UpdE x a loc loc') (h : W prog w n Γ FlowR (execs rest env) ⟨loc', H, gs⟩ kf) : W prog w n Γ FlowR (execs (.Assign [.Name x p'] e pos :: rest) env) ⟨loc, H, gs⟩ kf :=
  s_cons (e_Assign eo hs hl (d.run _ (st_ok u (q_next h))))
theorem y_IfT {x : Expr} {body orelse : List Stmt} {c : Bool} (d : DB prog w n Γ S (isTrue x env (eval x env)) c) (e : c = true) (h : W prog w n Γ FlowR (execs body env) S (seqK prog w n Γ rest env kf)) : W prog w n Γ FlowR (execs (.If x body orelse pos :: rest) env) S kf :=
  s_cons (s_If (d.run _ (br_t e h)))
theorem y_IfF {x : Expr} {body orelse : List Stmt} {c : Bool} (d : DB prog w n Γ S (isTrue x env (eval x env)) c) (e : c = false) (h : W prog w n Γ FlowR (execs orelse env) S (seqK prog w n Γ rest env kf)) : W prog w n Γ FlowR (execs (.If x body orelse pos :: rest) env) S kf :=
  s_cons (s_If (d.run _ (br_f e h)))
theorem y_IfF0 {x : Expr} {body : List Stmt} {c : Bool} (d : DB prog w n Γ S (isTrue x env (eval x env)) c) (e : c = false) (h : W prog w n Γ FlowR (execs rest env) S kf) : W prog w n Γ FlowR (execs (.If x body [] pos :: rest) env) S kf :=
  s_cons (s_If (d.run _ (br_f e (s_nil (q_next h)))))
theorem y_AssignAttr {x C : Addr} {es es' : List (Str × AV)} {attr : Str} (hs : swapsWith e (some (.Attribute o attr p')) pos.line env = pure false) (de : D prog w n Γ ⟨loc, H, gs⟩ (eval e env) a) (d : D prog w n Γ ⟨loc, H, gs⟩ (eval o env) (.ref x)) (G : Gnd KF Γ)
    (hu : UpdH x (.inst C es) (.inst C es') H H') (ue : PutE attr a es es') (ho : setOk KF C attr = true) (hz : es'.length ≤ 1000) (h : W prog w n Γ FlowR (execs rest env) ⟨loc, H', gs⟩ kf) : W prog w n Γ FlowR (execs (.Assign [.Attribute o attr p'] e pos :: rest) env) ⟨loc, H, gs⟩ kf :=
  s_cons (s_AssignAttr (de.run _ fun v cv => d.run _ (c_ref (a_set G hu ue cv ho hz (q_next h)))) hs)
theorem y_AugAttr {x C : Addr} {es es' : List (Str × AV)} {attr : Str} {op : Operator} (d : D prog w n Γ ⟨loc, H, gs⟩ (eval o env) (.ref x)) (G : Gnd KF Γ) (hx : (x, .inst C es) ∈ H) (hm : (attr, av) ∈ es) (ht : Tame av) (hw : ownOk KF C attr = true) (de : D prog w n Γ ⟨loc, H, gs⟩ (eval e env) a)
    (h2 : D2 prog w n Γ ⟨loc, H, gs⟩ (inplaceOp op) av a c) (hu : UpdH x (.inst C es) (.inst C es') H H') (ue : PutE attr c es es') (ho : setOk KF C attr = true) (hz : es'.length ≤ 1000) (h : W prog w n Γ FlowR (execs rest env) ⟨loc, H', gs⟩ kf) : W prog w n Γ FlowR (execs (.AugAssign (.Attribute o attr p') op e pos :: rest) env) ⟨loc, H, gs⟩ kf :=
  s_cons (s_AugAttr (d.run _ (c_ref (a_own G hx hm ht hw fun old co => de.run _ (h2.run _ (fun new cn => a_set G hu ue cn ho hz (q_next h)) old co)))))
theorem y_Aug {x : Str} {op : Operator} (eo : EnvOk env Γ.L) (hv : (x, av) ∈ loc) (ht : Tame av) (hl : env.kindOf x = some .local) (de : D prog w n Γ ⟨loc, H, gs⟩ (eval e env) a) (h2 : D2 prog w n Γ ⟨loc, H, gs⟩ (inplaceOp op) av a c) (u : UpdE x c loc loc') (h : W prog w n Γ FlowR (execs rest env) ⟨loc', H, gs⟩ kf) :
    W prog w n Γ FlowR (execs (.AugAssign (.Name x p') op e pos :: rest) env) ⟨loc, H, gs⟩ kf :=
  s_cons (e_Aug eo hv ht hl fun v cv => de.run _ (h2.run _ (st_ok u (q_next h)) v cv))
theorem y_Return (d : D prog w n Γ S (eval e env) a) (h : kf (.ret a) S) : W prog w n Γ FlowR (execs (.Return (some e) pos :: rest) env) S kf := s_cons (s_Return (d.run _ (q_ret h)))
theorem y_AssignSub {d : Addr} {i : Expr} (hs : swapsWith e (some (.Subscript o i p')) pos.line env = pure false) (de : D prog w n Γ S (eval e env) a) (d1 : D prog w n Γ S (eval o env) (.ref d)) (di : D prog w n Γ S (eval i env) b) (h : ∀ v, Conc a v → ∀ vi, Conc b vi → W prog w n Γ UnitR (setItem (.ref d) vi v) S fun _ S₃ => W prog w n Γ FlowR (execs rest env) S₃ kf) :
    W prog w n Γ FlowR (execs (.Assign [.Subscript o i p'] e pos :: rest) env) S kf :=
  s_cons (s_AssignSub (de.run _ fun v cv => d1.run _ (c_ref (di.run _ fun vi ci => (h v cv vi ci).mono fun _ _ q => q_next q))) hs)
/-! calls -/
theorem z_M {x C g : Addr} {es : List (Str × AV)} {name : Str} {apos : Pos} {pl : Sem Bool} {e₁ : Expr} {xs : List Expr} {as : List AV} (d : D prog w n Γ ⟨loc, H, gs⟩ (eval o env) (.ref x)) (G : Gnd KF Γ) (hx : (x, .inst C es) ∈ H) (hm : name ∉ es.map (·.1)) (ho : methOk KF C name g = true) (hk : keepIn KF (.ref g) = true)
    (he : starEach (e₁ :: xs) env = (false, eval e₁ env) :: starEach xs env) (hplain : (backTo pos (starEach xs env)).any (·.1) = false) (hc : eval (.Call (.Attribute o name apos) (e₁ :: xs) [] pos) env = (do let ov ← eval o env; standAt apos.atName; let (f, first) ← holding [ov] (getMethod ov name pl); callWith pos f first (backTo pos (starEach (e₁ :: xs) env)) []))
    (da : DL prog w n Γ ⟨loc, H, gs⟩ env pos (e₁ :: xs) as) (h : ∀ vs, ConcL as vs → W prog w n Γ Conc (call (.ref g) (.ref x :: vs)) ⟨loc, H, gs⟩ k) : W prog w n Γ Conc (eval (.Call (.Attribute o name apos) (e₁ :: xs) [] pos) env) ⟨loc, H, gs⟩ k :=
  r_CallMeth (d.run _ (c_ref (m_inst G hx hm ho (kK1 G hk he hplain (da.run _ h))))) hc
theorem z_M0 {x C g : Addr} {es : List (Str × AV)} {name : Str} {apos : Pos} {pl : Sem Bool} (d : D prog w n Γ ⟨loc, H, gs⟩ (eval o env) (.ref x)) (G : Gnd KF Γ) (hx : (x, .inst C es) ∈ H) (hm : name ∉ es.map (·.1)) (ho : methOk KF C name g = true) (hk : keepIn KF (.ref g) = true)
    (hc : eval (.Call (.Attribute o name apos) [] [] pos) env = (do let ov ← eval o env; standAt apos.atName; let (f, first) ← holding [ov] (getMethod ov name pl); callWith pos f first (backTo pos (starEach [] env)) []))
    (h : W prog w n Γ Conc (call (.ref g) [.ref x]) ⟨loc, H, gs⟩ k) : W prog w n Γ Conc (eval (.Call (.Attribute o name apos) [] [] pos) env) ⟨loc, H, gs⟩ k :=
  r_CallMeth (d.run _ (c_ref (m_inst G hx hm ho (kK10 G hk h)))) hc
/-- a call of a list's own method -/
theorem z_L {x : Addr} {ys : List AV} {name : Str} {id : String} {apos : Pos} {pl : Sem Bool} {e₁ : Expr} {xs : List Expr} {as : List AV} (d : D prog w n Γ ⟨loc, H, gs⟩ (eval o env) (.ref x)) (hx : (x, .list ys) ∈ H) (slot : Slot "list" name id) (hty : typeOf (.builtin id) = pure (.type "method_descriptor"))
    (he : starEach (e₁ :: xs) env = (false, eval e₁ env) :: starEach xs env) (hplain : (backTo pos (starEach xs env)).any (·.1) = false) (hc : eval (.Call (.Attribute o name apos) (e₁ :: xs) [] pos) env = (do let ov ← eval o env; standAt apos.atName; let (f, first) ← holding [ov] (getMethod ov name pl); callWith pos f first (backTo pos (starEach (e₁ :: xs) env)) []))
    (da : DL prog w n Γ ⟨loc, H, gs⟩ env pos (e₁ :: xs) as) (h : ∀ vs, ConcL as vs → W prog w n Γ Conc (call (.builtin id) (.ref x :: vs)) ⟨loc, H, gs⟩ k) : W prog w n Γ Conc (eval (.Call (.Attribute o name apos) (e₁ :: xs) [] pos) env) ⟨loc, H, gs⟩ k :=
  r_CallMeth (d.run _ (c_ref (m_list hx slot hty (kB1 he hplain (da.run _ h))))) hc
/-- a call of a written function by its name -/
theorem z_F {x : Str} {g : Addr} {e₁ : Expr} {xs : List Expr} {as : List AV} (G : Gnd KF Γ) (d : D prog w n Γ S (eval (.Name x p₁) env) (.ref g)) (hk : keepIn KF (.ref g) = true)
    (he : starEach (e₁ :: xs) env = (false, eval e₁ env) :: starEach xs env) (hplain : (backTo pos (starEach xs env)).any (·.1) = false) (hc : eval (.Call (.Name x p₁) (e₁ :: xs) [] pos) env = (do callWith pos (← eval (.Name x p₁) env) [] (backTo pos (starEach (e₁ :: xs) env)) (backToKw pos (keywordEach [] env))))
    (da : DL prog w n Γ S env pos (e₁ :: xs) as) (h : ∀ vs, ConcL as vs → W prog w n Γ Conc (call (.ref g) vs) S k) : W prog w n Γ Conc (eval (.Call (.Name x p₁) (e₁ :: xs) [] pos) env) S k :=
  r_Call (d.run _ (c_ref (kKn G hk he hplain (da.run _ h)))) hc
end
section
variable {prog : Program} {w : World} {n : Nat} {Γ : Act} {KF : Frag} {loc ps : Locs} {gs : Array GenState} {H : HL} {k : AV → St → Prop}
/-- a def's own walk, with its frame's facts at hand -/
theorem WC.fnE {name qual : Str} {params : Arguments} {body : List Stmt} {scope : Scope} {dV kV doc pm cdv ct oc : Value} {an od : Option Addr} {osl : Array (Option Value)} {f : Addr} {vs : List Value} {kw : List (Str × Value)} {binds : List (Str × Value)} {us : Locs}
    (G : Gnd KF Γ) (ho : KF.lookup f = some ⟨oc, od, .func (fnOf name qual params body scope dV kV doc pm an cdv ct), osl⟩) (hcd : codeIn KF cdv qual = true)
    (hbind : ∀ s : Shared, KF.In s.heap → BindsTo s (fnOf name qual params body scope dV kV doc pm an cdv ct) ⟨vs, kw⟩ binds) (hb : BindC ps binds) (hloc : (binds.all fun y => decide (scope.names.lookup y.1 = some .local)) = true)
    (hu : (us.all fun p => isUnb p.2) = true) (hnd : ((ps ++ us).map (·.1)).Nodup)
    (hco : scope.isCoroutine = false) (hgen : scope.isGenerator = false) (hk : scope.kind = .function) (hcell : ∀ x ∈ scope.names, x.2 ≠ .cell)
    (h : ∀ Γ', Gnd KF Γ' → EnvOk (envOf qual scope Γ'.L f cdv) Γ'.L → W prog w n Γ' FlowR (execs body (envOf qual scope Γ'.L f cdv)) ⟨ps ++ us, H, gs⟩ (retK k loc)) :
    WC prog w (n + 1) Γ (.call (.ref f) ⟨vs, kw⟩) ⟨loc, H, gs⟩ k :=
  WC.fn G ho hcd hbind hb hloc hu hnd hco hgen hk hcell fun Γ' G' => h Γ' G' ⟨hk, rfl, rfl, rfl⟩
end
section
variable {prog : Program} {w : World} {n : Nat} {Γ : Act} {KF : Frag} {loc loc' : Locs} {H H' : HL} {gs : Array GenState} {env : Env} {S : St} {pos p' p₁ : Pos} {k : AV → St → Prop} {kf : FA → St → Prop} {rest : List Stmt} {a c av : AV} {e o : Expr} {as : List AV}
/-! arguments, one by one -/
theorem cl_str {l : List Nat} {φ : List Value → Prop} (h : ∀ t vs, ConcL as vs → φ (.str ⟨l.toArray⟩ t :: vs)) : ∀ vs, ConcL (.str l :: as) vs → φ vs := cl_cons (c_str fun t => h t)
theorem cl_int {i : Int} {φ : List Value → Prop} (h : ∀ t vs, ConcL as vs → φ (.int i t :: vs)) : ∀ vs, ConcL (.int i :: as) vs → φ vs := cl_cons (c_int fun t => h t)
theorem cl_ref {g : Addr} {φ : List Value → Prop} (h : ∀ vs, ConcL as vs → φ (.ref g :: vs)) : ∀ vs, ConcL (.ref g :: as) vs → φ vs := cl_cons (c_ref fun vs q => h vs q)
theorem cl_str1 {l : List Nat} {φ : List Value → Prop} (h : ∀ t, φ [.str ⟨l.toArray⟩ t]) : ∀ vs, ConcL [.str l] vs → φ vs := cl_str fun t => cl_nil (h t)
theorem cl_int1 {i : Int} {φ : List Value → Prop} (h : ∀ t, φ [.int i t]) : ∀ vs, ConcL [.int i] vs → φ vs := cl_int fun t => cl_nil (h t)
theorem cl_ref1 {g : Addr} {φ : List Value → Prop} (h : φ [.ref g]) : ∀ vs, ConcL [.ref g] vs → φ vs := cl_ref (cl_nil h)
/-! what follows a statement's own evaluation -/
def StoreC (prog : Program) (w : World) (n : Nat) (Γ : Act) (x : Str) (rest : List Stmt) (env : Env) (kf : FA → St → Prop) (a : AV) (S : St) : Prop := ∃ loc', UpdE x a S.loc loc' ∧ W prog w n Γ FlowR (execs rest env) ⟨loc', S.heap, S.gens⟩ kf
theorem sc_ok {x : Str} (u : UpdE x a loc loc') (h : W prog w n Γ FlowR (execs rest env) ⟨loc', H, gs⟩ kf) : StoreC prog w n Γ x rest env kf a ⟨loc, H, gs⟩ := ⟨loc', u, h⟩
theorem y_AssignC {x : Str} (eo : EnvOk env Γ.L) (hs : swapsWith e (some (.Name x p')) pos.line env = pure false) (hl : env.kindOf x = some .local) (h : W prog w n Γ Conc (eval e env) S (StoreC prog w n Γ x rest env kf)) : W prog w n Γ FlowR (execs (.Assign [.Name x p'] e pos :: rest) env) S kf :=
  s_cons (e_Assign eo hs hl (h.mono fun a S' q => q.elim fun l' q => ⟨l', q.1, q_next q.2⟩))
def SetC (prog : Program) (w : World) (n : Nat) (Γ : Act) (o : Expr) (attr : Str) (rest : List Stmt) (env : Env) (kf : FA → St → Prop) (a : AV) (S : St) : Prop :=
  ∃ x H', D prog w n Γ S (eval o env) (.ref x) ∧ (∀ v, Conc a v → ∀ ku : Unit → St → Prop, ku () ⟨S.loc, H', S.gens⟩ → W prog w n Γ UnitR (setAttr (.ref x) attr v) S ku) ∧ W prog w n Γ FlowR (execs rest env) ⟨S.loc, H', S.gens⟩ kf
theorem sa_ok {x C : Addr} {es es' : List (Str × AV)} {attr : Str} (d : D prog w n Γ ⟨loc, H, gs⟩ (eval o env) (.ref x)) (G : Gnd KF Γ) (hu : UpdH x (.inst C es) (.inst C es') H H') (ue : PutE attr a es es') (ho : setOk KF C attr = true) (hz : es'.length ≤ 1000)
    (h : W prog w n Γ FlowR (execs rest env) ⟨loc, H', gs⟩ kf) : SetC prog w n Γ o attr rest env kf a ⟨loc, H, gs⟩ := ⟨x, H', d, fun v cv ku q => a_set G hu ue cv ho hz q, h⟩
theorem y_AssignAttrC {attr : Str} (hs : swapsWith e (some (.Attribute o attr p')) pos.line env = pure false) (h : W prog w n Γ Conc (eval e env) S (SetC prog w n Γ o attr rest env kf)) : W prog w n Γ FlowR (execs (.Assign [.Attribute o attr p'] e pos :: rest) env) S kf :=
  s_cons (s_AssignAttr (h.mono fun a S' q v cv => q.elim fun x q => q.elim fun H' q => q.1.run _ (c_ref (q.2.1 v cv _ (q_next q.2.2)))) hs)
def ExprC (prog : Program) (w : World) (n : Nat) (Γ : Act) (rest : List Stmt) (env : Env) (kf : FA → St → Prop) (a : AV) (S : St) : Prop := NoRef a ∧ W prog w n Γ FlowR (execs rest env) S kf
theorem xc_n (h : W prog w n Γ FlowR (execs rest env) S kf) : ExprC prog w n Γ rest env kf .none S := ⟨.none, h⟩
theorem xc_s {l : List Nat} (h : W prog w n Γ FlowR (execs rest env) S kf) : ExprC prog w n Γ rest env kf (.str l) S := ⟨.str, h⟩
theorem y_ExprC (hi : interactive env = false) (hs : swapsWith e none pos.line env = pure false) (h : W prog w n Γ Conc (eval e env) S (ExprC prog w n Γ rest env kf)) : W prog w n Γ FlowR (execs (.Expr e pos :: rest) env) S kf :=
  s_cons (s_Expr (h.mono fun _ _ q => ⟨q.1, q_next q.2⟩) hi hs)
/-! a text's own methods -/
structure DS (prog : Program) (w : World) (n : Nat) (Γ : Act) (S : St) (id : String) (l : List Nat) (as : List AV) (c : AV) : Prop where
  run : ∀ k : AV → St → Prop, k c S → ∀ t vs, ConcL as vs → W prog w n Γ Conc (call (.builtin id) (.str ⟨l.toArray⟩ t :: vs)) S k
theorem D.callS {l : List Nat} {name : Str} {id : String} {apos : Pos} {pl : Sem Bool} {e₁ : Expr} {xs : List Expr} (d : D prog w n Γ S (eval o env) (.str l)) (slot : Slot "str" name id) (hty : typeOf (.builtin id) = pure (.type "method_descriptor"))
    (he : starEach (e₁ :: xs) env = (false, eval e₁ env) :: starEach xs env) (hplain : (backTo pos (starEach xs env)).any (·.1) = false) (hc : eval (.Call (.Attribute o name apos) (e₁ :: xs) [] pos) env = (do let ov ← eval o env; standAt apos.atName; let (f, first) ← holding [ov] (getMethod ov name pl); callWith pos f first (backTo pos (starEach (e₁ :: xs) env)) []))
    (da : DL prog w n Γ S env pos (e₁ :: xs) as) (h : DS prog w n Γ S id l as c) : D prog w n Γ S (eval (.Call (.Attribute o name apos) (e₁ :: xs) [] pos) env) c :=
  ⟨fun k hk => r_CallMeth (d.run _ (c_str fun t => m_str slot hty (kB1 he hplain (da.run _ (h.run k hk t))))) hc⟩
theorem ds_count {l y : List Nat} {z : Nat} {i j : Int} (hz : z ∉ l) : DS prog w n Γ S "str.count" l [.str (z :: y), .int i, .int j] (.int 0) := ⟨fun k h t => cl_str fun _ => cl_int fun _ => cl_int1 fun _ => f_count0 hz h⟩
theorem ds_rfind {l y : List Nat} {z : Nat} {i j : Int} (hz : z ∉ l) : DS prog w n Γ S "str.rfind" l [.str (z :: y), .int i, .int j] (.int (-1)) := ⟨fun k h t => cl_str fun _ => cl_int fun _ => cl_int1 fun _ => f_rfind0 hz h⟩
theorem ds_replace {l y m : List Nat} {z : Nat} (hz : z ∉ l) : DS prog w n Γ S "str.replace" l [.str (z :: y), .str m] (.str l) := ⟨fun k h t => cl_str fun _ => cl_str1 fun _ => f_replace0 hz h⟩
end
section
variable {prog : Program} {w : World} {n : Nat} {Γ : Act} {S : St} {env : Env} {pos : Pos} {a b z : AV} {e e₁ e₂ x y l r₁ r₂ : Expr} {xs rest : List Expr} {c d : Bool} {o₁ o₂ : CmpOp} {op : BoolOp} {whole : Sem Value}
/-! evaluations whose outcome is told by a Bool term: chains, and, or, if -/
theorem D.chain (hl : D prog w n Γ S (eval l env) a) (h1 : D prog w n Γ S (eval r₁ env) b) (c1 : D2 prog w n Γ S (compareOp o₁) a b (.bool c)) (h2 : D prog w n Γ S (eval r₂ env) z) (c2 : D2 prog w n Γ S (compareOp o₂) b z (.bool d)) (hm : lastMarks [o₁, o₂] [r₁, r₂] = false) :
    D prog w n Γ S (eval (.Compare l [o₁, o₂] [r₁, r₂] pos) env) (.bool (c && d)) := ⟨fun k hk => r_Chain hm (hl.run _ fun va ca => h1.run _ fun vb cb => c1.run _ (c_bool (u_bool ⟨fun q => by subst q; exact hk, fun q => h2.run _ (c2.run k (by subst q; exact hk) vb cb)⟩)) va ca vb cb)⟩
theorem DB.chain (hl : D prog w n Γ S (eval l env) a) (h1 : D prog w n Γ S (eval r₁ env) b) (c1 : D2 prog w n Γ S (compareOp o₁) a b (.bool c)) (h2 : D prog w n Γ S (eval r₂ env) z) (c2 : D2 prog w n Γ S (compareOp o₂) b z (.bool d)) (hm : lastMarks [o₁, o₂] [r₁, r₂] = false) :
    DB prog w n Γ S (isTrue (.Compare l [o₁, o₂] [r₁, r₂] pos) env whole) (c && d) := ⟨fun k hk => t_Chain (hl.run _ fun va ca => h1.run _ fun vb cb => c1.run _ (c_bool (u_bool ⟨fun q => by subst q; exact hk, fun q => h2.run _ (c2.run _ (c_bool (u_bool (by subst q; exact hk))) vb cb)⟩)) va ca vb cb) hm⟩
theorem D.or (h : D prog w n Γ S (eval e₁ env) (.bool c)) (h2 : D prog w n Γ S (eval (.BoolOp .Or (e₂ :: rest) pos) env) (.bool d)) : D prog w n Γ S (eval (.BoolOp .Or (e₁ :: e₂ :: rest) pos) env) (.bool (c || d)) :=
  ⟨fun k hk => r_Or (h.run _ (c_bool (u_bool ⟨fun q => h2.run _ (by subst q; exact hk), fun q => by subst q; exact hk⟩)))⟩
theorem D.and (h : D prog w n Γ S (eval e₁ env) (.bool c)) (h2 : D prog w n Γ S (eval (.BoolOp .And (e₂ :: rest) pos) env) (.bool d)) : D prog w n Γ S (eval (.BoolOp .And (e₁ :: e₂ :: rest) pos) env) (.bool (c && d)) :=
  ⟨fun k hk => r_And (h.run _ (c_bool (u_bool ⟨fun q => h2.run _ (by subst q; exact hk), fun q => by subst q; exact hk⟩)))⟩
theorem D.one (h : D prog w n Γ S (eval e env) a) : D prog w n Γ S (eval (.BoolOp op [e] pos) env) a := ⟨fun k hk => r_BoolOne (h.run _ hk)⟩
theorem D.ifx (ht : DB prog w n Γ S (isTrue e env (eval e env)) c) (hb : D prog w n Γ S (eval x env) a) (ho : D prog w n Γ S (eval y env) b) : D prog w n Γ S (eval (.IfExp e x y pos) env) (bif c then a else b) :=
  ⟨fun k hk => r_IfExp (ht.run _ ⟨fun q => hb.run _ (by subst q; exact hk), fun q => ho.run _ (by subst q; exact hk)⟩)⟩
theorem DB.andB (h : DB prog w n Γ S (isTrue x env (eval x env)) c) (h2 : DB prog w n Γ S (isTrue (.BoolOp .And xs pos) env whole) d) : DB prog w n Γ S (isTrue (.BoolOp .And (x :: xs) pos) env whole) (c && d) := ⟨fun kb hk => t_And (h.run _ ⟨fun q => h2.run _ (by subst q; exact hk), fun q => by subst q; exact hk⟩)⟩
theorem DB.orB (h : DB prog w n Γ S (isTrue x env (eval x env)) c) (h2 : DB prog w n Γ S (isTrue (.BoolOp .Or xs pos) env whole) d) : DB prog w n Γ S (isTrue (.BoolOp .Or (x :: xs) pos) env whole) (c || d) := ⟨fun kb hk => t_Or (h.run _ ⟨fun q => h2.run _ (by subst q; exact hk), fun q => by subst q; exact hk⟩)⟩
end
theorem sub_dec {n i : Nat} (h : i < n) : n - (i + 1) < n - i := by omega
theorem sub_dec' {n k d : Nat} (hd : d = n - k) (h : k < n) : n - (k + 1) < d := by omega
theorem sub_dec2 {n k e d : Nat} (hd : d = n - k) (h : k < n) (h1 : k + 1 ≤ e) : n - e < d := by omega
end Mine
end
section
open PySem PySem.W PySem.Calls PyProof.Rows
namespace Mine
theorem gl_EOF (P : Params) : nsIn (K2 P) mainGlobals "EOF" = some (some .none) := by kernel_rfl
theorem gl_spaceCharacters (P : Params) : nsIn (K2 P) mainGlobals "spaceCharacters" = some (some (.ref 22)) := by kernel_rfl
theorem gl_asciiLetters (P : Params) : nsIn (K2 P) mainGlobals "asciiLetters" = some (some (.ref 27)) := by kernel_rfl
theorem gl_tokenTypes (P : Params) : nsIn (K2 P) mainGlobals "tokenTypes" = some (some (.ref 48)) := by kernel_rfl
theorem gl_tagTokenTypes (P : Params) : nsIn (K2 P) mainGlobals "tagTokenTypes" = some (some (.ref 49)) := by kernel_rfl
theorem gl_Text (P : Params) : nsIn (K2 P) mainGlobals "Text" = some (some (.ref 73)) := by kernel_rfl
theorem gl_HTMLUnicodeInputStream (P : Params) : nsIn (K2 P) mainGlobals "HTMLUnicodeInputStream" = some (some (.ref 166)) := by kernel_rfl
theorem gl_HTMLTokenizer (P : Params) : nsIn (K2 P) mainGlobals "HTMLTokenizer" = some (some (.ref 762)) := by kernel_rfl
theorem gl_asciiLower (P : Params) : nsIn (K2 P) mainGlobals "asciiLower" = some (some (.ref 42)) := by kernel_rfl
theorem gl__is_invalid (P : Params) : nsIn (K2 P) mainGlobals "_is_invalid" = some (some (.ref 84)) := by kernel_rfl
theorem gl__law_NAMES (P : Params) : nsIn (K2 P) mainGlobals "_law_NAMES" = some (some (.ref 773)) := by kernel_rfl
theorem gl__law_MORE (P : Params) : nsIn (K2 P) mainGlobals "_law_MORE" = some (some (.ref 780)) := by kernel_rfl
theorem gl__law_piece (P : Params) : nsIn (K2 P) mainGlobals "_law_piece" = some (some (.ref 787)) := by kernel_rfl
theorem gl__law_small (P : Params) : nsIn (K2 P) mainGlobals "_law_small" = some (some (.ref 792)) := by kernel_rfl
theorem gl__law_row (P : Params) : nsIn (K2 P) mainGlobals "_law_row" = some (some (.ref 797)) := by kernel_rfl
theorem bn_len (P : Params) : nsIn (K2 P) mainGlobals "len" = some none := by kernel_rfl
theorem bb_len : bootBuiltins "len" = some (.builtin "len") := by kernel_rfl
theorem bn_ord (P : Params) : nsIn (K2 P) mainGlobals "ord" = some none := by kernel_rfl
theorem bb_ord : bootBuiltins "ord" = some (.builtin "ord") := by kernel_rfl
theorem bn_chr (P : Params) : nsIn (K2 P) mainGlobals "chr" = some none := by kernel_rfl
theorem bb_chr : bootBuiltins "chr" = some (.builtin "chr") := by kernel_rfl
theorem bn_isinstance (P : Params) : nsIn (K2 P) mainGlobals "isinstance" = some none := by kernel_rfl
theorem bb_isinstance : bootBuiltins "isinstance" = some (.builtin "isinstance") := by kernel_rfl
theorem bn_range (P : Params) : nsIn (K2 P) mainGlobals "range" = some none := by kernel_rfl
theorem bb_range : bootBuiltins "range" = some (.type "range") := by kernel_rfl
theorem bn_dict (P : Params) : nsIn (K2 P) mainGlobals "dict" = some none := by kernel_rfl
theorem bb_dict : bootBuiltins "dict" = some (.type "dict") := by kernel_rfl
theorem bn_bool (P : Params) : nsIn (K2 P) mainGlobals "bool" = some none := by kernel_rfl
theorem bb_bool : bootBuiltins "bool" = some (.type "bool") := by kernel_rfl
theorem cf_Text (P : Params) : ClsFacts (K2 P) 73 := ⟨by kernel_rfl, by kernel_rfl, by kernel_rfl, by kernel_rfl⟩
theorem cf_HTMLUnicodeInputStream (P : Params) : ClsFacts (K2 P) 166 := ⟨by kernel_rfl, by kernel_rfl, by kernel_rfl, by kernel_rfl⟩
theorem cf_HTMLTokenizer (P : Params) : ClsFacts (K2 P) 762 := ⟨by kernel_rfl, by kernel_rfl, by kernel_rfl, by kernel_rfl⟩
theorem mt_read (P : Params) : methOk (K2 P) 73 "read" 70 = true := meth_of (cf_Text P) (by kernel_rfl) (by kernel_rfl) (by kernel_rfl)
theorem mt_reset (P : Params) : methOk (K2 P) 166 "reset" 105 = true := meth_of (cf_HTMLUnicodeInputStream P) (by kernel_rfl) (by kernel_rfl) (by kernel_rfl)
theorem mt_openStream (P : Params) : methOk (K2 P) 166 "openStream" 112 = true := meth_of (cf_HTMLUnicodeInputStream P) (by kernel_rfl) (by kernel_rfl) (by kernel_rfl)
theorem mt__position (P : Params) : methOk (K2 P) 166 "_position" 119 = true := meth_of (cf_HTMLUnicodeInputStream P) (by kernel_rfl) (by kernel_rfl) (by kernel_rfl)
theorem mt_position (P : Params) : methOk (K2 P) 166 "position" 126 = true := meth_of (cf_HTMLUnicodeInputStream P) (by kernel_rfl) (by kernel_rfl) (by kernel_rfl)
theorem mt_char (P : Params) : methOk (K2 P) 166 "char" 133 = true := meth_of (cf_HTMLUnicodeInputStream P) (by kernel_rfl) (by kernel_rfl) (by kernel_rfl)
theorem mt_readChunk (P : Params) : methOk (K2 P) 166 "readChunk" 141 = true := meth_of (cf_HTMLUnicodeInputStream P) (by kernel_rfl) (by kernel_rfl) (by kernel_rfl)
theorem mt_characterErrorsUCS4 (P : Params) : methOk (K2 P) 166 "characterErrorsUCS4" 148 = true := meth_of (cf_HTMLUnicodeInputStream P) (by kernel_rfl) (by kernel_rfl) (by kernel_rfl)
theorem mt_charsUntil (P : Params) : methOk (K2 P) 166 "charsUntil" 156 = true := meth_of (cf_HTMLUnicodeInputStream P) (by kernel_rfl) (by kernel_rfl) (by kernel_rfl)
theorem mt_unget (P : Params) : methOk (K2 P) 166 "unget" 163 = true := meth_of (cf_HTMLUnicodeInputStream P) (by kernel_rfl) (by kernel_rfl) (by kernel_rfl)
theorem mt___iter__ (P : Params) : methOk (K2 P) 762 "__iter__" 268 = true := meth_of (cf_HTMLTokenizer P) (by kernel_rfl) (by kernel_rfl) (by kernel_rfl)
theorem mt_emitCurrentToken (P : Params) : methOk (K2 P) 762 "emitCurrentToken" 297 = true := meth_of (cf_HTMLTokenizer P) (by kernel_rfl) (by kernel_rfl) (by kernel_rfl)
theorem mt_dataState (P : Params) : methOk (K2 P) 762 "dataState" 304 = true := meth_of (cf_HTMLTokenizer P) (by kernel_rfl) (by kernel_rfl) (by kernel_rfl)
theorem mt_rawtextState (P : Params) : methOk (K2 P) 762 "rawtextState" 332 = true := meth_of (cf_HTMLTokenizer P) (by kernel_rfl) (by kernel_rfl) (by kernel_rfl)
theorem mt_scriptDataState (P : Params) : methOk (K2 P) 762 "scriptDataState" 339 = true := meth_of (cf_HTMLTokenizer P) (by kernel_rfl) (by kernel_rfl) (by kernel_rfl)
theorem mt_plaintextState (P : Params) : methOk (K2 P) 762 "plaintextState" 346 = true := meth_of (cf_HTMLTokenizer P) (by kernel_rfl) (by kernel_rfl) (by kernel_rfl)
theorem mt_tagOpenState (P : Params) : methOk (K2 P) 762 "tagOpenState" 353 = true := meth_of (cf_HTMLTokenizer P) (by kernel_rfl) (by kernel_rfl) (by kernel_rfl)
theorem mt_tagNameState (P : Params) : methOk (K2 P) 762 "tagNameState" 367 = true := meth_of (cf_HTMLTokenizer P) (by kernel_rfl) (by kernel_rfl) (by kernel_rfl)
theorem mt_beforeAttributeNameState (P : Params) : methOk (K2 P) 762 "beforeAttributeNameState" 535 = true := meth_of (cf_HTMLTokenizer P) (by kernel_rfl) (by kernel_rfl) (by kernel_rfl)
theorem mt_attributeNameState (P : Params) : methOk (K2 P) 762 "attributeNameState" 542 = true := meth_of (cf_HTMLTokenizer P) (by kernel_rfl) (by kernel_rfl) (by kernel_rfl)
theorem mt_bogusCommentState (P : Params) : methOk (K2 P) 762 "bogusCommentState" 598 = true := meth_of (cf_HTMLTokenizer P) (by kernel_rfl) (by kernel_rfl) (by kernel_rfl)
theorem mt_markupDeclarationOpenState (P : Params) : methOk (K2 P) 762 "markupDeclarationOpenState" 605 = true := meth_of (cf_HTMLTokenizer P) (by kernel_rfl) (by kernel_rfl) (by kernel_rfl)
theorem mt_commentStartState (P : Params) : methOk (K2 P) 762 "commentStartState" 612 = true := meth_of (cf_HTMLTokenizer P) (by kernel_rfl) (by kernel_rfl) (by kernel_rfl)
theorem mt_commentState (P : Params) : methOk (K2 P) 762 "commentState" 626 = true := meth_of (cf_HTMLTokenizer P) (by kernel_rfl) (by kernel_rfl) (by kernel_rfl)
theorem mt_commentEndDashState (P : Params) : methOk (K2 P) 762 "commentEndDashState" 633 = true := meth_of (cf_HTMLTokenizer P) (by kernel_rfl) (by kernel_rfl) (by kernel_rfl)
theorem mt_commentEndState (P : Params) : methOk (K2 P) 762 "commentEndState" 640 = true := meth_of (cf_HTMLTokenizer P) (by kernel_rfl) (by kernel_rfl) (by kernel_rfl)
theorem at_Text_text (P : Params) : findIn (K2 P) (.ref 73) "text" = some none := by kernel_rfl
theorem at_Text_place (P : Params) : findIn (K2 P) (.ref 73) "place" = some none := by kernel_rfl
theorem at_HTMLUnicodeInputStream_reportCharacterErrors (P : Params) : findIn (K2 P) (.ref 166) "reportCharacterErrors" = some none := by kernel_rfl
theorem at_HTMLUnicodeInputStream_newLines (P : Params) : findIn (K2 P) (.ref 166) "newLines" = some none := by kernel_rfl
theorem at_HTMLUnicodeInputStream_dataStream (P : Params) : findIn (K2 P) (.ref 166) "dataStream" = some none := by kernel_rfl
theorem at_HTMLUnicodeInputStream_chunk (P : Params) : findIn (K2 P) (.ref 166) "chunk" = some none := by kernel_rfl
theorem at_HTMLUnicodeInputStream_chunkSize (P : Params) : findIn (K2 P) (.ref 166) "chunkSize" = some none := by kernel_rfl
theorem at_HTMLUnicodeInputStream_chunkOffset (P : Params) : findIn (K2 P) (.ref 166) "chunkOffset" = some none := by kernel_rfl
theorem at_HTMLUnicodeInputStream_errors (P : Params) : findIn (K2 P) (.ref 166) "errors" = some none := by kernel_rfl
theorem at_HTMLUnicodeInputStream_prevNumLines (P : Params) : findIn (K2 P) (.ref 166) "prevNumLines" = some none := by kernel_rfl
theorem at_HTMLUnicodeInputStream_prevNumCols (P : Params) : findIn (K2 P) (.ref 166) "prevNumCols" = some none := by kernel_rfl
theorem at_HTMLUnicodeInputStream__bufferedCharacter (P : Params) : findIn (K2 P) (.ref 166) "_bufferedCharacter" = some none := by kernel_rfl
theorem at_HTMLTokenizer_stream (P : Params) : findIn (K2 P) (.ref 762) "stream" = some none := by kernel_rfl
theorem at_HTMLTokenizer_parser (P : Params) : findIn (K2 P) (.ref 762) "parser" = some none := by kernel_rfl
theorem at_HTMLTokenizer_escapeFlag (P : Params) : findIn (K2 P) (.ref 762) "escapeFlag" = some none := by kernel_rfl
theorem at_HTMLTokenizer_lastFourChars (P : Params) : findIn (K2 P) (.ref 762) "lastFourChars" = some none := by kernel_rfl
theorem at_HTMLTokenizer_state (P : Params) : findIn (K2 P) (.ref 762) "state" = some none := by kernel_rfl
theorem at_HTMLTokenizer_escape (P : Params) : findIn (K2 P) (.ref 762) "escape" = some none := by kernel_rfl
theorem at_HTMLTokenizer_currentToken (P : Params) : findIn (K2 P) (.ref 762) "currentToken" = some none := by kernel_rfl
theorem at_HTMLTokenizer_tokenQueue (P : Params) : findIn (K2 P) (.ref 762) "tokenQueue" = some none := by kernel_rfl
theorem mk_Text (P : Params) : makeOk (K2 P) 73 63 = true := by kernel_rfl
theorem mk_HTMLUnicodeInputStream (P : Params) : makeOk (K2 P) 166 98 = true := by kernel_rfl
theorem mk_HTMLTokenizer (P : Params) : makeOk (K2 P) 762 261 = true := by kernel_rfl
theorem ck_chunk (P : Params) : clsOk (K2 P) 166 "_defaultChunkSize" (.int 10240 624) = true := by kernel_rfl
theorem oo_Text_text (P : Params) : ownOk (K2 P) 73 "text" = true := own_of (cf_Text P) (at_Text_text P)
theorem so_Text_text (P : Params) : setOk (K2 P) 73 "text" = true := set_of (cf_Text P) (at_Text_text P)
theorem oo_Text_place (P : Params) : ownOk (K2 P) 73 "place" = true := own_of (cf_Text P) (at_Text_place P)
theorem so_Text_place (P : Params) : setOk (K2 P) 73 "place" = true := set_of (cf_Text P) (at_Text_place P)
theorem oo_HTMLUnicodeInputStream_reportCharacterErrors (P : Params) : ownOk (K2 P) 166 "reportCharacterErrors" = true := own_of (cf_HTMLUnicodeInputStream P) (at_HTMLUnicodeInputStream_reportCharacterErrors P)
theorem so_HTMLUnicodeInputStream_reportCharacterErrors (P : Params) : setOk (K2 P) 166 "reportCharacterErrors" = true := set_of (cf_HTMLUnicodeInputStream P) (at_HTMLUnicodeInputStream_reportCharacterErrors P)
theorem oo_HTMLUnicodeInputStream_newLines (P : Params) : ownOk (K2 P) 166 "newLines" = true := own_of (cf_HTMLUnicodeInputStream P) (at_HTMLUnicodeInputStream_newLines P)
theorem so_HTMLUnicodeInputStream_newLines (P : Params) : setOk (K2 P) 166 "newLines" = true := set_of (cf_HTMLUnicodeInputStream P) (at_HTMLUnicodeInputStream_newLines P)
theorem oo_HTMLUnicodeInputStream_dataStream (P : Params) : ownOk (K2 P) 166 "dataStream" = true := own_of (cf_HTMLUnicodeInputStream P) (at_HTMLUnicodeInputStream_dataStream P)
theorem so_HTMLUnicodeInputStream_dataStream (P : Params) : setOk (K2 P) 166 "dataStream" = true := set_of (cf_HTMLUnicodeInputStream P) (at_HTMLUnicodeInputStream_dataStream P)
theorem oo_HTMLUnicodeInputStream_chunk (P : Params) : ownOk (K2 P) 166 "chunk" = true := own_of (cf_HTMLUnicodeInputStream P) (at_HTMLUnicodeInputStream_chunk P)
theorem so_HTMLUnicodeInputStream_chunk (P : Params) : setOk (K2 P) 166 "chunk" = true := set_of (cf_HTMLUnicodeInputStream P) (at_HTMLUnicodeInputStream_chunk P)
theorem oo_HTMLUnicodeInputStream_chunkSize (P : Params) : ownOk (K2 P) 166 "chunkSize" = true := own_of (cf_HTMLUnicodeInputStream P) (at_HTMLUnicodeInputStream_chunkSize P)
theorem so_HTMLUnicodeInputStream_chunkSize (P : Params) : setOk (K2 P) 166 "chunkSize" = true := set_of (cf_HTMLUnicodeInputStream P) (at_HTMLUnicodeInputStream_chunkSize P)
theorem oo_HTMLUnicodeInputStream_chunkOffset (P : Params) : ownOk (K2 P) 166 "chunkOffset" = true := own_of (cf_HTMLUnicodeInputStream P) (at_HTMLUnicodeInputStream_chunkOffset P)
theorem so_HTMLUnicodeInputStream_chunkOffset (P : Params) : setOk (K2 P) 166 "chunkOffset" = true := set_of (cf_HTMLUnicodeInputStream P) (at_HTMLUnicodeInputStream_chunkOffset P)
theorem oo_HTMLUnicodeInputStream_errors (P : Params) : ownOk (K2 P) 166 "errors" = true := own_of (cf_HTMLUnicodeInputStream P) (at_HTMLUnicodeInputStream_errors P)
theorem so_HTMLUnicodeInputStream_errors (P : Params) : setOk (K2 P) 166 "errors" = true := set_of (cf_HTMLUnicodeInputStream P) (at_HTMLUnicodeInputStream_errors P)
theorem oo_HTMLUnicodeInputStream_prevNumLines (P : Params) : ownOk (K2 P) 166 "prevNumLines" = true := own_of (cf_HTMLUnicodeInputStream P) (at_HTMLUnicodeInputStream_prevNumLines P)
theorem so_HTMLUnicodeInputStream_prevNumLines (P : Params) : setOk (K2 P) 166 "prevNumLines" = true := set_of (cf_HTMLUnicodeInputStream P) (at_HTMLUnicodeInputStream_prevNumLines P)
theorem oo_HTMLUnicodeInputStream_prevNumCols (P : Params) : ownOk (K2 P) 166 "prevNumCols" = true := own_of (cf_HTMLUnicodeInputStream P) (at_HTMLUnicodeInputStream_prevNumCols P)
theorem so_HTMLUnicodeInputStream_prevNumCols (P : Params) : setOk (K2 P) 166 "prevNumCols" = true := set_of (cf_HTMLUnicodeInputStream P) (at_HTMLUnicodeInputStream_prevNumCols P)
theorem oo_HTMLUnicodeInputStream__bufferedCharacter (P : Params) : ownOk (K2 P) 166 "_bufferedCharacter" = true := own_of (cf_HTMLUnicodeInputStream P) (at_HTMLUnicodeInputStream__bufferedCharacter P)
theorem so_HTMLUnicodeInputStream__bufferedCharacter (P : Params) : setOk (K2 P) 166 "_bufferedCharacter" = true := set_of (cf_HTMLUnicodeInputStream P) (at_HTMLUnicodeInputStream__bufferedCharacter P)
theorem oo_HTMLTokenizer_stream (P : Params) : ownOk (K2 P) 762 "stream" = true := own_of (cf_HTMLTokenizer P) (at_HTMLTokenizer_stream P)
theorem so_HTMLTokenizer_stream (P : Params) : setOk (K2 P) 762 "stream" = true := set_of (cf_HTMLTokenizer P) (at_HTMLTokenizer_stream P)
theorem oo_HTMLTokenizer_parser (P : Params) : ownOk (K2 P) 762 "parser" = true := own_of (cf_HTMLTokenizer P) (at_HTMLTokenizer_parser P)
theorem so_HTMLTokenizer_parser (P : Params) : setOk (K2 P) 762 "parser" = true := set_of (cf_HTMLTokenizer P) (at_HTMLTokenizer_parser P)
theorem oo_HTMLTokenizer_escapeFlag (P : Params) : ownOk (K2 P) 762 "escapeFlag" = true := own_of (cf_HTMLTokenizer P) (at_HTMLTokenizer_escapeFlag P)
theorem so_HTMLTokenizer_escapeFlag (P : Params) : setOk (K2 P) 762 "escapeFlag" = true := set_of (cf_HTMLTokenizer P) (at_HTMLTokenizer_escapeFlag P)
theorem oo_HTMLTokenizer_lastFourChars (P : Params) : ownOk (K2 P) 762 "lastFourChars" = true := own_of (cf_HTMLTokenizer P) (at_HTMLTokenizer_lastFourChars P)
theorem so_HTMLTokenizer_lastFourChars (P : Params) : setOk (K2 P) 762 "lastFourChars" = true := set_of (cf_HTMLTokenizer P) (at_HTMLTokenizer_lastFourChars P)
theorem oo_HTMLTokenizer_state (P : Params) : ownOk (K2 P) 762 "state" = true := own_of (cf_HTMLTokenizer P) (at_HTMLTokenizer_state P)
theorem so_HTMLTokenizer_state (P : Params) : setOk (K2 P) 762 "state" = true := set_of (cf_HTMLTokenizer P) (at_HTMLTokenizer_state P)
theorem oo_HTMLTokenizer_escape (P : Params) : ownOk (K2 P) 762 "escape" = true := own_of (cf_HTMLTokenizer P) (at_HTMLTokenizer_escape P)
theorem so_HTMLTokenizer_escape (P : Params) : setOk (K2 P) 762 "escape" = true := set_of (cf_HTMLTokenizer P) (at_HTMLTokenizer_escape P)
theorem oo_HTMLTokenizer_currentToken (P : Params) : ownOk (K2 P) 762 "currentToken" = true := own_of (cf_HTMLTokenizer P) (at_HTMLTokenizer_currentToken P)
theorem so_HTMLTokenizer_currentToken (P : Params) : setOk (K2 P) 762 "currentToken" = true := set_of (cf_HTMLTokenizer P) (at_HTMLTokenizer_currentToken P)
theorem oo_HTMLTokenizer_tokenQueue (P : Params) : ownOk (K2 P) 762 "tokenQueue" = true := own_of (cf_HTMLTokenizer P) (at_HTMLTokenizer_tokenQueue P)
theorem so_HTMLTokenizer_tokenQueue (P : Params) : setOk (K2 P) 762 "tokenQueue" = true := set_of (cf_HTMLTokenizer P) (at_HTMLTokenizer_tokenQueue P)
theorem lit_0 : (Str.ofString "") = mkS [] := by kernel_rfl
theorem lit_1 : (Str.ofString "A") = mkS [65] := by kernel_rfl
theorem lit_2 : (Str.ofString "Z") = mkS [90] := by kernel_rfl
theorem lit_3 : (Str.ofString "not") = mkS [110, 111, 116] := by kernel_rfl
theorem lit_4 : (Str.ofString "notin") = mkS [110, 111, 116, 105, 110] := by kernel_rfl
theorem lit_5 : (Str.ofString "AMP") = mkS [65, 77, 80] := by kernel_rfl
theorem lit_6 : (Str.ofString "lt") = mkS [108, 116] := by kernel_rfl
theorem lit_7 : (Str.ofString "gt") = mkS [103, 116] := by kernel_rfl
theorem lit_8 : (Str.ofString "amp") = mkS [97, 109, 112] := by kernel_rfl
theorem lit_9 : (Str.ofString "Eacute") = mkS [69, 97, 99, 117, 116, 101] := by kernel_rfl
theorem lit_10 : (Str.ofString "sup1") = mkS [115, 117, 112, 49] := by kernel_rfl
theorem lit_11 : (Str.ofString "timesb") = mkS [116, 105, 109, 101, 115, 98] := by kernel_rfl
theorem lit_12 : (Str.ofString "quot") = mkS [113, 117, 111, 116] := by kernel_rfl
theorem lit_13 : (Str.ofString "acE") = mkS [97, 99, 69] := by kernel_rfl
theorem lit_14 : (Str.ofString "Mopf") = mkS [77, 111, 112, 102] := by kernel_rfl
theorem lit_15 : (Str.ofString "nbsp") = mkS [110, 98, 115, 112] := by kernel_rfl
theorem lit_16 : (Str.ofString "copy") = mkS [99, 111, 112, 121] := by kernel_rfl
theorem lit_17 : (Str.ofString "&") = mkS [38] := by kernel_rfl
theorem lit_18 : (Str.ofString "&#38;") = mkS [38, 35, 51, 56, 59] := by kernel_rfl
theorem lit_19 : (Str.ofString "&#x26") = mkS [38, 35, 120, 50, 54] := by kernel_rfl
theorem lit_20 : (Str.ofString "#") = mkS [35] := by kernel_rfl
theorem lit_21 : (Str.ofString "&#") = mkS [38, 35] := by kernel_rfl
theorem lit_22 : (Str.ofString "&#X") = mkS [38, 35, 88] := by kernel_rfl
theorem lit_23 : (Str.ofString "&amp;lt;") = mkS [38, 97, 109, 112, 59, 108, 116, 59] := by kernel_rfl
theorem lit_24 : (Str.ofString "&#0;") = mkS [38, 35, 48, 59] := by kernel_rfl
theorem lit_25 : (Str.ofString "&#xD800;") = mkS [38, 35, 120, 68, 56, 48, 48, 59] := by kernel_rfl
theorem lit_26 : (Str.ofString "é") = mkS [233] := by kernel_rfl
theorem lit_27 : (Str.ofString "𝕄") = mkS [120132] := by kernel_rfl
theorem lit_28 : (Str.ofString ";") = mkS [59] := by kernel_rfl
theorem lit_30 : (Str.ofString "name") = mkS [110, 97, 109, 101] := by kernel_rfl
theorem lit_31 : (Str.ofString "data") = mkS [100, 97, 116, 97] := by kernel_rfl
theorem lit_34 : (Str.ofString ">") = mkS [62] := by kernel_rfl
theorem lit_35 : (Str.ofString "expected-tag-name-but-got-question-mark") = mkS [101, 120, 112, 101, 99, 116, 101, 100, 45, 116, 97, 103, 45, 110, 97, 109, 101, 45, 98, 117, 116, 45, 103, 111, 116, 45, 113, 117, 101, 115, 116, 105, 111, 110, 45, 109, 97, 114, 107] := by kernel_rfl
theorem lit_36 : (Str.ofString "a") = mkS [97] := by kernel_rfl
theorem lit_37 : (Str.ofString "?") = mkS [63] := by kernel_rfl
theorem lit_38 : (Str.ofString " b") = mkS [32, 98] := by kernel_rfl
theorem lit_39 : (Str.ofString "b") = mkS [98] := by kernel_rfl
theorem lit_40 : (Str.ofString "><a") = mkS [62, 60, 97] := by kernel_rfl
theorem lit_41 : (Str.ofString "--><?") = mkS [45, 45, 62, 60, 63] := by kernel_rfl
theorem lit_42 : (Str.ofString "<!--") = mkS [60, 33, 45, 45] := by kernel_rfl
theorem lit_43 : (Str.ofString "\n") = mkS [10] := by kernel_rfl
theorem lit_44 : (Str.ofString "\r\n") = mkS [13, 10] := by kernel_rfl
theorem lit_45 : (Str.ofString "\r") = mkS [13] := by kernel_rfl
theorem lit_52 : (Str.ofString "<") = mkS [60] := by kernel_rfl
theorem lit_53 : (Str.ofString "\x00") = mkS [0] := by kernel_rfl
theorem lit_56 : (Str.ofString "�") = mkS [65533] := by kernel_rfl
theorem lit_57 : (Str.ofString "!") = mkS [33] := by kernel_rfl
theorem lit_58 : (Str.ofString "/") = mkS [47] := by kernel_rfl
theorem lit_63 : (Str.ofString "'") = mkS [39] := by kernel_rfl
theorem lit_64 : (Str.ofString "\"") = mkS [34] := by kernel_rfl
theorem lit_65 : (Str.ofString "=") = mkS [61] := by kernel_rfl
theorem lit_71 : (Str.ofString "-") = mkS [45] := by kernel_rfl
end Mine
end
section
open PySem PySem.W PySem.Calls PyProof.Rows
namespace Mine
example : True := by
  k_with "mem" => first | with_reducible exact List.mem_cons_self | (with_reducible apply List.mem_cons_of_mem; k_extra "mem")
  k_with "upd" => first | with_reducible exact UpdE.head | (with_reducible apply UpdE.tail; k_extra "upd")
  k_with "updH" => first | with_reducible exact UpdH.head | (with_reducible apply UpdH.tail; k_extra "updH")
  k_with "sel" => with_reducible first | exact Sel.head | (show Sel _ (_ :: _) _; exact Sel.tail (by k_extra "sel"))
  k_with "pick" => with_reducible first | exact Pick.refl | (show Pick (_ :: _) _; exact Pick.cons (by k_extra "sel") (by k_extra "pick")) | (show Pick _ (_ :: _); exact Pick.drop (by k_extra "pick")) | exact Pick.nil
  k_with "put" => with_reducible first | (apply PutE.old; k_extra "upd") | (apply put_new; (case hs => k_extra "snoc"); (case hn => k_extra "notin"))
  k_with "setat" => with_reducible first | exact SetAt.zero | (apply SetAt.succ; k_extra "setat")
  k_with "snoc" => with_reducible first | exact Snoc.nil | (apply Snoc.cons; k_extra "snoc")
  k_with "tame" => with_reducible first | assumption | exact Tame.str | exact Tame.int | exact Tame.ref | exact Tame.none | exact Tame.bool
  k_with "pl" => with_reducible first | exact Pl.str | exact Pl.int | exact Pl.none | exact Pl.bool
  k_with "conc" => with_reducible first | assumption | exact Conc.str _ _ | exact Conc.int _ _ | exact Conc.ref _ | exact Conc.none | exact Conc.bool _
  k_with "notin" => exact of_decide_eq_true (by kernel_rfl)
  k_with "lit" => exact Nat.le_of_ble_eq_true (by kernel_rfl)
  k_with "env" => first | assumption | exact EnvOk.mk (by kernel_rfl) (by kernel_rfl) (by kernel_rfl) (by kernel_rfl)
  k_with "concG" => first | with_reducible exact Conc.ref _ | with_reducible exact Conc.none | with_reducible exact Conc.str _ _ | with_reducible exact Conc.int _ _
  k_with "glob" => with_reducible first
    | (apply e_glob; (case G => assumption); (case e => first | assumption | k_extra "gl"); (case c => k_extra "concG"); (case eo => k_extra "env"); (case hx => kernel_rfl); (case hd => kernel_rfl))
    | (apply e_bi; (case G => assumption); (case e => k_extra "bn"); (case hv => k_extra "bb"); (case eo => k_extra "env"); (case hx => kernel_rfl); (case hd => kernel_rfl); (case hn => kernel_rfl))
  k_with "meth" => with_reducible first
    | (apply m_str; (case slot => k_extra "slotS"); (case hty => k_extra "tyS"))
    | (apply m_inst; (case G => assumption); (case hx => k_extra "mem"); (case ho => k_extra "mt"); (case hm => k_extra "notin"))
    | (apply m_list; (case hx => k_extra "mem"); (case slot => k_extra "slotL"); (case hty => k_extra "tyL"))
    | (apply m_own; (case G => assumption); (case hx => k_extra "mem"); (case hm => k_extra "mem"); (case ht => k_extra "tame"); (case ho => k_extra "own"); (case hu => k_extra "uown"))
    | (apply m_dict; (case hx => k_extra "mem"); (case slot => exact PySem.F.slot_dict_update); (case hty => exact PySem.F.type_dict_update))
  k_with "slotS" => with_reducible first | exact PySem.F.slot_str_join | exact PySem.F.slot_str_count | exact PySem.F.slot_str_rfind | exact PySem.F.slot_str_replace
  k_with "tyS" => with_reducible first | exact PySem.F.type_str_join | exact PySem.F.type_str_count | exact PySem.F.type_str_rfind | exact PySem.F.type_str_replace
  k_with "slotL" => with_reducible first | exact PySem.F.slot_list_append | exact PySem.F.slot_list_pop
  k_with "tyL" => with_reducible first | exact PySem.F.type_list_append | exact PySem.F.type_list_pop
  k_with "bound" => with_reducible first
    | (apply a_bound; (case G => assumption); (case hx => k_extra "mem"); (case ho => k_extra "mt"); (case hm => k_extra "notin"); intro _)
    | (apply a_cls; (case G => assumption); (case hx => k_extra "mem"); (case ho => exact ck_chunk _); (case hm => k_extra "notin"); (case c => k_extra "concG"))
  k_with "call" => with_reducible first
    | (apply f_appendN; (case hi => k_extra "mem"); (case cv => k_extra "conc"); (case hs => k_extra "snoc"); (case hu => k_extra "updH"); (case hz => k_extra "fits"))
    | (apply f_append; (case hu => k_extra "updH"); (case cv => k_extra "conc"); (case hz => k_extra "fits"))
    | (apply f_count0; (case hc => k_extra "side"))
    | (apply f_rfind0; (case hc => k_extra "side"))
    | (apply f_replace0; (case hc => k_extra "side"))
    | (apply f_len; (case hz => k_extra "fits"))
    | apply f_ord
    | (apply f_chr; (case h0 => k_extra "side"); (case h1 => k_extra "side"))
    | (apply f_lenL; (case hD => k_extra "mem"); (case hz => k_extra "fits"))
    | (apply f_lenD; (case hD => k_extra "mem"); (case hz => k_extra "lit"))
    | (apply f_dict1; (case G => assumption); (case hr => k_extra "mem"); (case hp => k_extra "mem"); intro _)
    | k_extra "spec"
    | k_extra "call2"
  k_with "tail" => with_reducible first
    | apply t_str
    | (apply t_list; (case hl => k_extra "mem"))
    | (apply i_tuple; (case hl => k_extra "mem"); (case hlo => exact of_decide_eq_true (by kernel_rfl)); (case hhi => exact of_decide_eq_true (by kernel_rfl)); (case hj => with_unfolding_all exact rfl); (case hx => with_unfolding_all exact rfl))
  k_with "item" => with_reducible first
    | (apply i_getDl; (case e => k_extra "lits"); (case hd => k_extra "mem"); (case hm => k_extra "mem"))
    | (apply i_list; (case hl => k_extra "mem"); (case hj => k_extra "idx"); (case hx => k_extra "idc"); (case hz => k_extra "fits"))
    | (apply i_strJ; (case hj => k_extra "idx"); (case hc => k_extra "idc"); (case hz => k_extra "fits"))
  k_with "inK" => with_reducible first | (apply q_let; (case G => assumption); (case ha => exact st_let _)) | (apply q_sp; (case G => assumption); (case ha => exact st_sp _)) | (apply q_intK; (case G => assumption); (case ha => exact st_tag _))
  k_with "idx" => first | assumption | with_unfolding_all exact rfl
  k_with "idc" => first | assumption | with_unfolding_all exact rfl
  k_with "setitem" => with_reducible first
    | (apply i_setDl; (case e => k_extra "lits"); (case cv => k_extra "conc"); (case hd => k_extra "mem"); (case ue => k_extra "put"); (case hu => k_extra "updH"); (case hz => k_extra "lit"))
    | (apply i_setLn; (case cv => k_extra "conc"); (case hl => k_extra "mem"); (case hs => k_extra "setat"); (case hj => with_unfolding_all exact rfl); (case hu => k_extra "updH"); (case hz => k_extra "fits"))
    | (apply i_setD; (case hu => k_extra "updH"); (case ue => k_extra "put"); (case cv => k_extra "conc"); (case hz => k_extra "lit"))
  k_with "pls" => first | exact List.forall_mem_nil _ | (refine List.forall_mem_cons.mpr (And.intro (by k_extra "pl") ?_); k_extra "pls")
  k_with "bt" => with_reducible first
    | assumption
    | (show decide _ = true; refine decide_eq_true ?_; omega)
    | (show (_ == (_ : Int)) = true; refine beq_iff_eq.mpr ?_; omega)
    | (show (_ != (_ : Int)) = true; refine bne_iff_ne.mpr ?_; omega)
    | decide
    | (simp only [Bool.and_eq_true, Bool.or_eq_true, decide_eq_true_eq, beq_iff_eq, bne_iff_ne, ne_eq] <;> omega)
    | (simp only [List.map_cons, List.map_nil, List.any_cons, List.any_nil, eqA_s, eqA_i, Bool.or_false, Bool.or_eq_true, beq_iff_eq, List.cons.injEq, and_true] <;> omega)
  k_with "bf" => with_reducible first
    | assumption
    | (show decide _ = false; refine decide_eq_false ?_; omega)
    | (show decide _ = false; refine decide_eq_false ?_; simp only [List.length_cons, List.length_nil]; omega)
    | (show (_ == (_ : Int)) = false; refine beq_eq_false_iff_ne.mpr ?_; omega)
    | (show (_ != (_ : Int)) = false; refine bne_eq_false_iff_eq.mpr ?_; omega)
    | decide
    | (simp only [Bool.and_eq_false_iff, Bool.or_eq_false_iff, decide_eq_false_iff_not, beq_eq_false_iff_ne, bne_eq_false_iff_eq, ne_eq] <;> omega)
    | (simp only [List.map_cons, List.map_nil, List.any_cons, List.any_nil, eqA_s, eqA_i, Bool.or_false, Bool.or_eq_false_iff, beq_eq_false_iff_ne, ne_eq, List.cons.injEq, and_true, not_and] <;> omega)
  k_with "fits" => first | assumption | omega | (simp only [List.length_cons, List.length_nil, List.length_append]; omega)
  k_with "side" => first | assumption | omega
  k_with "c" => with_reducible (intro v c; revert v c; first
    | refine c_str fun _ => ?_ | refine c_int fun _ => ?_ | refine c_ref ?_ | refine c_none ?_ | refine c_bool ?_ | refine c_raw ?_ | refine cl_nil ?_ | refine cl_str1 fun _ => ?_ | refine cl_int1 fun _ => ?_ | refine cl_ref1 ?_ | refine cl_str fun _ => ?_ | refine cl_int fun _ => ?_ | refine cl_ref ?_ | (refine cl_cons ?_; k_extra "c"))
  k_with "eval" => with_reducible first
    | (apply e_loc; (case eo => k_extra "env"); (case hv => k_extra "mem"); (case hu => k_extra "tame"); (case hl => kernel_rfl); (case hd => kernel_rfl))
    | (apply r_lit; (case e => k_extra "lits")) | apply r_str | apply r_int | apply r_none | apply r_bool
    | (apply r_Attr; (case he => kernel_rfl))
    | (apply r_CallMeth; (case he => (with_unfolding_all exact rfl)))
    | (apply r_Call; (case he => kernel_rfl))
    | apply r_BinOp | apply r_USub
    | (apply r_Compare; (case hm => kernel_rfl)) | (apply r_Chain; (case hm => kernel_rfl))
    | apply r_IfExp
    | apply r_And | apply r_Or | apply r_BoolOne
    | apply d_List | apply d_Tuple
    | (apply d_Dict; (case G => assumption); (case hall => kernel_rfl); (case hl => kernel_rfl); (case h0 => exact List.cons_ne_nil _ _); (case hlen => k_extra "lit"); intro _)
    | apply x_SliceX
    | (apply x_SubLitK; (case G => assumption); (case es => exact tokT); k_extra "eval"; (first | (apply sk_ok; (case hd => exact sd_tok _); (case hm => k_extra "mem"))))
    | apply x_SubLit
    | apply x_Sub
    | k_extra "glob"
  k_with "test" => with_reducible first
    | (apply t_Compare; (case hm => kernel_rfl))
    | (apply t_Chain; (case hm => kernel_rfl))
    | apply t_Not
    | apply t_And0 | apply t_And | apply t_Or0 | apply t_Or
    | (apply t_plain; (case he => kernel_rfl))
  k_with "truthy" => with_reducible first
    | apply u_bool | apply u_none | apply u_int
    | (apply u_str; (case hz => k_extra "fits")) | (apply u_list; (case hD => k_extra "mem"); (case hz => k_extra "fits")) | (apply u_meth; (case hb => k_extra "mem"))
  k_with "op" => with_reducible first
    | (apply o_modP; (case hb => decide)) | (apply o_divP; (case hb => decide); (case hs => decide))
    | apply o_addI | apply o_subI | apply o_neg | apply o_iaddI | apply o_isubI
    | apply q_eqI | apply q_neI | apply q_ltI | apply q_leI | apply q_gtI | apply q_geI
    | apply q_eqB | apply q_isNN | apply q_isSN | apply q_isIN | apply q_isRN | apply q_isNotNN | apply q_isNotSN | apply q_isNotB | apply q_isB
    | (apply o_addS; (case hz => k_extra "fits")) | (apply o_iaddS; (case hz => k_extra "fits"))
    | apply q_inC | (apply q_inT; (case ha => k_extra "mem"); (case cv => k_extra "conc"); (case hx => k_extra "pls"); (case pv => k_extra "pl")) | k_extra "inK"
    | apply q_eqS | apply q_neS | apply q_leS | apply q_eqSN | apply q_eqNS | apply q_eqNN
  k_with "attr" => with_reducible first
    | (apply a_own; (case G => assumption); (case hx => k_extra "mem"); (case hm => k_extra "mem"); (case ht => k_extra "tame"); (case ho => k_extra "own"))
    | k_extra "bound"
  k_with "d" => with_reducible first
    | (apply D.name; (case eo => k_extra "env"); (case hv => k_extra "mem"); (case hu => k_extra "tame"); (case hl => kernel_rfl); (case hd => kernel_rfl))
    | (apply D.lit; k_extra "lits") | apply D.int | apply D.nn | apply D.bool
    | (apply D.attr; (case h => k_extra "d"); (case G => assumption); (case hx => k_extra "mem"); (case hm => k_extra "mem"); (case ht => k_extra "tame"); (case ho => k_extra "own"); (case he => kernel_rfl))
    | (apply D.bin; (case hl => k_extra "d"); (case hr => k_extra "d"); (case h2 => k_extra "d2"))
    | (apply D.cmp; (case hl => k_extra "d"); (case hr => k_extra "d"); (case h2 => k_extra "d2"); (case hm => kernel_rfl))
    | (apply D.neg; k_extra "d")
    | (apply D.chain; (case hl => k_extra "d"); (case h1 => k_extra "d"); (case c1 => k_extra "d2"); (case h2 => k_extra "d"); (case c2 => k_extra "d2"); (case hm => kernel_rfl))
    | (apply D.ifx; (case ht => k_extra "db"); (case hb => k_extra "d"); (case ho => k_extra "d"))
    | (apply D.one; k_extra "d") | (apply D.or; (case h => k_extra "d"); (case h2 => k_extra "d")) | (apply D.and; (case h => k_extra "d"); (case h2 => k_extra "d"))
    | (apply D.call1; (case hf => k_extra "dglob"); (case ha => k_extra "d"); (case h1 => k_extra "d1"); (case he => kernel_rfl); (case hplain => kernel_rfl); (case hc => kernel_rfl))
    | (apply D.callS; (case d => k_extra "d"); (case slot => k_extra "slotS"); (case hty => k_extra "tyS"); (case he => kernel_rfl); (case hplain => kernel_rfl); (case hc => (with_unfolding_all exact rfl)); (case da => k_extra "dl"); (case h => k_extra "ds"))
    | (apply D.subK; (case G => assumption); (case h => k_extra "dglob"); (case hd => exact sd_tok _); (case hm => k_extra "mem"))
    | (apply D.sub; (case h => k_extra "d"); (case hd => k_extra "mem"); (case hm => k_extra "mem"))
    | (apply D.idx; (case hl => k_extra "d"); (case hr => k_extra "d"); (case h2 => k_extra "d2i"))
    | k_extra "dglob"
  k_with "ds" => with_reducible first | (apply ds_count; k_extra "side") | (apply ds_rfind; k_extra "side") | (apply ds_replace; k_extra "side")
  k_with "dglob" => with_reducible first
    | (apply D.glob; (case G => assumption); (case e => first | assumption | k_extra "gl"); (case c => k_extra "concG"); (case eo => k_extra "env"); (case hx => kernel_rfl); (case hd => kernel_rfl))
    | (apply D.bi; (case G => assumption); (case e => k_extra "bn"); (case hv => k_extra "bb"); (case eo => k_extra "env"); (case hx => kernel_rfl); (case hd => kernel_rfl); (case hn => kernel_rfl))
  k_with "d1" => with_reducible first
    | (apply d1_len; k_extra "fits") | apply d1_ord | (apply d1_chr; (case h0 => k_extra "side"); (case h1 => k_extra "side"))
    | (apply d1_lenL; (case hD => k_extra "mem"); (case hz => k_extra "fits")) | (apply d1_lenD; (case hD => k_extra "mem"); (case hz => k_extra "lit"))
  k_with "d2" => with_reducible first
    | (apply d2_modP; decide) | (apply d2_divP; (case hb => decide); (case hs => decide))
    | apply d2_addI | apply d2_subI | apply d2_iaddI | apply d2_isubI
    | apply d2_eqI | apply d2_neI | apply d2_ltI | apply d2_leI | apply d2_gtI | apply d2_geI
    | apply d2_isNN | apply d2_isSN | apply d2_isIN | apply d2_isRN | apply d2_isNotNN | apply d2_isNotSN
    | (apply d2_addS; k_extra "fits") | (apply d2_iaddS; k_extra "fits")
    | apply d2_inC | (apply d2_inT; (case ha => k_extra "mem"); (case hx => k_extra "pls"); (case pv => k_extra "pl"))
    | (apply d2_let; (case G => assumption); (case ha => exact st_let _)) | (apply d2_sp; (case G => assumption); (case ha => exact st_sp _)) | (apply d2_intK; (case G => assumption); (case ha => exact st_tag _))
    | apply d2_eqS | apply d2_neS | apply d2_leS | apply d2_eqSN | apply d2_eqNS | apply d2_eqNN
  k_with "d2i" => with_reducible first
    | (apply d2_list; (case hl => k_extra "mem"); (case hj => k_extra "idx"); (case hx => k_extra "idc"); (case hz => k_extra "fits"))
    | (apply d2_tup; (case hl => k_extra "mem"); (case hlo => exact of_decide_eq_true (by kernel_rfl)); (case hhi => exact of_decide_eq_true (by kernel_rfl)); (case hj => with_unfolding_all exact rfl); (case hx => with_unfolding_all exact rfl))
    | (apply d2_str; (case hj => k_extra "idx"); (case hc => k_extra "idc"); (case hz => k_extra "fits"))
  k_with "du" => with_reducible first
    | apply du_bool | apply du_none | apply du_int | (apply du_str; k_extra "fits") | (apply du_list; (case hD => k_extra "mem"); (case hz => k_extra "fits")) | (apply du_meth; k_extra "mem")
  k_with "db" => with_reducible first
    | (apply DB.cmp; (case hl => k_extra "d"); (case hr => k_extra "d"); (case h2 => k_extra "d2"); (case hm => kernel_rfl))
    | (apply DB.not; k_extra "db")
    | (apply DB.chain; (case hl => k_extra "d"); (case h1 => k_extra "d"); (case c1 => k_extra "d2"); (case h2 => k_extra "d"); (case c2 => k_extra "d2"); (case hm => kernel_rfl))
    | apply DB.and0 | (apply DB.andT; (case h => k_extra "db"); (case e => k_extra "bt"); (case h2 => k_extra "db")) | (apply DB.andF; (case h => k_extra "db"); (case e => k_extra "bf")) | (apply DB.andB; (case h => k_extra "db"); (case h2 => k_extra "db"))
    | apply DB.or0 | (apply DB.orF; (case h => k_extra "db"); (case e => k_extra "bf"); (case h2 => k_extra "db")) | (apply DB.orT; (case h => k_extra "db"); (case e => k_extra "bt")) | (apply DB.orB; (case h => k_extra "db"); (case h2 => k_extra "db"))
    | (apply DB.plain; (case h => k_extra "d"); (case u => k_extra "du"); (case he => kernel_rfl))
  k_with "dl" => with_reducible first
    | apply DL.nil | (apply DL.cons; (case h => k_extra "d"); (case ht => k_extra "dl"); (case he => kernel_rfl))
  k_with "stmt" => with_reducible first
    | (apply y_Assign; (case eo => k_extra "env"); (case hs => kernel_rfl); (case hl => kernel_rfl); (case d => k_extra "d"); (case u => k_extra "upd"))
    | (apply y_AssignAttr; (case hs => kernel_rfl); (case de => k_extra "d"); (case d => k_extra "d"); (case G => assumption); (case hu => k_extra "updH"); (case ue => k_extra "put"); (case ho => k_extra "sown"); (case hz => k_extra "lit"))
    | (apply y_AssignSub; (case hs => kernel_rfl); (case de => k_extra "d"); (case d1 => k_extra "d"); (case di => k_extra "d"))
    | (apply y_Aug; (case eo => k_extra "env"); (case hv => k_extra "mem"); (case ht => k_extra "tame"); (case hl => kernel_rfl); (case de => k_extra "d"); (case h2 => k_extra "d2"); (case u => k_extra "upd"))
    | (apply y_AugAttr; (case d => k_extra "d"); (case G => assumption); (case hx => k_extra "mem"); (case hm => k_extra "mem"); (case ht => k_extra "tame"); (case hw => k_extra "own"); (case de => k_extra "d"); (case h2 => k_extra "d2"); (case hu => k_extra "updH"); (case ue => k_extra "put"); (case ho => k_extra "sown"); (case hz => k_extra "lit"))
    | (apply y_Return; (case d => k_extra "d"))
    | (apply y_IfT; (case d => k_extra "db"); (case e => k_extra "bt"))
    | (apply y_IfF0; (case d => k_extra "db"); (case e => k_extra "bf"))
    | (apply y_IfF; (case d => k_extra "db"); (case e => k_extra "bf"))
    | (apply y_AssignC; (case eo => k_extra "env"); (case hs => kernel_rfl); (case hl => kernel_rfl))
    | (apply y_AssignAttrC; (case hs => kernel_rfl))
    | (apply y_ExprC; (case hi => kernel_rfl); (case hs => kernel_rfl))
    | apply s_cons | apply s_nil
  k_with "zcall" => with_reducible first
    | (apply z_M; (case G => assumption); (case d => k_extra "d"); (case hx => k_extra "mem"); (case ho => k_extra "mt"); (case hm => k_extra "notin"); (case hk => kernel_rfl); (case he => kernel_rfl); (case hplain => kernel_rfl); (case hc => (with_unfolding_all exact rfl)); (case da => k_extra "dl"))
    | (apply z_M0; (case G => assumption); (case d => k_extra "d"); (case hx => k_extra "mem"); (case ho => k_extra "mt"); (case hm => k_extra "notin"); (case hk => kernel_rfl); (case hc => (with_unfolding_all exact rfl)))
    | (apply z_L; (case d => k_extra "d"); (case hx => k_extra "mem"); (case slot => k_extra "slotL"); (case hty => k_extra "tyL"); (case he => kernel_rfl); (case hplain => kernel_rfl); (case hc => (with_unfolding_all exact rfl)); (case da => k_extra "dl"))
    | (apply z_F; (case G => assumption); (case d => k_extra "dglob"); (case hk => kernel_rfl); (case he => kernel_rfl); (case hplain => kernel_rfl); (case hc => kernel_rfl); (case da => k_extra "dl"))
  k_with "setattr" => with_reducible (apply a_set; (case G => assumption); (case cv => k_extra "conc"); (case hu => k_extra "updH"); (case ue => k_extra "put"); (case ho => k_extra "sown"); (case hz => k_extra "lit"))
  k_with "args" => with_reducible first | apply l_nil | (apply l_cons; (case he => kernel_rfl))
  k_with "callWith" => with_reducible first
    | (apply kB1; (case he => kernel_rfl); (case hplain => kernel_rfl)) | (apply kBn; (case he => kernel_rfl); (case hplain => kernel_rfl)) | apply kB10
    | (apply kT1; (case he => kernel_rfl); (case hplain => kernel_rfl))
    | (apply kMn; (case G => assumption); (case hb => k_extra "mem"); (case hf => kernel_rfl); (case he => kernel_rfl); (case hplain => kernel_rfl))
    | (apply kM0; (case G => assumption); (case hb => k_extra "mem"); (case hf => kernel_rfl))
    | (apply kK1; (case G => assumption); (case hk => kernel_rfl); (case he => kernel_rfl); (case hplain => kernel_rfl))
    | (apply kKn; (case G => assumption); (case hk => kernel_rfl); (case he => kernel_rfl); (case hplain => kernel_rfl))
    | (apply kK10; (case G => assumption); (case hk => kernel_rfl)) | (apply kK00; (case G => assumption); (case hk => kernel_rfl))
  k_with "exec" => with_reducible first
    | (apply e_Assign; (case eo => k_extra "env"); (case hs => kernel_rfl); (case hl => kernel_rfl))
    | apply s_If
    | (apply s_AssignTup; (case hs => kernel_rfl); (case hw => kernel_rfl); (case he => kernel_rfl))
    | (apply s_AssignSub; (case hs => kernel_rfl))
    | (apply s_AugSub; (case hi => (intro _ _ _; with_unfolding_all exact rfl)))
    | (apply s_AssignAttr; (case hs => kernel_rfl))
    | apply s_AugAttr
    | (apply e_Aug; (case eo => k_extra "env"); (case hv => k_extra "mem"); (case hu => k_extra "tame"); (case hl => kernel_rfl))
    | (apply s_Expr; (case hi => kernel_rfl); (case hs => kernel_rfl))
    | apply s_Return
    | apply s_Pass | apply s_Break
    | apply s_Assert
  k_with "step" => first
    | k_extra "c"
    | with_reducible first
      | (show W _ _ _ _ _ (eval _ _) _ _; first | (apply W.ofD; (case d => k_extra "d")) | k_extra "zcall" | k_extra "eval")
      | (show W _ _ _ _ _ (getAttr _ _ _) _ _; k_extra "attr")
      | (show W _ _ _ _ _ (spliced _) _ _; k_extra "args")
      | (show W _ _ _ _ _ (callWith _ _ _ _ _) _ _; k_extra "callWith")
      | (show W _ _ _ _ _ (getMethod _ _ _) _ _; k_extra "meth")
      | (show W _ _ _ _ _ (binaryOp _ _ _) _ _; k_extra "op")
      | (show W _ _ _ _ _ (compareOp _ _ _) _ _; k_extra "op")
      | (show W _ _ _ _ _ (inplaceOp _ _ _) _ _; k_extra "op")
      | (show W _ _ _ _ _ (unaryOp _ _) _ _; k_extra "op")
      | (show W _ _ _ _ _ (isTrue _ _ _) _ _; first | (apply W.ofDB; (case d => k_extra "db")) | k_extra "test")
      | (show W _ _ _ _ _ (truthy _) _ _; k_extra "truthy")
      | (show W _ _ _ _ _ (exec _ _) _ _; k_extra "exec")
      | (show W _ _ _ _ _ (execs _ _) _ _; k_extra "stmt")
      | (show W _ _ _ _ _ (setAttr _ _ _) _ _; k_extra "setattr")
      | (show W _ _ _ _ _ (call _ _ _) _ _; k_extra "call")
      | (show W _ _ _ _ _ (subscriptTail _ _ _ _) _ _; k_extra "tail")
      | (show W _ _ _ _ _ (getItem _ _) _ _; k_extra "item")
      | (show W _ _ _ _ _ (setItem _ _ _) _ _; k_extra "setitem")
      | (show W _ _ _ _ _ (assign _ _ _) _ _; first | apply g_attr | (apply g_name; (case eo => k_extra "env"); (case c => k_extra "conc"); (case u => k_extra "upd"); (case hl => kernel_rfl)))
      | (show W _ _ _ _ _ (evalPart _ _) _ _; first | apply p_none | apply p_some)
      | (apply sx_str; (case hz => k_extra "fits")) | apply sx_list | (apply lk_ok; (case hl => k_extra "mem"); (case hz => k_extra "fits"); intro _) | apply ik_ok
      | (apply tk_ok; (case hr => k_extra "mem"); k_extra "c")
      | (show seqK _ _ _ _ _ _ _ _ _; first | apply q_next | apply q_ret | apply q_brk | apply q_cont)
      | (apply st_ok; (case u => k_extra "upd"))
      | (apply sc_ok; (case u => k_extra "upd"))
      | (apply sa_ok; (case d => k_extra "d"); (case G => assumption); (case hu => k_extra "updH"); (case ue => k_extra "put"); (case ho => k_extra "sown"); (case hz => k_extra "lit"))
      | apply xc_n | apply xc_s
      | (apply nl_ok; (case hl => k_extra "lit"); intro _)
      | (apply nt_ok; (case hl => k_extra "lit"); intro _)
      | (show W _ _ _ _ _ (evalPairs _) _ _; first | apply e2_nil | apply e2_lit | apply e2_cons)
      | apply kk_ok
      | (apply nd_ok; (case hn => k_extra "notin"); (case u => k_extra "updH"))
      | apply nr_n | apply nr_s
      | (apply mn_ok; (case hb => k_extra "mem"))
      | (apply sb_ok; (case hd => k_extra "mem"); (case hm => k_extra "mem"))
      | (apply as_ok; (case e => k_extra "bt"))
      | (apply br_t; (case e => k_extra "bt"))
      | (apply br_f; (case e => k_extra "bf"))
      | (apply br_t'; (case e => k_extra "bt"))
      | (apply br_f'; (case e => k_extra "bf"))
  k_with "fn" =>
    (case ho => with_unfolding_all exact rfl)
    (case hcd => kernel_rfl)
    (case hbind => exact fun s _ => BindsTo.of_eq rfl)
    (case hloc => kernel_rfl)
    (case hu => kernel_rfl)
    (case hnd => exact of_decide_eq_true (by kernel_rfl))
    (case hco => kernel_rfl)
    (case hgen => kernel_rfl)
    (case hk => kernel_rfl)
    (case hcell => exact of_decide_eq_true (by kernel_rfl))
  k_with "comp" =>
    (case hu => kernel_rfl)
    (case hnd => exact of_decide_eq_true (by kernel_rfl))
    (case hs => (intro _; kernel_rfl))
    (case ht => (intro _ _; kernel_rfl))
    (case hfree => exact of_decide_eq_true (by kernel_rfl))
    (case hcell => exact of_decide_eq_true (by kernel_rfl))
    (case hkind => kernel_rfl)
    (case hnames => exact of_decide_eq_true (by kernel_rfl))
  k_with "fnD" =>
    (case hcd => kernel_rfl)
    (case hloc => kernel_rfl)
    (case hu => kernel_rfl)
    (case hnd => exact of_decide_eq_true (by kernel_rfl))
    (case hco => kernel_rfl)
    (case hgen => kernel_rfl)
    (case hk => kernel_rfl)
    (case hcell => exact of_decide_eq_true (by kernel_rfl))
  k_with "gl" => with_reducible first | exact gl_EOF _ | exact gl_spaceCharacters _ | exact gl_asciiLetters _ | exact gl_tokenTypes _ | exact gl_tagTokenTypes _ | exact gl_Text _ | exact gl_HTMLUnicodeInputStream _ | exact gl_HTMLTokenizer _ | exact gl_asciiLower _ | exact gl__is_invalid _ | exact gl__law_NAMES _ | exact gl__law_MORE _ | exact gl__law_piece _ | exact gl__law_small _ | exact gl__law_row _
  k_with "bn" => with_reducible first | exact bn_len _ | exact bn_ord _ | exact bn_chr _ | exact bn_isinstance _ | exact bn_range _ | exact bn_dict _ | exact bn_bool _
  k_with "bb" => with_reducible first | exact bb_len | exact bb_ord | exact bb_chr | exact bb_isinstance | exact bb_range | exact bb_dict | exact bb_bool
  k_with "mt" => with_reducible first | exact mt_read _ | exact mt_reset _ | exact mt_openStream _ | exact mt__position _ | exact mt_position _ | exact mt_char _ | exact mt_readChunk _ | exact mt_characterErrorsUCS4 _ | exact mt_charsUntil _ | exact mt_unget _ | exact mt___iter__ _ | exact mt_emitCurrentToken _ | exact mt_dataState _ | exact mt_rawtextState _ | exact mt_scriptDataState _ | exact mt_plaintextState _ | exact mt_tagOpenState _ | exact mt_tagNameState _ | exact mt_beforeAttributeNameState _ | exact mt_attributeNameState _ | exact mt_bogusCommentState _ | exact mt_markupDeclarationOpenState _ | exact mt_commentStartState _ | exact mt_commentState _ | exact mt_commentEndDashState _ | exact mt_commentEndState _
  k_with "own" => with_reducible first
    | (show ownOk _ 73 _ = true; first | exact oo_Text_text _ | exact oo_Text_place _)
    | (show ownOk _ 166 _ = true; first | exact oo_HTMLUnicodeInputStream_reportCharacterErrors _ | exact oo_HTMLUnicodeInputStream_newLines _ | exact oo_HTMLUnicodeInputStream_dataStream _ | exact oo_HTMLUnicodeInputStream_chunk _ | exact oo_HTMLUnicodeInputStream_chunkSize _ | exact oo_HTMLUnicodeInputStream_chunkOffset _ | exact oo_HTMLUnicodeInputStream_errors _ | exact oo_HTMLUnicodeInputStream_prevNumLines _ | exact oo_HTMLUnicodeInputStream_prevNumCols _ | exact oo_HTMLUnicodeInputStream__bufferedCharacter _)
    | (show ownOk _ 762 _ = true; first | exact oo_HTMLTokenizer_stream _ | exact oo_HTMLTokenizer_parser _ | exact oo_HTMLTokenizer_escapeFlag _ | exact oo_HTMLTokenizer_lastFourChars _ | exact oo_HTMLTokenizer_state _ | exact oo_HTMLTokenizer_escape _ | exact oo_HTMLTokenizer_currentToken _ | exact oo_HTMLTokenizer_tokenQueue _)
  k_with "sown" => with_reducible first
    | (show setOk _ 73 _ = true; first | exact so_Text_text _ | exact so_Text_place _)
    | (show setOk _ 166 _ = true; first | exact so_HTMLUnicodeInputStream_reportCharacterErrors _ | exact so_HTMLUnicodeInputStream_newLines _ | exact so_HTMLUnicodeInputStream_dataStream _ | exact so_HTMLUnicodeInputStream_chunk _ | exact so_HTMLUnicodeInputStream_chunkSize _ | exact so_HTMLUnicodeInputStream_chunkOffset _ | exact so_HTMLUnicodeInputStream_errors _ | exact so_HTMLUnicodeInputStream_prevNumLines _ | exact so_HTMLUnicodeInputStream_prevNumCols _ | exact so_HTMLUnicodeInputStream__bufferedCharacter _)
    | (show setOk _ 762 _ = true; first | exact so_HTMLTokenizer_stream _ | exact so_HTMLTokenizer_parser _ | exact so_HTMLTokenizer_escapeFlag _ | exact so_HTMLTokenizer_lastFourChars _ | exact so_HTMLTokenizer_state _ | exact so_HTMLTokenizer_escape _ | exact so_HTMLTokenizer_currentToken _ | exact so_HTMLTokenizer_tokenQueue _)
  k_with "uown" => with_reducible first | exact usual_of (cf_HTMLTokenizer _) (at_HTMLTokenizer_state _) | exact usual_of (cf_HTMLUnicodeInputStream _) (at_HTMLUnicodeInputStream_reportCharacterErrors _)
  k_with "lits" => with_reducible first | exact lit_0 | exact lit_1 | exact lit_2 | exact lit_3 | exact lit_4 | exact lit_5 | exact lit_6 | exact lit_7 | exact lit_8 | exact lit_9 | exact lit_10 | exact lit_11 | exact lit_12 | exact lit_13 | exact lit_14 | exact lit_15 | exact lit_16 | exact lit_17 | exact lit_18 | exact lit_19 | exact lit_20 | exact lit_21 | exact lit_22 | exact lit_23 | exact lit_24 | exact lit_25 | exact lit_26 | exact lit_27 | exact lit_28 | exact lit_29 | exact lit_30 | exact lit_31 | exact lit_32 | exact lit_33 | exact lit_34 | exact lit_35 | exact lit_36 | exact lit_37 | exact lit_38 | exact lit_39 | exact lit_40 | exact lit_41 | exact lit_42 | exact lit_43 | exact lit_44 | exact lit_45 | exact lit_46 | exact lit_47 | exact lit_48 | exact lit_49 | exact lit_50 | exact lit_51 | exact lit_52 | exact lit_53 | exact lit_54 | exact lit_55 | exact lit_56 | exact lit_57 | exact lit_58 | exact lit_59 | exact lit_60 | exact lit_61 | exact lit_62 | exact lit_63 | exact lit_64 | exact lit_65 | exact lit_66 | exact lit_67 | exact lit_68 | exact lit_69 | exact lit_70 | exact lit_71 | exact lit_72 | exact lit_73 | exact lit_74 | exact lit_75 | exact lit_76 | exact lit_77 | exact lit_78 | exact lit_79 | exact lit_80 | exact lit_81 | exact lit_82 | exact lit_83 | exact lit_84 | exact lit_85 | exact lit_86 | exact lit_87 | exact lit_88 | exact lit_89 | exact lit_90 | exact lit_91 | exact lit_92 | exact lit_93 | exact lit_94 | exact lit_95 | exact lit_96 | exact lit_97 | exact lit_98 | exact lit_99 | exact lit_100
  trivial
section
variable {prog : Program} {w : World} {n : Nat} {Γ : Act} {loc : Locs} {gs : Array GenState} {H F : HL} {k : AV → St → Prop} {t u : Tok}
/-- the stream's own entries -/
abbrev strm (m nl ds er : Addr) (l : List Nat) (sz off a b : Int) : List (Str × AV) := [("reportCharacterErrors", .ref m), ("newLines", .ref nl), ("dataStream", .ref ds), ("chunk", .str l), ("chunkSize", .int sz), ("chunkOffset", .int off), ("errors", .ref er), ("prevNumLines", .int a), ("prevNumCols", .int b), ("_bufferedCharacter", .none)]
variable {m nl ds er self : Addr} {l : List Nat} {sz off a b : Int}
theorem sp_position (G : Gnd (K2 w.params) Γ) {o : Int} (hn : 10 ∉ l) (h : ∀ r, k (.ref r) ⟨loc, (r, .tuple [.int (a + 0), .int (b + o)]) :: (self, .inst 166 (strm m nl ds er l sz off a b)) :: F, gs⟩) :
    WC prog w 1 Γ (.call (.ref 119) ⟨[.ref self, .int o t], []⟩) ⟨loc, (self, .inst 166 (strm m nl ds er l sz off a b)) :: F, gs⟩ k := by
  refine' WC.fnE (us := [("chunk", .unb), ("nLines", .unb), ("positionLine", .unb), ("lastLinePos", .unb), ("positionColumn", .unb)]) (ps := [("self", .ref self), ("offset", .int o)]) G ?ho ?hcd ?hbind ?hb ?hloc ?hu ?hnd ?hco ?hgen ?hk ?hcell ?h
  k_extra "fn"
  case hb => exact .cons ⟨rfl, .ref _⟩ (.cons ⟨rfl, .int _ _⟩ .nil)
  case h =>
    intro Γ' G' E'
    dsimp only [List.cons_append, List.nil_append]
    repeat k_extra "step"
    refine q_end ?_ (h _)
    k_extra "pick"
/-- Text.read -/
theorem sp_read (G : Gnd (K2 w.params) Γ) {T R : List Nat} {p q : Int} (hR : slc T (some p) (some (p + q)) = R) (hT : T.length ≤ 100000) (h : k (.str R) ⟨loc, (self, .inst 73 [("text", .str T), ("place", .int (p + R.length))]) :: F, gs⟩) :
    WC prog w 1 Γ (.call (.ref 70) ⟨[.ref self, .int q t], []⟩) ⟨loc, (self, .inst 73 [("text", .str T), ("place", .int p)]) :: F, gs⟩ k := by
  subst hR
  have hs : ∀ lo hi, (slc T lo hi).length < 1048576 := fun lo hi => by unfold slc; simp only [List.length_take, List.length_drop]; omega
  have hs1 := hs (some p) (some (p + q))
  refine' WC.fnE (us := [("part", .unb)]) (ps := [("self", .ref self), ("size", .int q)]) G ?ho ?hcd ?hbind ?hb ?hloc ?hu ?hnd ?hco ?hgen ?hk ?hcell ?h
  k_extra "fn"
  case hb => exact .cons ⟨rfl, .ref _⟩ (.cons ⟨rfl, .int _ _⟩ .nil)
  case h =>
    intro Γ' G' E'
    dsimp only [List.cons_append, List.nil_append]
    repeat k_extra "step"
    refine q_end ?_ h
    k_extra "pick"
end
end Mine
end
section
open PySem PySem.W PySem.Calls PyProof.Rows
namespace Mine
section
variable {prog : Program} {w : World} {n : Nat} {Γ : Act} {loc : Locs} {gs : Array GenState} {H F : HL} {k : AV → St → Prop} {t u : Tok}
variable {m nl ds er self : Addr} {l : List Nat} {sz off a b : Int}
/-- the signs that this law writes -/
def okc (c : Nat) : Prop := (32 ≤ c ∧ c ≤ 126) ∨ c = 233 ∨ c = 120132
theorem sp_invalid (G : Gnd (K2 w.params) Γ) {c : Nat} (hc : okc c) (h : k (.bool false) ⟨loc, F, gs⟩) :
    WC prog w 1 Γ (.call (.ref 84) ⟨[.int c t], []⟩) ⟨loc, F, gs⟩ k := by
  unfold okc at hc
  refine' WC.fnE (us := []) (ps := [("codepoint", .int c)]) G ?ho ?hcd ?hbind ?hb ?hloc ?hu ?hnd ?hco ?hgen ?hk ?hcell ?h
  k_extra "fn"
  case hb => exact .cons ⟨rfl, .int _ _⟩ .nil
  case h =>
    intro Γ' G' E'
    dsimp only [List.cons_append, List.nil_append]
    repeat k_extra "step"
    exact q_end (.drop .refl) (by rw [show (decide ((55296 : Int) ≤ c) && decide ((c : Int) ≤ 57343)) = false by simp only [Bool.and_eq_false_iff, decide_eq_false_iff_not]; omega]; exact h)
example : True := by
  k_with "spec" => (apply call_sp; (case' h => apply sp_invalid); (case G => assumption); (case pck => k_extra "pick"); (case hc => k_extra "side"); (case hm => decide))
  trivial
theorem sp_errs (G : Gnd (K2 w.params) Γ) {T : List Nat} (hT : ∀ c ∈ T, okc c) (h : k .none ⟨loc, F, gs⟩) :
    WC prog w 2 Γ (.call (.ref 148) ⟨[.ref self, .str ⟨T.toArray⟩ t], []⟩) ⟨loc, F, gs⟩ k := by
  refine' WC.fnE (us := [("c", .unb)]) (ps := [("self", .ref self), ("data", .str T)]) G ?ho ?hcd ?hbind ?hb ?hloc ?hu ?hnd ?hco ?hgen ?hk ?hcell ?h
  k_extra "fn"
  case hb => exact .cons ⟨rfl, .ref _⟩ (.cons ⟨rfl, .str _ _⟩ .nil)
  case h =>
    intro Γ' G' E'
    dsimp only [List.cons_append, List.nil_append]
    refine s_cons ?_
    refine s_For (fun it j S => ∃ i av, j = T.length - i ∧ i ≤ T.length ∧ S = ⟨[("self", .ref self), ("data", .str T), ("c", av)], (it, .obj (strIt T i)) :: F, gs⟩) ?a ?b (by intro _; kernel_rfl) (by intro _ _; kernel_rfl)
    case a =>
      k_extra "step"
      k_extra "c"
      refine it_str fun it => ?_
      exact ⟨it, T.length - 0, rfl, 0, .unb, rfl, Nat.zero_le _, rfl⟩
    case b =>
      rintro it j S ⟨i, av, rfl, hi, rfl⟩
      cases hc : T[i]? with
      | none =>
        refine nx_strEnd hc .head (.head _) ?_
        dsimp only
        repeat k_extra "step"
        exact q_fall .refl h
      | some c =>
        refine nx_str hc .head (.head _) ?_
        dsimp only
        have hok : okc c := hT c (List.mem_of_getElem? hc)
        repeat k_extra "step"
        have hi' : i < T.length := by
          rcases Nat.lt_or_ge i T.length with q | q
          · exact q
          · rw [List.getElem?_eq_none q] at hc; cases hc
        exact ⟨T.length - (i + 1), sub_dec hi', i + 1, _, rfl, by omega, rfl⟩
example : True := by
  k_with "spec" => (apply call_sp; (case' h => apply sp_position); (case G => assumption); (case pck => k_extra "pick"); (case hn => k_extra "side"); (case hm => decide); intro _)
  k_with "spec" => (apply call_sp; (case' h => apply sp_read); (case G => assumption); (case pck => k_extra "pick"); (case hR => assumption); (case hT => k_extra "side"); (case hm => decide))
  k_with "spec" => (apply call_spM; (case hb => k_extra "mem"); (case' h => apply sp_errs); (case G => assumption); (case pck => k_extra "pick"); (case hT => k_extra "side"); (case hm => decide))
  trivial
/-- the whole text is one piece -/
theorem sp_fill (G : Gnd (K2 w.params) Γ) {T : List Nat} (hT : ∀ c ∈ T, okc c) (h1 : 0 < T.length) (h2 : T.length ≤ 10240) (h : k (.bool true) ⟨loc, (self, .inst 166 (strm m nl ds er T T.length 0 0 0)) :: (ds, .inst 73 [("text", .str T), ("place", .int T.length)]) :: (m, .meth 148 self) :: F, gs⟩) :
    WC prog w 3 Γ (.call (.ref 141) ⟨[.ref self], []⟩) ⟨loc, (self, .inst 166 (strm m nl ds er [] 0 0 0 0)) :: (ds, .inst 73 [("text", .str T), ("place", .int 0)]) :: (m, .meth 148 self) :: F, gs⟩ k := by
  have e1 : slc T (some 0) (some (0 + 10240)) = T := by
    unfold slc clipN
    simp only [show ((0 : Int) + 10240) = 10240 from rfl]
    rw [if_neg (by omega), if_neg (by omega)]
    have : (max (0 : Int) (min 10240 (T.length : Int))).toNat = T.length := by omega
    have : (max (0 : Int) (min 0 (T.length : Int))).toNat = 0 := by omega
    simp [*]
  have n10 : 10 ∉ ([] : List Nat) := by simp
  have nz : T.length < 1048576 := by omega
  have nz2 : T.length ≤ 1048576 := by omega
  have ne0 : T.isEmpty = false := by cases T; simp at h1; rfl
  have ne1 : (!T.isEmpty) = true := by rw [ne0]; rfl
  have ne2 : (!!T.isEmpty) = false := by rw [ne0]; rfl
  obtain ⟨c, hc⟩ : ∃ c, T[T.length - 1]? = some c := ⟨T[T.length - 1], by simp [List.getElem?_eq_getElem]⟩
  have hoc : okc c := hT c (List.mem_of_getElem? hc)
  have hcs : c = 233 ∨ c = 120132 ∨ (32 ≤ c ∧ c ≤ 126) := by unfold okc at hoc; omega
  have hix : seqIndex? (-1) T.length = some (T.length - 1) := by
    unfold seqIndex?
    have : (decide (0 ≤ (-1 : Int) + T.length) && decide ((-1 : Int) + T.length < T.length)) = true := by simp; omega
    simp only [show ((-1 : Int) < 0) = True from by simp, if_true]
    rw [if_pos this]
    congr 1
    omega
  have hsp : (c : Int) < 55296 ∨ 57343 < (c : Int) := by omega
  have hns : ((c : Int) == 13) = false := beq_eq_false_iff_ne.mpr (by omega)
  have n13 : 13 ∉ T := fun q => by have := hT _ q; unfold okc at this; omega
  refine' WC.fnE (us := [("data", .unb), ("lastv", .unb)]) (ps := [("self", .ref self), ("chunkSize", .none)]) G ?ho ?hcd ?hbind ?hb ?hloc ?hu ?hnd ?hco ?hgen ?hk ?hcell ?h
  case ho => with_unfolding_all exact rfl
  case hbind => exact fun s X => binds_K X rfl (by with_unfolding_all exact rfl) rfl rfl rfl
  k_extra "fnD"
  case hb => exact .cons ⟨rfl, .ref _⟩ (.cons ⟨rfl, .none⟩ .nil)
  case h =>
    intro Γ' G' E'
    dsimp only [List.cons_append, List.nil_append]
    rcases Nat.lt_or_ge 1 T.length with h4 | h4
    · repeat k_extra "step"
      simp only [Int.zero_add]
      refine q_end ?_ h
      k_extra "pick"
    · repeat k_extra "step"
      simp only [Int.zero_add]
      refine q_end ?_ h
      k_extra "pick"
end
end Mine
end
section
open PySem PySem.W PySem.Calls PyProof.Rows
namespace Mine
section
variable {prog : Program} {w : World} {n : Nat} {Γ : Act} {loc : Locs} {gs : Array GenState} {H F : HL} {k : AV → St → Prop} {t u : Tok}
variable {m nl ds er self : Addr} {l : List Nat} {sz off a b : Int}
example : True := by
  k_with "spec" => (apply call_sp; (case' h => apply sp_position); (case G => assumption); (case pck => k_extra "pick"); (case hn => k_extra "side"); (case hm => decide); intro _)
  k_with "spec" => (apply call_sp; (case' h => apply sp_read); (case G => assumption); (case pck => k_extra "pick"); (case hR => assumption); (case hT => k_extra "side"); (case hm => decide))
  trivial
theorem sp_char (G : Gnd (K2 w.params) Γ) {i c : Nat} (hc : l[i]? = some c) (hz : l.length ≤ 100000) (h : k (.str [c]) ⟨loc, (self, .inst 166 (strm m nl ds er l l.length (i + 1) a b)) :: F, gs⟩) :
    WC prog w 1 Γ (.call (.ref 133) ⟨[.ref self], []⟩) ⟨loc, (self, .inst 166 (strm m nl ds er l l.length i a b)) :: F, gs⟩ k := by
  have hi : i < l.length := by
    rcases Nat.lt_or_ge i l.length with q | q
    · exact q
    · rw [List.getElem?_eq_none q] at hc; cases hc
  have hix : seqIndex? (i : Int) l.length = some i := by
    unfold seqIndex?
    have : ¬ ((i : Int) < 0) := by omega
    simp [this, hi]
  refine' WC.fnE (us := [("chunkOffset", .unb), ("char", .unb)]) (ps := [("self", .ref self)]) G ?ho ?hcd ?hbind ?hb ?hloc ?hu ?hnd ?hco ?hgen ?hk ?hcell ?h
  k_extra "fn"
  case hb => exact .cons ⟨rfl, .ref _⟩ .nil
  case h =>
    intro Γ' G' E'
    dsimp only [List.cons_append, List.nil_append]
    repeat k_extra "step"
    refine q_end ?_ h
    k_extra "pick"
/-- nothing is left to read -/
theorem sp_none (G : Gnd (K2 w.params) Γ) {T : List Nat} (hn : 10 ∉ T) (h2 : T.length ≤ 10240) (h : k (.bool false) ⟨loc, (self, .inst 166 (strm m nl ds er [] 0 0 0 (T.length : Int))) :: (ds, .inst 73 [("text", .str T), ("place", .int T.length)]) :: F, gs⟩) :
    WC prog w 3 Γ (.call (.ref 141) ⟨[.ref self], []⟩) ⟨loc, (self, .inst 166 (strm m nl ds er T T.length off 0 0)) :: (ds, .inst 73 [("text", .str T), ("place", .int T.length)]) :: F, gs⟩ k := by
  have e1 : slc T (some (T.length : Int)) (some ((T.length : Int) + 10240)) = [] := by
    unfold slc clipN
    dsimp only
    rw [if_neg (by omega), if_neg (by omega)]
    have : (max (0 : Int) (min (T.length : Int) (T.length : Int))).toNat = T.length := by omega
    simp [this]
  have hz : T.length ≤ 100000 := by omega
  refine' WC.fnE (us := [("data", .unb), ("lastv", .unb)]) (ps := [("self", .ref self), ("chunkSize", .none)]) G ?ho ?hcd ?hbind ?hb ?hloc ?hu ?hnd ?hco ?hgen ?hk ?hcell ?h
  case ho => with_unfolding_all exact rfl
  case hbind => exact fun s X => binds_K X rfl (by with_unfolding_all exact rfl) rfl rfl rfl
  k_extra "fnD"
  case hb => exact .cons ⟨rfl, .ref _⟩ (.cons ⟨rfl, .none⟩ .nil)
  case h =>
    intro Γ' G' E'
    dsimp only [List.cons_append, List.nil_append]
    repeat k_extra "step"
    simp only [Int.zero_add, List.length_nil, Int.add_zero, show ((0 : Nat) : Int) = 0 from rfl]
    refine q_end ?_ h
    k_extra "pick"
end
end Mine
end
section
open PySem PySem.W PySem.Calls PyProof.Rows
namespace Mine
example : True := by
  k_with "spec" => (apply call_sp; (case' h => apply sp_fill); (case G => assumption); (case pck => k_extra "pick"); (case hT => assumption); (case h1 => assumption); (case h2 => assumption); (case hm => decide))
  k_with "spec" => (apply call_sp; (case' h => apply sp_none); (case G => assumption); (case pck => k_extra "pick"); (case hn => assumption); (case h2 => assumption); (case hm => decide))
  trivial
section
variable {prog : Program} {w : World} {n : Nat} {Γ : Act} {loc : Locs} {gs : Array GenState} {H F : HL} {k : AV → St → Prop} {t u : Tok}
variable {m nl ds er self : Addr} {l : List Nat} {sz off a b : Int}
theorem sp_charEnd (G : Gnd (K2 w.params) Γ) {T : List Nat} (hn : 10 ∉ T) (h2 : T.length ≤ 10240) (h : k .none ⟨loc, (self, .inst 166 (strm m nl ds er [] 0 0 0 (T.length : Int))) :: (ds, .inst 73 [("text", .str T), ("place", .int T.length)]) :: F, gs⟩) :
    WC prog w 4 Γ (.call (.ref 133) ⟨[.ref self], []⟩) ⟨loc, (self, .inst 166 (strm m nl ds er T T.length T.length 0 0)) :: (ds, .inst 73 [("text", .str T), ("place", .int T.length)]) :: F, gs⟩ k := by
  refine' WC.fnE (us := [("chunkOffset", .unb), ("char", .unb)]) (ps := [("self", .ref self)]) G ?ho ?hcd ?hbind ?hb ?hloc ?hu ?hnd ?hco ?hgen ?hk ?hcell ?h
  k_extra "fn"
  case hb => exact .cons ⟨rfl, .ref _⟩ .nil
  case h =>
    intro Γ' G' E'
    dsimp only [List.cons_append, List.nil_append]
    repeat k_extra "step"
    refine q_end ?_ h
    k_extra "pick"
/-- the first sign: the piece is read -/
theorem sp_charF (G : Gnd (K2 w.params) Γ) {T : List Nat} {c : Nat} (hc : T[0]? = some c) (hT : ∀ c ∈ T, okc c) (h2 : T.length ≤ 10240) (h : k (.str [c]) ⟨loc, (self, .inst 166 (strm m nl ds er T T.length 1 0 0)) :: (ds, .inst 73 [("text", .str T), ("place", .int T.length)]) :: (m, .meth 148 self) :: F, gs⟩) :
    WC prog w 4 Γ (.call (.ref 133) ⟨[.ref self], []⟩) ⟨loc, (self, .inst 166 (strm m nl ds er [] 0 0 0 0)) :: (ds, .inst 73 [("text", .str T), ("place", .int 0)]) :: (m, .meth 148 self) :: F, gs⟩ k := by
  have h1 : 0 < T.length := by
    rcases Nat.lt_or_ge 0 T.length with q | q
    · exact q
    · rw [List.getElem?_eq_none q] at hc; cases hc
  have hz : T.length ≤ 1048576 := by omega
  have hix : seqIndex? 0 T.length = some 0 := by
    unfold seqIndex?
    simp [h1]
  refine' WC.fnE (us := [("chunkOffset", .unb), ("char", .unb)]) (ps := [("self", .ref self)]) G ?ho ?hcd ?hbind ?hb ?hloc ?hu ?hnd ?hco ?hgen ?hk ?hcell ?h
  k_extra "fn"
  case hb => exact .cons ⟨rfl, .ref _⟩ .nil
  case h =>
    intro Γ' G' E'
    dsimp only [List.cons_append, List.nil_append]
    repeat k_extra "step"
    simp only [Int.zero_add]
    refine q_end ?_ h
    k_extra "pick"
end
end Mine
end
section
open PySem PySem.W PySem.Calls PyProof.Rows
namespace Mine
example : True := by
  k_with "spec" => (apply call_sp; (case' h => apply sp_none); (case G => assumption); (case pck => k_extra "pick"); (case hn => assumption); (case h2 => assumption); (case hm => decide))
  trivial
theorem join_one (s : List Nat) : (Txt.join (mkS []) ([s].map mkS)).cps.toList = s := by
  simp [Txt.join, Builtin.Str.glued]
theorem join_none : (Txt.join (mkS []) (([] : List (List Nat)).map mkS)).cps.toList = [] := by
  rfl
section
variable {prog : Program} {w : World} {n : Nat} {Γ : Act} {loc : Locs} {gs : Array GenState} {H F : HL} {k : AV → St → Prop} {t u : Tok}
variable {m nl ds er self : Addr} {l : List Nat} {sz off a b : Int}
/-- the question that charsUntil asks of each sign -/
def Ask (prog : Program) (w : World) (F : HL) (ch : AV) (p : Nat → Bool) : Prop := ∀ {n : Nat} {Γ : Act} {loc : Locs} {gs : Array GenState} {H : HL} {c : Nat} {t : Tok} {v : Value} {k : AV → St → Prop}, Gnd (K2 w.params) Γ → (∀ q ∈ F, q ∈ H) → Conc ch v → k (.bool (p c)) ⟨loc, H, gs⟩ → W prog w n Γ Conc (compareOp .In (.str ⟨[c].toArray⟩ t) v) ⟨loc, H, gs⟩ k
theorem seqIx {q n : Nat} (h : q < n) : seqIndex? (q : Int) n = some q := by
  unfold seqIndex?
  have : ¬ ((q : Int) < 0) := by omega
  simp [this, h]
theorem slc_mid {T : List Nat} {i j : Nat} (hij : i ≤ j) (hj : j ≤ T.length) : slc T (some (i : Int)) (some (j : Int)) = (T.drop i).take (j - i) := by
  unfold slc clipN
  dsimp only
  rw [if_neg (by omega), if_neg (by omega)]
  rw [show (max (0 : Int) (min (i : Int) (T.length : Int))).toNat = i by omega, show (max (0 : Int) (min (j : Int) (T.length : Int))).toNat = j by omega]
theorem slc_end {T : List Nat} {i : Nat} (hi : i ≤ T.length) : slc T (some (i : Int)) none = T.drop i := by
  unfold slc clipN
  dsimp only
  rw [if_neg (by omega)]
  rw [show (max (0 : Int) (min (i : Int) (T.length : Int))).toNat = i by omega, List.take_of_length_le (by simp)]
/-- up to a sign that stops, the sign is there -/
theorem sp_until (G : Gnd (K2 w.params) Γ) {T : List Nat} {ch : AV} {chv : Value} {o : Bool} {vs : List Value} {p : Nat → Bool} {i j : Nat} (tch : Tame ch) (cch : Conc ch chv) (hv : (vs = [.ref self, chv] ∧ o = false) ∨ vs = [.ref self, chv, .bool o])
    (ask : Ask prog w F ch p) (hz : T.length ≤ 10240) (hij : i ≤ j) (hj : j < T.length) (hx : ∀ q c, i ≤ q → q < j → T[q]? = some c → p c = o) (hs : ∀ c, T[j]? = some c → p c = !o)
    (h : k (.str ((T.drop i).take (j - i))) ⟨loc, (self, .inst 166 (strm m nl ds er T T.length j a b)) :: F, gs⟩) :
    WC prog w 4 Γ (.call (.ref 156) ⟨vs, []⟩) ⟨loc, (self, .inst 166 (strm m nl ds er T T.length i a b)) :: F, gs⟩ k := by
  refine' WC.fnE (us := [("rv", .unb), ("end", .unb), ("r", .unb)]) (ps := [("self", .ref self), ("characters", ch), ("opposite", .bool o)]) (binds := [("self", .ref self), ("characters", chv), ("opposite", .bool o)]) G ?ho ?hcd ?hbind ?hb ?hloc ?hu ?hnd ?hco ?hgen ?hk ?hcell ?h
  case ho => with_unfolding_all exact rfl
  case hbind =>
    rcases hv with ⟨rfl, rfl⟩ | rfl
    · exact fun s X => binds_K X rfl (by with_unfolding_all exact rfl) rfl rfl rfl
    · exact fun s X => binds_K X rfl (by with_unfolding_all exact rfl) rfl rfl rfl
  k_extra "fnD"
  case hb => exact .cons ⟨rfl, .ref _⟩ (.cons ⟨rfl, cch⟩ (.cons ⟨rfl, .bool _⟩ .nil))
  case h =>
    intro Γ' G' E'
    dsimp only [List.cons_append, List.nil_append]
    repeat k_extra "step"
    refine s_While (fun j' S => j' = 0 ∧ ∃ r e1 e2, S = ⟨[("self", .ref self), ("characters", ch), ("opposite", .bool o), ("rv", .ref r), ("end", e1), ("r", e2)], (r, .list []) :: (self, .inst 166 (strm m nl ds er T T.length i a b)) :: F, gs⟩) ?turn 0 ⟨rfl, _, _, _, rfl⟩
    rintro _ _ ⟨rfl, r, e1, e2, rfl⟩
    repeat k_extra "step"
    refine s_While (fun j' S => ∃ q, j' = j - q ∧ i ≤ q ∧ q ≤ j ∧ S = ⟨[("self", .ref self), ("characters", ch), ("opposite", .bool o), ("rv", .ref r), ("end", .int q), ("r", e2)], (r, .list []) :: (self, .inst 166 (strm m nl ds er T T.length i a b)) :: F, gs⟩) ?turn2 (j - i) ⟨i, rfl, Nat.le_refl _, hij, rfl⟩
    rintro _ _ ⟨q, rfl, hq1, hq2, rfl⟩
    have hql : q < T.length := by omega
    obtain ⟨c, hc⟩ : ∃ c, T[q]? = some c := ⟨T[q], by simp [hql]⟩
    have hix : seqIndex? (q : Int) T.length = some q := seqIx hql
    have hz' : T.length ≤ 1048576 := by omega
    rcases Nat.lt_or_ge q j with h6 | h6
    · have e0 : (p c == o) = true := by rw [hx q c hq1 h6 hc]; simp
      repeat k_extra "step"
      intro v cv
      refine ask G' (fun q hq => .tail _ (.tail _ hq)) cv ?_
      repeat k_extra "step"
      exact ⟨j - (q + 1), sub_dec h6, q + 1, rfl, by omega, by omega, rfl⟩
    · have h7 : q = j := by omega
      subst h7
      have e0 : (p c == o) = false := by rw [hs c hc]; cases o <;> rfl
      have es := slc_mid hij (Nat.le_of_lt hj)
      repeat k_extra "step"
      intro v cv
      refine ask G' (fun q hq => .tail _ (.tail _ hq)) cv ?_
      repeat k_extra "step"
      rcases Nat.lt_or_ge i q with h8 | h8
      · repeat k_extra "step"
        refine f_join (xs := [slc T (some (i : Int)) (some (q : Int))]) (by show (_, AO.list [AV.str _]) ∈ _; k_extra "mem") (by rw [es]; simp; omega) ?_
        repeat k_extra "step"
        apply q_end
        case h => rw [join_one, es]; exact h
        case p => k_extra "pick"
      · have h9 : i = q := by omega
        subst h9
        rw [Nat.sub_self, List.take_zero] at h
        repeat k_extra "step"
        refine f_join (xs := []) (by show (_, AO.list []) ∈ _; k_extra "mem") (by simp) ?_
        repeat k_extra "step"
        apply q_end
        case h => rw [join_none]; exact h
        case p => k_extra "pick"
/-- no sign that stops is left: all the rest, and the piece is read out -/
theorem sp_untilE (G : Gnd (K2 w.params) Γ) {T : List Nat} {ch : AV} {chv : Value} {o : Bool} {vs : List Value} {p : Nat → Bool} {i : Nat} (tch : Tame ch) (cch : Conc ch chv) (hv : (vs = [.ref self, chv] ∧ o = false) ∨ vs = [.ref self, chv, .bool o])
    (ask : Ask prog w F ch p) (hz : T.length ≤ 10240) (hn : 10 ∉ T) (hij : i ≤ T.length) (hx : ∀ q c, i ≤ q → T[q]? = some c → p c = o)
    (h : k (.str (T.drop i)) ⟨loc, (self, .inst 166 (strm m nl ds er [] 0 0 0 (T.length : Int))) :: (ds, .inst 73 [("text", .str T), ("place", .int T.length)]) :: F, gs⟩) :
    WC prog w 4 Γ (.call (.ref 156) ⟨vs, []⟩) ⟨loc, (self, .inst 166 (strm m nl ds er T T.length i 0 0)) :: (ds, .inst 73 [("text", .str T), ("place", .int T.length)]) :: F, gs⟩ k := by
  refine' WC.fnE (us := [("rv", .unb), ("end", .unb), ("r", .unb)]) (ps := [("self", .ref self), ("characters", ch), ("opposite", .bool o)]) (binds := [("self", .ref self), ("characters", chv), ("opposite", .bool o)]) G ?ho ?hcd ?hbind ?hb ?hloc ?hu ?hnd ?hco ?hgen ?hk ?hcell ?h
  case ho => with_unfolding_all exact rfl
  case hbind =>
    rcases hv with ⟨rfl, rfl⟩ | rfl
    · exact fun s X => binds_K X rfl (by with_unfolding_all exact rfl) rfl rfl rfl
    · exact fun s X => binds_K X rfl (by with_unfolding_all exact rfl) rfl rfl rfl
  k_extra "fnD"
  case hb => exact .cons ⟨rfl, .ref _⟩ (.cons ⟨rfl, cch⟩ (.cons ⟨rfl, .bool _⟩ .nil))
  case h =>
    intro Γ' G' E'
    dsimp only [List.cons_append, List.nil_append]
    repeat k_extra "step"
    refine s_While (fun j' S => j' = 0 ∧ ∃ r e1 e2, S = ⟨[("self", .ref self), ("characters", ch), ("opposite", .bool o), ("rv", .ref r), ("end", e1), ("r", e2)], (r, .list []) :: (self, .inst 166 (strm m nl ds er T T.length i 0 0)) :: (ds, .inst 73 [("text", .str T), ("place", .int T.length)]) :: F, gs⟩) ?turn 0 ⟨rfl, _, _, _, rfl⟩
    rintro _ _ ⟨rfl, r, e1, e2, rfl⟩
    repeat k_extra "step"
    refine s_While (fun j' S => ∃ q, j' = T.length - q ∧ i ≤ q ∧ q ≤ T.length ∧ S = ⟨[("self", .ref self), ("characters", ch), ("opposite", .bool o), ("rv", .ref r), ("end", .int q), ("r", e2)], (r, .list []) :: (self, .inst 166 (strm m nl ds er T T.length i 0 0)) :: (ds, .inst 73 [("text", .str T), ("place", .int T.length)]) :: F, gs⟩) ?turn2 (T.length - i) ⟨i, rfl, Nat.le_refl _, hij, rfl⟩
    rintro _ _ ⟨q, rfl, hq1, hq2, rfl⟩
    have hz' : T.length ≤ 1048576 := by omega
    rcases Nat.lt_or_ge q T.length with h6 | h6
    · obtain ⟨c, hc⟩ : ∃ c, T[q]? = some c := ⟨T[q], by simp [h6]⟩
      have hix : seqIndex? (q : Int) T.length = some q := seqIx h6
      have e0 : (p c == o) = true := by rw [hx q c hq1 hc]; simp
      repeat k_extra "step"
      intro v cv
      refine ask G' (fun q hq => .tail _ (.tail _ (.tail _ hq))) cv ?_
      repeat k_extra "step"
      exact ⟨T.length - (q + 1), sub_dec h6, q + 1, rfl, by omega, by omega, rfl⟩
    · have h7 : q = T.length := by omega
      subst h7
      have es := slc_end hij
      have hz1 : (List.drop i T).length ≤ T.length := by simp
      repeat k_extra "step"
      rcases Nat.lt_or_ge i T.length with h8 | h8
      · repeat k_extra "step"
        refine f_join (xs := [slc T (some (i : Int)) none]) (by show (_, AO.list [AV.str _]) ∈ _; k_extra "mem") (by rw [es]; simp; omega) ?_
        repeat k_extra "step"
        apply q_end
        case h => rw [join_one, es]; exact h
        case p => k_extra "pick"
      · have h9 : i = T.length := by omega
        subst h9
        repeat k_extra "step"
        refine f_join (xs := [slc T (some (T.length : Int)) none]) (by show (_, AO.list [AV.str _]) ∈ _; k_extra "mem") (by rw [es]; simp) ?_
        repeat k_extra "step"
        apply q_end
        case h => rw [join_one, es]; exact h
        case p => k_extra "pick"
end
end Mine
end
section
open PySem PySem.W PySem.Calls PyProof.Rows
namespace Mine
abbrev tokT : List (Str × AV) := [("Doctype", .int 0), ("Characters", .int 1), ("SpaceCharacters", .int 2), ("StartTag", .int 3), ("EndTag", .int 4), ("EmptyTag", .int 5), ("Comment", .int 6), ("ParseError", .int 7)]
theorem sd_tok (P : Params) : StatD (K2 P) P 48 tokT := by
  refine ⟨_, _, by with_unfolding_all rfl, ?_, of_decide_eq_true (by kernel_rfl)⟩
  exact .cons (.int _ _) (.cons (.int _ _) (.cons (.int _ _) (.cons (.int _ _) (.cons (.int _ _) (.cons (.int _ _) (.cons (.int _ _) (.cons (.int _ _) .nil)))))))
theorem st_let (P : Params) : strTup (K2 P) 27 = some letL := by kernel_rfl
theorem st_sp (P : Params) : strTup (K2 P) 22 = some spL := by kernel_rfl
theorem st_tag (P : Params) : intTup (K2 P) 49 = some [3, 4, 5] := by kernel_rfl
example : True := by
  k_with "spec" => (apply call_sp; (case' h => apply sp_position); (case G => assumption); (case pck => k_extra "pick"); (case hn => k_extra "side"); (case hm => decide); intro _)
  trivial
section
variable {prog : Program} {w : World} {n : Nat} {Γ : Act} {loc : Locs} {gs : Array GenState} {H F : HL} {k : AV → St → Prop} {t u : Tok}
variable {m nl ds er self : Addr} {l : List Nat} {sz off a b : Int}
theorem sp_pos (G : Gnd (K2 w.params) Γ) (hn : 10 ∉ l) (h : ∀ r, k (.ref r) ⟨loc, (r, .tuple [.int (a + 0 + 1), .int (b + off)]) :: (self, .inst 166 (strm m nl ds er l sz off a b)) :: F, gs⟩) :
    WC prog w 2 Γ (.call (.ref 126) ⟨[.ref self], []⟩) ⟨loc, (self, .inst 166 (strm m nl ds er l sz off a b)) :: F, gs⟩ k := by
  refine' WC.fnE (us := [("line", .unb), ("col", .unb)]) (ps := [("self", .ref self)]) G ?ho ?hcd ?hbind ?hb ?hloc ?hu ?hnd ?hco ?hgen ?hk ?hcell ?h
  k_extra "fn"
  case hb => exact .cons ⟨rfl, .ref _⟩ .nil
  case h =>
    intro Γ' G' E'
    dsimp only [List.cons_append, List.nil_append]
    repeat k_extra "step"
    refine q_end ?_ (h _)
    k_extra "pick"
theorem sp_unget (G : Gnd (K2 w.params) Γ) {i c : Nat} (hc : l[i]? = some c) (hz : l.length ≤ 100000) (h : k .none ⟨loc, (self, .inst 166 (strm m nl ds er l sz i a b)) :: F, gs⟩) :
    WC prog w 1 Γ (.call (.ref 163) ⟨[.ref self, .str ⟨[c].toArray⟩ t], []⟩) ⟨loc, (self, .inst 166 (strm m nl ds er l sz (i + 1) a b)) :: F, gs⟩ k := by
  have hi : i < l.length := by
    rcases Nat.lt_or_ge i l.length with q | q
    · exact q
    · rw [List.getElem?_eq_none q] at hc; cases hc
  have hix : seqIndex? ((i : Int) + 1 - 1) l.length = some i := by rw [show (i : Int) + 1 - 1 = i by omega]; exact seqIx hi
  have e1 : ((i : Int) + 1 - 1) = i := by omega
  have e0 : ([c] == [c]) = true := by simp
  refine' WC.fnE (us := []) (ps := [("self", .ref self), ("char", .str [c])]) G ?ho ?hcd ?hbind ?hb ?hloc ?hu ?hnd ?hco ?hgen ?hk ?hcell ?h
  k_extra "fn"
  case hb => exact .cons ⟨rfl, .ref _⟩ (.cons ⟨rfl, .str _ _⟩ .nil)
  case h =>
    intro Γ' G' E'
    dsimp only [List.cons_append, List.nil_append]
    repeat k_extra "step"
    rw [e1]
    refine q_fall ?_ h
    k_extra "pick"
theorem sp_mkText (G : Gnd (K2 w.params) Γ) {T : List Nat} (h : ∀ x, k (.ref x) ⟨loc, (x, .inst 73 [("text", .str T), ("place", .int 0)]) :: F, gs⟩) : WC prog w 2 Γ (.call (.ref 73) ⟨[.str ⟨T.toArray⟩ t], []⟩) ⟨loc, F, gs⟩ k := by
  refine WC.make (fI := 63) G (mk_Text _) fun x => ?_
  refine' WC.fnE (us := []) (ps := [("self", .ref x), ("text", .str T)]) G ?ho ?hcd ?hbind ?hb ?hloc ?hu ?hnd ?hco ?hgen ?hk ?hcell ?h
  k_extra "fn"
  case hb => exact .cons ⟨rfl, .ref _⟩ (.cons ⟨rfl, .str _ _⟩ .nil)
  case h =>
    intro Γ' G' E'
    dsimp only [List.cons_append, List.nil_append]
    repeat k_extra "step"
    apply q_fall
    case' h => refine ⟨rfl, ?_⟩; apply h
    case p => k_extra "pick"
example : True := by
  k_with "spec" => (apply call_sp; (case' h => apply sp_mkText); (case G => assumption); (case pck => k_extra "pick"); (case hm => decide); intro _)
  trivial
theorem sp_open (G : Gnd (K2 w.params) Γ) {T : List Nat} {s : Addr} (h : ∀ x, k (.ref x) ⟨loc, (x, .inst 73 [("text", .str T), ("place", .int 0)]) :: F, gs⟩) : WC prog w 3 Γ (.call (.ref 112) ⟨[.ref s, .str ⟨T.toArray⟩ t], []⟩) ⟨loc, F, gs⟩ k := by
  refine' WC.fnE (us := [("stream", .unb)]) (ps := [("self", .ref s), ("source", .str T)]) G ?ho ?hcd ?hbind ?hb ?hloc ?hu ?hnd ?hco ?hgen ?hk ?hcell ?h
  k_extra "fn"
  case hb => exact .cons ⟨rfl, .ref _⟩ (.cons ⟨rfl, .str _ _⟩ .nil)
  case h =>
    intro Γ' G' E'
    dsimp only [List.cons_append, List.nil_append]
    repeat k_extra "step"
    refine q_end ?_ (h _)
    k_extra "pick"
theorem sp_reset (G : Gnd (K2 w.params) Γ) (h : ∀ er, k .none ⟨loc, (self, .inst 166 (strm m nl ds er [] 0 0 0 0)) :: (er, .list []) :: F, gs⟩) :
    WC prog w 1 Γ (.call (.ref 105) ⟨[.ref self], []⟩) ⟨loc, (self, .inst 166 [("reportCharacterErrors", .ref m), ("newLines", .ref nl), ("dataStream", .ref ds)]) :: F, gs⟩ k := by
  refine' WC.fnE (us := []) (ps := [("self", .ref self)]) G ?ho ?hcd ?hbind ?hb ?hloc ?hu ?hnd ?hco ?hgen ?hk ?hcell ?h
  k_extra "fn"
  case hb => exact .cons ⟨rfl, .ref _⟩ .nil
  case h =>
    intro Γ' G' E'
    dsimp only [List.cons_append, List.nil_append]
    repeat k_extra "step"
    apply q_fall
    case' h => apply h
    case p => k_extra "pick"
example : True := by
  k_with "spec" => (apply call_sp; (case' h => apply sp_open); (case G => assumption); (case pck => k_extra "pick"); (case hm => decide); intro _)
  k_with "spec" => (apply call_sp; (case' h => apply sp_reset); (case G => assumption); (case pck => k_extra "pick"); (case hm => decide); intro _)
  trivial
/-- the stream is made -/
theorem sp_mkStr (G : Gnd (K2 w.params) Γ) {T : List Nat} (h : ∀ s m nl ds er, k (.ref s) ⟨loc, (s, .inst 166 (strm m nl ds er [] 0 0 0 0)) :: (ds, .inst 73 [("text", .str T), ("place", .int 0)]) :: (m, .meth 148 s) :: (er, .list []) :: F, gs⟩) : WC prog w 5 Γ (.call (.ref 166) ⟨[.str ⟨T.toArray⟩ t], []⟩) ⟨loc, F, gs⟩ k := by
  refine WC.make (fI := 98) G (mk_HTMLUnicodeInputStream _) fun x => ?_
  refine' WC.fnE (us := []) (ps := [("self", .ref x), ("source", .str T)]) G ?ho ?hcd ?hbind ?hb ?hloc ?hu ?hnd ?hco ?hgen ?hk ?hcell ?h
  k_extra "fn"
  case hb => exact .cons ⟨rfl, .ref _⟩ (.cons ⟨rfl, .str _ _⟩ .nil)
  case h =>
    intro Γ' G' E'
    dsimp only [List.cons_append, List.nil_append]
    repeat k_extra "step"
    apply q_fall
    case' h => refine ⟨rfl, ?_⟩; apply h
    case p => k_extra "pick"
end
end Mine
end
section
open PySem PySem.W PySem.Calls PyProof.Rows
namespace Mine
section
variable {prog : Program} {w : World} {n : Nat} {Γ : Act} {loc : Locs} {gs : Array GenState} {H F : HL} {k : AV → St → Prop} {t u : Tok}
variable {m nl ds er self s l4 bm tq : Addr} {ct : AV} {l T : List Nat} {sz off a b : Int} {q : List AV}
/-- the tokenizer's own entries -/
abbrev tokz (s l4 bm : Addr) (ct : AV) (tq : Addr) : List (Str × AV) := [("stream", .ref s), ("parser", .none), ("escapeFlag", .bool false), ("lastFourChars", .ref l4), ("state", .ref bm), ("escape", .bool false), ("currentToken", ct), ("tokenQueue", .ref tq)]
theorem sp_charO (G : Gnd (K2 w.params) Γ) {i c : Nat} (ho : off = (i : Int)) (hc : l[i]? = some c) (hz : l.length ≤ 10240) (h : k (.str [c]) ⟨loc, (self, .inst 166 (strm m nl ds er l l.length ((i : Int) + 1) a b)) :: F, gs⟩) :
    WC prog w 1 Γ (.call (.ref 133) ⟨[.ref self], []⟩) ⟨loc, (self, .inst 166 (strm m nl ds er l l.length off a b)) :: F, gs⟩ k := by
  subst ho; exact sp_char G hc (by omega) h
theorem sp_untilO (G : Gnd (K2 w.params) Γ) {ch : AV} {chv : Value} {p : Nat → Bool} {i j : Nat} (cch : Conc ch chv) (tch : Tame ch)
    (ask : Ask prog w F ch p) (ho : off = (i : Int)) (hz : l.length ≤ 10240) (hx : ∀ q c, i ≤ q → q < j → l[q]? = some c → p c = false) (hij : i ≤ j) (hj : j < l.length) (hs : ∀ c, l[j]? = some c → p c = true)
    (h : k (.str ((l.drop i).take (j - i))) ⟨loc, (self, .inst 166 (strm m nl ds er l l.length j a b)) :: F, gs⟩) :
    WC prog w 4 Γ (.call (.ref 156) ⟨[.ref self, chv], []⟩) ⟨loc, (self, .inst 166 (strm m nl ds er l l.length off a b)) :: F, gs⟩ k := by
  subst ho; exact sp_until G tch cch (.inl ⟨rfl, rfl⟩) ask hz hij hj hx hs h
theorem sp_untilT (G : Gnd (K2 w.params) Γ) {ch : AV} {chv : Value} {p : Nat → Bool} {i j : Nat} (cch : Conc ch chv) (tch : Tame ch)
    (ask : Ask prog w F ch p) (ho : off = (i : Int)) (hz : l.length ≤ 10240) (hx : ∀ q c, i ≤ q → q < j → l[q]? = some c → p c = true) (hij : i ≤ j) (hj : j < l.length) (hs : ∀ c, l[j]? = some c → p c = false)
    (h : k (.str ((l.drop i).take (j - i))) ⟨loc, (self, .inst 166 (strm m nl ds er l l.length j a b)) :: F, gs⟩) :
    WC prog w 4 Γ (.call (.ref 156) ⟨[.ref self, chv, .bool true], []⟩) ⟨loc, (self, .inst 166 (strm m nl ds er l l.length off a b)) :: F, gs⟩ k := by
  subst ho; exact sp_until G tch cch (.inr rfl) ask hz hij hj hx hs h
theorem sp_untilEO (G : Gnd (K2 w.params) Γ) {ch : AV} {chv : Value} {p : Nat → Bool} {i : Nat} (cch : Conc ch chv) (tch : Tame ch)
    (ask : Ask prog w F ch p) (ho : off = (i : Int)) (hz : l.length ≤ 10240) (hn : 10 ∉ l) (hx : ∀ q c, i ≤ q → l[q]? = some c → p c = false) (hij : i ≤ l.length)
    (h : k (.str (l.drop i)) ⟨loc, (self, .inst 166 (strm m nl ds er [] 0 0 0 (l.length : Int))) :: (ds, .inst 73 [("text", .str l), ("place", .int l.length)]) :: F, gs⟩) :
    WC prog w 4 Γ (.call (.ref 156) ⟨[.ref self, chv], []⟩) ⟨loc, (self, .inst 166 (strm m nl ds er l l.length off 0 0)) :: (ds, .inst 73 [("text", .str l), ("place", .int l.length)]) :: F, gs⟩ k := by
  subst ho; exact sp_untilE G tch cch (.inl ⟨rfl, rfl⟩) ask hz hn hij hx h
theorem sp_ungetO (G : Gnd (K2 w.params) Γ) {i c : Nat} (ho : off = ((i : Int) + 1)) (hc : l[i]? = some c) (hz : l.length ≤ 10240) (h : k .none ⟨loc, (self, .inst 166 (strm m nl ds er l sz i a b)) :: F, gs⟩) :
    WC prog w 1 Γ (.call (.ref 163) ⟨[.ref self, .str ⟨[c].toArray⟩ t], []⟩) ⟨loc, (self, .inst 166 (strm m nl ds er l sz off a b)) :: F, gs⟩ k := by
  subst ho; exact sp_unget G hc (by omega) h
theorem ask_str {x : List Nat} : Ask prog w F (.str x) (fun c => decide (c ∈ x)) := fun {n Γ loc gs H c t v k} G hs cv h => by
  cases cv
  exact q_inC h
theorem ask_tup {tp : Addr} {x : List (List Nat)} (hm : (tp, AO.tuple (x.map .str)) ∈ F) : Ask prog w F (.ref tp) (fun c => decide ([c] ∈ x)) := fun {n Γ loc gs H c t v k} G hs cv h => by
  cases cv
  refine q_inT (hs _ hm) (fun y hy => by obtain ⟨l, _, rfl⟩ := List.mem_map.mp hy; exact .str) (.str (l := [c])) (.str [c] t) ?_
  rw [any_str]; exact h
theorem ask_tup2 {tp : Addr} {x y : Nat} (hm : (tp, AO.tuple [AV.str [x], AV.str [y]]) ∈ F) : Ask prog w F (.ref tp) (fun c => decide ([c] ∈ [[x], [y]])) := ask_tup (x := [[x], [y]]) hm
theorem ask_let : Ask prog w F (.ref 27) isLet := fun {n Γ loc gs H c t v k} G hs cv h => by
  cases cv
  exact q_let G (st_let _) h
example : True := by
  k_with "ask" => with_reducible first | exact ask_str | exact ask_let | (apply ask_tup2; (case hm => k_extra "mem"))
  k_with "ofs" => with_reducible first | exact rfl | assumption
  k_with "spec" => (apply call_sp; (case' h => apply sp_charO); (case G => assumption); (case pck => k_extra "pick"); (case ho => k_extra "ofs"); (case hc => assumption); (case hz => assumption); (case hm => decide))
  k_with "spec" => (apply call_sp; (case' h => apply sp_ungetO); (case G => assumption); (case pck => k_extra "pick"); (case ho => k_extra "ofs"); (case hc => assumption); (case hz => assumption); (case hm => decide))
  k_with "spec" => (apply call_sp; (case' h => apply sp_untilO); (case G => assumption); (case cch => k_extra "conc"); (case tch => k_extra "tame"); (case pck => k_extra "pick"); (case ask => k_extra "ask"); (case ho => k_extra "ofs"); (case hz => assumption); (case hx => assumption); (case hij => k_extra "side"); (case hj => k_extra "side"); (case hs => assumption); (case hm => decide))
  k_with "spec" => (apply call_sp; (case' h => apply sp_untilT); (case G => assumption); (case cch => k_extra "conc"); (case tch => k_extra "tame"); (case pck => k_extra "pick"); (case ask => k_extra "ask"); (case ho => k_extra "ofs"); (case hz => assumption); (case hx => assumption); (case hij => k_extra "side"); (case hj => k_extra "side"); (case hs => assumption); (case hm => decide))
  k_with "spec" => (apply call_sp; (case' h => apply sp_untilEO); (case G => assumption); (case cch => k_extra "conc"); (case tch => k_extra "tame"); (case pck => k_extra "pick"); (case ask => k_extra "ask"); (case ho => k_extra "ofs"); (case hz => assumption); (case hn => assumption); (case hx => assumption); (case hij => k_extra "side"); (case hm => decide))
  trivial
theorem st_data_lt (G : Gnd (K2 w.params) Γ) {i : Nat} (hz : l.length ≤ 10240) (hc : l[i]? = some 60)  (h : ∀ bm, k (.bool true) ⟨loc, (self, .inst 762 (tokz s l4 bm ct tq)) :: (s, .inst 166 (strm m nl ds er l l.length ((i : Int) + 1) a b)) :: (bm, .meth 353 self) :: F, gs⟩) :
    WC prog w 5 Γ (.call (.ref 304) ⟨[.ref self], []⟩) ⟨loc, (self, .inst 762 (tokz s l4 bm ct tq)) :: (s, .inst 166 (strm m nl ds er l l.length i a b)) :: F, gs⟩ k := by
  refine' WC.fnE (us := [("data", .unb), ("chars", .unb)]) (ps := [("self", .ref self)]) G ?ho ?hcd ?hbind ?hb ?hloc ?hu ?hnd ?hco ?hgen ?hk ?hcell ?h
  k_extra "fn"
  case hb => exact .cons ⟨rfl, .ref _⟩ .nil
  case h =>
    intro Γ' G' E'
    dsimp only [List.cons_append, List.nil_append]
    repeat k_extra "step"
    apply q_end
    case' h => apply h
    case p => k_extra "pick"
theorem st_tago_b (G : Gnd (K2 w.params) Γ) {i : Nat} (hz : l.length ≤ 10240) (hc : l[i]? = some 33)  (h : ∀ bm, k (.bool true) ⟨loc, (self, .inst 762 (tokz s l4 bm ct tq)) :: (s, .inst 166 (strm m nl ds er l l.length ((i : Int) + 1) a b)) :: (bm, .meth 605 self) :: F, gs⟩) :
    WC prog w 5 Γ (.call (.ref 353) ⟨[.ref self], []⟩) ⟨loc, (self, .inst 762 (tokz s l4 bm ct tq)) :: (s, .inst 166 (strm m nl ds er l l.length i a b)) :: F, gs⟩ k := by
  refine' WC.fnE (us := [("data", .unb)]) (ps := [("self", .ref self)]) G ?ho ?hcd ?hbind ?hb ?hloc ?hu ?hnd ?hco ?hgen ?hk ?hcell ?h
  k_extra "fn"
  case hb => exact .cons ⟨rfl, .ref _⟩ .nil
  case h =>
    intro Γ' G' E'
    dsimp only [List.cons_append, List.nil_append]
    repeat k_extra "step"
    apply q_end
    case' h => apply h
    case p => k_extra "pick"
theorem st_tago_q (G : Gnd (K2 w.params) Γ) {i : Nat} (hz : l.length ≤ 10240) (hc : l[i]? = some 63)  (h : ∀ bm tk, k (.bool true) ⟨loc, (self, .inst 762 (tokz s l4 bm ct tq)) :: (s, .inst 166 (strm m nl ds er l l.length i a b)) :: (tq, .list [.ref tk]) :: (tk, .dict [("type", .int 7), ("data", .str [101, 120, 112, 101, 99, 116, 101, 100, 45, 116, 97, 103, 45, 110, 97, 109, 101, 45, 98, 117, 116, 45, 103, 111, 116, 45, 113, 117, 101, 115, 116, 105, 111, 110, 45, 109, 97, 114, 107])]) :: (bm, .meth 598 self) :: F, gs⟩) :
    WC prog w 5 Γ (.call (.ref 353) ⟨[.ref self], []⟩) ⟨loc, (self, .inst 762 (tokz s l4 bm ct tq)) :: (s, .inst 166 (strm m nl ds er l l.length i a b)) :: (tq, .list []) :: F, gs⟩ k := by
  refine' WC.fnE (us := [("data", .unb)]) (ps := [("self", .ref self)]) G ?ho ?hcd ?hbind ?hb ?hloc ?hu ?hnd ?hco ?hgen ?hk ?hcell ?h
  k_extra "fn"
  case hb => exact .cons ⟨rfl, .ref _⟩ .nil
  case h =>
    intro Γ' G' E'
    dsimp only [List.cons_append, List.nil_append]
    repeat k_extra "step"
    apply q_end
    case' h => apply h
    case p => k_extra "pick"
theorem st_tago_l (G : Gnd (K2 w.params) Γ) {i : Nat} (hz : l.length ≤ 10240) {c : Nat} (hc : l[i]? = some c) (hl : isLet c = true) (h33 : c ≠ 33) (h47 : c ≠ 47)  (h : ∀ bm tk dl, k (.bool true) ⟨loc, (self, .inst 762 (tokz s l4 bm (.ref tk) tq)) :: (s, .inst 166 (strm m nl ds er l l.length ((i : Int) + 1) a b)) :: (tk, .dict [("type", .int 3), ("name", .str [c]), ("data", .ref dl), ("selfClosing", .bool false), ("selfClosingAcknowledged", .bool false)]) :: (dl, .list []) :: (bm, .meth 367 self) :: F, gs⟩) :
    WC prog w 5 Γ (.call (.ref 353) ⟨[.ref self], []⟩) ⟨loc, (self, .inst 762 (tokz s l4 bm ct tq)) :: (s, .inst 166 (strm m nl ds er l l.length i a b)) :: F, gs⟩ k := by
  refine' WC.fnE (us := [("data", .unb)]) (ps := [("self", .ref self)]) G ?ho ?hcd ?hbind ?hb ?hloc ?hu ?hnd ?hco ?hgen ?hk ?hcell ?h
  k_extra "fn"
  case hb => exact .cons ⟨rfl, .ref _⟩ .nil
  case h =>
    intro Γ' G' E'
    dsimp only [List.cons_append, List.nil_append]
    repeat k_extra "step"
    apply q_end
    case' h => apply h
    case p => k_extra "pick"
theorem st_mark (G : Gnd (K2 w.params) Γ) {i : Nat} (hz : l.length ≤ 10240) (hc : l[i]? = some 45) (hc2 : l[i+1]? = some 45)  (h : ∀ bm tk, k (.bool true) ⟨loc, (self, .inst 762 (tokz s l4 bm (.ref tk) tq)) :: (s, .inst 166 (strm m nl ds er l l.length (((i + 1 : Nat) : Int) + 1) a b)) :: (tk, .dict [("type", .int 6), ("data", .str [])]) :: (bm, .meth 612 self) :: F, gs⟩) :
    WC prog w 5 Γ (.call (.ref 605) ⟨[.ref self], []⟩) ⟨loc, (self, .inst 762 (tokz s l4 bm ct tq)) :: (s, .inst 166 (strm m nl ds er l l.length i a b)) :: F, gs⟩ k := by
  have e1 : (i : Int) + 1 = ((i + 1 : Nat) : Int) := by omega
  refine' WC.fnE (us := [("charStack", .unb), ("matched", .unb), ("expected", .unb)]) (ps := [("self", .ref self)]) G ?ho ?hcd ?hbind ?hb ?hloc ?hu ?hnd ?hco ?hgen ?hk ?hcell ?h
  k_extra "fn"
  case hb => exact .cons ⟨rfl, .ref _⟩ .nil
  case h =>
    intro Γ' G' E'
    dsimp only [List.cons_append, List.nil_append]
    repeat k_extra "step"
    apply q_end
    case' h => apply h
    case p => k_extra "pick"
theorem st_cst (G : Gnd (K2 w.params) Γ) {i : Nat} (hz : l.length ≤ 10240) {tk : Addr} {c : Nat} (hc : l[i]? = some c) (h45 : c ≠ 45) (h62 : c ≠ 62) (h0 : c ≠ 0) (hT : T.length ≤ 10240)  (h : ∀ bm, k (.bool true) ⟨loc, (self, .inst 762 (tokz s l4 bm (.ref tk) tq)) :: (s, .inst 166 (strm m nl ds er l l.length ((i : Int) + 1) a b)) :: (tk, .dict [("type", .int 6), ("data", .str (T ++ [c]))]) :: (bm, .meth 626 self) :: F, gs⟩) :
    WC prog w 5 Γ (.call (.ref 612) ⟨[.ref self], []⟩) ⟨loc, (self, .inst 762 (tokz s l4 bm (.ref tk) tq)) :: (s, .inst 166 (strm m nl ds er l l.length i a b)) :: (tk, .dict [("type", .int 6), ("data", .str T)]) :: F, gs⟩ k := by
  refine' WC.fnE (us := [("data", .unb)]) (ps := [("self", .ref self)]) G ?ho ?hcd ?hbind ?hb ?hloc ?hu ?hnd ?hco ?hgen ?hk ?hcell ?h
  k_extra "fn"
  case hb => exact .cons ⟨rfl, .ref _⟩ .nil
  case h =>
    intro Γ' G' E'
    dsimp only [List.cons_append, List.nil_append]
    repeat k_extra "step"
    apply q_end
    case' h => apply h
    case p => k_extra "pick"
theorem st_com_c (G : Gnd (K2 w.params) Γ) {i : Nat} (hz : l.length ≤ 10240) {tk : Addr} {c j : Nat} (hc : l[i]? = some c) (h45 : c ≠ 45) (h0 : c ≠ 0) (hT : T.length ≤ 10240) (hx : ∀ q c, i + 1 ≤ q → q < j → l[q]? = some c → decide ([c] ∈ [[45], [0]]) = false) (hij : i + 1 ≤ j) (hj : j < l.length) (hs : ∀ c, l[j]? = some c → decide ([c] ∈ [[45], [0]]) = true)  (h : k (.bool true) ⟨loc, (self, .inst 762 (tokz s l4 bm (.ref tk) tq)) :: (s, .inst 166 (strm m nl ds er l l.length j a b)) :: (tk, .dict [("type", .int 6), ("data", .str (T ++ ([c] ++ (l.drop (i + 1)).take (j - (i + 1)))))]) :: F, gs⟩) :
    WC prog w 5 Γ (.call (.ref 626) ⟨[.ref self], []⟩) ⟨loc, (self, .inst 762 (tokz s l4 bm (.ref tk) tq)) :: (s, .inst 166 (strm m nl ds er l l.length i a b)) :: (tk, .dict [("type", .int 6), ("data", .str T)]) :: F, gs⟩ k := by
  have e1 : (i : Int) + 1 = ((i + 1 : Nat) : Int) := by omega
  have hd : ((l.drop (i + 1)).take (j - (i + 1))).length ≤ l.length := by simp; omega
  refine' WC.fnE (us := [("data", .unb)]) (ps := [("self", .ref self)]) G ?ho ?hcd ?hbind ?hb ?hloc ?hu ?hnd ?hco ?hgen ?hk ?hcell ?h
  k_extra "fn"
  case hb => exact .cons ⟨rfl, .ref _⟩ .nil
  case h =>
    intro Γ' G' E'
    dsimp only [List.cons_append, List.nil_append]
    repeat k_extra "step"
    apply q_end
    case' h => apply h
    case p => k_extra "pick"
theorem st_com_d (G : Gnd (K2 w.params) Γ) {i : Nat} (hz : l.length ≤ 10240) (hc : l[i]? = some 45)  (h : ∀ bm, k (.bool true) ⟨loc, (self, .inst 762 (tokz s l4 bm ct tq)) :: (s, .inst 166 (strm m nl ds er l l.length ((i : Int) + 1) a b)) :: (bm, .meth 633 self) :: F, gs⟩) :
    WC prog w 5 Γ (.call (.ref 626) ⟨[.ref self], []⟩) ⟨loc, (self, .inst 762 (tokz s l4 bm ct tq)) :: (s, .inst 166 (strm m nl ds er l l.length i a b)) :: F, gs⟩ k := by
  refine' WC.fnE (us := [("data", .unb)]) (ps := [("self", .ref self)]) G ?ho ?hcd ?hbind ?hb ?hloc ?hu ?hnd ?hco ?hgen ?hk ?hcell ?h
  k_extra "fn"
  case hb => exact .cons ⟨rfl, .ref _⟩ .nil
  case h =>
    intro Γ' G' E'
    dsimp only [List.cons_append, List.nil_append]
    repeat k_extra "step"
    apply q_end
    case' h => apply h
    case p => k_extra "pick"
theorem st_ced (G : Gnd (K2 w.params) Γ) {i : Nat} (hz : l.length ≤ 10240) (hc : l[i]? = some 45)  (h : ∀ bm, k (.bool true) ⟨loc, (self, .inst 762 (tokz s l4 bm ct tq)) :: (s, .inst 166 (strm m nl ds er l l.length ((i : Int) + 1) a b)) :: (bm, .meth 640 self) :: F, gs⟩) :
    WC prog w 5 Γ (.call (.ref 633) ⟨[.ref self], []⟩) ⟨loc, (self, .inst 762 (tokz s l4 bm ct tq)) :: (s, .inst 166 (strm m nl ds er l l.length i a b)) :: F, gs⟩ k := by
  refine' WC.fnE (us := [("data", .unb)]) (ps := [("self", .ref self)]) G ?ho ?hcd ?hbind ?hb ?hloc ?hu ?hnd ?hco ?hgen ?hk ?hcell ?h
  k_extra "fn"
  case hb => exact .cons ⟨rfl, .ref _⟩ .nil
  case h =>
    intro Γ' G' E'
    dsimp only [List.cons_append, List.nil_append]
    repeat k_extra "step"
    apply q_end
    case' h => apply h
    case p => k_extra "pick"
theorem st_ce (G : Gnd (K2 w.params) Γ) {i : Nat} (hz : l.length ≤ 10240) {tk : Addr} (hc : l[i]? = some 62)  (h : ∀ bm, k (.bool true) ⟨loc, (self, .inst 762 (tokz s l4 bm (.ref tk) tq)) :: (s, .inst 166 (strm m nl ds er l l.length ((i : Int) + 1) a b)) :: (tq, .list [.ref tk]) :: (bm, .meth 304 self) :: F, gs⟩) :
    WC prog w 5 Γ (.call (.ref 640) ⟨[.ref self], []⟩) ⟨loc, (self, .inst 762 (tokz s l4 bm (.ref tk) tq)) :: (s, .inst 166 (strm m nl ds er l l.length i a b)) :: (tq, .list []) :: F, gs⟩ k := by
  refine' WC.fnE (us := [("data", .unb)]) (ps := [("self", .ref self)]) G ?ho ?hcd ?hbind ?hb ?hloc ?hu ?hnd ?hco ?hgen ?hk ?hcell ?h
  k_extra "fn"
  case hb => exact .cons ⟨rfl, .ref _⟩ .nil
  case h =>
    intro Γ' G' E'
    dsimp only [List.cons_append, List.nil_append]
    repeat k_extra "step"
    apply q_end
    case' h => apply h
    case p => k_extra "pick"
end
end Mine
end
section
open PySem PySem.W PySem.Calls PyProof.Rows
namespace Mine
section
variable {prog : Program} {w : World} {n : Nat} {Γ : Act} {loc : Locs} {gs : Array GenState} {H F : HL} {k : AV → St → Prop} {t u : Tok}
variable {m nl ds er self s l4 bm tq : Addr} {ct : AV} {l T : List Nat} {sz off a b : Int} {q : List AV}
/-- a letter in small -/
def low (c : Nat) : Nat := if 65 ≤ c ∧ c ≤ 90 then c + 32 else c
theorem glue_map (f : Nat → Nat) (T : List Nat) : (Txt.join (mkS []) ((T.map fun c => [f c]).map mkS)).cps.toList = T.map f := by
  have key : ∀ (T : List Nat) (acc : Array Nat), ((T.map fun c => [f c]).map mkS).foldl (fun acc p => acc ++ (mkS []).cps ++ p.cps) acc = acc ++ (T.map f).toArray := by
    intro T
    induction T with
    | nil => intro acc; simp
    | cons a r ih => intro acc; rw [List.map_cons, List.map_cons, List.foldl_cons, ih]; simp
  show (Builtin.Str.glued _ _).cps.toList = _
  cases T with
  | nil => rfl
  | cons a r =>
    unfold Builtin.Str.glued
    rw [List.map_cons, List.map_cons, List.drop_succ_cons, List.drop_zero, key]
    simp
theorem lt_one (a b : Nat) : decide (([a] : List Nat) < [b]) = decide (a < b) := by
  rw [decide_eq_decide]
  constructor
  · intro h; cases h with
    | rel h => exact h
    | cons h => cases h
  · intro h; exact .rel h
theorem low_if (c : Nat) : (bif (!decide (([c] : List Nat) < [65]) && !decide (([90] : List Nat) < [c])) then AV.str [((c : Int) + 32).toNat] else AV.str [c]) = AV.str [low c] := by
  rw [lt_one, lt_one]
  unfold low
  by_cases h : 65 ≤ c ∧ c ≤ 90
  · rw [if_pos h, decide_eq_false (by omega), decide_eq_false (by omega)]
    show AV.str [((c : Int) + 32).toNat] = _
    rw [show ((c : Int) + 32).toNat = c + 32 by omega]
  · rw [if_neg h]
    by_cases h1 : c < 65
    · rw [decide_eq_true h1]; rfl
    · rw [decide_eq_true (show 90 < c by omega), Bool.not_true, Bool.and_false]; rfl
theorem sp_lower (G : Gnd (K2 w.params) Γ) (hT : T.length ≤ 10240) (hc : ∀ c ∈ T, c ≤ 1114000) (h : k (.str (T.map low)) ⟨loc, F, gs⟩) :
    WC prog w 2 Γ (.call (.ref 42) ⟨[.str ⟨T.toArray⟩ t], []⟩) ⟨loc, F, gs⟩ k := by
  refine' WC.fnE (us := []) (ps := [("text", .str T)]) G ?ho ?hcd ?hbind ?hb ?hloc ?hu ?hnd ?hco ?hgen ?hk ?hcell ?h
  k_extra "fn"
  case hb => exact .cons ⟨rfl, .str _ _⟩ .nil
  case h =>
    intro Γ' G' E'
    dsimp only [List.cons_append, List.nil_append]
    repeat k_extra "step"
    refine r_ListComp (us := [("c", .unb)]) (fun it acc j S => ∃ i av, j = T.length - i ∧ i ≤ T.length ∧ S = ⟨[("c", av)], (acc, .list (((T.take i).map fun c => [low c]).map .str)) :: (it, .obj (strIt T i)) :: F, gs⟩) (by k_extra "env") G' ?hi ?again ?turn ?hu ?hnd ?hs ?ht ?hfree ?hcell ?hkind ?hnames
    case hi =>
      k_extra "step"
      k_extra "c"
      refine it_str fun it => ?_
      exact ⟨it, rfl, rfl, fun acc => ⟨T.length - 0, 0, .unb, rfl, Nat.zero_le _, rfl⟩⟩
    case again =>
      rintro Γ'' it acc j S G'' _ ⟨i, av, rfl, hi, rfl⟩
      exact it_strIt (.tail _ (.head _)) ⟨rfl, i, av, rfl, hi, rfl⟩
    case turn =>
      rintro Γ'' it acc j S G'' _ E ⟨i, av, rfl, hi, rfl⟩
      cases hci : T[i]? with
      | none =>
        have hi' : i = T.length := by
          have := List.getElem?_eq_none_iff.mp hci
          omega
        subst hi'
        refine nx_strEnd hci (.tail .head) (.tail _ (.head _)) ?_
        dsimp only
        refine ⟨_, .refl, ?_⟩
        repeat k_extra "step"
        rw [List.take_length]
        refine f_join (xs := T.map fun c => [low c]) (.head _) (by rw [List.map_map, List.length_map, show ((fun y : List Nat => y.length) ∘ fun c => [low c]) = fun _ => 1 from rfl, List.map_const', List.sum_replicate_nat]; simp; omega) ?_
        rw [glue_map]
        repeat k_extra "step"
        exact q_end (.drop .refl) h
      | some c =>
        have hi' : i < T.length := by
          rcases Nat.lt_or_ge i T.length with q | q
          · exact q
          · rw [List.getElem?_eq_none q] at hci; cases hci
        have hcc : c ≤ 1114000 := hc c (List.mem_of_getElem? hci)
        refine nx_str hci (.tail .head) (.tail _ (.head _)) ?_
        dsimp only
        have fin : ((T.take i).map fun c => [low c]).map AV.str ++ [.str [low c]] = ((T.take (i + 1)).map fun c => [low c]).map AV.str := by
          rw [List.take_add_one, hci]; simp
        have hln : (((T.take i).map fun c => [low c]).map AV.str).length ≤ 1048576 := by simp; omega
        repeat k_extra "step"
        rw [low_if]
        repeat k_extra "step"
        rw [fin]
        exact ⟨T.length - (i + 1), sub_dec hi', i + 1, _, rfl, by omega, rfl⟩
    k_extra "comp"
end
end Mine
end
section
open PySem PySem.W PySem.Calls PyProof.Rows
namespace Mine
section
variable {prog : Program} {w : World} {n : Nat} {Γ : Act} {loc : Locs} {gs : Array GenState} {H F : HL} {k : AV → St → Prop} {t u : Tok}
variable {m nl ds er self s l4 bm tq : Addr} {ct : AV} {l T : List Nat} {sz off a b : Int} {q : List AV}
example : True := by
  k_with "ask" => with_reducible first | exact ask_str | exact ask_let | (apply ask_tup2; (case hm => k_extra "mem"))
  k_with "ofs" => with_reducible first | exact rfl | assumption
  k_with "spec" => (apply call_sp; (case' h => apply sp_charO); (case G => assumption); (case pck => k_extra "pick"); (case ho => k_extra "ofs"); (case hc => assumption); (case hz => assumption); (case hm => decide))
  k_with "spec" => (apply call_sp; (case' h => apply sp_ungetO); (case G => assumption); (case pck => k_extra "pick"); (case ho => k_extra "ofs"); (case hc => assumption); (case hz => assumption); (case hm => decide))
  k_with "spec" => (apply call_sp; (case' h => apply sp_untilO); (case G => assumption); (case cch => k_extra "conc"); (case tch => k_extra "tame"); (case pck => k_extra "pick"); (case ask => k_extra "ask"); (case ho => k_extra "ofs"); (case hz => assumption); (case hx => assumption); (case hij => k_extra "side"); (case hj => k_extra "side"); (case hs => assumption); (case hm => decide))
  k_with "spec" => (apply call_sp; (case' h => apply sp_untilT); (case G => assumption); (case cch => k_extra "conc"); (case tch => k_extra "tame"); (case pck => k_extra "pick"); (case ask => k_extra "ask"); (case ho => k_extra "ofs"); (case hz => assumption); (case hx => assumption); (case hij => k_extra "side"); (case hj => k_extra "side"); (case hs => assumption); (case hm => decide))
  k_with "spec" => (apply call_sp; (case' h => apply sp_untilEO); (case G => assumption); (case cch => k_extra "conc"); (case tch => k_extra "tame"); (case pck => k_extra "pick"); (case ask => k_extra "ask"); (case ho => k_extra "ofs"); (case hz => assumption); (case hn => assumption); (case hx => assumption); (case hij => k_extra "side"); (case hm => decide))
  k_with "spec" => (apply call_sp; (case' h => apply sp_position); (case G => assumption); (case pck => k_extra "pick"); (case hn => k_extra "side"); (case hm => decide); intro _)
  k_with "spec" => (apply call_sp; (case' h => apply sp_read); (case G => assumption); (case pck => k_extra "pick"); (case hR => assumption); (case hT => k_extra "side"); (case hm => decide))
  k_with "spec" => (apply call_sp; (case' h => apply sp_lower); (case G => assumption); (case pck => k_extra "pick"); (case hT => k_extra "fits"); (case hc => assumption); (case hm => decide))
  trivial
theorem sp_emit (G : Gnd (K2 w.params) Γ) {tk dl pr : Addr} {N B : List Nat} (hN : N.length ≤ 10240) (hB : B.length ≤ 10240) (hcN : ∀ c ∈ N, c ≤ 1114000)  (h : ∀ bm dd, k .none ⟨loc, (self, .inst 762 (tokz s l4 bm (.ref tk) tq)) :: (tq, .list [.ref tk]) :: (tk, .dict [("type", .int 3), ("name", .str (N.map low)), ("data", .ref dd), ("selfClosing", .bool false), ("selfClosingAcknowledged", .bool false)]) :: (dd, .dict [(mkS B, .str [])]) :: (bm, .meth 304 self) :: F, gs⟩) :
    WC prog w 3 Γ (.call (.ref 297) ⟨[.ref self], []⟩) ⟨loc, (self, .inst 762 (tokz s l4 bm (.ref tk) tq)) :: (tq, .list []) :: (tk, .dict [("type", .int 3), ("name", .str N), ("data", .ref dl), ("selfClosing", .bool false), ("selfClosingAcknowledged", .bool false)]) :: (dl, .list [.ref pr]) :: (pr, .list [.str B, .str []]) :: F, gs⟩ k := by
  refine' WC.fnE (us := [("token", .unb), ("raw", .unb), ("data", .unb)]) (ps := [("self", .ref self)]) G ?ho ?hcd ?hbind ?hb ?hloc ?hu ?hnd ?hco ?hgen ?hk ?hcell ?h
  k_extra "fn"
  case hb => exact .cons ⟨rfl, .ref _⟩ .nil
  case h =>
    intro Γ' G' E'
    dsimp only [List.cons_append, List.nil_append]
    repeat k_extra "step"
    apply q_fall
    case' h => apply h
    case p => k_extra "pick"
example : True := by
  k_with "spec" => (apply call_sp; (case' h => apply sp_emit); (case G => assumption); (case pck => k_extra "pick"); (case hN => k_extra "fits"); (case hB => k_extra "fits"); (case hcN => assumption); (case hm => decide); intro _ _)
  trivial
theorem st_tagn_c (G : Gnd (K2 w.params) Γ) {i : Nat} (hz : l.length ≤ 10240) {tk dl : Addr} {c : Nat} (hc : l[i]? = some c) (hsp : isSp c = false) (h62 : c ≠ 62) (h47 : c ≠ 47) (h0 : c ≠ 0) (hT : T.length ≤ 10240)  (h : k (.bool true) ⟨loc, (self, .inst 762 (tokz s l4 bm (.ref tk) tq)) :: (s, .inst 166 (strm m nl ds er l l.length ((i : Int) + 1) a b)) :: (tk, .dict [("type", .int 3), ("name", .str (T ++ [c])), ("data", .ref dl), ("selfClosing", .bool false), ("selfClosingAcknowledged", .bool false)]) :: F, gs⟩) :
    WC prog w 5 Γ (.call (.ref 367) ⟨[.ref self], []⟩) ⟨loc, (self, .inst 762 (tokz s l4 bm (.ref tk) tq)) :: (s, .inst 166 (strm m nl ds er l l.length i a b)) :: (tk, .dict [("type", .int 3), ("name", .str T), ("data", .ref dl), ("selfClosing", .bool false), ("selfClosingAcknowledged", .bool false)]) :: F, gs⟩ k := by
  refine' WC.fnE (us := [("data", .unb)]) (ps := [("self", .ref self)]) G ?ho ?hcd ?hbind ?hb ?hloc ?hu ?hnd ?hco ?hgen ?hk ?hcell ?h
  k_extra "fn"
  case hb => exact .cons ⟨rfl, .ref _⟩ .nil
  case h =>
    intro Γ' G' E'
    dsimp only [List.cons_append, List.nil_append]
    repeat k_extra "step"
    apply q_end
    case' h => apply h
    case p => k_extra "pick"
theorem st_tagn_s (G : Gnd (K2 w.params) Γ) {i : Nat} (hz : l.length ≤ 10240) (hc : l[i]? = some 32)  (h : ∀ bm, k (.bool true) ⟨loc, (self, .inst 762 (tokz s l4 bm ct tq)) :: (s, .inst 166 (strm m nl ds er l l.length ((i : Int) + 1) a b)) :: (bm, .meth 535 self) :: F, gs⟩) :
    WC prog w 5 Γ (.call (.ref 367) ⟨[.ref self], []⟩) ⟨loc, (self, .inst 762 (tokz s l4 bm ct tq)) :: (s, .inst 166 (strm m nl ds er l l.length i a b)) :: F, gs⟩ k := by
  have hsp : isSp 32 = true := by decide
  refine' WC.fnE (us := [("data", .unb)]) (ps := [("self", .ref self)]) G ?ho ?hcd ?hbind ?hb ?hloc ?hu ?hnd ?hco ?hgen ?hk ?hcell ?h
  k_extra "fn"
  case hb => exact .cons ⟨rfl, .ref _⟩ .nil
  case h =>
    intro Γ' G' E'
    dsimp only [List.cons_append, List.nil_append]
    repeat k_extra "step"
    apply q_end
    case' h => apply h
    case p => k_extra "pick"
theorem st_ban (G : Gnd (K2 w.params) Γ) {i : Nat} (hz : l.length ≤ 10240) {tk dl : Addr} {c : Nat} (hc : l[i]? = some c) (hsp : isSp c = false) (hl : isLet c = true)  (h : ∀ bm pr, k (.bool true) ⟨loc, (self, .inst 762 (tokz s l4 bm (.ref tk) tq)) :: (s, .inst 166 (strm m nl ds er l l.length ((i : Int) + 1) a b)) :: (tk, .dict [("type", .int 3), ("name", .str T), ("data", .ref dl), ("selfClosing", .bool false), ("selfClosingAcknowledged", .bool false)]) :: (dl, .list [.ref pr]) :: (pr, .list [.str [c], .str []]) :: (bm, .meth 542 self) :: F, gs⟩) :
    WC prog w 5 Γ (.call (.ref 535) ⟨[.ref self], []⟩) ⟨loc, (self, .inst 762 (tokz s l4 bm (.ref tk) tq)) :: (s, .inst 166 (strm m nl ds er l l.length i a b)) :: (tk, .dict [("type", .int 3), ("name", .str T), ("data", .ref dl), ("selfClosing", .bool false), ("selfClosingAcknowledged", .bool false)]) :: (dl, .list []) :: F, gs⟩ k := by
  refine' WC.fnE (us := [("data", .unb)]) (ps := [("self", .ref self)]) G ?ho ?hcd ?hbind ?hb ?hloc ?hu ?hnd ?hco ?hgen ?hk ?hcell ?h
  k_extra "fn"
  case hb => exact .cons ⟨rfl, .ref _⟩ .nil
  case h =>
    intro Γ' G' E'
    dsimp only [List.cons_append, List.nil_append]
    repeat k_extra "step"
    apply q_end
    case' h => apply h
    case p => k_extra "pick"
theorem st_an_l (G : Gnd (K2 w.params) Γ) {i : Nat} (hz : l.length ≤ 10240) {tk dl pr : Addr} {c j : Nat} {B : List Nat} (hc : l[i]? = some c) (h61 : c ≠ 61) (h62 : c ≠ 62) (h47 : c ≠ 47) (h0 : c ≠ 0) (h39 : c ≠ 39) (h34 : c ≠ 34) (h60 : c ≠ 60) (hsp : isSp c = false) (hl : isLet c = true) (hB : B.length ≤ 10240) (hx : ∀ q c, i + 1 ≤ q → q < j → l[q]? = some c → isLet c = true) (hij : i + 1 ≤ j) (hj : j < l.length) (hs : ∀ c, l[j]? = some c → isLet c = false)  (h : k (.bool true) ⟨loc, (self, .inst 762 (tokz s l4 bm (.ref tk) tq)) :: (s, .inst 166 (strm m nl ds er l l.length j a b)) :: (tk, .dict [("type", .int 3), ("name", .str T), ("data", .ref dl), ("selfClosing", .bool false), ("selfClosingAcknowledged", .bool false)]) :: (dl, .list [.ref pr]) :: (pr, .list [.str (B ++ ([c] ++ (l.drop (i + 1)).take (j - (i + 1)))), .str []]) :: F, gs⟩) :
    WC prog w 5 Γ (.call (.ref 542) ⟨[.ref self], []⟩) ⟨loc, (self, .inst 762 (tokz s l4 bm (.ref tk) tq)) :: (s, .inst 166 (strm m nl ds er l l.length i a b)) :: (tk, .dict [("type", .int 3), ("name", .str T), ("data", .ref dl), ("selfClosing", .bool false), ("selfClosingAcknowledged", .bool false)]) :: (dl, .list [.ref pr]) :: (pr, .list [.str B, .str []]) :: F, gs⟩ k := by
  have e1 : (i : Int) + 1 = ((i + 1 : Nat) : Int) := by omega
  have hd : ((l.drop (i + 1)).take (j - (i + 1))).length ≤ l.length := by simp; omega
  refine' WC.fnE (us := [("data", .unb), ("leavingThisState", .unb), ("emitToken", .unb), ("name", .unb), ("_", .unb)]) (ps := [("self", .ref self)]) G ?ho ?hcd ?hbind ?hb ?hloc ?hu ?hnd ?hco ?hgen ?hk ?hcell ?h
  k_extra "fn"
  case hb => exact .cons ⟨rfl, .ref _⟩ .nil
  case h =>
    intro Γ' G' E'
    dsimp only [List.cons_append, List.nil_append]
    repeat k_extra "step"
    apply q_end
    case' h => apply h
    case p => k_extra "pick"
theorem st_an_o (G : Gnd (K2 w.params) Γ) {i : Nat} (hz : l.length ≤ 10240) {tk dl pr : Addr} {c : Nat} {B : List Nat} (hc : l[i]? = some c) (h61 : c ≠ 61) (h62 : c ≠ 62) (h47 : c ≠ 47) (h0 : c ≠ 0) (h39 : c ≠ 39) (h34 : c ≠ 34) (h60 : c ≠ 60) (hsp : isSp c = false) (hl : isLet c = false) (hB : B.length ≤ 10240)  (h : k (.bool true) ⟨loc, (self, .inst 762 (tokz s l4 bm (.ref tk) tq)) :: (s, .inst 166 (strm m nl ds er l l.length ((i : Int) + 1) a b)) :: (tk, .dict [("type", .int 3), ("name", .str T), ("data", .ref dl), ("selfClosing", .bool false), ("selfClosingAcknowledged", .bool false)]) :: (dl, .list [.ref pr]) :: (pr, .list [.str (B ++ [c]), .str []]) :: F, gs⟩) :
    WC prog w 5 Γ (.call (.ref 542) ⟨[.ref self], []⟩) ⟨loc, (self, .inst 762 (tokz s l4 bm (.ref tk) tq)) :: (s, .inst 166 (strm m nl ds er l l.length i a b)) :: (tk, .dict [("type", .int 3), ("name", .str T), ("data", .ref dl), ("selfClosing", .bool false), ("selfClosingAcknowledged", .bool false)]) :: (dl, .list [.ref pr]) :: (pr, .list [.str B, .str []]) :: F, gs⟩ k := by
  refine' WC.fnE (us := [("data", .unb), ("leavingThisState", .unb), ("emitToken", .unb), ("name", .unb), ("_", .unb)]) (ps := [("self", .ref self)]) G ?ho ?hcd ?hbind ?hb ?hloc ?hu ?hnd ?hco ?hgen ?hk ?hcell ?h
  k_extra "fn"
  case hb => exact .cons ⟨rfl, .ref _⟩ .nil
  case h =>
    intro Γ' G' E'
    dsimp only [List.cons_append, List.nil_append]
    repeat k_extra "step"
    apply q_end
    case' h => apply h
    case p => k_extra "pick"
theorem st_an_gt (G : Gnd (K2 w.params) Γ) {i : Nat} (hz : l.length ≤ 10240) {tk dl pr : Addr} {B : List Nat} (hc : l[i]? = some 62) (hT : T.length ≤ 10240) (hB : B.length ≤ 10240) (hcT : ∀ c ∈ T, c ≤ 1114000) (hcB : ∀ c ∈ B, c ≤ 1114000)  (h : ∀ bm dd, k (.bool true) ⟨loc, (self, .inst 762 (tokz s l4 bm (.ref tk) tq)) :: (s, .inst 166 (strm m nl ds er l l.length ((i : Int) + 1) a b)) :: (tq, .list [.ref tk]) :: (tk, .dict [("type", .int 3), ("name", .str (T.map low)), ("data", .ref dd), ("selfClosing", .bool false), ("selfClosingAcknowledged", .bool false)]) :: (dd, .dict [(mkS (B.map low), .str [])]) :: (bm, .meth 304 self) :: F, gs⟩) :
    WC prog w 5 Γ (.call (.ref 542) ⟨[.ref self], []⟩) ⟨loc, (self, .inst 762 (tokz s l4 bm (.ref tk) tq)) :: (s, .inst 166 (strm m nl ds er l l.length i a b)) :: (tq, .list []) :: (tk, .dict [("type", .int 3), ("name", .str T), ("data", .ref dl), ("selfClosing", .bool false), ("selfClosingAcknowledged", .bool false)]) :: (dl, .list [.ref pr]) :: (pr, .list [.str B, .str []]) :: F, gs⟩ k := by
  have hl : isLet 62 = false := by decide
  have hB2 : (B.map low).length ≤ 10240 := by simp; exact hB
  refine' WC.fnE (us := [("data", .unb), ("leavingThisState", .unb), ("emitToken", .unb), ("name", .unb), ("_", .unb)]) (ps := [("self", .ref self)]) G ?ho ?hcd ?hbind ?hb ?hloc ?hu ?hnd ?hco ?hgen ?hk ?hcell ?h
  k_extra "fn"
  case hb => exact .cons ⟨rfl, .ref _⟩ .nil
  case h =>
    intro Γ' G' E'
    dsimp only [List.cons_append, List.nil_append]
    repeat k_extra "step"
    with_reducible apply s_For0
    case hs => intro _; kernel_rfl
    repeat k_extra "step"
    with_reducible apply f0_ok
    case hl => k_extra "mem"
    case hx => kernel_rfl
    repeat k_extra "step"
    apply q_end
    case' h => apply h
    case p => k_extra "pick"
theorem st_bog (G : Gnd (K2 w.params) Γ) {i : Nat} (hz : l.length ≤ 10240) {j : Nat} (hx : ∀ q c, i ≤ q → q < j → l[q]? = some c → decide (c ∈ [62]) = false) (hij : i ≤ j) (hj : j < l.length) (hc : l[j]? = some 62) (hs : ∀ c, l[j]? = some c → decide (c ∈ [62]) = true) (h00 : 0 ∉ (l.drop i).take (j - i))  (h : ∀ bm tk, k (.bool true) ⟨loc, (self, .inst 762 (tokz s l4 bm ct tq)) :: (s, .inst 166 (strm m nl ds er l l.length ((j : Int) + 1) a b)) :: (tq, .list [.ref tk]) :: (tk, .dict [("type", .int 6), ("data", .str ((l.drop i).take (j - i)))]) :: (bm, .meth 304 self) :: F, gs⟩) :
    WC prog w 5 Γ (.call (.ref 598) ⟨[.ref self], []⟩) ⟨loc, (self, .inst 762 (tokz s l4 bm ct tq)) :: (s, .inst 166 (strm m nl ds er l l.length i a b)) :: (tq, .list []) :: F, gs⟩ k := by
  refine' WC.fnE (us := [("data", .unb)]) (ps := [("self", .ref self)]) G ?ho ?hcd ?hbind ?hb ?hloc ?hu ?hnd ?hco ?hgen ?hk ?hcell ?h
  k_extra "fn"
  case hb => exact .cons ⟨rfl, .ref _⟩ .nil
  case h =>
    intro Γ' G' E'
    dsimp only [List.cons_append, List.nil_append]
    repeat k_extra "step"
    apply q_end
    case' h => apply h
    case p => k_extra "pick"
/-- nothing is left to read, a second time -/
theorem sp_none2 (G : Gnd (K2 w.params) Γ) {T : List Nat} (h2 : T.length ≤ 10240) (h : k (.bool false) ⟨loc, (self, .inst 166 (strm m nl ds er [] 0 0 0 b)) :: (ds, .inst 73 [("text", .str T), ("place", .int T.length)]) :: F, gs⟩) :
    WC prog w 3 Γ (.call (.ref 141) ⟨[.ref self], []⟩) ⟨loc, (self, .inst 166 (strm m nl ds er [] 0 0 0 b)) :: (ds, .inst 73 [("text", .str T), ("place", .int T.length)]) :: F, gs⟩ k := by
  have e1 : slc T (some (T.length : Int)) (some ((T.length : Int) + 10240)) = [] := by
    unfold slc clipN
    dsimp only
    rw [if_neg (by omega), if_neg (by omega)]
    have : (max (0 : Int) (min (T.length : Int) (T.length : Int))).toNat = T.length := by omega
    simp [this]
  have hz : T.length ≤ 100000 := by omega
  have n10 : 10 ∉ ([] : List Nat) := by simp
  refine' WC.fnE (us := [("data", .unb), ("lastv", .unb)]) (ps := [("self", .ref self), ("chunkSize", .none)]) G ?ho ?hcd ?hbind ?hb ?hloc ?hu ?hnd ?hco ?hgen ?hk ?hcell ?h
  case ho => with_unfolding_all exact rfl
  case hbind => exact fun s X => binds_K X rfl (by with_unfolding_all exact rfl) rfl rfl rfl
  k_extra "fnD"
  case hb => exact .cons ⟨rfl, .ref _⟩ (.cons ⟨rfl, .none⟩ .nil)
  case h =>
    intro Γ' G' E'
    dsimp only [List.cons_append, List.nil_append]
    repeat k_extra "step"
    simp only [Int.zero_add, List.length_nil, Int.add_zero, show ((0 : Nat) : Int) = 0 from rfl]
    refine q_end ?_ h
    k_extra "pick"
example : True := by
  k_with "spec" => (apply call_sp; (case' h => apply sp_none2); (case G => assumption); (case pck => k_extra "pick"); (case h2 => assumption); (case hm => decide))
  trivial
theorem sp_charEnd2 (G : Gnd (K2 w.params) Γ) {T : List Nat} (h2 : T.length ≤ 10240) (h : k .none ⟨loc, (self, .inst 166 (strm m nl ds er [] 0 0 0 b)) :: (ds, .inst 73 [("text", .str T), ("place", .int T.length)]) :: F, gs⟩) :
    WC prog w 4 Γ (.call (.ref 133) ⟨[.ref self], []⟩) ⟨loc, (self, .inst 166 (strm m nl ds er [] 0 0 0 b)) :: (ds, .inst 73 [("text", .str T), ("place", .int T.length)]) :: F, gs⟩ k := by
  refine' WC.fnE (us := [("chunkOffset", .unb), ("char", .unb)]) (ps := [("self", .ref self)]) G ?ho ?hcd ?hbind ?hb ?hloc ?hu ?hnd ?hco ?hgen ?hk ?hcell ?h
  k_extra "fn"
  case hb => exact .cons ⟨rfl, .ref _⟩ .nil
  case h =>
    intro Γ' G' E'
    dsimp only [List.cons_append, List.nil_append]
    repeat k_extra "step"
    refine q_end ?_ h
    k_extra "pick"
example : True := by
  k_with "spec" => (apply call_sp; (case' h => apply sp_charF); (case G => assumption); (case pck => k_extra "pick"); (case hc => assumption); (case hT => assumption); (case h2 => assumption); (case hm => decide))
  k_with "spec" => (apply call_sp; (case' h => apply sp_charEnd); (case G => assumption); (case pck => k_extra "pick"); (case hn => assumption); (case h2 => assumption); (case hm => decide))
  k_with "spec" => (apply call_sp; (case' h => apply sp_charEnd2); (case G => assumption); (case pck => k_extra "pick"); (case h2 => assumption); (case hm => decide))
  trivial
theorem st_data_0 (G : Gnd (K2 w.params) Γ) (hz : l.length ≤ 10240) (hc : l[0]? = some 60) (hok : ∀ c ∈ l, okc c)  (h : ∀ bm, k (.bool true) ⟨loc, (self, .inst 762 (tokz s l4 bm ct tq)) :: (s, .inst 166 (strm m nl ds er l l.length 1 0 0)) :: (ds, .inst 73 [("text", .str l), ("place", .int l.length)]) :: (m, .meth 148 s) :: (bm, .meth 353 self) :: F, gs⟩) :
    WC prog w 5 Γ (.call (.ref 304) ⟨[.ref self], []⟩) ⟨loc, (self, .inst 762 (tokz s l4 bm ct tq)) :: (s, .inst 166 (strm m nl ds er [] 0 0 0 0)) :: (ds, .inst 73 [("text", .str l), ("place", .int 0)]) :: (m, .meth 148 s) :: F, gs⟩ k := by
  refine' WC.fnE (us := [("data", .unb), ("chars", .unb)]) (ps := [("self", .ref self)]) G ?ho ?hcd ?hbind ?hb ?hloc ?hu ?hnd ?hco ?hgen ?hk ?hcell ?h
  k_extra "fn"
  case hb => exact .cons ⟨rfl, .ref _⟩ .nil
  case h =>
    intro Γ' G' E'
    dsimp only [List.cons_append, List.nil_append]
    repeat k_extra "step"
    apply q_end
    case' h => apply h
    case p => k_extra "pick"
theorem st_data_e (G : Gnd (K2 w.params) Γ) (hz : l.length ≤ 10240) (hn : 10 ∉ l)  (h : k (.bool false) ⟨loc, (self, .inst 762 (tokz s l4 bm ct tq)) :: (s, .inst 166 (strm m nl ds er [] 0 0 0 (l.length : Int))) :: (ds, .inst 73 [("text", .str l), ("place", .int l.length)]) :: F, gs⟩) :
    WC prog w 5 Γ (.call (.ref 304) ⟨[.ref self], []⟩) ⟨loc, (self, .inst 762 (tokz s l4 bm ct tq)) :: (s, .inst 166 (strm m nl ds er l l.length l.length 0 0)) :: (ds, .inst 73 [("text", .str l), ("place", .int l.length)]) :: F, gs⟩ k := by
  refine' WC.fnE (us := [("data", .unb), ("chars", .unb)]) (ps := [("self", .ref self)]) G ?ho ?hcd ?hbind ?hb ?hloc ?hu ?hnd ?hco ?hgen ?hk ?hcell ?h
  k_extra "fn"
  case hb => exact .cons ⟨rfl, .ref _⟩ .nil
  case h =>
    intro Γ' G' E'
    dsimp only [List.cons_append, List.nil_append]
    repeat k_extra "step"
    apply q_end
    case' h => apply h
    case p => k_extra "pick"
theorem st_raw_0 (G : Gnd (K2 w.params) Γ) {c : Nat} (hz : l.length ≤ 10240) (hc : l[0]? = some c) (h60 : c ≠ 60) (h0 : c ≠ 0) (hn : 10 ∉ l) (h1 : 1 ≤ l.length) (hok : ∀ c ∈ l, okc c) (hx : ∀ q c, 1 ≤ q → l[q]? = some c → decide ([c] ∈ [[60], [0]]) = false)  (h : ∀ tk, k (.bool true) ⟨loc, (self, .inst 762 (tokz s l4 bm ct tq)) :: (s, .inst 166 (strm m nl ds er [] 0 0 0 (l.length : Int))) :: (ds, .inst 73 [("text", .str l), ("place", .int l.length)]) :: (m, .meth 148 s) :: (tq, .list [.ref tk]) :: (tk, .dict [("type", .int 1), ("data", .str ([c] ++ l.drop 1))]) :: F, gs⟩) :
    WC prog w 5 Γ (.call (.ref 332) ⟨[.ref self], []⟩) ⟨loc, (self, .inst 762 (tokz s l4 bm ct tq)) :: (s, .inst 166 (strm m nl ds er [] 0 0 0 0)) :: (ds, .inst 73 [("text", .str l), ("place", .int 0)]) :: (m, .meth 148 s) :: (tq, .list []) :: F, gs⟩ k := by
  have e1 : (1 : Int) = ((1 : Nat) : Int) := rfl
  have hd : (l.drop 1).length ≤ l.length := by simp
  refine' WC.fnE (us := [("data", .unb), ("chars", .unb)]) (ps := [("self", .ref self)]) G ?ho ?hcd ?hbind ?hb ?hloc ?hu ?hnd ?hco ?hgen ?hk ?hcell ?h
  k_extra "fn"
  case hb => exact .cons ⟨rfl, .ref _⟩ .nil
  case h =>
    intro Γ' G' E'
    dsimp only [List.cons_append, List.nil_append]
    repeat k_extra "step"
    apply q_end
    case' h => apply h
    case p => k_extra "pick"
theorem st_raw_e (G : Gnd (K2 w.params) Γ) (hz : l.length ≤ 10240) (hn : 10 ∉ l) (e0 : ([] : List Nat).length = 0)  (h : k (.bool false) ⟨loc, (self, .inst 762 (tokz s l4 bm ct tq)) :: (s, .inst 166 (strm m nl ds er [] 0 0 0 (l.length : Int))) :: (ds, .inst 73 [("text", .str l), ("place", .int l.length)]) :: F, gs⟩) :
    WC prog w 5 Γ (.call (.ref 332) ⟨[.ref self], []⟩) ⟨loc, (self, .inst 762 (tokz s l4 bm ct tq)) :: (s, .inst 166 (strm m nl ds er [] 0 0 0 (l.length : Int))) :: (ds, .inst 73 [("text", .str l), ("place", .int l.length)]) :: F, gs⟩ k := by
  refine' WC.fnE (us := [("data", .unb), ("chars", .unb)]) (ps := [("self", .ref self)]) G ?ho ?hcd ?hbind ?hb ?hloc ?hu ?hnd ?hco ?hgen ?hk ?hcell ?h
  k_extra "fn"
  case hb => exact .cons ⟨rfl, .ref _⟩ .nil
  case h =>
    intro Γ' G' E'
    dsimp only [List.cons_append, List.nil_append]
    repeat k_extra "step"
    apply q_end
    case' h => apply h
    case p => k_extra "pick"
theorem st_scr_0 (G : Gnd (K2 w.params) Γ) {c : Nat} (hz : l.length ≤ 10240) (hc : l[0]? = some c) (h60 : c ≠ 60) (h0 : c ≠ 0) (hn : 10 ∉ l) (h1 : 1 ≤ l.length) (hok : ∀ c ∈ l, okc c) (hx : ∀ q c, 1 ≤ q → l[q]? = some c → decide ([c] ∈ [[60], [0]]) = false)  (h : ∀ tk, k (.bool true) ⟨loc, (self, .inst 762 (tokz s l4 bm ct tq)) :: (s, .inst 166 (strm m nl ds er [] 0 0 0 (l.length : Int))) :: (ds, .inst 73 [("text", .str l), ("place", .int l.length)]) :: (m, .meth 148 s) :: (tq, .list [.ref tk]) :: (tk, .dict [("type", .int 1), ("data", .str ([c] ++ l.drop 1))]) :: F, gs⟩) :
    WC prog w 5 Γ (.call (.ref 339) ⟨[.ref self], []⟩) ⟨loc, (self, .inst 762 (tokz s l4 bm ct tq)) :: (s, .inst 166 (strm m nl ds er [] 0 0 0 0)) :: (ds, .inst 73 [("text", .str l), ("place", .int 0)]) :: (m, .meth 148 s) :: (tq, .list []) :: F, gs⟩ k := by
  have e1 : (1 : Int) = ((1 : Nat) : Int) := rfl
  have hd : (l.drop 1).length ≤ l.length := by simp
  refine' WC.fnE (us := [("data", .unb), ("chars", .unb)]) (ps := [("self", .ref self)]) G ?ho ?hcd ?hbind ?hb ?hloc ?hu ?hnd ?hco ?hgen ?hk ?hcell ?h
  k_extra "fn"
  case hb => exact .cons ⟨rfl, .ref _⟩ .nil
  case h =>
    intro Γ' G' E'
    dsimp only [List.cons_append, List.nil_append]
    repeat k_extra "step"
    apply q_end
    case' h => apply h
    case p => k_extra "pick"
theorem st_scr_e (G : Gnd (K2 w.params) Γ) (hz : l.length ≤ 10240) (hn : 10 ∉ l) (e0 : ([] : List Nat).length = 0)  (h : k (.bool false) ⟨loc, (self, .inst 762 (tokz s l4 bm ct tq)) :: (s, .inst 166 (strm m nl ds er [] 0 0 0 (l.length : Int))) :: (ds, .inst 73 [("text", .str l), ("place", .int l.length)]) :: F, gs⟩) :
    WC prog w 5 Γ (.call (.ref 339) ⟨[.ref self], []⟩) ⟨loc, (self, .inst 762 (tokz s l4 bm ct tq)) :: (s, .inst 166 (strm m nl ds er [] 0 0 0 (l.length : Int))) :: (ds, .inst 73 [("text", .str l), ("place", .int l.length)]) :: F, gs⟩ k := by
  refine' WC.fnE (us := [("data", .unb), ("chars", .unb)]) (ps := [("self", .ref self)]) G ?ho ?hcd ?hbind ?hb ?hloc ?hu ?hnd ?hco ?hgen ?hk ?hcell ?h
  k_extra "fn"
  case hb => exact .cons ⟨rfl, .ref _⟩ .nil
  case h =>
    intro Γ' G' E'
    dsimp only [List.cons_append, List.nil_append]
    repeat k_extra "step"
    apply q_end
    case' h => apply h
    case p => k_extra "pick"
theorem st_pla_0 (G : Gnd (K2 w.params) Γ) {c : Nat} (hz : l.length ≤ 10240) (hc : l[0]? = some c) (h60 : c ≠ 60) (h0 : c ≠ 0) (hn : 10 ∉ l) (h1 : 1 ≤ l.length) (hok : ∀ c ∈ l, okc c) (hx : ∀ q c, 1 ≤ q → l[q]? = some c → decide (c ∈ [0]) = false)  (h : ∀ tk, k (.bool true) ⟨loc, (self, .inst 762 (tokz s l4 bm ct tq)) :: (s, .inst 166 (strm m nl ds er [] 0 0 0 (l.length : Int))) :: (ds, .inst 73 [("text", .str l), ("place", .int l.length)]) :: (m, .meth 148 s) :: (tq, .list [.ref tk]) :: (tk, .dict [("type", .int 1), ("data", .str ([c] ++ l.drop 1))]) :: F, gs⟩) :
    WC prog w 5 Γ (.call (.ref 346) ⟨[.ref self], []⟩) ⟨loc, (self, .inst 762 (tokz s l4 bm ct tq)) :: (s, .inst 166 (strm m nl ds er [] 0 0 0 0)) :: (ds, .inst 73 [("text", .str l), ("place", .int 0)]) :: (m, .meth 148 s) :: (tq, .list []) :: F, gs⟩ k := by
  have e1 : (1 : Int) = ((1 : Nat) : Int) := rfl
  have hd : (l.drop 1).length ≤ l.length := by simp
  refine' WC.fnE (us := [("data", .unb)]) (ps := [("self", .ref self)]) G ?ho ?hcd ?hbind ?hb ?hloc ?hu ?hnd ?hco ?hgen ?hk ?hcell ?h
  k_extra "fn"
  case hb => exact .cons ⟨rfl, .ref _⟩ .nil
  case h =>
    intro Γ' G' E'
    dsimp only [List.cons_append, List.nil_append]
    repeat k_extra "step"
    apply q_end
    case' h => apply h
    case p => k_extra "pick"
theorem st_pla_e (G : Gnd (K2 w.params) Γ) (hz : l.length ≤ 10240) (hn : 10 ∉ l) (e0 : ([] : List Nat).length = 0)  (h : k (.bool false) ⟨loc, (self, .inst 762 (tokz s l4 bm ct tq)) :: (s, .inst 166 (strm m nl ds er [] 0 0 0 (l.length : Int))) :: (ds, .inst 73 [("text", .str l), ("place", .int l.length)]) :: F, gs⟩) :
    WC prog w 5 Γ (.call (.ref 346) ⟨[.ref self], []⟩) ⟨loc, (self, .inst 762 (tokz s l4 bm ct tq)) :: (s, .inst 166 (strm m nl ds er [] 0 0 0 (l.length : Int))) :: (ds, .inst 73 [("text", .str l), ("place", .int l.length)]) :: F, gs⟩ k := by
  refine' WC.fnE (us := [("data", .unb)]) (ps := [("self", .ref self)]) G ?ho ?hcd ?hbind ?hb ?hloc ?hu ?hnd ?hco ?hgen ?hk ?hcell ?h
  k_extra "fn"
  case hb => exact .cons ⟨rfl, .ref _⟩ .nil
  case h =>
    intro Γ' G' E'
    dsimp only [List.cons_append, List.nil_append]
    repeat k_extra "step"
    apply q_end
    case' h => apply h
    case p => k_extra "pick"
end
end Mine
end
section
open PySem PySem.W PySem.Calls PyProof.Rows
namespace Mine
/-- the addresses that stay -/
structure Fix where
  self : Addr
  s : Addr
  tq : Addr
  er : Addr
  l4 : Addr
  m : Addr
  nl : Addr
  ds : Addr
structure Cfg where
  bm : Addr
  ct : AV
  l : List Nat
  sz : Int
  off : Int
  a : Int
  b : Int
  B : HL
abbrev Cfg.heap (x : Fix) (q : List AV) (c : Cfg) : HL := (x.self, .inst 762 (tokz x.s x.l4 c.bm c.ct x.tq)) :: (x.s, .inst 166 (strm x.m x.nl x.ds x.er c.l c.sz c.off c.a c.b)) :: (x.tq, .list q) :: (x.er, .list []) :: c.B
abbrev selfL (x : Fix) : Locs := [("self", .ref x.self)]
/-- what the generator's own text does, apart from the state -/
structure IterOk (prog : Program) (w : World) (N : Nat) (h₀ : Heap) (Lg : Addr) (env : Env) (x : Fix) (t₁ : Expr) (w₁ : Stmt) (e₂ y : Expr) : Prop where
  errs : ∀ q c F gs os, W prog w N ⟨h₀, Lg, os⟩ FlowR (exec w₁ env) ⟨selfL x, Cfg.heap x q c ++ F, gs⟩ (fun fa S' => fa = .next ∧ S' = ⟨selfL x, Cfg.heap x q c ++ F, gs⟩)
  more : ∀ q c F gs os, q.length ≤ 10 → W prog w N ⟨h₀, Lg, os⟩ BoolR (isTrue e₂ env (eval e₂ env)) ⟨selfL x, Cfg.heap x q c ++ F, gs⟩ (fun b S' => b = !q.isEmpty ∧ S' = ⟨selfL x, Cfg.heap x q c ++ F, gs⟩)
  pop : ∀ tk c F gs os, W prog w N ⟨h₀, Lg, os⟩ Conc (eval y env) ⟨selfL x, Cfg.heap x [.ref tk] c ++ F, gs⟩ (fun a S' => a = .ref tk ∧ S' = ⟨selfL x, Cfg.heap x [] c ++ F, gs⟩)
  state : ∀ fn c F gs os (K : Bool → St → Prop), fnIn (K2 w.params) fn = true → (c.bm, AO.meth fn x.self) ∈ c.B → WC prog w 5 ⟨h₀, Lg, os⟩ (.call (.ref fn) ⟨[.ref x.self], []⟩) ⟨selfL x, Cfg.heap x [] c ++ F, gs⟩ (fun a S' => ∃ b, a = .bool b ∧ K b S') →
    W prog w N ⟨h₀, Lg, os⟩ BoolR (isTrue t₁ env (eval t₁ env)) ⟨selfL x, Cfg.heap x [] c ++ F, gs⟩ K
def kF : Flow → Sem PySem.Fin := fun f => .pure (.done (.ret (match f with | .ret v => v | _ => .none)))
def hF (env : Env) : Value → Sem PySem.Fin := fun e => (leaving env e).wrap (fun _ => .raise e) .raise id id
def kB (c₁ : Code) : Flow → Sem PySem.Fin := fun f => match f with
            | .next | .cont => .pure (.again c₁)
            | .brk => .pure (.done .next)
            | .ret v => .pure (.done (.ret v))
def hB (env : Env) : Value → Sem PySem.Fin := fun e => (do noteFrame e env; theTreesLotGoes e : Sem Unit).wrap (fun _ => .raise e) .raise id id
def kE (env : Env) (K : Flow → Sem PySem.Fin) (Hh : Value → Sem PySem.Fin) : Flow → Sem PySem.Fin := fun f => match f with | .next => (execs [] env).wrap K Hh id id | f => K f
def fr0 (env : Env) (body : List Stmt) (p : Pos) : Frame := .ret (whK env (kE env kF (hF env)) (hF env) id id) none false [] (.func body env) p []
def fr1 (env : Env) (c₁ : Code) (p : Pos) : Frame := .ret (whK env (kE env (kB c₁) (hB env)) (hB env) id id) none false [] c₁ p []
def QQ (prog : Program) (w : World) (m : Nat) (h₀ : Heap) (Lg : Addr) (x : Fix) (EndP : HL → Prop) (F : HL) (gs : Array GenState) : List TokOut → End → St → Prop
  | [], e, S' => e.result = .returned .none ∧ ∃ base', EndP base' ∧ S'.loc = selfL x ∧ S'.gens = gs ∧ Pick (base' ++ F) S'.heap
  | o :: rest, e, S' => ∃ tk piece base', e.result = .yielded (.ref tk) ∧ Piece o tk piece ∧ S'.loc = selfL x ∧ S'.gens = gs ∧ Pick (piece ++ (base' ++ F)) S'.heap ∧ Goes prog w m h₀ Lg (selfL x) EndP rest base' e.genState
/-- the generator stands before a turn of its outer while -/
def Out (prog : Program) (w : World) (m : Nat) (h₀ : Heap) (Lg : Addr) (env : Env) (body : List Stmt) (c₁ : Code) (x : Fix) (EndP : HL → Prop) (outs : List TokOut) (c : Cfg) : Prop :=
  ∀ p F gs os, GS prog w m ⟨h₀, Lg, os⟩ c₁ (denote table c₁) [fr0 env body p] ⟨selfL x, Cfg.heap x [] c ++ F, gs⟩ (QQ prog w m h₀ Lg x EndP F gs outs)
section
variable {prog : Program} {w : World} {m N : Nat} {h₀ : Heap} {Lg : Addr} {env : Env} {body : List Stmt} {x : Fix} {EndP : HL → Prop} {outs : List TokOut} {c : Cfg} {t₁ : Expr} {w₁ : Stmt} {e₂ y : Expr} {o₂ : List Stmt} {pos₂ yp ep : Pos}
theorem GS.pick {Γ : Act} {cd : Code} {t : Sem PySem.Fin} {fs : List Frame} {loc : Locs} {H H' : HL} {gs : Array GenState} {Q : End → St → Prop} (pk : Pick H' H) (h : GS prog w m Γ cd t fs ⟨loc, H', gs⟩ Q) : GS prog w m Γ cd t fs ⟨loc, H, gs⟩ Q := fun A s ro p => h A s ro (p.pick pk)
theorem Sel.perm {p : Addr × AO} : ∀ {A B : HL}, Sel p (A ++ p :: B) (A ++ B)
  | [], _ => .head
  | _ :: _, _ => .tail Sel.perm
theorem Pick.of_perm : ∀ {R H : HL}, R.Perm H → Pick R H
  | [], H, _ => .nil
  | p :: R, H, h => by
    obtain ⟨a, b, rfl⟩ := List.append_of_mem (h.mem_iff.mp (.head _))
    exact .cons Sel.perm (Pick.of_perm (List.Perm.cons_inv (h.trans List.perm_middle)))
theorem Pick.swap3 (A B C : HL) : Pick (A ++ (B ++ C)) (B ++ (A ++ C)) := Pick.of_perm (by
  rw [← List.append_assoc, ← List.append_assoc]
  exact List.perm_append_comm.append_right _)
theorem goes_of {gst : GenState} {cd : Code} {t : Sem PySem.Fin} {fs : List Frame} {base : HL} (hs : Starts gst cd t fs) (h : ∀ F gs os, GS prog w m ⟨h₀, Lg, os⟩ cd t fs ⟨selfL x, base ++ F, gs⟩ (QQ prog w m h₀ Lg x EndP F gs outs)) : Goes prog w m h₀ Lg (selfL x) EndP outs base gst := by
  cases outs with
  | nil =>
    refine ⟨cd, t, fs, hs, fun F gs os A s ro p => (h F gs os A s ro p).mono fun e s' z => ?_⟩
    obtain ⟨⟨_, _, _⟩, p', er, base', he, el, eg, pk⟩ := z
    dsimp only at el eg pk
    subst el eg
    exact ⟨er, base', he, p'.pick pk⟩
  | cons o rest =>
    refine ⟨cd, t, fs, hs, fun F gs os A s ro p => (h F gs os A s ro p).mono fun e s' z => ?_⟩
    obtain ⟨⟨_, _, _⟩, p', tk, piece, base', er, pc, el, eg, pk, go⟩ := z
    dsimp only at el eg pk
    subst el eg
    exact ⟨tk, piece, base', er, pc, p'.pick pk, go⟩
theorem out_step {fn : Addr} (hf : fnIn (K2 w.params) fn = true) (hb : (c.bm, AO.meth fn x.self) ∈ c.B) (ok : IterOk prog w N h₀ Lg env x t₁ w₁ e₂ y)
    (f1 : ∀ p, Fits m N (.whileLoop t₁ [w₁, .While e₂ [.Expr (.Yield (some y) yp) ep] [] pos₂] [] env) [fr0 env body p])
    (f2 : ∀ p p', Fits m N (.whileLoop e₂ [.Expr (.Yield (some y) yp) ep] [] env) [fr1 env (.whileLoop t₁ [w₁, .While e₂ [.Expr (.Yield (some y) yp) ep] [] pos₂] [] env) p', fr0 env body p])
    (hco : env.scope.isCoroutine = false) (hi : interactive env = false)
    (h : ∀ F gs os, WC prog w 5 ⟨h₀, Lg, os⟩ (.call (.ref fn) ⟨[.ref x.self], []⟩) ⟨selfL x, Cfg.heap x [] c ++ F, gs⟩ (fun a S' => S'.gens = gs ∧ S'.loc = selfL x ∧
      ((a = .bool false ∧ outs = [] ∧ ∃ base', EndP base' ∧ Pick (base' ++ F) S'.heap) ∨
       (a = .bool true ∧ ∃ c', Out prog w m h₀ Lg env body (.whileLoop t₁ [w₁, .While e₂ [.Expr (.Yield (some y) yp) ep] [] pos₂] [] env) x EndP outs c' ∧ Pick (Cfg.heap x [] c' ++ F) S'.heap) ∨
       (a = .bool true ∧ ∃ o rest tk piece c', outs = o :: rest ∧ Piece o tk piece ∧ Out prog w m h₀ Lg env body (.whileLoop t₁ [w₁, .While e₂ [.Expr (.Yield (some y) yp) ep] [] pos₂] [] env) x EndP rest c' ∧ Pick (Cfg.heap x [.ref tk] c' ++ (piece ++ F)) S'.heap)))) :
    Out prog w m h₀ Lg env body (.whileLoop t₁ [w₁, .While e₂ [.Expr (.Yield (some y) yp) ep] [] pos₂] [] env) x EndP outs c := by
  intro p F gs os
  -- the inner while with an empty queue leads back
  have inner : ∀ p' F' gs' os' outs' c', Out prog w m h₀ Lg env body (.whileLoop t₁ [w₁, .While e₂ [.Expr (.Yield (some y) yp) ep] [] pos₂] [] env) x EndP outs' c' →
      GS prog w m ⟨h₀, Lg, os'⟩ (.whileLoop e₂ [.Expr (.Yield (some y) yp) ep] [] env) (denote table (.whileLoop e₂ [.Expr (.Yield (some y) yp) ep] [] env)) [fr1 env (.whileLoop t₁ [w₁, .While e₂ [.Expr (.Yield (some y) yp) ep] [] pos₂] [] env) p', fr0 env body p]
        ⟨selfL x, Cfg.heap x [] c' ++ F', gs'⟩ (QQ prog w m h₀ Lg x EndP F' gs' outs') := by
    intro p' F' gs' os' outs' c' ho
    refine gs_turn (f2 p p') ((ok.more [] c' F' gs' os' (by simp)).mono fun b S' z => ?_)
    obtain ⟨rfl, rfl⟩ := z
    refine ⟨fun e => (by cases e), fun _ => ?_⟩
    refine gs_nil ?_
    refine gs_pop ?_
    show GS prog w m _ _ (.pure (.again _)) _ _ _
    exact gs_again rfl (ho p F' gs' os')
  refine gs_turn (f1 p) (ok.state fn c F gs os _ hf hb (fun A s ro pp => codeAny_mono (h F gs os A s ro pp) fun r s' hr => ?_))
  cases r with
  | error e => exact hr
  | ok f =>
  cases f with
  | ret v =>
    obtain ⟨a, S', ca, p', eg, el, z⟩ := hr
    obtain ⟨loc', H', gs'⟩ := S'
    dsimp only at eg el z
    subst eg el
    rcases z with ⟨rfl, rfl, base', he, pk⟩ | ⟨rfl, c', ho, pk⟩ | ⟨rfl, o, rest, tk, piece, c', rfl, pc, ho, pk⟩
    · refine ⟨_, ⟨selfL x, base' ++ F, gs'⟩, ca, p'.pick pk, false, rfl, fun e => (by cases e), fun _ => ?_⟩
      refine gs_nil (gs_pop ?_)
      show GS prog w m _ _ (.pure (.done (.ret .none))) _ _ _
      exact gs_end ⟨rfl, base', he, rfl, rfl, .refl⟩
    · refine ⟨_, ⟨selfL x, Cfg.heap x [] c' ++ F, gs'⟩, ca, p'.pick pk, true, rfl, fun _ => ?_, fun e => (by cases e)⟩
      refine gs_stmt (f1 p) ((ok.errs [] c' F gs' os).mono fun fa S' z => ?_)
      obtain ⟨rfl, rfl⟩ := z
      refine ⟨rfl, gs_cons (gs_While fun p' => ?_)⟩
      exact inner p' F gs' os outs c' ho
    · refine ⟨_, ⟨selfL x, Cfg.heap x [.ref tk] c' ++ (piece ++ F), gs'⟩, ca, p'.pick pk, true, rfl, fun _ => ?_, fun e => (by cases e)⟩
      refine gs_stmt (f1 p) ((ok.errs [.ref tk] c' (piece ++ F) gs' os).mono fun fa S' z => ?_)
      obtain ⟨rfl, rfl⟩ := z
      refine ⟨rfl, gs_cons (gs_While fun p' => ?_)⟩
      refine gs_turn (f2 p p') ((ok.more [.ref tk] c' (piece ++ F) gs' os (by simp)).mono fun b S' z => ?_)
      obtain ⟨rfl, rfl⟩ := z
      refine ⟨fun _ => ?_, fun e => (by cases e)⟩
      refine gs_cons (gs_Yield (f2 p p') rfl rfl rfl ((ok.pop tk c' (piece ++ F) gs' os).mono fun a S' z v cv l k q hk => ?_) hco hi)
      obtain ⟨rfl, rfl⟩ := z
      cases cv
      refine ⟨tk, piece, Cfg.heap x [] c', rfl, pc, rfl, rfl, Pick.swap3 _ _ _, goes_of (.inr ⟨k, l, q, _, rfl, hk.symm⟩) fun F₂ gs₂ os₂ => ?_⟩
      refine gs_nil ?_
      show GS prog w m _ _ (.pure (.again _)) _ _ _
      exact gs_again rfl (inner p' F₂ gs₂ os₂ rest c' ho)
  | _ => exact hr
end
end Mine
end
section
open PySem PySem.W PySem.Calls PyProof.Rows
namespace Mine
example : True := by
  k_with "call" => (with_reducible apply f_pop0; (case hu => k_extra "updH"); (case hz => k_extra "fits"))
  trivial
section
variable {prog : Program} {w : World} {m n N : Nat} {Γ : Act} {h₀ : Heap} {Lg : Addr} {env : Env} {body : List Stmt} {x : Fix} {EndP : HL → Prop} {outs : List TokOut} {c : Cfg} {t₁ : Expr} {w₁ asg : Stmt} {e₂ y : Expr} {o₂ : List Stmt} {pos₁ pos₂ yp ep : Pos} {loc : Locs} {gs : Array GenState} {H : HL} {k : AV → St → Prop}
theorem fits_f : Fits (N + 1) N (.func body env) [] := fun A r => ⟨by
    have := r.units
    show A.units + 0 + 3 + 40 * N < _
    omega, by
    have := r.depth
    show A.depth + 0 + 1 + N < _
    omega, r.handled⟩
theorem fits_1 {t : Expr} {b o : List Stmt} {p : Pos} : Fits (N + 1) N (.whileLoop t b o env) [fr0 env body p] := fun A r => ⟨by
    have := r.units
    show A.units + 3 + 0 + 40 * N < _
    omega, by
    have := r.depth
    show A.depth + 1 + 0 + N < _
    omega, r.handled⟩
theorem fits_2 {t t' : Expr} {b o b' o' : List Stmt} {p p' : Pos} : Fits (N + 1) N (.whileLoop t b o env) [fr1 env (.whileLoop t' b' o' env) p', fr0 env body p] := fun A r => ⟨by
    have := r.units
    show A.units + 3 + 0 + 40 * N < _
    omega, by
    have := r.depth
    show A.depth + 1 + 0 + N < _
    omega, r.handled⟩
/-- what a run of the tokenizer is built from -/
def StepOk (prog : Program) (w : World) (h₀ : Heap) (Lg : Addr) (EndP : HL → Prop) (O : Fix → List TokOut → Cfg → Prop) : Prop :=
  ∀ x outs c fn, fnIn (K2 w.params) fn = true → (c.bm, AO.meth fn x.self) ∈ c.B → (∀ F gs os, WC prog w 5 ⟨h₀, Lg, os⟩ (.call (.ref fn) ⟨[.ref x.self], []⟩) ⟨selfL x, Cfg.heap x [] c ++ F, gs⟩ (fun a S' => S'.gens = gs ∧ S'.loc = selfL x ∧
      ((a = .bool false ∧ outs = [] ∧ ∃ base', EndP base' ∧ Pick (base' ++ F) S'.heap) ∨
       (a = .bool true ∧ ∃ c', O x outs c' ∧ Pick (Cfg.heap x [] c' ++ F) S'.heap) ∨
       (a = .bool true ∧ ∃ o rest tk piece c', outs = o :: rest ∧ Piece o tk piece ∧ O x rest c' ∧ Pick (Cfg.heap x [.ref tk] c' ++ (piece ++ F)) S'.heap)))) → O x outs c
theorem goes_start {x : Addr → Fix} {loc₀ : Locs} {base : HL} (hx : ∀ t, selfL (x t) = loc₀)
    (h1 : ∀ F gs os, W prog w N ⟨h₀, Lg, os⟩ FlowR (exec asg env) ⟨loc₀, base ++ F, gs⟩ (fun fa S' => fa = .next ∧ S'.loc = loc₀ ∧ S'.gens = gs ∧ ∃ t, Pick (Cfg.heap (x t) [] c ++ F) S'.heap))
    (h2 : ∀ t, Out prog w (N + 1) h₀ Lg env [asg, .While t₁ o₂ [] pos₁] (.whileLoop t₁ o₂ [] env) (x t) EndP outs c) :
    Goes prog w (N + 1) h₀ Lg loc₀ EndP outs base (.fresh (.func [asg, .While t₁ o₂ [] pos₁] env)) := by
  rw [← hx 0]
  refine goes_of (.inl ⟨rfl, rfl, rfl⟩) fun F gs os => ?_
  rw [hx 0]
  refine gs_func (gs_stmt fits_f ((h1 F gs os).mono fun fa S' z => ?_))
  obtain ⟨loc', H', gs'⟩ := S'
  obtain ⟨rfl, el, eg, t, pk⟩ := z
  dsimp only at el eg
  subst el eg
  refine ⟨rfl, gs_cons (gs_While fun p => GS.pick pk ?_)⟩
  have := h2 t p F gs' os
  rw [hx t] at this
  refine (show GS _ _ _ _ _ _ _ _ (QQ prog w (N + 1) h₀ Lg (x 0) EndP F gs' outs) from ?_)
  have e : QQ prog w (N + 1) h₀ Lg (x 0) EndP F gs' outs = QQ prog w (N + 1) h₀ Lg (x t) EndP F gs' outs := by
    cases outs <;> (funext e S'; simp only [QQ, hx])
  rw [e]
  exact this
abbrev tok7 (s l4 bm : Addr) (ct : AV) : List (Str × AV) := [("stream", .ref s), ("parser", .none), ("escapeFlag", .bool false), ("lastFourChars", .ref l4), ("state", .ref bm), ("escape", .bool false), ("currentToken", ct)]
theorem fn_iter (P : Params) : findIn (K2 P) (.ref 762) "__iter__" = some (some (.ref 268)) := by kernel_rfl
/-- the tokenizer is asked for its pieces -/
theorem it_tok (G : Gnd (K2 w.params) Γ) {self s er l4 mm nl ds bm : Addr} {ct : AV} {l : List Nat} {sz off a b : Int} {B : HL} {outs : List TokOut}
    (hx : (self, AO.inst 762 (tok7 s l4 bm ct)) ∈ H)
    (hrun : ∀ Lg O, StepOk prog w Γ.h₀ Lg EndP O → ∀ tq, O ⟨self, s, tq, er, l4, mm, nl, ds⟩ outs ⟨bm, ct, l, sz, off, a, b, B⟩)
    (h : ∀ Lg ga gst, Γ.h₀.objs.size ≤ Lg → Goes prog w 8 Γ.h₀ Lg [("self", .ref self)] EndP outs ((self, .inst 762 (tok7 s l4 bm ct)) :: (s, .inst 166 (strm mm nl ds er l sz off a b)) :: (er, .list []) :: B) gst →
      k (.ref ga) ⟨loc, (ga, .obj (genP gs.size)) :: (Lg, .obj (frP [("self", .ref self)])) :: H, gs.push gst⟩) : W prog w (n + 1) Γ Conc (pyIter (.ref self)) ⟨loc, H, gs⟩ k := by
  refine' it_inst (us := []) (ps := [("self", .ref self)]) (f := 268) G hx (fn_iter _) ?hcls ?ho ?hcd ?hbind ?hb ?hloc ?hu ?hnd ?hco ?hgen ?hk ?hcell ?h
  case ho => with_unfolding_all exact rfl
  case hcls => rfl
  case hcd => kernel_rfl
  case hbind => exact fun s _ => BindsTo.of_eq rfl
  case hb => exact .cons ⟨rfl, .ref _⟩ .nil
  case hloc => kernel_rfl
  case hu => rfl
  case hnd => exact of_decide_eq_true (by kernel_rfl)
  case hco => rfl
  case hgen => rfl
  case hk => rfl
  case hcell => exact of_decide_eq_true (by kernel_rfl)
  case h =>
    intro Lg ga ab
    refine h Lg ga _ ab ?_
    have G' : ∀ os, Gnd (K2 w.params) ⟨Γ.h₀, Lg, os⟩ := fun os => ⟨G.X, G.T⟩
    refine goes_start (N := 7) (x := fun t => ⟨self, s, t, er, l4, mm, nl, ds⟩) (c := ⟨bm, ct, l, sz, off, a, b, B⟩) (fun _ => rfl) (fun F gs os => ?_) (fun t => ?_)
    · have G'' := G' os
      dsimp only [List.cons_append]
      repeat k_extra "step"
      rename_i tq
      exact ⟨rfl, rfl, rfl, tq, by k_extra "pick"⟩
    · refine hrun Lg (fun x outs c => Out prog w 8 Γ.h₀ Lg _ _ _ x EndP outs c) ?_ t
      intro x outs c fn hf hb
      refine out_step hf hb ?_ (fun _ => fits_1) (fun _ _ => fits_2) (by rfl) (by rfl)
      have G'' := G'
      refine ⟨fun q c F gs os => ?_, fun q c F gs os hq => ?_, fun tk c F gs os => ?_, fun fn c F gs os K hf hb h => ?_⟩
      · have := G' os
        dsimp only [List.cons_append]
        refine s_While (fun j S => j = 0 ∧ S = ⟨selfL x, (x.self, .inst 762 (tokz x.s x.l4 c.bm c.ct x.tq)) :: (x.s, .inst 166 (strm x.m x.nl x.ds x.er c.l c.sz c.off c.a c.b)) :: (x.tq, .list q) :: (x.er, .list []) :: (c.B ++ F), gs⟩) ?_ 0 ⟨rfl, rfl⟩
        rintro _ _ ⟨rfl, rfl⟩
        repeat k_extra "step"
        exact ⟨rfl, rfl⟩
      · have := G' os
        dsimp only [List.cons_append]
        repeat k_extra "step"
        exact ⟨rfl, rfl⟩
      · have := G' os
        dsimp only [List.cons_append]
        repeat k_extra "step"
        exact ⟨rfl, rfl⟩
      · have := G' os
        dsimp only [List.cons_append] at h ⊢
        have hb' : (c.bm, AO.meth fn x.self) ∈ (x.self, AO.inst 762 (tokz x.s x.l4 c.bm c.ct x.tq)) :: (x.s, .inst 166 (strm x.m x.nl x.ds x.er c.l c.sz c.off c.a c.b)) :: (x.tq, .list []) :: (x.er, .list []) :: (c.B ++ F) := .tail _ (.tail _ (.tail _ (.tail _ (List.mem_append_left _ hb))))
        repeat (first | with_reducible refine kM0 this hb' hf ?_ | k_extra "step")
        refine ((WC.meth hb' (h.room (by decide))).call).mono fun a S' z => ?_
        obtain ⟨b, rfl, z⟩ := z
        exact c_bool (u_bool z)
end
end Mine
end
section
open PySem PySem.W PySem.Calls PyProof.Rows
namespace Mine
/-! the law's texts -/
def tch (c : Nat) : Prop := okc c ∧ c ≠ 32 ∧ c ≠ 34 ∧ c ≠ 39 ∧ c ≠ 45 ∧ c ≠ 47 ∧ c ≠ 60 ∧ c ≠ 61 ∧ c ≠ 62
theorem tch.sp {c : Nat} (h : tch c) : isSp c = false := by
  obtain ⟨h, h32, -⟩ := h
  unfold okc at h
  unfold isSp
  exact decide_eq_false (by omega)
theorem tch.le {c : Nat} (h : tch c) : c ≤ 1114000 := by
  obtain ⟨h, -⟩ := h
  unfold okc at h
  omega
theorem tch.n0 {c : Nat} (h : tch c) : c ≠ 0 := by
  obtain ⟨h, -⟩ := h
  unfold okc at h
  omega
theorem ga {A B : List Nat} {m i : Nat} (h : m = A.length + i) : (A ++ B)[m]? = B[i]? := by
  subst h
  rw [List.getElem?_append_right (Nat.le_add_right _ _), Nat.add_sub_cancel_left]
theorem gl {A B : List Nat} {i : Nat} (h : i < A.length) : (A ++ B)[i]? = A[i]? := List.getElem?_append_left h
/-- a middle part of a text -/
theorem seg {l A M R : List Nat} {k q p : Nat} (e : l = A ++ (M ++ R)) (hp : p = A.length + k) (h : k + q ≤ M.length) : (l.drop p).take q = (M.drop k).take q := by
  subst e hp
  rw [← List.drop_drop, List.drop_left, List.drop_append_of_le_length (by omega), List.take_append_of_le_length (by simp; omega)]
theorem segAt {l A M R : List Nat} {k p : Nat} (e : l = A ++ (M ++ R)) (hp : p = A.length + k) (h : k < M.length) : l[p]? = M[k]? := by
  subst e
  rw [ga hp, gl h]
def whole (T : List Nat) : List Nat := [60, 33, 45, 45] ++ (T ++ ([45, 45, 62, 60, 63] ++ (T ++ ([62, 60, 97] ++ (T ++ ([32, 98] ++ (T ++ [62])))))))
section
variable {T : List Nat}
theorem whole_len : (whole T).length = 15 + 4 * T.length := by unfold whole; simp; omega
theorem wS0 {k : Nat} (h : k < 4) : (whole T)[k]? = [60, 33, 45, 45][k]? := gl h
theorem wT1 : whole T = [60, 33, 45, 45] ++ (T ++ ([45, 45, 62, 60, 63] ++ (T ++ ([62, 60, 97] ++ (T ++ ([32, 98] ++ (T ++ [62]))))))) := rfl
theorem wS1 : whole T = ([60, 33, 45, 45] ++ T) ++ ([45, 45, 62, 60, 63] ++ (T ++ ([62, 60, 97] ++ (T ++ ([32, 98] ++ (T ++ [62])))))) := by unfold whole; simp
theorem wB : whole T = ([60, 33, 45, 45] ++ T ++ [45, 45, 62, 60]) ++ ((63 :: T) ++ ([62, 60, 97] ++ (T ++ ([32, 98] ++ (T ++ [62]))))) := by unfold whole; simp
theorem wS2 : whole T = ([60, 33, 45, 45] ++ T ++ [45, 45, 62, 60, 63] ++ T) ++ ([62, 60, 97] ++ (T ++ ([32, 98] ++ (T ++ [62])))) := by unfold whole; simp
theorem wT3 : whole T = ([60, 33, 45, 45] ++ T ++ [45, 45, 62, 60, 63] ++ T ++ [62, 60, 97]) ++ (T ++ ([32, 98] ++ (T ++ [62]))) := by unfold whole; simp
theorem wS3 : whole T = ([60, 33, 45, 45] ++ T ++ [45, 45, 62, 60, 63] ++ T ++ [62, 60, 97] ++ T) ++ ([32, 98] ++ (T ++ [62])) := by unfold whole; simp
theorem wT4 : whole T = ([60, 33, 45, 45] ++ T ++ [45, 45, 62, 60, 63] ++ T ++ [62, 60, 97] ++ T ++ [32, 98]) ++ (T ++ [62]) := by unfold whole; simp
theorem wS4 : whole T = ([60, 33, 45, 45] ++ T ++ [45, 45, 62, 60, 63] ++ T ++ [62, 60, 97] ++ T ++ [32, 98] ++ T) ++ ([62] ++ []) := by unfold whole; simp
theorem iT1 {p k : Nat} (hp : p = 4 + k) (h : k < T.length) : (whole T)[p]? = T[k]? := segAt wT1 (by simpa using hp) h
theorem iS1 {p k : Nat} (hp : p = 4 + T.length + k) (h : k < 5) : (whole T)[p]? = [45, 45, 62, 60, 63][k]? := segAt wS1 (by simp; omega) h
theorem iB {p k : Nat} (hp : p = 8 + T.length + k) (h : k < T.length + 1) : (whole T)[p]? = (63 :: T)[k]? := segAt wB (by simp; omega) (by simpa using h)
theorem iS2 {p k : Nat} (hp : p = 9 + 2 * T.length + k) (h : k < 3) : (whole T)[p]? = [62, 60, 97][k]? := segAt wS2 (by simp; omega) h
theorem iT3 {p k : Nat} (hp : p = 12 + 2 * T.length + k) (h : k < T.length) : (whole T)[p]? = T[k]? := segAt wT3 (by simp; omega) h
theorem iS3 {p k : Nat} (hp : p = 12 + 3 * T.length + k) (h : k < 2) : (whole T)[p]? = [32, 98][k]? := segAt wS3 (by simp; omega) h
theorem iT4 {p k : Nat} (hp : p = 14 + 3 * T.length + k) (h : k < T.length) : (whole T)[p]? = T[k]? := segAt wT4 (by simp; omega) h
theorem iS4 {p : Nat} (hp : p = 14 + 4 * T.length) : (whole T)[p]? = some 62 := by rw [segAt (k := 0) wS4 (by simp; omega) (by simp)]; rfl
theorem mem_of_at {c k : Nat} (h : T[k]? = some c) : c ∈ T := List.mem_of_getElem? h
theorem whole_ok (hT : ∀ c ∈ T, tch c) : ∀ c ∈ whole T, okc c := by
  intro c hc
  unfold whole at hc
  simp only [List.mem_append, List.mem_cons, List.not_mem_nil, or_false] at hc
  by_cases h : c ∈ T
  · exact (hT c h).1
  · simp only [h, false_or, or_false] at hc
    have key : ∀ c ∈ [60, 33, 45, 62, 63, 97, 32, 98], okc c := by unfold okc; decide
    refine key c ?_
    clear h key hT
    simp only [List.mem_cons, List.not_mem_nil, or_false]
    omega
end
end Mine
end
section
open PySem PySem.W PySem.Calls PyProof.Rows
namespace Mine
section
variable {prog : Program} {w : World} {h₀ : Heap} {Lg : Addr} {x : Fix} {EndP : HL → Prop} {outs : List TokOut} {O : Fix → List TokOut → Cfg → Prop} {T : List Nat}
/-- the tokenizer within its only piece of text -/
abbrev cf (x : Fix) (l : List Nat) (bm fn : Addr) (ct : AV) (off : Int) (X : HL) : Cfg := ⟨bm, ct, l, l.length, off, 0, 0, (bm, .meth fn x.self) :: (x.ds, .inst 73 [("text", .str l), ("place", .int l.length)]) :: X⟩
abbrev errT : List Nat := [101, 120, 112, 101, 99, 116, 101, 100, 45, 116, 97, 103, 45, 110, 97, 109, 101, 45, 98, 117, 116, 45, 103, 111, 116, 45, 113, 117, 101, 115, 116, 105, 111, 110, 45, 109, 97, 114, 107]
abbrev outTag (T : List Nat) : TokOut := .tag ((97 :: T).map low) ((98 :: T).map low)
def endP (x : Fix) (b : Int) (H : HL) : Prop := ∃ bm ct tq, H = [(x.self, AO.inst 762 (tokz x.s x.l4 bm ct tq)), (x.s, .inst 166 (strm x.m x.nl x.ds x.er [] 0 0 0 b))]
variable (st : StepOk prog w h₀ Lg (endP x ((whole T).length : Int)) O) (G : ∀ os, Gnd (K2 w.params) ⟨h₀, Lg, os⟩) (hT : ∀ c ∈ T, tch c) (h14 : T.length ≤ 14)
include st G hT h14
theorem ph16 {bm : Addr} {ct : AV} : O x [] (cf x (whole T) bm 304 ct ((whole T).length : Int) []) := by
  have hz : (whole T).length ≤ 10240 := by rw [whole_len]; omega
  have hn : 10 ∉ whole T := fun h => by have := whole_ok hT _ h; unfold okc at this; omega
  refine st x _ _ 304 (by kernel_rfl) (by k_extra "mem") fun F gs os => ?_
  have G' := G os
  dsimp only [Cfg.heap, List.cons_append, List.nil_append]
  apply WC.pick
  case' h => apply st_data_e
  case G => assumption
  case hz => assumption
  case hn => assumption
  case q => k_extra "pick"
  exact ⟨rfl, rfl, .inl ⟨rfl, rfl, _, ⟨_, _, _, rfl⟩, by dsimp only [List.cons_append, List.nil_append]; k_extra "pick"⟩⟩
theorem ph15 {bm tk dl pr : Addr} {p : Nat} (hp : p = 14 + 4 * T.length) : O x [outTag T] (cf x (whole T) bm 542 (.ref tk) (p : Int) [(tk, .dict [("type", .int 3), ("name", .str (97 :: T)), ("data", .ref dl), ("selfClosing", .bool false), ("selfClosingAcknowledged", .bool false)]), (dl, .list [.ref pr]), (pr, .list [.str (98 :: T), .str []])]) := by
  have hz : (whole T).length ≤ 10240 := by rw [whole_len]; omega
  have hcT : ∀ c ∈ 97 :: T, c ≤ 1114000 := fun c hc => by
    rcases List.mem_cons.mp hc with rfl | h
    · omega
    · exact (hT c h).le
  have hcB : ∀ c ∈ 98 :: T, c ≤ 1114000 := fun c hc => by
    rcases List.mem_cons.mp hc with rfl | h
    · omega
    · exact (hT c h).le
  refine st x _ _ 542 (by kernel_rfl) (by k_extra "mem") fun F gs os => ?_
  have G' := G os
  dsimp only [Cfg.heap, List.cons_append, List.nil_append]
  apply WC.pick
  case' h => apply st_an_gt
  case q => k_extra "pick"
  case G => assumption
  case hz => assumption
  case hc => exact iS4 hp
  case hT => simp; omega
  case hB => simp; omega
  case hcT => assumption
  case hcB => assumption
  intro bm' dd
  rw [show (p : Int) + 1 = ((whole T).length : Int) by rw [whole_len]; omega]
  exact ⟨rfl, rfl, .inr (.inr ⟨rfl, outTag T, [], tk, [_, _], _, rfl, .tag (dd := dd), ph16 st G hT h14, by dsimp only [List.cons_append, List.nil_append]; k_extra "pick"⟩)⟩
theorem ph14 : ∀ (d k : Nat) (bm tk dl pr : Addr) (p : Nat), d = T.length - k → k ≤ T.length → p = 14 + 3 * T.length + k → O x [outTag T] (cf x (whole T) bm 542 (.ref tk) (p : Int) [(tk, .dict [("type", .int 3), ("name", .str (97 :: T)), ("data", .ref dl), ("selfClosing", .bool false), ("selfClosingAcknowledged", .bool false)]), (dl, .list [.ref pr]), (pr, .list [.str (98 :: T.take k), .str []])]) := by
  intro d
  induction d using Nat.strongRecOn with
  | _ d ih =>
  intro k bm tk dl pr p hd hk hp
  rcases Nat.lt_or_ge k T.length with h | h
  · obtain ⟨c, hc⟩ : ∃ c, T[k]? = some c := ⟨T[k], by simp [h]⟩
    have tc := hT c (mem_of_at hc)
    obtain ⟨_, t1, t2, t3, t4, t5, t6, t7, t8⟩ := id tc
    have t0 := tc.n0
    have tsp := tc.sp
    have hw : (whole T)[p]? = some c := (iT4 hp h).trans hc
    have hz : (whole T).length ≤ 10240 := by rw [whole_len]; omega
    have hB : (98 :: T.take k).length ≤ 10240 := by simp; omega
    cases hl : isLet c with
    | false =>
      refine st x _ _ 542 (by kernel_rfl) (by k_extra "mem") fun F gs os => ?_
      have G' := G os
      dsimp only [Cfg.heap, List.cons_append, List.nil_append]
      apply WC.pick
      case' h => apply st_an_o
      case q => k_extra "pick"
      case G => assumption
      case hz => assumption
      case hc => assumption
      case h61 => assumption
      case h62 => assumption
      case h47 => assumption
      case h0 => assumption
      case h39 => assumption
      case h34 => assumption
      case h60 => assumption
      case hsp => assumption
      case hl => assumption
      case hB => assumption
      have eo : (p : Int) + 1 = ((p + 1 : Nat) : Int) := by omega
      have ee : (98 :: T.take k) ++ [c] = 98 :: T.take (k + 1) := by rw [List.take_add_one, hc]; rfl
      rw [eo, ee]
      exact ⟨rfl, rfl, .inr (.inl ⟨rfl, _, ih (T.length - (k + 1)) (sub_dec' hd h) (k + 1) bm tk dl pr (p + 1) rfl (by omega) (by omega), by dsimp only [List.cons_append, List.nil_append]; k_extra "pick"⟩)⟩
    | true =>
      obtain ⟨e, he1, he2, he3, he4⟩ : ∃ e, k + 1 ≤ e ∧ e ≤ T.length ∧ (∀ q c, k + 1 ≤ q → q < e → T[q]? = some c → isLet c = true) ∧ (∀ c, T[e]? = some c → isLet c = false) := by
        have key : ∀ (n a : Nat), n = T.length - a → a ≤ T.length → ∃ e, a ≤ e ∧ e ≤ T.length ∧ (∀ q c, a ≤ q → q < e → T[q]? = some c → isLet c = true) ∧ (∀ c, T[e]? = some c → isLet c = false) := by
          intro n
          induction n with
          | zero =>
            intro a hn ha
            refine ⟨a, Nat.le_refl _, ha, fun q c h1 h2 => by omega, fun c hc => ?_⟩
            rw [List.getElem?_eq_none (by omega)] at hc; cases hc
          | succ n ihn =>
            intro a hn ha
            have hlt : a < T.length := by omega
            cases hq : isLet T[a] with
            | false =>
              refine ⟨a, Nat.le_refl _, ha, fun q c h1 h2 => by omega, fun c hc => ?_⟩
              rw [List.getElem?_eq_getElem hlt] at hc; cases hc; exact hq
            | true =>
              obtain ⟨e, e1, e2, e3, e4⟩ := ihn (a + 1) (by omega) (by omega)
              refine ⟨e, by omega, e2, fun q c h1 h2 hc => ?_, e4⟩
              rcases Nat.lt_or_ge a q with h | h
              · exact e3 q c h h2 hc
              · have : q = a := by omega
                subst this
                rw [List.getElem?_eq_getElem hlt] at hc; cases hc; exact hq
        exact key _ _ rfl h
      have hj : 14 + 3 * T.length + e < (whole T).length := by rw [whole_len]; omega
      have hij : p + 1 ≤ 14 + 3 * T.length + e := by omega
      have hx : ∀ q c, p + 1 ≤ q → q < 14 + 3 * T.length + e → (whole T)[q]? = some c → isLet c = true := fun q c h1 h2 hq => by
        have : (whole T)[q]? = T[q - (14 + 3 * T.length)]? := iT4 (by omega) (by omega)
        rw [this] at hq
        exact he3 _ c (by omega) (by omega) hq
      have hs : ∀ c, (whole T)[14 + 3 * T.length + e]? = some c → isLet c = false := fun c hq => by
        rcases Nat.lt_or_ge e T.length with h5 | h5
        · rw [iT4 rfl h5] at hq; exact he4 c hq
        · rw [iS4 (by omega)] at hq; cases hq; decide
      refine st x _ _ 542 (by kernel_rfl) (by k_extra "mem") fun F gs os => ?_
      have G' := G os
      dsimp only [Cfg.heap, List.cons_append, List.nil_append]
      apply WC.pick
      case' h => apply st_an_l
      case q => k_extra "pick"
      case G => assumption
      case hz => assumption
      case hc => assumption
      case h61 => assumption
      case h62 => assumption
      case h47 => assumption
      case h0 => assumption
      case h39 => assumption
      case h34 => assumption
      case h60 => assumption
      case hsp => assumption
      case hl => assumption
      case hB => assumption
      case hx => assumption
      case hij => assumption
      case hj => assumption
      case hs => assumption
      have ee : (98 :: T.take k) ++ ([c] ++ ((whole T).drop (p + 1)).take (14 + 3 * T.length + e - (p + 1))) = 98 :: T.take e := by
        have e1 : ((whole T).drop (p + 1)).take (14 + 3 * T.length + e - (p + 1)) = (T.drop (k + 1)).take (e - (k + 1)) := by
          rw [show 14 + 3 * T.length + e - (p + 1) = e - (k + 1) by omega]
          exact seg wT4 (by simp; omega) (by omega)
        rw [e1]
        have : T.take e = T.take k ++ ([c] ++ (T.drop (k + 1)).take (e - (k + 1))) := by
          rw [show e = (k + 1) + (e - (k + 1)) by omega, List.take_add, List.take_add_one, hc]
          simp
        rw [this]; rfl
      rw [ee]
      exact ⟨rfl, rfl, .inr (.inl ⟨rfl, _, ih (T.length - e) (sub_dec2 hd h he1) e bm tk dl pr (14 + 3 * T.length + e) rfl he2 rfl, by dsimp only [List.cons_append, List.nil_append]; k_extra "pick"⟩)⟩
  · have hk' : k = T.length := by omega
    subst hk'
    rw [List.take_length]
    exact ph15 st G hT h14 (by omega)
theorem ph13 {bm tk dl : Addr} {p : Nat} (hp : p = 13 + 3 * T.length) : O x [outTag T] (cf x (whole T) bm 535 (.ref tk) (p : Int) [(tk, .dict [("type", .int 3), ("name", .str (97 :: T)), ("data", .ref dl), ("selfClosing", .bool false), ("selfClosingAcknowledged", .bool false)]), (dl, .list [])]) := by
  have hz : (whole T).length ≤ 10240 := by rw [whole_len]; omega
  have eo : (p : Int) + 1 = ((p + 1 : Nat) : Int) := by omega
  have nx := fun bm' pr => ph14 st G hT h14 T.length 0 bm' tk dl pr (p + 1) rfl (by omega) (by omega)
  simp only [List.take_zero] at nx
  refine st x _ _ 535 (by kernel_rfl) (by k_extra "mem") fun F gs os => ?_
  have G' := G os
  dsimp only [Cfg.heap, List.cons_append, List.nil_append]
  apply WC.pick
  case' h => apply st_ban
  case q => k_extra "pick"
  case G => assumption
  case hz => assumption
  case hc => exact iS3 (k := 1) (by omega) (by omega)
  case hsp => decide
  case hl => decide
  intro bm' pr
  rw [eo]
  exact ⟨rfl, rfl, .inr (.inl ⟨rfl, _, nx bm' pr, by dsimp only [List.cons_append, List.nil_append]; k_extra "pick"⟩)⟩
theorem ph12s {bm tk dl : Addr} {p : Nat} (hp : p = 12 + 3 * T.length) : O x [outTag T] (cf x (whole T) bm 367 (.ref tk) (p : Int) [(tk, .dict [("type", .int 3), ("name", .str (97 :: T)), ("data", .ref dl), ("selfClosing", .bool false), ("selfClosingAcknowledged", .bool false)]), (dl, .list [])]) := by
  have hz : (whole T).length ≤ 10240 := by rw [whole_len]; omega
  have eo : (p : Int) + 1 = ((p + 1 : Nat) : Int) := by omega
  refine st x _ _ 367 (by kernel_rfl) (by k_extra "mem") fun F gs os => ?_
  have G' := G os
  dsimp only [Cfg.heap, List.cons_append, List.nil_append]
  apply WC.pick
  case' h => apply st_tagn_s
  case q => k_extra "pick"
  case G => assumption
  case hz => assumption
  case hc => exact iS3 (k := 0) (by omega) (by omega)
  intro bm'
  rw [eo]
  exact ⟨rfl, rfl, .inr (.inl ⟨rfl, _, ph13 st G hT h14 (p := p + 1) (by omega), by dsimp only [List.cons_append, List.nil_append]; k_extra "pick"⟩)⟩
theorem ph12 : ∀ (d k : Nat) (bm tk dl : Addr) (p : Nat), d = T.length - k → k ≤ T.length → p = 12 + 2 * T.length + k → O x [outTag T] (cf x (whole T) bm 367 (.ref tk) (p : Int) [(tk, .dict [("type", .int 3), ("name", .str (97 :: T.take k)), ("data", .ref dl), ("selfClosing", .bool false), ("selfClosingAcknowledged", .bool false)]), (dl, .list [])]) := by
  intro d
  induction d using Nat.strongRecOn with
  | _ d ih =>
  intro k bm tk dl pos hd hk hpos
  rcases Nat.lt_or_ge k T.length with h | h
  · obtain ⟨c, hc⟩ : ∃ c, T[k]? = some c := ⟨T[k], by simp [h]⟩
    have tc := hT c (mem_of_at hc)
    obtain ⟨_, t1, t2, t3, t4, t5, t6, t7, t8⟩ := id tc
    have t0 := tc.n0
    have tsp := tc.sp
    have hw : (whole T)[pos]? = some c := (iT3 hpos h).trans hc
    have hz : (whole T).length ≤ 10240 := by rw [whole_len]; omega
    have hB : (97 :: T.take k).length ≤ 10240 := by simp; omega
    refine st x _ _ 367 (by kernel_rfl) (by k_extra "mem") fun F gs os => ?_
    have G' := G os
    dsimp only [Cfg.heap, List.cons_append, List.nil_append]
    apply WC.pick
    case' h => apply st_tagn_c
    case q => k_extra "pick"
    case G => assumption
    case hz => assumption
    case hc => assumption
    case hsp => assumption
    case h62 => assumption
    case h47 => assumption
    case h0 => assumption
    case hT => assumption
    have eo : (pos : Int) + 1 = ((pos + 1 : Nat) : Int) := by omega
    have ee : (97 :: T.take k) ++ [c] = 97 :: T.take (k + 1) := by rw [List.take_add_one, hc]; rfl
    rw [eo, ee]
    exact ⟨rfl, rfl, .inr (.inl ⟨rfl, _, ih (T.length - (k + 1)) (sub_dec' hd h) (k + 1) bm tk dl (pos + 1) rfl (by omega) (by omega), by dsimp only [List.cons_append, List.nil_append]; k_extra "pick"⟩)⟩
  · have hk' : k = T.length := by omega
    subst hk'
    rw [List.take_length]
    exact ph12s st G hT h14 (by omega)
theorem ph11 {bm : Addr} {ct : AV} {p : Nat} (hp : p = 11 + 2 * T.length) : O x [outTag T] (cf x (whole T) bm 353 ct (p : Int) []) := by
  have hz : (whole T).length ≤ 10240 := by rw [whole_len]; omega
  have eo : (p : Int) + 1 = ((p + 1 : Nat) : Int) := by omega
  have nx := fun bm' tk dl => ph12 st G hT h14 T.length 0 bm' tk dl (p + 1) rfl (by omega) (by omega)
  simp only [List.take_zero] at nx
  refine st x _ _ 353 (by kernel_rfl) (by k_extra "mem") fun F gs os => ?_
  have G' := G os
  dsimp only [Cfg.heap, List.cons_append, List.nil_append]
  apply WC.pick
  case' h => apply st_tago_l
  case q => k_extra "pick"
  case G => assumption
  case hz => assumption
  case hc => exact iS2 (k := 2) (by omega) (by omega)
  case hl => decide
  case h33 => decide
  case h47 => decide
  intro bm' tk dl
  rw [eo]
  exact ⟨rfl, rfl, .inr (.inl ⟨rfl, _, nx bm' tk dl, by dsimp only [List.cons_append, List.nil_append]; k_extra "pick"⟩)⟩
theorem ph10 {bm : Addr} {ct : AV} {p : Nat} (hp : p = 10 + 2 * T.length) : O x [outTag T] (cf x (whole T) bm 304 ct (p : Int) []) := by
  have hz : (whole T).length ≤ 10240 := by rw [whole_len]; omega
  have eo : (p : Int) + 1 = ((p + 1 : Nat) : Int) := by omega
  refine st x _ _ 304 (by kernel_rfl) (by k_extra "mem") fun F gs os => ?_
  have G' := G os
  dsimp only [Cfg.heap, List.cons_append, List.nil_append]
  apply WC.pick
  case' h => apply st_data_lt
  case q => k_extra "pick"
  case G => assumption
  case hz => assumption
  case hc => exact iS2 (k := 1) (by omega) (by omega)
  intro bm'
  rw [eo]
  exact ⟨rfl, rfl, .inr (.inl ⟨rfl, _, ph11 st G hT h14 (p := p + 1) (by omega), by dsimp only [List.cons_append, List.nil_append]; k_extra "pick"⟩)⟩
theorem ph9 {bm : Addr} {ct : AV} {p : Nat} (hp : p = 8 + T.length) : O x [.plain 6 (63 :: T), outTag T] (cf x (whole T) bm 598 ct (p : Int) []) := by
  have hz : (whole T).length ≤ 10240 := by rw [whole_len]; omega
  have hc : (whole T)[9 + 2 * T.length]? = some 62 := iS2 (k := 0) (by omega) (by omega)
  have hj : 9 + 2 * T.length < (whole T).length := by rw [whole_len]; omega
  have hij : p ≤ 9 + 2 * T.length := by omega
  have hx : ∀ q c, p ≤ q → q < 9 + 2 * T.length → (whole T)[q]? = some c → decide (c ∈ [62]) = false := fun q c h1 h2 hq => by
    have : (whole T)[q]? = (63 :: T)[q - (8 + T.length)]? := iB (by omega) (by omega)
    rw [this] at hq
    have hm := List.mem_of_getElem? hq
    refine decide_eq_false fun h => ?_
    rw [List.mem_singleton] at h
    subst h
    rcases List.mem_cons.mp hm with h | h
    · cases h
    · exact (hT _ h).2.2.2.2.2.2.2.2 rfl
  have hs : ∀ c, (whole T)[9 + 2 * T.length]? = some c → decide (c ∈ [62]) = true := fun c h => by
    rw [hc] at h; cases h; decide
  have ee : ((whole T).drop p).take (9 + 2 * T.length - p) = 63 :: T := by
    have := seg (l := whole T) (k := 0) (q := T.length + 1) (p := p) wB (by simp; omega) (by simp)
    rw [show 9 + 2 * T.length - p = T.length + 1 by omega, this, List.drop_zero, List.take_of_length_le (by simp)]
  have h00 : 0 ∉ ((whole T).drop p).take (9 + 2 * T.length - p) := by
    rw [ee]
    intro h
    rcases List.mem_cons.mp h with h | h
    · cases h
    · exact (hT _ h).n0 rfl
  refine st x _ _ 598 (by kernel_rfl) (by k_extra "mem") fun F gs os => ?_
  have G' := G os
  dsimp only [Cfg.heap, List.cons_append, List.nil_append]
  apply WC.pick
  case' h => apply st_bog
  case q => k_extra "pick"
  case G => assumption
  case hz => assumption
  case hx => assumption
  case hij => assumption
  case hj => assumption
  case hc => assumption
  case hs => assumption
  case h00 => assumption
  intro bm' tk
  rw [ee, show ((9 + 2 * T.length : Nat) : Int) + 1 = ((10 + 2 * T.length : Nat) : Int) by omega]
  exact ⟨rfl, rfl, .inr (.inr ⟨rfl, _, _, tk, [_], _, rfl, .plain, ph10 st G hT h14 rfl, by dsimp only [List.cons_append, List.nil_append]; k_extra "pick"⟩)⟩
theorem ph8 {bm : Addr} {ct : AV} {p : Nat} (hp : p = 8 + T.length) : O x [.plain 7 errT, .plain 6 (63 :: T), outTag T] (cf x (whole T) bm 353 ct (p : Int) []) := by
  have hz : (whole T).length ≤ 10240 := by rw [whole_len]; omega
  refine st x _ _ 353 (by kernel_rfl) (by k_extra "mem") fun F gs os => ?_
  have G' := G os
  dsimp only [Cfg.heap, List.cons_append, List.nil_append]
  apply WC.pick
  case' h => apply st_tago_q
  case q => k_extra "pick"
  case G => assumption
  case hz => assumption
  case hc => exact iB (k := 0) (by omega) (by omega)
  intro bm' tk
  exact ⟨rfl, rfl, .inr (.inr ⟨rfl, _, _, tk, [_], _, rfl, .plain, ph9 st G hT h14 hp, by dsimp only [List.cons_append, List.nil_append]; k_extra "pick"⟩)⟩
theorem ph7 {bm : Addr} {ct : AV} {p : Nat} (hp : p = 7 + T.length) : O x [.plain 7 errT, .plain 6 (63 :: T), outTag T] (cf x (whole T) bm 304 ct (p : Int) []) := by
  have hz : (whole T).length ≤ 10240 := by rw [whole_len]; omega
  have eo : (p : Int) + 1 = ((p + 1 : Nat) : Int) := by omega
  refine st x _ _ 304 (by kernel_rfl) (by k_extra "mem") fun F gs os => ?_
  have G' := G os
  dsimp only [Cfg.heap, List.cons_append, List.nil_append]
  apply WC.pick
  case' h => apply st_data_lt
  case q => k_extra "pick"
  case G => assumption
  case hz => assumption
  case hc => exact iS1 (k := 3) (by omega) (by omega)
  intro bm'
  rw [eo]
  exact ⟨rfl, rfl, .inr (.inl ⟨rfl, _, ph8 st G hT h14 (p := p + 1) (by omega), by dsimp only [List.cons_append, List.nil_append]; k_extra "pick"⟩)⟩
theorem ph6 {bm tk : Addr} {p : Nat} (hp : p = 6 + T.length) : O x [.plain 6 T, .plain 7 errT, .plain 6 (63 :: T), outTag T] (cf x (whole T) bm 640 (.ref tk) (p : Int) [(tk, .dict [("type", .int 6), ("data", .str T)])]) := by
  have hz : (whole T).length ≤ 10240 := by rw [whole_len]; omega
  have eo : (p : Int) + 1 = ((p + 1 : Nat) : Int) := by omega
  refine st x _ _ 640 (by kernel_rfl) (by k_extra "mem") fun F gs os => ?_
  have G' := G os
  dsimp only [Cfg.heap, List.cons_append, List.nil_append]
  apply WC.pick
  case' h => apply st_ce
  case q => k_extra "pick"
  case G => assumption
  case hz => assumption
  case hc => exact iS1 (k := 2) (by omega) (by omega)
  intro bm'
  rw [eo]
  exact ⟨rfl, rfl, .inr (.inr ⟨rfl, _, _, tk, [_], _, rfl, .plain, ph7 st G hT h14 (p := p + 1) (by omega), by dsimp only [List.cons_append, List.nil_append]; k_extra "pick"⟩)⟩
theorem ph5 {bm tk : Addr} {p : Nat} (hp : p = 5 + T.length) : O x [.plain 6 T, .plain 7 errT, .plain 6 (63 :: T), outTag T] (cf x (whole T) bm 633 (.ref tk) (p : Int) [(tk, .dict [("type", .int 6), ("data", .str T)])]) := by
  have hz : (whole T).length ≤ 10240 := by rw [whole_len]; omega
  have eo : (p : Int) + 1 = ((p + 1 : Nat) : Int) := by omega
  refine st x _ _ 633 (by kernel_rfl) (by k_extra "mem") fun F gs os => ?_
  have G' := G os
  dsimp only [Cfg.heap, List.cons_append, List.nil_append]
  apply WC.pick
  case' h => apply st_ced
  case q => k_extra "pick"
  case G => assumption
  case hz => assumption
  case hc => exact iS1 (k := 1) (by omega) (by omega)
  intro bm'
  rw [eo]
  exact ⟨rfl, rfl, .inr (.inl ⟨rfl, _, ph6 st G hT h14 (p := p + 1) (by omega), by dsimp only [List.cons_append, List.nil_append]; k_extra "pick"⟩)⟩
theorem ph4n {bm tk : Addr} {p : Nat} (hp : p = 4 + T.length) : O x [.plain 6 T, .plain 7 errT, .plain 6 (63 :: T), outTag T] (cf x (whole T) bm 626 (.ref tk) (p : Int) [(tk, .dict [("type", .int 6), ("data", .str T)])]) := by
  have hz : (whole T).length ≤ 10240 := by rw [whole_len]; omega
  have eo : (p : Int) + 1 = ((p + 1 : Nat) : Int) := by omega
  refine st x _ _ 626 (by kernel_rfl) (by k_extra "mem") fun F gs os => ?_
  have G' := G os
  dsimp only [Cfg.heap, List.cons_append, List.nil_append]
  apply WC.pick
  case' h => apply st_com_d
  case q => k_extra "pick"
  case G => assumption
  case hz => assumption
  case hc => exact iS1 (k := 0) (by omega) (by omega)
  intro bm'
  rw [eo]
  exact ⟨rfl, rfl, .inr (.inl ⟨rfl, _, ph5 st G hT h14 (p := p + 1) (by omega), by dsimp only [List.cons_append, List.nil_append]; k_extra "pick"⟩)⟩
theorem ph4 {bm tk : Addr} {k p : Nat} (hk : k ≤ T.length) (hp : p = 4 + k) : O x [.plain 6 T, .plain 7 errT, .plain 6 (63 :: T), outTag T] (cf x (whole T) bm 626 (.ref tk) (p : Int) [(tk, .dict [("type", .int 6), ("data", .str (T.take k))])]) := by
  rcases Nat.lt_or_ge k T.length with h | h
  rotate_left
  · have hk' : k = T.length := by omega
    subst hk'
    rw [List.take_length]
    exact ph4n st G hT h14 hp
  obtain ⟨c, hc⟩ : ∃ c, T[k]? = some c := ⟨T[k], by simp [h]⟩
  have tc := hT c (mem_of_at hc)
  obtain ⟨_, t1, t2, t3, t4, t5, t6, t7, t8⟩ := id tc
  have t0 := tc.n0
  have hw : (whole T)[p]? = some c := (iT1 hp h).trans hc
  have hB : (T.take k).length ≤ 10240 := by simp; omega
  have hj : 4 + T.length < (whole T).length := by rw [whole_len]; omega
  have hij : p + 1 ≤ 4 + T.length := by omega
  have hx : ∀ q c, p + 1 ≤ q → q < 4 + T.length → (whole T)[q]? = some c → decide ([c] ∈ [[45], [0]]) = false := fun q c h1 h2 hq => by
    have : (whole T)[q]? = T[q - 4]? := iT1 (by omega) (by omega)
    rw [this] at hq
    have tc := hT c (mem_of_at hq)
    have t0 := tc.n0
    obtain ⟨_, t1, t2, t3, t4, t5, t6, t7, t8⟩ := tc
    refine decide_eq_false fun h => ?_
    simp at h
    omega
  have hs : ∀ c, (whole T)[4 + T.length]? = some c → decide ([c] ∈ [[45], [0]]) = true := fun c h => by
    rw [iS1 (k := 0) (by omega) (by omega)] at h; cases h; decide
  have ee : T.take k ++ ([c] ++ ((whole T).drop (p + 1)).take (4 + T.length - (p + 1))) = T := by
    have e1 : ((whole T).drop (p + 1)).take (4 + T.length - (p + 1)) = (T.drop (k + 1)).take (T.length - (k + 1)) := by
      rw [show 4 + T.length - (p + 1) = T.length - (k + 1) by omega]
      exact seg wT1 (by simp; omega) (by omega)
    rw [e1, List.take_of_length_le (l := T.drop (k + 1)) (by simp)]
    have : T = T.take (k + 1) ++ T.drop (k + 1) := (List.take_append_drop _ _).symm
    conv => rhs; rw [this, List.take_add_one, hc]
    simp
  have hz : (whole T).length ≤ 10240 := by rw [whole_len]; omega
  refine st x _ _ 626 (by kernel_rfl) (by k_extra "mem") fun F gs os => ?_
  have G' := G os
  dsimp only [Cfg.heap, List.cons_append, List.nil_append]
  apply WC.pick
  case' h => apply st_com_c
  case q => k_extra "pick"
  case G => assumption
  case hz => assumption
  case hc => assumption
  case h45 => assumption
  case h0 => assumption
  case hT => assumption
  case hx => assumption
  case hij => assumption
  case hj => assumption
  case hs => assumption
  rw [ee]
  exact ⟨rfl, rfl, .inr (.inl ⟨rfl, _, ph4n st G hT h14 rfl, by dsimp only [List.cons_append, List.nil_append]; k_extra "pick"⟩)⟩
theorem ph3 (h1 : 1 ≤ T.length) {bm tk : Addr} : O x [.plain 6 T, .plain 7 errT, .plain 6 (63 :: T), outTag T] (cf x (whole T) bm 612 (.ref tk) ((4 : Nat) : Int) [(tk, .dict [("type", .int 6), ("data", .str [])])]) := by
  obtain ⟨c, hc⟩ : ∃ c, T[0]? = some c := ⟨T[0], by simp [List.getElem?_eq_getElem]⟩
  have tc := hT c (mem_of_at hc)
  obtain ⟨_, t1, t2, t3, t4, t5, t6, t7, t8⟩ := id tc
  have t0 := tc.n0
  have hw : (whole T)[4]? = some c := (iT1 (k := 0) rfl (by omega)).trans hc
  have ee : ([] : List Nat) ++ [c] = T.take 1 := by rw [List.take_add_one, hc]; rfl
  have eo : ((4 : Nat) : Int) + 1 = ((5 : Nat) : Int) := rfl
  have hz : (whole T).length ≤ 10240 := by rw [whole_len]; omega
  refine st x _ _ 612 (by kernel_rfl) (by k_extra "mem") fun F gs os => ?_
  have G' := G os
  dsimp only [Cfg.heap, List.cons_append, List.nil_append]
  apply WC.pick
  case' h => apply st_cst
  case q => k_extra "pick"
  case G => assumption
  case hz => assumption
  case hc => assumption
  case h45 => assumption
  case h62 => assumption
  case h0 => assumption
  case hT => simp
  intro bm'
  rw [ee, eo]
  exact ⟨rfl, rfl, .inr (.inl ⟨rfl, _, ph4 st G hT h14 h1 rfl, by dsimp only [List.cons_append, List.nil_append]; k_extra "pick"⟩)⟩
theorem ph2 (h1 : 1 ≤ T.length) {bm : Addr} {ct : AV} : O x [.plain 6 T, .plain 7 errT, .plain 6 (63 :: T), outTag T] (cf x (whole T) bm 605 ct ((2 : Nat) : Int) []) := by
  have eo : ((2 + 1 : Nat) : Int) + 1 = ((4 : Nat) : Int) := rfl
  have hz : (whole T).length ≤ 10240 := by rw [whole_len]; omega
  refine st x _ _ 605 (by kernel_rfl) (by k_extra "mem") fun F gs os => ?_
  have G' := G os
  dsimp only [Cfg.heap, List.cons_append, List.nil_append]
  apply WC.pick
  case' h => apply st_mark
  case q => k_extra "pick"
  case G => assumption
  case hz => assumption
  case hc => exact wS0 (by omega)
  case hc2 => exact wS0 (by omega)
  intro bm' tk
  rw [eo]
  exact ⟨rfl, rfl, .inr (.inl ⟨rfl, _, ph3 st G hT h14 h1, by dsimp only [List.cons_append, List.nil_append]; k_extra "pick"⟩)⟩
theorem ph1 (h1 : 1 ≤ T.length) {bm : Addr} {ct : AV} : O x [.plain 6 T, .plain 7 errT, .plain 6 (63 :: T), outTag T] (cf x (whole T) bm 353 ct ((1 : Nat) : Int) []) := by
  have eo : ((1 : Nat) : Int) + 1 = ((2 : Nat) : Int) := rfl
  have hz : (whole T).length ≤ 10240 := by rw [whole_len]; omega
  refine st x _ _ 353 (by kernel_rfl) (by k_extra "mem") fun F gs os => ?_
  have G' := G os
  dsimp only [Cfg.heap, List.cons_append, List.nil_append]
  apply WC.pick
  case' h => apply st_tago_b
  case q => k_extra "pick"
  case G => assumption
  case hz => assumption
  case hc => exact wS0 (by omega)
  intro bm'
  rw [eo]
  exact ⟨rfl, rfl, .inr (.inl ⟨rfl, _, ph2 st G hT h14 h1, by dsimp only [List.cons_append, List.nil_append]; k_extra "pick"⟩)⟩
theorem ph0 (h1 : 1 ≤ T.length) {bm : Addr} {ct : AV} : O x [.plain 6 T, .plain 7 errT, .plain 6 (63 :: T), outTag T] ⟨bm, ct, [], 0, 0, 0, 0, [(bm, .meth 304 x.self), (x.ds, .inst 73 [("text", .str (whole T)), ("place", .int 0)]), (x.m, .meth 148 x.s)]⟩ := by
  have hok := whole_ok hT
  have hz : (whole T).length ≤ 10240 := by rw [whole_len]; omega
  refine st x _ _ 304 (by kernel_rfl) (by k_extra "mem") fun F gs os => ?_
  have G' := G os
  dsimp only [Cfg.heap, List.cons_append, List.nil_append]
  apply WC.pick
  case' h => apply st_data_0
  case q => k_extra "pick"
  case G => assumption
  case hz => assumption
  case hc => exact wS0 (by omega)
  case hok => assumption
  intro bm'
  rw [show (strm x.m x.nl x.ds x.er (whole T) (whole T).length 1 0 0) = (strm x.m x.nl x.ds x.er (whole T) (whole T).length ((1 : Nat) : Int) 0 0) from rfl]
  exact ⟨rfl, rfl, .inr (.inl ⟨rfl, _, ph1 st G hT h14 h1, by dsimp only [List.cons_append, List.nil_append]; k_extra "pick"⟩)⟩
end
end Mine
end
section
open PySem PySem.W PySem.Calls PyProof.Rows
namespace Mine
section
variable {prog : Program} {w : World} {h₀ : Heap} {Lg : Addr} {x : Fix} {outs : List TokOut} {O : Fix → List TokOut → Cfg → Prop} {T : List Nat}
theorem run_raw_e (st : StepOk prog w h₀ Lg (endP x (T.length : Int)) O) (G : ∀ os, Gnd (K2 w.params) ⟨h₀, Lg, os⟩) (hT : ∀ c ∈ T, tch c) (h14 : T.length ≤ 14) {bm : Addr} {ct : AV} :
    O x [] ⟨bm, ct, [], 0, 0, 0, (T.length : Int), [(bm, .meth 332 x.self), (x.ds, .inst 73 [("text", .str T), ("place", .int T.length)])]⟩ := by
  have hz : T.length ≤ 10240 := by omega
  have hn : 10 ∉ T := fun h => by have := (hT _ h).1; unfold okc at this; omega
  refine st x _ _ 332 (by kernel_rfl) (by k_extra "mem") fun F gs os => ?_
  have G' := G os
  dsimp only [Cfg.heap, List.cons_append, List.nil_append]
  apply WC.pick
  case' h => apply st_raw_e
  case q => k_extra "pick"
  case G => assumption
  case hz => assumption
  case hn => assumption
  case e0 => rfl
  exact ⟨rfl, rfl, .inl ⟨rfl, rfl, _, ⟨_, _, _, rfl⟩, by dsimp only [List.cons_append, List.nil_append]; k_extra "pick"⟩⟩
theorem run_raw (st : StepOk prog w h₀ Lg (endP x (T.length : Int)) O) (G : ∀ os, Gnd (K2 w.params) ⟨h₀, Lg, os⟩) (hT : ∀ c ∈ T, tch c) (h14 : T.length ≤ 14) (h1 : 1 ≤ T.length) {bm : Addr} {ct : AV} :
    O x [.plain 1 T] ⟨bm, ct, [], 0, 0, 0, 0, [(bm, .meth 332 x.self), (x.ds, .inst 73 [("text", .str T), ("place", .int 0)]), (x.m, .meth 148 x.s)]⟩ := by
  have hz : T.length ≤ 10240 := by omega
  have hn : 10 ∉ T := fun h => by have := (hT _ h).1; unfold okc at this; omega
  obtain ⟨c, hc⟩ : ∃ c, T[0]? = some c := ⟨T[0], by simp [List.getElem?_eq_getElem]⟩
  have tc := hT c (mem_of_at hc)
  obtain ⟨_, t1, t2, t3, t4, t5, t6, t7, t8⟩ := id tc
  have t0 := tc.n0
  have hok : ∀ c ∈ T, okc c := fun c h => (hT c h).1
  have hx : ∀ q c, 1 ≤ q → T[q]? = some c → decide ([c] ∈ [[60], [0]]) = false := fun q c _ hq => by
    have tc := hT c (mem_of_at hq)
    have t0 := tc.n0
    obtain ⟨_, t1, t2, t3, t4, t5, t6, t7, t8⟩ := tc
    refine decide_eq_false fun h => ?_
    simp at h
    omega
  have ee : [c] ++ T.drop 1 = T := by
    have : T = T.take 1 ++ T.drop 1 := (List.take_append_drop _ _).symm
    conv => rhs; rw [this, List.take_add_one, hc]
    simp
  refine st x _ _ 332 (by kernel_rfl) (by k_extra "mem") fun F gs os => ?_
  have G' := G os
  dsimp only [Cfg.heap, List.cons_append, List.nil_append]
  apply WC.pick
  case' h => apply st_raw_0
  case q => k_extra "pick"
  case G => assumption
  case hz => assumption
  case hc => assumption
  case h60 => assumption
  case h0 => assumption
  case hn => assumption
  case h1 => assumption
  case hok => assumption
  case hx => assumption
  intro tk
  rw [ee]
  exact ⟨rfl, rfl, .inr (.inr ⟨rfl, _, _, tk, [_], _, rfl, .plain, run_raw_e st G hT h14, by dsimp only [List.cons_append, List.nil_append]; k_extra "pick"⟩)⟩
theorem run_scr_e (st : StepOk prog w h₀ Lg (endP x (T.length : Int)) O) (G : ∀ os, Gnd (K2 w.params) ⟨h₀, Lg, os⟩) (hT : ∀ c ∈ T, tch c) (h14 : T.length ≤ 14) {bm : Addr} {ct : AV} :
    O x [] ⟨bm, ct, [], 0, 0, 0, (T.length : Int), [(bm, .meth 339 x.self), (x.ds, .inst 73 [("text", .str T), ("place", .int T.length)])]⟩ := by
  have hz : T.length ≤ 10240 := by omega
  have hn : 10 ∉ T := fun h => by have := (hT _ h).1; unfold okc at this; omega
  refine st x _ _ 339 (by kernel_rfl) (by k_extra "mem") fun F gs os => ?_
  have G' := G os
  dsimp only [Cfg.heap, List.cons_append, List.nil_append]
  apply WC.pick
  case' h => apply st_scr_e
  case q => k_extra "pick"
  case G => assumption
  case hz => assumption
  case hn => assumption
  case e0 => rfl
  exact ⟨rfl, rfl, .inl ⟨rfl, rfl, _, ⟨_, _, _, rfl⟩, by dsimp only [List.cons_append, List.nil_append]; k_extra "pick"⟩⟩
theorem run_scr (st : StepOk prog w h₀ Lg (endP x (T.length : Int)) O) (G : ∀ os, Gnd (K2 w.params) ⟨h₀, Lg, os⟩) (hT : ∀ c ∈ T, tch c) (h14 : T.length ≤ 14) (h1 : 1 ≤ T.length) {bm : Addr} {ct : AV} :
    O x [.plain 1 T] ⟨bm, ct, [], 0, 0, 0, 0, [(bm, .meth 339 x.self), (x.ds, .inst 73 [("text", .str T), ("place", .int 0)]), (x.m, .meth 148 x.s)]⟩ := by
  have hz : T.length ≤ 10240 := by omega
  have hn : 10 ∉ T := fun h => by have := (hT _ h).1; unfold okc at this; omega
  obtain ⟨c, hc⟩ : ∃ c, T[0]? = some c := ⟨T[0], by simp [List.getElem?_eq_getElem]⟩
  have tc := hT c (mem_of_at hc)
  obtain ⟨_, t1, t2, t3, t4, t5, t6, t7, t8⟩ := id tc
  have t0 := tc.n0
  have hok : ∀ c ∈ T, okc c := fun c h => (hT c h).1
  have hx : ∀ q c, 1 ≤ q → T[q]? = some c → decide ([c] ∈ [[60], [0]]) = false := fun q c _ hq => by
    have tc := hT c (mem_of_at hq)
    have t0 := tc.n0
    obtain ⟨_, t1, t2, t3, t4, t5, t6, t7, t8⟩ := tc
    refine decide_eq_false fun h => ?_
    simp at h
    omega
  have ee : [c] ++ T.drop 1 = T := by
    have : T = T.take 1 ++ T.drop 1 := (List.take_append_drop _ _).symm
    conv => rhs; rw [this, List.take_add_one, hc]
    simp
  refine st x _ _ 339 (by kernel_rfl) (by k_extra "mem") fun F gs os => ?_
  have G' := G os
  dsimp only [Cfg.heap, List.cons_append, List.nil_append]
  apply WC.pick
  case' h => apply st_scr_0
  case q => k_extra "pick"
  case G => assumption
  case hz => assumption
  case hc => assumption
  case h60 => assumption
  case h0 => assumption
  case hn => assumption
  case h1 => assumption
  case hok => assumption
  case hx => assumption
  intro tk
  rw [ee]
  exact ⟨rfl, rfl, .inr (.inr ⟨rfl, _, _, tk, [_], _, rfl, .plain, run_scr_e st G hT h14, by dsimp only [List.cons_append, List.nil_append]; k_extra "pick"⟩)⟩
theorem run_pla_e (st : StepOk prog w h₀ Lg (endP x (T.length : Int)) O) (G : ∀ os, Gnd (K2 w.params) ⟨h₀, Lg, os⟩) (hT : ∀ c ∈ T, tch c) (h14 : T.length ≤ 14) {bm : Addr} {ct : AV} :
    O x [] ⟨bm, ct, [], 0, 0, 0, (T.length : Int), [(bm, .meth 346 x.self), (x.ds, .inst 73 [("text", .str T), ("place", .int T.length)])]⟩ := by
  have hz : T.length ≤ 10240 := by omega
  have hn : 10 ∉ T := fun h => by have := (hT _ h).1; unfold okc at this; omega
  refine st x _ _ 346 (by kernel_rfl) (by k_extra "mem") fun F gs os => ?_
  have G' := G os
  dsimp only [Cfg.heap, List.cons_append, List.nil_append]
  apply WC.pick
  case' h => apply st_pla_e
  case q => k_extra "pick"
  case G => assumption
  case hz => assumption
  case hn => assumption
  case e0 => rfl
  exact ⟨rfl, rfl, .inl ⟨rfl, rfl, _, ⟨_, _, _, rfl⟩, by dsimp only [List.cons_append, List.nil_append]; k_extra "pick"⟩⟩
theorem run_pla (st : StepOk prog w h₀ Lg (endP x (T.length : Int)) O) (G : ∀ os, Gnd (K2 w.params) ⟨h₀, Lg, os⟩) (hT : ∀ c ∈ T, tch c) (h14 : T.length ≤ 14) (h1 : 1 ≤ T.length) {bm : Addr} {ct : AV} :
    O x [.plain 1 T] ⟨bm, ct, [], 0, 0, 0, 0, [(bm, .meth 346 x.self), (x.ds, .inst 73 [("text", .str T), ("place", .int 0)]), (x.m, .meth 148 x.s)]⟩ := by
  have hz : T.length ≤ 10240 := by omega
  have hn : 10 ∉ T := fun h => by have := (hT _ h).1; unfold okc at this; omega
  obtain ⟨c, hc⟩ : ∃ c, T[0]? = some c := ⟨T[0], by simp [List.getElem?_eq_getElem]⟩
  have tc := hT c (mem_of_at hc)
  obtain ⟨_, t1, t2, t3, t4, t5, t6, t7, t8⟩ := id tc
  have t0 := tc.n0
  have hok : ∀ c ∈ T, okc c := fun c h => (hT c h).1
  have hx : ∀ q c, 1 ≤ q → T[q]? = some c → decide (c ∈ [0]) = false := fun q c _ hq => by
    have tc := hT c (mem_of_at hq)
    have t0 := tc.n0
    obtain ⟨_, t1, t2, t3, t4, t5, t6, t7, t8⟩ := tc
    refine decide_eq_false fun h => ?_
    simp at h
    omega
  have ee : [c] ++ T.drop 1 = T := by
    have : T = T.take 1 ++ T.drop 1 := (List.take_append_drop _ _).symm
    conv => rhs; rw [this, List.take_add_one, hc]
    simp
  refine st x _ _ 346 (by kernel_rfl) (by k_extra "mem") fun F gs os => ?_
  have G' := G os
  dsimp only [Cfg.heap, List.cons_append, List.nil_append]
  apply WC.pick
  case' h => apply st_pla_0
  case q => k_extra "pick"
  case G => assumption
  case hz => assumption
  case hc => assumption
  case h60 => assumption
  case h0 => assumption
  case hn => assumption
  case h1 => assumption
  case hok => assumption
  case hx => assumption
  intro tk
  rw [ee]
  exact ⟨rfl, rfl, .inr (.inr ⟨rfl, _, _, tk, [_], _, rfl, .plain, run_pla_e st G hT h14, by dsimp only [List.cons_append, List.nil_append]; k_extra "pick"⟩)⟩
end
end Mine
end
section
open PySem PySem.W PySem.Calls PyProof.Rows
namespace Mine
section
variable {prog : Program} {w : World} {n : Nat} {Γ : Act} {loc : Locs} {gs : Array GenState} {H F : HL} {k : AV → St → Prop} {t u : Tok}
example : True := by
  k_with "spec" => (apply call_sp; (case' h => apply sp_mkStr); (case G => assumption); (case pck => k_extra "pick"); (case hm => decide); intro _ _ _ _ _)
  trivial
/-- the tokenizer is made -/
theorem sp_mkTok (G : Gnd (K2 w.params) Γ) {T : List Nat} (h : ∀ y s m nl ds er l4 bm, k (.ref y) ⟨loc, (y, .inst 762 (tok7 s l4 bm .none)) :: (s, .inst 166 (strm m nl ds er [] 0 0 0 0)) :: (er, .list []) :: (bm, .meth 304 y) :: (ds, .inst 73 [("text", .str T), ("place", .int 0)]) :: (m, .meth 148 s) :: F, gs⟩) :
    WC prog w 7 Γ (.call (.ref 762) ⟨[.str ⟨T.toArray⟩ t], []⟩) ⟨loc, F, gs⟩ k := by
  refine WC.make (fI := 261) G (mk_HTMLTokenizer _) fun x => ?_
  refine' WC.fnE (us := []) (ps := [("self", .ref x), ("stream", .str T), ("parser", .none)]) G ?ho ?hcd ?hbind ?hb ?hloc ?hu ?hnd ?hco ?hgen ?hk ?hcell ?h
  case ho => with_unfolding_all exact rfl
  case hbind => exact fun s X => binds_K X rfl (by with_unfolding_all exact rfl) rfl rfl rfl
  k_extra "fnD"
  case hb => exact .cons ⟨rfl, .ref _⟩ (.cons ⟨rfl, .str _ _⟩ (.cons ⟨rfl, .none⟩ .nil))
  case h =>
    intro Γ' G' E'
    dsimp only [List.cons_append, List.nil_append]
    repeat k_extra "step"
    apply q_fall
    case' h => refine ⟨rfl, ?_⟩; apply h
    case p => k_extra "pick"
end
end Mine
end
section
open PySem PySem.W PySem.Calls PyProof.Rows
namespace Mine
/-- the row's rows -/
inductive RowsC : List TokOut → List AV → HL → Prop
  | nil : RowsC [] [] []
  | cons {o tk piece os rs Hd tp} : Piece o tk piece → RowsC os rs Hd → RowsC (o :: os) (.ref tp :: rs) ((tp, .tuple [.ref tk, .bool false]) :: (piece ++ Hd))
theorem RowsC.snoc {o tk piece os rs Hd tp} (r : RowsC os rs Hd) (p : Piece o tk piece) : RowsC (os ++ [o]) (rs ++ [.ref tp]) (Hd ++ ((tp, .tuple [.ref tk, .bool false]) :: piece)) := by
  induction r with
  | nil =>
    have := RowsC.cons (tp := tp) p .nil
    rw [List.append_nil] at this
    exact this
  | @cons o' tk' piece' os' rs' Hd' tp' q _ ih =>
    have := RowsC.cons (tp := tp') q ih
    rw [← List.append_assoc] at this
    exact this
theorem RowsC.len {os rs Hd} (r : RowsC os rs Hd) : rs.length = os.length := by
  induction r with
  | nil => rfl
  | cons _ _ ih => rw [List.length_cons, List.length_cons, ih]
section
variable {prog : Program} {w : World} {n : Nat} {Γ : Act} {loc : Locs} {gs : Array GenState} {H F : HL} {k : AV → St → Prop} {t u : Tok} {EndP : HL → Prop} {outs : List TokOut}
theorem f_isi {i : Int} (h : k (.bool false) ⟨loc, H, gs⟩) : W prog w n Γ Conc (call (.builtin "isinstance") [.int i t, .type "bool"]) ⟨loc, H, gs⟩ k := .mk fun A s ro p => IsiPair.int_bool ⟨.bool false, _, .bool _, p.toks _, h⟩
example : True := by
  k_with "call" => with_reducible apply f_isi
  trivial
theorem Pick.of_permX : ∀ {R X H : HL}, (R ++ X).Perm H → Pick R H
  | [], _, _, _ => .nil
  | p :: R, X, H, h => by
    obtain ⟨a, b, rfl⟩ := List.append_of_mem (h.mem_iff.mp (.head _))
    exact .cons Sel.perm (Pick.of_permX (X := X) (List.Perm.cons_inv (h.trans List.perm_middle)))
theorem push_set {α : Type} (gs : Array α) (a y : α) : (gs.push a).setIfInBounds gs.size y = gs.push y := by
  obtain ⟨l⟩ := gs
  simp
/-- what holds ahead of each turn of the row's comprehension -/
def RowI (prog : Program) (w : World) (h₀ : Heap) (self : Addr) (EndP : HL → Prop) (outs : List TokOut) (F : HL) (gs : Array GenState) (Lg ga : Addr) (it acc : Addr) (j : Nat) (S : St) : Prop :=
  it = ga ∧ ∃ done rest rs Hd base gst av, outs = done ++ rest ∧ j = rest.length ∧ RowsC done rs Hd ∧ Goes prog w 8 h₀ Lg [("self", .ref self)] EndP rest base gst ∧ S.gens = gs.push gst ∧ S.loc = ([("token", av)] : Locs) ∧
    Pick ((acc, .list rs) :: (Lg, .obj (frP [("self", .ref self)])) :: (base ++ ((ga, .obj (genP gs.size)) :: (Hd ++ F)))) S.heap
theorem sp_row (G : Gnd (K2 w.params) Γ) {self s er l4 mm nl ds bm : Addr} {ct : AV} {l : List Nat} {sz off a b : Int} {B : HL} (ho : outs.length ≤ 10)
    (hrun : ∀ h₀ Lg O, (∀ os, Gnd (K2 w.params) ⟨h₀, Lg, os⟩) → StepOk prog w h₀ Lg EndP O → ∀ tq, O ⟨self, s, tq, er, l4, mm, nl, ds⟩ outs ⟨bm, ct, l, sz, off, a, b, B⟩)
    (h : ∀ acc rs Hd base', RowsC outs rs Hd → EndP base' → k (.ref acc) ⟨loc, (acc, .list rs) :: (Hd ++ (base' ++ F)), gs.push .finished⟩) :
    WC prog w 11 Γ (.call (.ref 797) ⟨[.ref self], []⟩) ⟨loc, (self, .inst 762 (tok7 s l4 bm ct)) :: (s, .inst 166 (strm mm nl ds er l sz off a b)) :: (er, .list []) :: (B ++ F), gs⟩ k := by
  refine' WC.fnE (us := []) (ps := [("t", .ref self)]) G ?ho ?hcd ?hbind ?hb ?hloc ?hu ?hnd ?hco ?hgen ?hk ?hcell ?h
  k_extra "fn"
  case hb => exact .cons ⟨rfl, .ref _⟩ .nil
  case h =>
    intro Γ' G' E'
    dsimp only [List.cons_append, List.nil_append]
    repeat k_extra "step"
    -- the generator's addresses are known only once it is made
    refine r_ListComp (us := [("token", .unb)]) (fun it acc j S => ∃ Lg, Γ'.h₀.objs.size ≤ Lg ∧ ∃ ga, RowI prog w Γ'.h₀ self EndP outs F gs Lg ga it acc j S) (by k_extra "env") G' ?hi ?again ?turn ?hu ?hnd ?hs ?ht ?hfree ?hcell ?hkind ?hnames
    case hi =>
      k_extra "step"
      k_extra "c"
      refine it_tok (n := 9) (B := B) (outs := outs) (EndP := EndP) G' (.head _) (fun Lg O st tq => hrun _ _ O (fun os => ⟨G'.X, G'.T⟩) st tq) fun Lg ga gst ab go => ?_
      refine ⟨ga, rfl, rfl, fun acc => ⟨outs.length, Lg, ab, ga, rfl, [], outs, [], [], _, gst, .unb, rfl, rfl, .nil, go, rfl, rfl, ?_⟩⟩
      exact Pick.of_perm (by
        rw [List.nil_append]
        refine .cons _ ?_
        refine (List.Perm.cons _ ?_).trans (List.Perm.swap _ _ _)
        exact List.perm_middle)
    case again =>
      rintro Γ'' it acc j ⟨loc', H', gs'⟩ G'' st'' ⟨Lg, ab, ga, rfl, done, rest, rs, Hd, base, gst, av, rfl, rfl, rc, go, hg, rfl, pk⟩
      dsimp only at hg
      subst hg
      refine W.pick pk ?_
      refine it_gen (g := gs.size) (.tail _ (.tail _ (List.mem_append_right _ (.head _)))) ?_
      exact ⟨rfl, Lg, ab, _, rfl, done, rest, rs, Hd, base, gst, av, rfl, rfl, rc, go, rfl, rfl, .refl⟩
    case turn =>
      rintro Γ'' it acc j ⟨loc', H', gs'⟩ G'' st'' E ⟨Lg, ab, ga, rfl, done, rest, rs, Hd, base, gst, av, rfl, rfl, rc, go, hg, rfl, pk⟩
      dsimp only at hg
      subst hg
      have hg0 : (gs.push gst)[gs.size]? = some gst := by simp
      have hset : ∀ y, (gs.push gst).setIfInBounds gs.size y = gs.push y := fun y => push_set gs gst y
      have p1 : Pick ((Lg, AO.obj (frP [("self", .ref self)])) :: (base ++ ((it, .obj (genP gs.size)) :: ((acc, .list rs) :: (Hd ++ F))))) ((acc, .list rs) :: (Lg, .obj (frP [("self", .ref self)])) :: (base ++ ((it, .obj (genP gs.size)) :: (Hd ++ F)))) := Pick.of_perm (by
        refine List.Perm.trans ?_ (List.Perm.swap _ _ _)
        refine .cons _ ?_
        refine (List.Perm.append_left base (List.Perm.swap _ _ _)).trans ?_
        exact List.perm_middle)
      refine W.pick pk (W.pick p1 ?_)
      cases rest with
      | nil =>
        refine nx_genEnd (Γr := Γ') (m := 8) G' st'' ab (by decide) hg0 go fun base' he => ?_
        rw [hset]
        dsimp only
        refine ⟨(acc, .list rs) :: (Hd ++ (base' ++ F)), Pick.of_permX (X := [(Lg, .obj (frP [("self", .ref self)])), (it, .obj (genP gs.size))]) ?_, ?_⟩
        · refine (List.perm_append_comm).trans ?_
          refine .cons _ ?_
          refine (List.Perm.cons _ ?_).trans (List.perm_middle.symm)
          refine (List.Perm.cons _ ?_).trans (List.perm_middle.symm)
          rw [← List.append_assoc, ← List.append_assoc]
          exact List.perm_append_comm.append_right _
        · repeat k_extra "step"
          rw [List.append_nil] at h
          exact q_end .refl (h _ _ _ _ rc he)
      | cons o rest =>
        refine nx_gen (Γr := Γ') (m := 8) G' st'' ab (by decide) hg0 go fun tk piece base' gst' pc go' => ?_
        rw [hset]
        have hl : rs.length ≤ 1048576 := by
          have := rc.len
          rw [List.length_append] at ho
          omega
        dsimp only
        k_extra "c"
        refine W.pick (H' := (acc, .list rs) :: (Lg, .obj (frP [("self", .ref self)])) :: (piece ++ (base' ++ ((it, .obj (genP gs.size)) :: (Hd ++ F))))) (Pick.of_perm ?_) ?_
        · refine (List.Perm.swap _ _ _).trans (.cons _ ?_)
          rw [← List.append_assoc, ← List.append_assoc]
          refine List.perm_middle.symm.trans ?_
          exact List.Perm.append_left _ (List.Perm.swap _ _ _)
        have fin : ∀ (tp : Addr), Pick ((acc, AO.list (rs ++ [.ref tp])) :: (Lg, .obj (frP [("self", .ref self)])) :: (base' ++ ((it, .obj (genP gs.size)) :: (Hd ++ ((tp, .tuple [.ref tk, .bool false]) :: piece) ++ F)))) ((tp, .tuple [.ref tk, .bool false]) :: (acc, .list (rs ++ [.ref tp])) :: (Lg, .obj (frP [("self", .ref self)])) :: (piece ++ (base' ++ ((it, .obj (genP gs.size)) :: (Hd ++ F))))) := fun tp => Pick.of_perm (by
          refine List.Perm.trans ?_ (List.Perm.swap _ _ _)
          refine .cons _ ?_
          refine List.Perm.trans ?_ (List.Perm.swap _ _ _)
          refine .cons _ ?_
          simp only [List.append_assoc, List.cons_append]
          refine List.Perm.trans ?_ (List.Perm.cons _ List.perm_append_comm)
          simp only [List.append_assoc, List.cons_append]
          refine (List.Perm.append_left base' (List.Perm.cons _ List.perm_middle)).trans ?_
          refine (List.Perm.append_left base' (List.Perm.swap _ _ _)).trans ?_
          refine List.perm_middle.trans ?_
          refine .cons _ (List.Perm.append_left base' (.cons _ (List.Perm.append_left Hd ?_)))
          exact List.perm_append_comm)
        cases pc with
        | plain =>
          dsimp only [List.cons_append, List.nil_append] at fin ⊢
          repeat k_extra "step"
          exact ⟨rest.length, by simp, Lg, ab, it, rfl, done ++ [_], rest, _, _, base', gst', .ref tk, by simp, rfl, rc.snoc .plain, go', rfl, rfl, fin _⟩
        | tag =>
          dsimp only [List.cons_append, List.nil_append] at fin ⊢
          repeat k_extra "step"
          exact ⟨rest.length, by simp, Lg, ab, it, rfl, done ++ [_], rest, _, _, base', gst', .ref tk, by simp, rfl, rc.snoc .tag, go', rfl, rfl, fin _⟩
    k_extra "comp"
end
end Mine
end
section
open PySem PySem.W PySem.Calls PyProof.Rows
namespace Mine
abbrev namesL : List (List Nat) := [[110, 111, 116], [110, 111, 116, 105, 110], [65, 77, 80], [108, 116], [103, 116], [97, 109, 112], [69, 97, 99, 117, 116, 101], [115, 117, 112, 49], [116, 105, 109, 101, 115, 98], [113, 117, 111, 116], [97, 99, 69], [77, 111, 112, 102], [110, 98, 115, 112], [99, 111, 112, 121]]
abbrev moreL : List (List Nat) := [[38], [38, 35, 51, 56, 59], [38, 35, 120, 50, 54], [35], [38, 35], [38, 35, 88], [38, 97, 109, 112, 59, 108, 116, 59], [38, 35, 48, 59], [38, 35, 120, 68, 56, 48, 48, 59], [233], [120132]]
abbrev signsL : List Nat := [38, 59, 35, 120, 88, 48, 49, 57, 65, 97, 70, 102, 90, 122, 110, 33, 36, 37, 40, 41, 42, 43, 44, 46, 58, 63, 64, 91, 93, 94, 95, 123, 124, 125, 126, 92, 96, 50, 51, 52, 53, 54, 55, 56, 66, 67, 68, 69, 71, 72, 73, 74, 75, 76, 77, 78, 79, 80, 81, 82, 83, 84, 85, 86, 87, 89, 98, 99, 100, 101, 103, 104, 105, 106, 107, 108, 109, 111, 112, 113, 114, 115, 116, 117, 118, 119, 121]
theorem gl_SIGNS (P : Params) : ∃ t, nsIn (K2 P) mainGlobals "_law_SIGNS" = some (some (.str ⟨signsL.toArray⟩ t)) := ⟨_, by with_unfolding_all rfl⟩
theorem names_ok : ∀ l ∈ namesL, l.length ≤ 6 ∧ ∀ c ∈ l, tch c := by unfold tch okc; decide
theorem more_ok : ∀ l ∈ moreL, l.length ≤ 8 ∧ ∀ c ∈ l, tch c := by unfold tch okc; decide
theorem signs_ok : ∀ c ∈ signsL, tch c := by unfold tch okc; decide
section
variable {prog : Program} {w : World} {n : Nat} {Γ : Act} {loc : Locs} {gs : Array GenState} {H F : HL} {k : AV → St → Prop} {t u : Tok} {T : List Nat}
theorem sp_names (G : Gnd (K2 w.params) Γ) (h : ∀ r, k (.ref r) ⟨loc, (r, .list (namesL.map .str)) :: F, gs⟩) : WC prog w 1 Γ (.call (.ref 773) ⟨[], []⟩) ⟨loc, F, gs⟩ k := by
  refine' WC.fnE (us := []) (ps := []) G ?ho ?hcd ?hbind ?hb ?hloc ?hu ?hnd ?hco ?hgen ?hk ?hcell ?h
  k_extra "fn"
  case hb => exact .nil
  case h =>
    intro Γ' G' E'
    dsimp only [List.cons_append, List.nil_append]
    repeat k_extra "step"
    exact q_end .refl (h _)
theorem sp_more (G : Gnd (K2 w.params) Γ) (h : ∀ r, k (.ref r) ⟨loc, (r, .list (moreL.map .str)) :: F, gs⟩) : WC prog w 1 Γ (.call (.ref 780) ⟨[], []⟩) ⟨loc, F, gs⟩ k := by
  refine' WC.fnE (us := []) (ps := []) G ?ho ?hcd ?hbind ?hb ?hloc ?hu ?hnd ?hco ?hgen ?hk ?hcell ?h
  k_extra "fn"
  case hb => exact .nil
  case h =>
    intro Γ' G' E'
    dsimp only [List.cons_append, List.nil_append]
    repeat k_extra "step"
    exact q_end .refl (h _)
example : True := by
  k_with "spec" => (apply call_sp; (case' h => apply sp_names); (case G => assumption); (case pck => k_extra "pick"); (case hm => decide); intro _)
  k_with "spec" => (apply call_sp; (case' h => apply sp_more); (case G => assumption); (case pck => k_extra "pick"); (case hm => decide); intro _)
  trivial
theorem slc_sub {l : List Nat} {lo hi : Option Int} : (slc l lo hi).length ≤ l.length ∧ ∀ c ∈ slc l lo hi, c ∈ l := by
  unfold slc
  refine ⟨by simp only [List.length_take, List.length_drop]; omega, fun c h => List.mem_of_mem_drop (List.mem_of_mem_take h)⟩
theorem tch59 : tch 59 := by unfold tch okc; decide
theorem tch38 : tch 38 := by unfold tch okc; decide
/-- a piece of the law's text -/
theorem sp_piece (G : Gnd (K2 w.params) Γ) {i : Int} (h : ∀ R : List Nat, R.length ≤ 8 → (∀ c ∈ R, tch c) → k (.str R) ⟨loc, F, gs⟩) : WC prog w 2 Γ (.call (.ref 787) ⟨[.int i t], []⟩) ⟨loc, F, gs⟩ k := by
  obtain ⟨tk, hsg⟩ := gl_SIGNS w.params
  have d5 : 0 ≤ i % 5 ∧ i % 5 < 5 := ⟨Int.emod_nonneg _ (by decide), Int.emod_lt_of_pos _ (by decide)⟩
  have d14 : 0 ≤ (i / 5) % 14 ∧ (i / 5) % 14 < 14 := ⟨Int.emod_nonneg _ (by decide), Int.emod_lt_of_pos _ (by decide)⟩
  have d87 : 0 ≤ (i / 5) % 87 ∧ (i / 5) % 87 < 87 := ⟨Int.emod_nonneg _ (by decide), Int.emod_lt_of_pos _ (by decide)⟩
  have d11 : 0 ≤ (i / 5) % 11 ∧ (i / 5) % 11 < 11 := ⟨Int.emod_nonneg _ (by decide), Int.emod_lt_of_pos _ (by decide)⟩
  have d7 : 0 ≤ (i / 5) % 7 ∧ (i / 5) % 7 < 7 := ⟨Int.emod_nonneg _ (by decide), Int.emod_lt_of_pos _ (by decide)⟩
  obtain ⟨nm, hnm⟩ : ∃ nm, namesL[((i / 5) % 14).toNat]? = some nm := ⟨_, List.getElem?_eq_getElem (by show _ < 14; omega)⟩
  obtain ⟨n1, n2⟩ := names_ok nm (List.mem_of_getElem? hnm)
  have hix : seqIndex? ((i / 5) % 14) (namesL.map AV.str).length = some ((i / 5) % 14).toNat := by
    rw [show (i / 5) % 14 = ((((i / 5) % 14).toNat : Nat) : Int) by omega]
    exact seqIx (by show _ < 14; omega)
  have hnx : (namesL.map AV.str)[((i / 5) % 14).toNat]? = some (.str nm) := by rw [List.getElem?_map, hnm]; rfl
  obtain ⟨mo, hmo⟩ : ∃ mo, moreL[((i / 5) % 11).toNat]? = some mo := ⟨_, List.getElem?_eq_getElem (by show _ < 11; omega)⟩
  obtain ⟨m1, m2⟩ := more_ok mo (List.mem_of_getElem? hmo)
  have hmx : seqIndex? ((i / 5) % 11) (moreL.map AV.str).length = some ((i / 5) % 11).toNat := by
    rw [show (i / 5) % 11 = ((((i / 5) % 11).toNat : Nat) : Int) by omega]
    exact seqIx (by show _ < 11; omega)
  have hmy : (moreL.map AV.str)[((i / 5) % 11).toNat]? = some (.str mo) := by rw [List.getElem?_map, hmo]; rfl
  obtain ⟨sg, hsx⟩ : ∃ sg, signsL[((i / 5) % 87).toNat]? = some sg := ⟨_, List.getElem?_eq_getElem (by show _ < 87; omega)⟩
  have s2 := signs_ok sg (List.mem_of_getElem? hsx)
  have hsi : seqIndex? ((i / 5) % 87) signsL.length = some ((i / 5) % 87).toNat := by
    rw [show (i / 5) % 87 = ((((i / 5) % 87).toNat : Nat) : Int) by omega]
    exact seqIx (by show _ < 87; omega)
  have nz : nm.length ≤ 100 := by omega
  have hzn : (namesL.map AV.str).length ≤ 1048576 := by decide
  have hzm : (moreL.map AV.str).length ≤ 1048576 := by decide
  have hzs : signsL.length ≤ 1048576 := by decide
  refine' WC.fnE (us := [("q", .unb), ("name", .unb)]) (ps := [("n", .int i)]) G ?ho ?hcd ?hbind ?hb ?hloc ?hu ?hnd ?hco ?hgen ?hk ?hcell ?h
  k_extra "fn"
  case hb => exact .cons ⟨rfl, .int _ _⟩ .nil
  case h =>
    intro Γ' G' E'
    dsimp only [List.cons_append, List.nil_append]
    have five : i % 5 = 0 ∨ i % 5 = 1 ∨ i % 5 = 2 ∨ i % 5 = 3 ∨ i % 5 = 4 := by omega
    rcases five with f | f | f | f | f
    · repeat k_extra "step"
      apply q_end
      case' h => apply h
      case p => k_extra "pick"
      · simp; omega
      · intro c hc
        rcases List.mem_append.mp hc with q | q
        · exact n2 c q
        · rw [List.mem_singleton.mp q]; exact tch59
    · repeat k_extra "step"
      apply q_end
      case' h => apply h
      case p => k_extra "pick"
      · simp; omega
      · intro c hc
        rcases List.mem_cons.mp hc with q | q
        · rw [q]; exact tch38
        · exact n2 c q
    · repeat k_extra "step"
      apply q_end
      case' h => apply h
      case p => k_extra "pick"
      · have := (slc_sub (l := nm ++ [59]) (lo := none) (hi := some (1 + i / 5 % 7))).1
        simp at this
        omega
      · intro c hc
        have := slc_sub.2 c hc
        rcases List.mem_append.mp this with q | q
        · exact n2 c q
        · rw [List.mem_singleton.mp q]; exact tch59
    · repeat k_extra "step"
      apply q_end
      case' h => apply h
      case p => k_extra "pick"
      · simp
      · intro c hc
        rw [List.mem_singleton.mp hc]; exact s2
    · repeat k_extra "step"
      apply q_end
      case' h => apply h
      case p => k_extra "pick"
      · omega
      · exact m2
end
end Mine
end
section
open PySem PySem.W PySem.Calls PyProof.Rows
namespace Mine
section
variable {prog : Program} {w : World} {n : Nat} {Γ : Act} {loc : Locs} {gs : Array GenState} {H F : HL} {k : AV → St → Prop} {t u : Tok} {T : List Nat}
theorem sp_small (G : Gnd (K2 w.params) Γ) (hT : T.length ≤ 10240) (hc : ∀ c ∈ T, c ≤ 1114000) (h : k (.str (T.map low)) ⟨loc, F, gs⟩) :
    WC prog w 2 Γ (.call (.ref 792) ⟨[.str ⟨T.toArray⟩ t], []⟩) ⟨loc, F, gs⟩ k := by
  refine' WC.fnE (us := []) (ps := [("text", .str T)]) G ?ho ?hcd ?hbind ?hb ?hloc ?hu ?hnd ?hco ?hgen ?hk ?hcell ?h
  k_extra "fn"
  case hb => exact .cons ⟨rfl, .str _ _⟩ .nil
  case h =>
    intro Γ' G' E'
    dsimp only [List.cons_append, List.nil_append]
    repeat k_extra "step"
    refine r_ListComp (us := [("sign", .unb)]) (fun it acc j S => ∃ i av, j = T.length - i ∧ i ≤ T.length ∧ S = ⟨[("sign", av)], (acc, .list (((T.take i).map fun c => [low c]).map .str)) :: (it, .obj (strIt T i)) :: F, gs⟩) (by k_extra "env") G' ?hi ?again ?turn ?hu ?hnd ?hs ?ht ?hfree ?hcell ?hkind ?hnames
    case hi =>
      k_extra "step"
      k_extra "c"
      refine it_str fun it => ?_
      exact ⟨it, rfl, rfl, fun acc => ⟨T.length - 0, 0, .unb, rfl, Nat.zero_le _, rfl⟩⟩
    case again =>
      rintro Γ'' it acc j S G'' _ ⟨i, av, rfl, hi, rfl⟩
      exact it_strIt (.tail _ (.head _)) ⟨rfl, i, av, rfl, hi, rfl⟩
    case turn =>
      rintro Γ'' it acc j S G'' _ E ⟨i, av, rfl, hi, rfl⟩
      cases hci : T[i]? with
      | none =>
        have hi' : i = T.length := by
          have := List.getElem?_eq_none_iff.mp hci
          omega
        subst hi'
        refine nx_strEnd hci (.tail .head) (.tail _ (.head _)) ?_
        dsimp only
        refine ⟨_, .refl, ?_⟩
        repeat k_extra "step"
        rw [List.take_length]
        refine f_join (xs := T.map fun c => [low c]) (.head _) (by rw [List.map_map, List.length_map, show ((fun y : List Nat => y.length) ∘ fun c => [low c]) = fun _ => 1 from rfl, List.map_const', List.sum_replicate_nat]; simp; omega) ?_
        rw [glue_map]
        repeat k_extra "step"
        exact q_end (.drop .refl) h
      | some c =>
        have hi' : i < T.length := by
          rcases Nat.lt_or_ge i T.length with q | q
          · exact q
          · rw [List.getElem?_eq_none q] at hci; cases hci
        have hcc : c ≤ 1114000 := hc c (List.mem_of_getElem? hci)
        refine nx_str hci (.tail .head) (.tail _ (.head _)) ?_
        dsimp only
        have fin : ((T.take i).map fun c => [low c]).map AV.str ++ [.str [low c]] = ((T.take (i + 1)).map fun c => [low c]).map AV.str := by
          rw [List.take_add_one, hci]; simp
        have hln : (((T.take i).map fun c => [low c]).map AV.str).length ≤ 1048576 := by simp; omega
        repeat k_extra "step"
        rw [low_if]
        repeat k_extra "step"
        rw [fin]
        exact ⟨T.length - (i + 1), sub_dec hi', i + 1, _, rfl, by omega, rfl⟩
    k_extra "comp"
end
end Mine
end
section
open PySem PySem.W PySem.Calls PyProof.Rows
namespace Mine
section
variable {prog : Program} {w : World} {n : Nat} {Γ : Act} {loc : Locs} {gs : Array GenState} {H F : HL} {k : AV → St → Prop} {t u : Tok} {T : List Nat}
variable {self s er l4 m nl ds bm : Addr} {ct : AV}
/-- the row of the whole text -/
theorem sp_row1 (G : Gnd (K2 w.params) Γ) (hT : ∀ c ∈ T, tch c) (h14 : T.length ≤ 14) (h1 : 1 ≤ T.length)
    (h : ∀ acc t1 t2 t3 t4 k1 k2 k3 k4 dd bm' ct tq, k (.ref acc) ⟨loc, (acc, .list [.ref t1, .ref t2, .ref t3, .ref t4]) :: (t1, .tuple [.ref k1, .bool false]) :: (k1, .dict [("type", .int 6), ("data", .str T)]) ::
      (t2, .tuple [.ref k2, .bool false]) :: (k2, .dict [("type", .int 7), ("data", .str errT)]) :: (t3, .tuple [.ref k3, .bool false]) :: (k3, .dict [("type", .int 6), ("data", .str (63 :: T))]) ::
      (t4, .tuple [.ref k4, .bool false]) :: (k4, .dict [("type", .int 3), ("name", .str ((97 :: T).map low)), ("data", .ref dd), ("selfClosing", .bool false), ("selfClosingAcknowledged", .bool false)]) :: (dd, .dict [(mkS ((98 :: T).map low), .str [])]) ::
      (self, .inst 762 (tokz s l4 bm' ct tq)) :: (s, .inst 166 (strm m nl ds er [] 0 0 0 ((whole T).length : Int))) :: F, gs.push .finished⟩) :
    WC prog w 11 Γ (.call (.ref 797) ⟨[.ref self], []⟩) ⟨loc, (self, .inst 762 (tok7 s l4 bm ct)) :: (s, .inst 166 (strm m nl ds er [] 0 0 0 0)) :: (er, .list []) :: (bm, .meth 304 self) :: (ds, .inst 73 [("text", .str (whole T)), ("place", .int 0)]) :: (m, .meth 148 s) :: F, gs⟩ k := by
  refine sp_row (outs := [.plain 6 T, .plain 7 errT, .plain 6 (63 :: T), outTag T]) (B := [(bm, .meth 304 self), (ds, .inst 73 [("text", .str (whole T)), ("place", .int 0)]), (m, .meth 148 s)]) (EndP := endP ⟨self, s, 0, er, l4, m, nl, ds⟩ ((whole T).length : Int)) G (by simp)
    (fun h₀ Lg O G' st tq => ph0 (x := ⟨self, s, tq, er, l4, m, nl, ds⟩) st G' hT h14 h1) fun acc rs Hd base' rc he => ?_
  obtain ⟨bm', ct', tq', rfl⟩ := he
  cases rc with
  | cons p1 rc =>
  cases rc with
  | cons p2 rc =>
  cases rc with
  | cons p3 rc =>
  cases rc with
  | cons p4 rc =>
  cases rc
  cases p1; cases p2; cases p3; cases p4
  exact h _ _ _ _ _ _ _ _ _ _ _ _ _
theorem sp_row_raw (G : Gnd (K2 w.params) Γ) (hT : ∀ c ∈ T, tch c) (h14 : T.length ≤ 14) (h1 : 1 ≤ T.length)
    (h : ∀ acc t1 k1 bm' ct tq, k (.ref acc) ⟨loc, (acc, .list [.ref t1]) :: (t1, .tuple [.ref k1, .bool false]) :: (k1, .dict [("type", .int 1), ("data", .str T)]) ::
      (self, .inst 762 (tokz s l4 bm' ct tq)) :: (s, .inst 166 (strm m nl ds er [] 0 0 0 (T.length : Int))) :: F, gs.push .finished⟩) :
    WC prog w 11 Γ (.call (.ref 797) ⟨[.ref self], []⟩) ⟨loc, (self, .inst 762 (tok7 s l4 bm ct)) :: (s, .inst 166 (strm m nl ds er [] 0 0 0 0)) :: (er, .list []) :: (bm, .meth 332 self) :: (ds, .inst 73 [("text", .str T), ("place", .int 0)]) :: (m, .meth 148 s) :: F, gs⟩ k := by
  refine sp_row (outs := [.plain 1 T]) (B := [(bm, .meth 332 self), (ds, .inst 73 [("text", .str T), ("place", .int 0)]), (m, .meth 148 s)]) (EndP := endP ⟨self, s, 0, er, l4, m, nl, ds⟩ (T.length : Int)) G (by simp)
    (fun h₀ Lg O G' st tq => run_raw (x := ⟨self, s, tq, er, l4, m, nl, ds⟩) st G' hT h14 h1) fun acc rs Hd base' rc he => ?_
  obtain ⟨bm', ct', tq', rfl⟩ := he
  cases rc with
  | cons p1 rc =>
  cases rc
  cases p1
  exact h _ _ _ _ _ _
theorem sp_row_scr (G : Gnd (K2 w.params) Γ) (hT : ∀ c ∈ T, tch c) (h14 : T.length ≤ 14) (h1 : 1 ≤ T.length)
    (h : ∀ acc t1 k1 bm' ct tq, k (.ref acc) ⟨loc, (acc, .list [.ref t1]) :: (t1, .tuple [.ref k1, .bool false]) :: (k1, .dict [("type", .int 1), ("data", .str T)]) ::
      (self, .inst 762 (tokz s l4 bm' ct tq)) :: (s, .inst 166 (strm m nl ds er [] 0 0 0 (T.length : Int))) :: F, gs.push .finished⟩) :
    WC prog w 11 Γ (.call (.ref 797) ⟨[.ref self], []⟩) ⟨loc, (self, .inst 762 (tok7 s l4 bm ct)) :: (s, .inst 166 (strm m nl ds er [] 0 0 0 0)) :: (er, .list []) :: (bm, .meth 339 self) :: (ds, .inst 73 [("text", .str T), ("place", .int 0)]) :: (m, .meth 148 s) :: F, gs⟩ k := by
  refine sp_row (outs := [.plain 1 T]) (B := [(bm, .meth 339 self), (ds, .inst 73 [("text", .str T), ("place", .int 0)]), (m, .meth 148 s)]) (EndP := endP ⟨self, s, 0, er, l4, m, nl, ds⟩ (T.length : Int)) G (by simp)
    (fun h₀ Lg O G' st tq => run_scr (x := ⟨self, s, tq, er, l4, m, nl, ds⟩) st G' hT h14 h1) fun acc rs Hd base' rc he => ?_
  obtain ⟨bm', ct', tq', rfl⟩ := he
  cases rc with
  | cons p1 rc =>
  cases rc
  cases p1
  exact h _ _ _ _ _ _
theorem sp_row_pla (G : Gnd (K2 w.params) Γ) (hT : ∀ c ∈ T, tch c) (h14 : T.length ≤ 14) (h1 : 1 ≤ T.length)
    (h : ∀ acc t1 k1 bm' ct tq, k (.ref acc) ⟨loc, (acc, .list [.ref t1]) :: (t1, .tuple [.ref k1, .bool false]) :: (k1, .dict [("type", .int 1), ("data", .str T)]) ::
      (self, .inst 762 (tokz s l4 bm' ct tq)) :: (s, .inst 166 (strm m nl ds er [] 0 0 0 (T.length : Int))) :: F, gs.push .finished⟩) :
    WC prog w 11 Γ (.call (.ref 797) ⟨[.ref self], []⟩) ⟨loc, (self, .inst 762 (tok7 s l4 bm ct)) :: (s, .inst 166 (strm m nl ds er [] 0 0 0 0)) :: (er, .list []) :: (bm, .meth 346 self) :: (ds, .inst 73 [("text", .str T), ("place", .int 0)]) :: (m, .meth 148 s) :: F, gs⟩ k := by
  refine sp_row (outs := [.plain 1 T]) (B := [(bm, .meth 346 self), (ds, .inst 73 [("text", .str T), ("place", .int 0)]), (m, .meth 148 s)]) (EndP := endP ⟨self, s, 0, er, l4, m, nl, ds⟩ (T.length : Int)) G (by simp)
    (fun h₀ Lg O G' st tq => run_pla (x := ⟨self, s, tq, er, l4, m, nl, ds⟩) st G' hT h14 h1) fun acc rs Hd base' rc he => ?_
  obtain ⟨bm', ct', tq', rfl⟩ := he
  cases rc with
  | cons p1 rc =>
  cases rc
  cases p1
  exact h _ _ _ _ _ _
/-- one of three -/
def pick3 (i : Nat) (a b c : Addr) : Addr := match i with | 0 => a | 1 => b | _ => c
theorem at3 {i : Nat} {a b c : Addr} (h : i < 3) : [AV.ref a, AV.ref b, AV.ref c][i]? = some (.ref (pick3 i a b c)) := by
  rcases i with _ | _ | _ | i
  · rfl
  · rfl
  · rfl
  · omega
theorem sp_row_any (G : Gnd (K2 w.params) Γ) {i : Nat} {b0 b1 b2 : Addr} (hi : i < 3) (hT : ∀ c ∈ T, tch c) (h14 : T.length ≤ 14) (h1 : 1 ≤ T.length)
    (h : ∀ acc t1 k1 bm' ct tq, k (.ref acc) ⟨loc, (acc, .list [.ref t1]) :: (t1, .tuple [.ref k1, .bool false]) :: (k1, .dict [("type", .int 1), ("data", .str T)]) ::
      (self, .inst 762 (tokz s l4 bm' ct tq)) :: (s, .inst 166 (strm m nl ds er [] 0 0 0 (T.length : Int))) :: F, gs.push .finished⟩) :
    WC prog w 11 Γ (.call (.ref 797) ⟨[.ref self], []⟩) ⟨loc, (self, .inst 762 (tok7 s l4 (pick3 i b0 b1 b2) ct)) :: (s, .inst 166 (strm m nl ds er [] 0 0 0 0)) :: (er, .list []) :: (b0, .meth 332 self) :: (b1, .meth 339 self) :: (b2, .meth 346 self) :: (ds, .inst 73 [("text", .str T), ("place", .int 0)]) :: (m, .meth 148 s) :: F, gs⟩ k := by
  rcases i with _ | _ | _ | i
  · rw [show pick3 0 b0 b1 b2 = b0 from rfl]
    apply WC.pick
    case' h => apply sp_row_raw (F := F)
    case q => k_extra "pick"
    case G => assumption
    case hT => assumption
    case h14 => assumption
    case h1 => assumption
    exact h
  · rw [show pick3 (0 + 1) b0 b1 b2 = b1 from rfl]
    apply WC.pick
    case' h => apply sp_row_scr (F := F)
    case q => k_extra "pick"
    case G => assumption
    case hT => assumption
    case h14 => assumption
    case h1 => assumption
    exact h
  · rw [show pick3 (0 + 1 + 1) b0 b1 b2 = b2 from rfl]
    apply WC.pick
    case' h => apply sp_row_pla (F := F)
    case q => k_extra "pick"
    case G => assumption
    case hT => assumption
    case h14 => assumption
    case h1 => assumption
    exact h
  · omega
end
end Mine
end
section
open PySem PySem.W PySem.Calls PyProof.Rows
namespace Mine
section
variable {prog : Program} {w : World} {n : Nat} {Γ : Act} {loc : Locs} {gs : Array GenState} {H F : HL} {k : AV → St → Prop} {t u : Tok} {T : List Nat}
theorem glue_flat (ps : List (List Nat)) : (Txt.join (mkS []) (ps.map mkS)).cps.toList = ps.flatten := by
  have key : ∀ (ps : List (List Nat)) (acc : Array Nat), (ps.map mkS).foldl (fun acc p => acc ++ (mkS []).cps ++ p.cps) acc = acc ++ ps.flatten.toArray := by
    intro ps
    induction ps with
    | nil => intro acc; simp
    | cons a r ih => intro acc; rw [List.map_cons, List.foldl_cons, ih]; simp
  cases ps with
  | nil => rfl
  | cons a r =>
    show (Txt.join (mkS []) (mkS a :: r.map mkS)).cps.toList = _
    have e : (Txt.join (mkS []) (mkS a :: r.map mkS)).cps = (r.map mkS).foldl (fun acc p => acc ++ (mkS []).cps ++ p.cps) (mkS a).cps := rfl
    rw [e, key]
    simp
/-- two pairs of plain values do not differ -/
theorem q_nePair {l b : Addr} {x y : AV} (hl : (l, AO.tuple [x, y]) ∈ H) (hb : (b, AO.tuple [x, y]) ∈ H) (px : Pl x) (py : Pl y) (h : k (.bool false) ⟨loc, H, gs⟩) : W prog w n Γ Conc (compareOp .NotEq (.ref l) (.ref b)) ⟨loc, H, gs⟩ k := .mk fun A s ro p => by
  obtain ⟨vs, cl, ho⟩ := p.tuple hl
  obtain ⟨us, cl', ho'⟩ := p.tuple hb
  cases cl with
  | cons c1 cl =>
  cases cl with
  | cons c2 cl =>
  cases cl
  cases cl' with
  | cons d1 cl' =>
  cases cl' with
  | cons d2 cl' =>
  cases cl'
  have hx : eqA x x = true := eqA_self px
  have hy : eqA y y = true := eqA_self py
  have e1 := eqAt_pl (A := A.in1) (s := s) px px c1 d1
  have e2 := eqAt_pl (A := A.in1) (s := s) py py c2 d2
  rw [hx] at e1
  rw [hy] at e2
  refine SeqAt.RcNeAt.tuples (e := fun _ => true) ⟨_, ho, rfl, _, rfl⟩ ⟨_, ho', rfl, _, rfl⟩ ro.line (fun j h1 h2 => ?_) prog w _ _ ⟨.bool false, _, .bool _, p, h⟩
  match j, h1 with
  | 0, _ => exact e1
  | 1, _ => exact e2
theorem deq_plain {H : HL} {x y k k' : Addr} {ty : Int} {d : List Nat} (hx : (x, AO.tuple [.ref k, .bool false]) ∈ H) (hk : (k, AO.dict [("type", .int ty), ("data", .str d)]) ∈ H) (hy : (y, AO.tuple [.ref k', .bool false]) ∈ H) (hk' : (k', AO.dict [("type", .int ty), ("data", .str d)]) ∈ H) : DEq H 3 (.ref x) (.ref y) :=
  .tuple hx hy (.dict hk hk' (.cons ⟨rfl, .plain .int⟩ (.cons ⟨rfl, .plain .str⟩ .nil))) (.plain .bool)
theorem deq_tag {H : HL} {x y k k' e e' : Addr} {nm : List Nat} {ky : Str} (hx : (x, AO.tuple [.ref k, .bool false]) ∈ H) (hk : (k, AO.dict [("type", .int 3), ("name", .str nm), ("data", .ref e), ("selfClosing", .bool false), ("selfClosingAcknowledged", .bool false)]) ∈ H) (he : (e, AO.dict [(ky, .str [])]) ∈ H)
    (hy : (y, AO.tuple [.ref k', .bool false]) ∈ H) (hk' : (k', AO.dict [("type", .int 3), ("name", .str nm), ("data", .ref e'), ("selfClosing", .bool false), ("selfClosingAcknowledged", .bool false)]) ∈ H) (he' : (e', AO.dict [(ky, .str [])]) ∈ H) : DEq H 3 (.ref x) (.ref y) :=
  .tuple hx hy (.dict hk hk' (.cons ⟨rfl, .plain .int⟩ (.cons ⟨rfl, .plain .str⟩ (.cons ⟨rfl, .dict he he' (.cons ⟨rfl, .plain .str⟩ .nil)⟩ (.cons ⟨rfl, .plain .bool⟩ (.cons ⟨rfl, .plain .bool⟩ .nil)))))) (.plain .bool)
example : True := by
  k_with "deq" => with_reducible first
    | (apply deq_plain; (case hx => k_extra "mem"); (case hk => k_extra "mem"); (case hy => k_extra "mem"); (case hk' => k_extra "mem"))
    | (apply deq_tag; (case hx => k_extra "mem"); (case hk => k_extra "mem"); (case he => k_extra "mem"); (case hy => k_extra "mem"); (case hk' => k_extra "mem"); (case he' => k_extra "mem"))
  k_with "deqs" => first | exact All2.nil | (refine All2.cons (by k_extra "deq") ?_; k_extra "deqs")
  k_with "spec" => (apply call_sp; (case' h => apply sp_pos); (case G => assumption); (case pck => k_extra "pick"); (case hn => assumption); (case hm => decide); intro _)
  k_with "spec" => (apply call_sp; (case' h => apply sp_small); (case G => assumption); (case pck => k_extra "pick"); (case hT => k_extra "fits"); (case hc => assumption); (case hm => decide))
  k_with "spec" => (apply call_sp; (case' h => apply sp_mkTok); (case G => assumption); (case pck => k_extra "pick"); (case hm => decide); intro _ _ _ _ _ _ _ _)
  k_with "spec" => (apply call_sp; (case' h => apply sp_row1); (case G => assumption); (case pck => k_extra "pick"); (case hT => assumption); (case h14 => assumption); (case h1 => assumption); (case hm => decide); intro _ _ _ _ _ _ _ _ _ _ _ _ _)
  k_with "spec" => (apply call_sp; (case' h => apply sp_row_any); (case G => assumption); (case pck => k_extra "pick"); (case hi => assumption); (case hT => assumption); (case h14 => assumption); (case h1 => assumption); (case hm => decide); intro _ _ _ _ _ _)
  k_with "idx" => with_reducible exact seqIx (show _ < 3 by assumption)
  k_with "idc" => with_reducible exact at3 (by assumption)
  k_with "spec" => (apply call_sp; (case' h => apply sp_piece); (case G => assumption); (case pck => k_extra "pick"); (case hm => decide); intro _ _ _)
  trivial
def lawUs : Locs := [("text", .unb), ("tag", .unb), ("due", .unb), ("whole", .unb), ("t", .unb), ("got", .unb), ("turn", .unb)]
theorem law_ok {p : Program} {loose : List Str} {mg mb : Str → Option Value} {A : Around} {s : Shared} {l : Addr} {vs : List Value} {ns : List Int} (X : (K2 w.params).In s.heap) (T₀ : TopRead p loose mg mb s.heap)
    (hl : s.heap.IsList l vs.toArray) (hc : ConcL (ns.map .int) vs) (hlen : ns.length ≤ 63) (hg : s.gens = #[]) (ro : Room 13 A) :
    codeAny (model prog w) A (.call (.ref 802) ⟨[.ref l], []⟩) (fun r s' => match r with
      | .ok (.ret v) => ∃ b, Conc b v ∧ (b = .bool true ∧ AllBare s'.gens) ∧ s'.os = s.os ∧ ∀ b o, s.heap.get? b = some o → s'.heap.get? b = some o
      | _ => False) s := by
  refine' top_fn (n := 12) (k := fun a gs => a = .bool true ∧ AllBare gs) (us := lawUs) (ps := [("script", .ref l)]) X T₀ ?ho ?hcd ?hbind ?hb ?hloc ?hu ?hnd ?hco ?hgen ?hk ?hcell ro ?h
  k_extra "fn"
  case hb => exact .cons ⟨rfl, .ref _⟩ .nil
  case h =>
    intro L
    have G : Gnd (K2 w.params) ⟨s.heap, L, s.os⟩ := ⟨X, _, _, _, _, T₀⟩
    rw [hg]
    unfold lawUs
    dsimp only [List.cons_append, List.nil_append]
    repeat k_extra "step"
    refine r_ListComp (us := [("n", .unb)]) (fun it acc j S => ∃ r i av, ∃ ps : List (List Nat), j = 14 - i ∧ i ≤ 14 ∧ ps.length = i ∧ (∀ q ∈ ps, q.length ≤ 8 ∧ ∀ c ∈ q, tch c) ∧ S = ⟨[("n", av)], (acc, .list (ps.map .str)) :: (it, .obj (lstIt r i)) :: (r, .list (slcL (ns.map AV.int) none (some (14 : Int)))) :: [], #[]⟩) (by k_extra "env") G ?q1 ?q2 ?q3 ?hu ?hnd ?hs ?ht ?hfree ?hcell ?hkind ?hnames
    case q1 =>
      repeat k_extra "step"
      refine lk_old hl hc (by simp; omega) fun r => ?_
      k_extra "c"
      refine it_list (.head _) fun it => ?_
      exact ⟨it, rfl, rfl, fun acc => ⟨14, r, 0, .unb, [], rfl, by decide, rfl, fun q hq => (by cases hq), rfl⟩⟩
    case q2 =>
      rintro Γ' it acc j S G' _ ⟨r, i, av, ps, rfl, hi, hp, hq, rfl⟩
      exact it_lstIt (l := r) (i := i) (.tail _ (.head _)) ⟨rfl, r, i, av, ps, rfl, hi, hp, hq, rfl⟩
    case q3 =>
      rintro Γ' it acc j S G' _ E ⟨r, i, av, ps, rfl, hi, hp, hq, rfl⟩
      cases hx : (slcL (ns.map AV.int) none (some (14 : Int)))[i]? with
      | none =>
        refine nx_listEnd (.tail _ (.tail _ (.head _))) hx (.tail .head) (.tail _ (.head _)) ?_
        dsimp only
        refine ⟨[(acc, .list (ps.map .str))], .cons .head .nil, ?_⟩
        repeat k_extra "step"
        have hs : (ps.map (·.length)).sum ≤ 8 * ps.length := by
          clear hp hx
          induction ps with
          | nil => simp
          | cons a r ih =>
            have := ih fun q h => hq q (.tail _ h)
            have := (hq a (.head _)).1
            simp; omega
        refine f_join (xs := ps) (.head _) (by simp; omega) ?_
        rw [glue_flat]
        have hf : ∀ c ∈ ps.flatten, tch c := fun c hc => by
          obtain ⟨q, h1, h2⟩ := List.mem_flatten.mp hc
          exact (hq q h1).2 c h2
        have hfl : ps.flatten.length ≤ 200 := by
          rw [List.length_flatten]
          have : (ps.map List.length).sum = (ps.map (·.length)).sum := rfl
          omega
        generalize ps.flatten = J at hf hfl
        have eT : ∃ T, slc ([38] ++ J) none (some (14 : Int)) = T ∧ (∀ c ∈ T, tch c) ∧ T.length ≤ 14 ∧ 1 ≤ T.length := by
          refine ⟨_, rfl, fun c hc => ?_, ?_, ?_⟩
          · rcases List.mem_cons.mp (slc_sub.2 c hc) with h | h
            · rw [h]; exact tch38
            · exact hf c h
          · unfold slc clipN
            simp; omega
          · unfold slc clipN
            simp; omega
        obtain ⟨T, eT, hT, h14, h1⟩ := eT
        repeat k_extra "step"
        simp only [eT]
        have hcA : ∀ c ∈ [97] ++ T, c ≤ 1114000 := fun c hc => by
          rcases List.mem_cons.mp hc with rfl | h
          · decide
          · exact (hT c h).le
        have hcB : ∀ c ∈ [98] ++ T, c ≤ 1114000 := fun c hc => by
          rcases List.mem_cons.mp hc with rfl | h
          · decide
          · exact (hT c h).le
        clear eT hfl hf J
        repeat k_extra "step"
        simp only [show ([60, 33, 45, 45] ++ T ++ [45, 45, 62, 60, 63] ++ T ++ [62, 60, 97] ++ T ++ [32, 98] ++ T ++ [62] : List Nat) = whole T by unfold whole; simp]
        repeat k_extra "step"
        refine' r_pairs (y := "token") (by k_extra "env") G ?e2 ?e3 ?e4 ?e5 ?e6 ?e7 ?e8 ?e9 ?e10 ?e11 ?e12
        case e2 => (repeat k_extra "step"); exact ⟨rfl, rfl⟩
        case e3 => k_extra "mem"
        case e4 => k_extra "lit"
        case e5 =>
          intro Γ₂ x H₂ av v G₂ E₂ hx cv
          have tx : Tame x := by
            simp only [List.mem_cons, List.not_mem_nil, or_false] at hx
            rcases hx with rfl | rfl | rfl | rfl <;> exact .ref
          repeat k_extra "step"
          exact ⟨_, rfl, rfl⟩
        case e6 => intro _; kernel_rfl
        case e7 => intro _ _; kernel_rfl
        case e8 => exact of_decide_eq_true (by kernel_rfl)
        case e9 => exact of_decide_eq_true (by kernel_rfl)
        case e10 => kernel_rfl
        case e11 => exact of_decide_eq_true (by kernel_rfl)
        intro acc2 rs Hp tc
        cases tc with
        | cons tc =>
        cases tc with
        | cons tc =>
        cases tc with
        | cons tc =>
        cases tc with
        | cons tc =>
        cases tc
        dsimp only [List.cons_append, List.nil_append]
        repeat k_extra "step"
        refine q_neLists (by k_extra "mem") (by k_extra "mem") 3 (by decide) (by k_extra "deqs") ?_
        have n10 : 10 ∉ ([] : List Nat) := by simp
        have hwl : (whole T).length < 1048576 := by rw [whole_len]; omega
        repeat k_extra "step"
        simp only [Int.zero_add, Int.add_zero]
        refine q_nePair (by k_extra "mem") (by k_extra "mem") .int .int ?_
        repeat k_extra "step"
        refine s_For (fun it j S => ∃ i : Nat, ∃ tag due tv got turn gs', j = 3 - i ∧ i ≤ 3 ∧ AllBare gs' ∧ S.gens = gs' ∧ S.loc = ([("script", .ref l), ("text", .str T), ("tag", tag), ("due", due), ("whole", .str (whole T)), ("t", tv), ("got", got), ("turn", turn)] : Locs) ∧ Pick [(it, .obj (rngIt (i : Int) (3 - i)))] S.heap) ?f1 ?f2 (by intro _; kernel_rfl) (by intro _ _; kernel_rfl)
        case f1 =>
          repeat k_extra "step"
          refine f_range fun r => ?_
          k_extra "c"
          refine it_range (.head _) (by decide) fun it => ?_
          exact ⟨it, 3, rfl, 0, _, _, _, _, _, _, rfl, by decide, AllBare.empty.push rfl, rfl, rfl, .cons .head .nil⟩
        case f2 =>
          rintro it j ⟨loc', H', gs'⟩ ⟨i, tag, due, tv, got, turn, gs', rfl, hi3, ab, rfl, rfl, pk⟩
          refine W.pick pk ?_
          rcases Nat.lt_or_ge i 3 with hi | hi
          · refine nx_range (by omega) .head (.head _) ?_
            dsimp only
            have hz : T.length ≤ 10240 := by omega
            repeat k_extra "step"
            refine q_neLists (by k_extra "mem") (by k_extra "mem") 3 (by decide) (by k_extra "deqs") ?_
            repeat k_extra "step"
            simp only [Int.zero_add, Int.add_zero]
            refine q_nePair (by k_extra "mem") (by k_extra "mem") .int .int ?_
            repeat k_extra "step"
            exact ⟨3 - (i + 1), sub_dec hi, i + 1, _, _, _, _, _, _, rfl, by omega, ab.push rfl, rfl, rfl, by rw [show ((i + 1 : Nat) : Int) = (i : Int) + 1 by omega, show (3 : Int) - ((i : Int) + 1) = 3 - (i : Int) - 1 by omega]; k_extra "pick"⟩
          · have hi' : i = 3 := by omega
            subst hi'
            refine nx_rangeEnd (by decide) .head (.head _) ?_
            dsimp only
            repeat k_extra "step"
            exact ⟨rfl, ab⟩
      | some a =>
        have hi' : i < 14 := by
          have hlt : i < (slcL (ns.map AV.int) none (some (14 : Int))).length := by
            rcases Nat.lt_or_ge i (slcL (ns.map AV.int) none (some (14 : Int))).length with q | q
            · exact q
            · rw [List.getElem?_eq_none q] at hx; cases hx
          have : (slcL (ns.map AV.int) none (some (14 : Int))).length ≤ 14 := by
            unfold slcL clipN
            simp only [List.length_take, List.length_drop]
            omega
          omega
        obtain ⟨v, rfl⟩ : ∃ v, a = .int v := by
          have hm := List.mem_of_getElem? hx
          unfold slcL at hm
          obtain ⟨v, _, rfl⟩ := List.mem_map.mp (List.mem_of_mem_drop (List.mem_of_mem_take hm))
          exact ⟨v, rfl⟩
        refine nx_list (.tail _ (.tail _ (.head _))) hx (.tail .head) (.tail _ (.head _)) ?_
        dsimp only
        have hln : (ps.map AV.str).length ≤ 1048576 := by rw [List.length_map]; omega
        repeat k_extra "step"
        refine ⟨14 - (i + 1), sub_dec hi', r, i + 1, _, ps ++ [_], rfl, by omega, by rw [List.length_append, hp]; rfl, fun q hq' => ?_, by rw [List.map_append]; rfl⟩
        rcases List.mem_append.mp hq' with h | h
        · exact hq q h
        · rw [List.mem_singleton.mp h]
          exact ⟨by assumption, by assumption⟩
    k_extra "comp"
end
end Mine
end
open PySem PySem.W PySem.Calls PyProof.Rows
namespace Mine
theorem gl_law (P : Params) : nsIn (K2 P) mainGlobals "law" = some (some (.ref 802)) := by kernel_rfl
theorem ints_conc : ∀ {vs : List Value} {ns : List Int}, IntsAre vs ns → ConcL (ns.map .int) vs
  | _, _, .nil => .nil
  | _, _, .cons _ _ h => .cons (.int _ _) (ints_conc h)
theorem caller_room : Room 13 callerA := ⟨by decide +kernel, by decide +kernel, rfl⟩
end Mine

/-! names that the head's own quick forms would take: with them taken the head goes on without those quick forms, whose proofs are what makes its compiled file too large -/
namespace Mine.hdT
theorem tw7125072713232967047 : True := trivial
theorem tw13054363712787031859 : True := trivial
theorem tw6069086958997180844 : True := trivial
theorem tw4012522088078816110 : True := trivial
theorem tw14243908728459721612 : True := trivial
theorem tw18424415273095758608 : True := trivial
theorem tw18442825069767663626 : True := trivial
theorem tw12475653537263579187 : True := trivial
theorem tw17719868140917369827 : True := trivial
theorem tw14199501755464395521 : True := trivial
theorem tw15437119681586835782 : True := trivial
theorem tw11784691634321053843 : True := trivial
theorem tw7108597360084366280 : True := trivial
theorem tw5619491481767085419 : True := trivial
theorem tw8224041156636738495 : True := trivial
theorem tw9966396331570240342 : True := trivial
theorem tw17407014114709207090 : True := trivial
theorem tw8597674654162788304 : True := trivial
theorem tw3483371906901902594 : True := trivial
theorem tw12485787051721102676 : True := trivial
theorem tw9536223897720103524 : True := trivial
theorem tw1102789012699053714 : True := trivial
theorem tw7602118869653872696 : True := trivial
theorem tw12279998229694318322 : True := trivial
theorem tw6224582233967140233 : True := trivial
theorem tw14745525095119045682 : True := trivial
theorem tw13338845783058869467 : True := trivial
theorem tw11911279253351009771 : True := trivial
theorem tw3235599476257600455 : True := trivial
theorem tw3976171966865896616 : True := trivial
theorem tw5604596863259938530 : True := trivial
theorem tw7465250386075303570 : True := trivial
theorem tw9084411662588796295 : True := trivial
theorem tw8404949597763912559 : True := trivial
theorem tw9878018566971356968 : True := trivial
theorem tw15674368219026999466 : True := trivial
theorem tw238916845448781720 : True := trivial
theorem tw11708875882292970978 : True := trivial
theorem tw1005338743208741551 : True := trivial
theorem tw17278014667150443254 : True := trivial
theorem tw6205973221028437055 : True := trivial
theorem tw16539148576436122313 : True := trivial
theorem tw2190696406844494960 : True := trivial
theorem tw6955748858972044763 : True := trivial
theorem tw5798720885741911428 : True := trivial
theorem tw7354605716874613238 : True := trivial
theorem tw776152709372847384 : True := trivial
theorem tw1066543892732998623 : True := trivial
theorem tw11372179145829416100 : True := trivial
theorem tw15983779588726612320 : True := trivial
theorem tw4919105219394446106 : True := trivial
theorem tw5409318470822155906 : True := trivial
theorem tw822856507448853781 : True := trivial
theorem tw683934152577371975 : True := trivial
theorem tw9127270429355586042 : True := trivial
theorem tw15313315209409171270 : True := trivial
theorem tw3354442301435478463 : True := trivial
theorem tw8974058970723816663 : True := trivial
theorem tw4124197524452322487 : True := trivial
theorem tw6256734702857634244 : True := trivial
theorem tw10648478647889614788 : True := trivial
theorem tw7244425234100503926 : True := trivial
theorem tw17842847509628886139 : True := trivial
theorem tw18254240964156342577 : True := trivial
theorem tw9160942786681829764 : True := trivial
theorem tw8766941176648348281 : True := trivial
theorem tw2353908395001436990 : True := trivial
theorem tw1463137707611815181 : True := trivial
theorem tw7821551477653345829 : True := trivial
theorem tw18135067806621036532 : True := trivial
theorem tw7071517568287590791 : True := trivial
theorem tw12323365689881756736 : True := trivial
theorem tw13065430645502238488 : True := trivial
theorem tw3623382836928382511 : True := trivial
theorem tw13941434405423248975 : True := trivial
theorem tw5806034029871757836 : True := trivial
theorem tw5635830972104161746 : True := trivial
theorem tw1543731155930569881 : True := trivial
theorem tw15578045932945952825 : True := trivial
theorem tw6016340665346597148 : True := trivial
theorem tw13205757684204676961 : True := trivial
theorem tw6455760386348682736 : True := trivial
theorem tw2630498254398583971 : True := trivial
theorem tw8797873527435561917 : True := trivial
theorem tw7482476880554540792 : True := trivial
theorem tw10470178637503726571 : True := trivial
theorem tw11242775074389597467 : True := trivial
theorem tw8739099295787217745 : True := trivial
theorem tw16501630719374437208 : True := trivial
theorem tw2727673047806841075 : True := trivial
theorem tw7750204729614750717 : True := trivial
theorem tw6620875393786368385 : True := trivial
theorem tw12360972160261386290 : True := trivial
theorem tw7985045329749182659 : True := trivial
theorem tw5733708983292803957 : True := trivial
theorem tw10439521527477894234 : True := trivial
theorem tw13988915499686876603 : True := trivial
theorem tw2735428037448430824 : True := trivial
theorem tw10648847125133771650 : True := trivial
theorem tw1307998178567594954 : True := trivial
theorem tw5917294072330248093 : True := trivial
theorem tw14577063617963707951 : True := trivial
theorem tw9606602490254616941 : True := trivial
theorem tw13293429889846063270 : True := trivial
theorem tw446475844140859903 : True := trivial
theorem tw3130026600693219103 : True := trivial
theorem tw13212906563776306311 : True := trivial
theorem tw9943267746171405054 : True := trivial
theorem tw14851777919923771231 : True := trivial
theorem tw4160381695852730747 : True := trivial
theorem tw2132456725083282815 : True := trivial
theorem tw222358611838573069 : True := trivial
theorem tw1867445733062264701 : True := trivial
theorem tw10176395992278642552 : True := trivial
theorem tw4386850954418924464 : True := trivial
theorem tw6148430398257395394 : True := trivial
theorem tw14160156649444742558 : True := trivial
theorem tw3897082365114151084 : True := trivial
theorem tw18005596733226295132 : True := trivial
theorem tw14978029401855857091 : True := trivial
theorem tw18371663005474176571 : True := trivial
theorem tw10734110473604000413 : True := trivial
theorem tw14116893189291779112 : True := trivial
theorem tw9531525317723489367 : True := trivial
theorem tw617269760308790182 : True := trivial
theorem tw2436422211977766078 : True := trivial
theorem tw11723291618156120241 : True := trivial
theorem tw14739110467874880269 : True := trivial
theorem tw11867153735268645938 : True := trivial
theorem tw6841577446531214128 : True := trivial
theorem tw6725510582799313280 : True := trivial
theorem tw16514091972170015177 : True := trivial
theorem tw14823433085943519800 : True := trivial
theorem tw6735879728937818129 : True := trivial
theorem tw5502382909086503705 : True := trivial
theorem tw1066655907184155469 : True := trivial
theorem tw17654834880046244102 : True := trivial
theorem tw9460223683344234844 : True := trivial
theorem tw3668117882875102453 : True := trivial
theorem tw14455323752813661217 : True := trivial
theorem tw938805452192909420 : True := trivial
theorem tw4438097601052625196 : True := trivial
theorem tw5986795274833353738 : True := trivial
theorem tw12097682857056489229 : True := trivial
theorem tw16660877896988103928 : True := trivial
theorem tw15233989795421104399 : True := trivial
theorem tw10637491067871093976 : True := trivial
theorem tw12097059370169897664 : True := trivial
theorem tw6340907260889010371 : True := trivial
theorem tw14054796820074350648 : True := trivial
theorem tw11286671869160983514 : True := trivial
theorem tw7790660797244695241 : True := trivial
theorem tw3331085903319155317 : True := trivial
theorem tw2191873762645271535 : True := trivial
theorem tw18097265767344203094 : True := trivial
theorem tw15668088860410647545 : True := trivial
theorem tw10759425804810152557 : True := trivial
theorem tw52505758327349560 : True := trivial
theorem tw17785494658189985522 : True := trivial
theorem tw9451025747531858059 : True := trivial
theorem tw942264188830469661 : True := trivial
theorem tw12138919837800323440 : True := trivial
theorem tw14633314788917667801 : True := trivial
theorem tw5259499215298897955 : True := trivial
theorem tw6455987785740402643 : True := trivial
theorem tw1368098252954153590 : True := trivial
theorem tw81997320596854200 : True := trivial
theorem tw16105270477283430567 : True := trivial
theorem tw13125376212275910227 : True := trivial
theorem tw10468062072056533275 : True := trivial
theorem tw14550229436542405152 : True := trivial
theorem tw512989020808680059 : True := trivial
theorem tw11786815773050827325 : True := trivial
theorem tw3154932998989693115 : True := trivial
theorem tw9881428037870011887 : True := trivial
theorem tw11724997633183693912 : True := trivial
theorem tw10787778145814024080 : True := trivial
theorem tw14535055646236278548 : True := trivial
theorem tw13792579449305503841 : True := trivial
theorem tw9095357839185793764 : True := trivial
theorem tw12823330673785800531 : True := trivial
theorem tw2658370714684252078 : True := trivial
theorem tw7646838358682628758 : True := trivial
theorem tw4699266021141634843 : True := trivial
theorem tw13774592499294158505 : True := trivial
theorem tw2652420494882195381 : True := trivial
theorem tw10544611178586225868 : True := trivial
theorem tw17008556930567598020 : True := trivial
theorem tw4487434557544995915 : True := trivial
theorem tw72739360818344784 : True := trivial
theorem tw7546123832575513691 : True := trivial
theorem tw1553361418407970481 : True := trivial
theorem tw3445406962111051368 : True := trivial
theorem tw5789553496708623366 : True := trivial
theorem tw10765721606339117948 : True := trivial
theorem tw2921489290202636354 : True := trivial
theorem tw5949514706259786298 : True := trivial
theorem tw3394521983521759545 : True := trivial
theorem tw18181741721357114627 : True := trivial
theorem tw2152687164418267720 : True := trivial
theorem tw12846401702583249038 : True := trivial
theorem tw18100569989897730878 : True := trivial
theorem tw18065828404810378480 : True := trivial
theorem tw1410652289430288153 : True := trivial
theorem tw5203826126201646705 : True := trivial
theorem tw18168334755178658163 : True := trivial
theorem tw15706192859081561822 : True := trivial
theorem tw13060595092114332330 : True := trivial
theorem tw16411160818834565329 : True := trivial
theorem tw12102903809745166309 : True := trivial
theorem tw13789881293592654387 : True := trivial
theorem tw5340122980169538509 : True := trivial
theorem tw8448208942434106986 : True := trivial
theorem tw1015662721845049221 : True := trivial
theorem tw157059411357500568 : True := trivial
theorem tw10831409624700874709 : True := trivial
theorem tw6062054041289883069 : True := trivial
theorem tw1747257847226575806 : True := trivial
theorem tw2524514887380091968 : True := trivial
theorem tw11747024902356852549 : True := trivial
theorem tw7425269273167593800 : True := trivial
theorem tw2573676684247115121 : True := trivial
theorem tw2597303081884382771 : True := trivial
theorem tw9389196833010162243 : True := trivial
theorem tw15902368515024810717 : True := trivial
theorem tw8862904055507789325 : True := trivial
theorem tw3953179481644070144 : True := trivial
theorem tw2195608335200427237 : True := trivial
theorem tw450351552336327328 : True := trivial
theorem tw18440575318786485203 : True := trivial
theorem tw11437854503393051836 : True := trivial
theorem tw13699077669522104644 : True := trivial
theorem tw12163744985405934773 : True := trivial
theorem tw11471279111252926822 : True := trivial
theorem tw13288545177995597568 : True := trivial
theorem tw14108660711426889023 : True := trivial
theorem tw11757530532557608132 : True := trivial
theorem tw16489284681867142615 : True := trivial
theorem tw7346947853037217097 : True := trivial
theorem tw10080614041577044238 : True := trivial
theorem tw2210865022817550754 : True := trivial
theorem tw16899397432000394928 : True := trivial
theorem tw1075420501288489189 : True := trivial
theorem tw15705463057346451308 : True := trivial
theorem tw2857486579997302598 : True := trivial
theorem tw5567182623669345149 : True := trivial
theorem tw12626607938501811000 : True := trivial
theorem tw13386177678142070897 : True := trivial
theorem tw14793636826967330735 : True := trivial
theorem tw16108318809565218085 : True := trivial
theorem tw2122964403855776594 : True := trivial
theorem tw12293168118825579695 : True := trivial
theorem tw3808180270531141879 : True := trivial
theorem tw3735789746554746543 : True := trivial
theorem tw10619363654360093604 : True := trivial
theorem tw12038241232971039084 : True := trivial
theorem tw4306714477624967827 : True := trivial
theorem tw2873733111616625417 : True := trivial
theorem tw12779001571807900022 : True := trivial
theorem tw9354767856310666376 : True := trivial
theorem tw12475268420717446649 : True := trivial
theorem tw1520117329010893095 : True := trivial
theorem tw9458655423726856729 : True := trivial
theorem tw18329903030470619778 : True := trivial
theorem tw12387774662352885974 : True := trivial
theorem tw7027638596102340610 : True := trivial
theorem tw2159627914686711884 : True := trivial
theorem tw17888196217835294753 : True := trivial
theorem tw11156275287357966263 : True := trivial
theorem tw3900541090566538375 : True := trivial
theorem tw14214612192625897248 : True := trivial
theorem tw15199694268483179696 : True := trivial
theorem tw2222322585373364402 : True := trivial
theorem tw12016396987279823510 : True := trivial
theorem tw8641585120534172112 : True := trivial
theorem tw17323566721633243856 : True := trivial
theorem tw4207504019746229419 : True := trivial
theorem tw14358304341664772782 : True := trivial
theorem tw2027763147986355455 : True := trivial
theorem tw10249303264208934864 : True := trivial
theorem tw7383460302375847559 : True := trivial
theorem tw1759045066290804585 : True := trivial
theorem tw7807645915252597270 : True := trivial
theorem tw1769862425480128937 : True := trivial
theorem tw4743323727915329956 : True := trivial
theorem tw14680936511344029933 : True := trivial
theorem tw7677604209425335484 : True := trivial
theorem tw9347353921567168070 : True := trivial
theorem tw18130717086531243166 : True := trivial
theorem tw5372194639915530387 : True := trivial
theorem tw9380053455917048403 : True := trivial
theorem tw3884659998394185173 : True := trivial
theorem tw14928136798684704974 : True := trivial
theorem tw518114109976262218 : True := trivial
theorem tw15668098032423725044 : True := trivial
theorem tw9182342553657318366 : True := trivial
theorem tw8092666306467823078 : True := trivial
theorem tw17196491154680774549 : True := trivial
theorem tw3597019560688039107 : True := trivial
theorem tw5747501506443722968 : True := trivial
theorem tw17154144827933080058 : True := trivial
theorem tw16369945672113799430 : True := trivial
theorem tw17702541783860777945 : True := trivial
theorem tw6667215365287554490 : True := trivial
theorem tw10555718172329032515 : True := trivial
theorem tw15001056205877277378 : True := trivial
theorem tw11805960059324406283 : True := trivial
theorem tw6425414900942841285 : True := trivial
theorem tw5260378216028650820 : True := trivial
theorem tw6136093587156985215 : True := trivial
theorem tw10466837815881163801 : True := trivial
theorem tw18310924211212023898 : True := trivial
theorem tw1695510096894017377 : True := trivial
theorem tw7682230036034792189 : True := trivial
theorem tw1173199282963396247 : True := trivial
theorem tw11657645106233591760 : True := trivial
theorem tw1669876337670000088 : True := trivial
theorem tw12848851418496564332 : True := trivial
theorem tw8050950827777398048 : True := trivial
theorem tw8933809840192862964 : True := trivial
theorem tw6531377579976591453 : True := trivial
theorem tw2449488105106944939 : True := trivial
theorem tw13892498335915948944 : True := trivial
theorem tw9534325647766667915 : True := trivial
theorem tw13030362482511221369 : True := trivial
theorem tw8326316056751524354 : True := trivial
theorem tw7324589716685445584 : True := trivial
theorem tw12406650531067531190 : True := trivial
theorem tw8750652063840231740 : True := trivial
theorem tw6285167004378408775 : True := trivial
theorem tw16689321103079575415 : True := trivial
theorem tw8670771243778806885 : True := trivial
theorem tw6381563940363135200 : True := trivial
theorem tw16111828553661657759 : True := trivial
theorem tw4535816303096156259 : True := trivial
theorem tw7316328115810111015 : True := trivial
theorem tw6599119529455057934 : True := trivial
theorem tw17035528155845151454 : True := trivial
theorem tw1923917731997800541 : True := trivial
theorem tw11541319093331784333 : True := trivial
theorem tw9546901395519097113 : True := trivial
theorem tw9571535370773033377 : True := trivial
theorem tw13410742300778622958 : True := trivial
theorem tw8072592181832140243 : True := trivial
theorem tw4254488230019060974 : True := trivial
theorem tw2375206398539671207 : True := trivial
theorem tw10018832213918629479 : True := trivial
theorem tw16987890369639669891 : True := trivial
theorem tw10323790414895024552 : True := trivial
theorem tw14394623442800784134 : True := trivial
theorem tw8567503031727373547 : True := trivial
theorem tw17180195468159040677 : True := trivial
theorem tw7460648067218526814 : True := trivial
theorem tw13845363747457403913 : True := trivial
theorem tw11510721860946107903 : True := trivial
theorem tw3475902865807220180 : True := trivial
theorem tw16384229708659611427 : True := trivial
theorem tw1580787227658663736 : True := trivial
theorem tw16365490533586924995 : True := trivial
theorem tw3759710010112212565 : True := trivial
theorem tw1164882223203232665 : True := trivial
theorem tw13508362850219849301 : True := trivial
theorem tw1085446360950862833 : True := trivial
theorem tw9884355026049912583 : True := trivial
theorem tw1432046594818976388 : True := trivial
theorem tw5151078855888670336 : True := trivial
theorem tw15476605425147884619 : True := trivial
theorem tw8906646419454758212 : True := trivial
theorem tw16549196318746827350 : True := trivial
theorem tw5739260062304549745 : True := trivial
theorem tw15363033733867052640 : True := trivial
theorem tw14596787741471266818 : True := trivial
theorem tw9462015229429695695 : True := trivial
theorem tw10580247544697141323 : True := trivial
theorem tw5074628755499229793 : True := trivial
theorem tw7825484699456415615 : True := trivial
theorem tw16578026159639430467 : True := trivial
theorem tw98075271140989712 : True := trivial
theorem tw11048436554777996028 : True := trivial
theorem tw8213830255667458657 : True := trivial
theorem tw359674477934263203 : True := trivial
theorem tw123686674118195260 : True := trivial
theorem tw6670617395169278514 : True := trivial
theorem tw1843932490979021277 : True := trivial
theorem tw11687710423419705005 : True := trivial
theorem tw10398586267621149198 : True := trivial
theorem tw7873442354669621758 : True := trivial
theorem tw2099304469547774156 : True := trivial
theorem tw16227910548064599810 : True := trivial
theorem tw17684493538786419990 : True := trivial
theorem tw14384018857657548324 : True := trivial
theorem tw1959391839168329765 : True := trivial
theorem tw8259725323803305940 : True := trivial
theorem tw4448835594606863779 : True := trivial
theorem tw6716157525985162635 : True := trivial
theorem tw17873790006769355236 : True := trivial
theorem tw15870507963705638482 : True := trivial
theorem tw4776088062116969880 : True := trivial
theorem tw7723371066258716378 : True := trivial
theorem tw12513107966257316912 : True := trivial
theorem tw1891281401311970101 : True := trivial
theorem tw8943506571587402987 : True := trivial
theorem tw3833387084548308060 : True := trivial
theorem tw4551166441225332441 : True := trivial
theorem tw8960257034939007134 : True := trivial
theorem tw15234727377662040961 : True := trivial
theorem tw1003586568341054027 : True := trivial
theorem tw17168641147342670659 : True := trivial
theorem tw11921933945238363750 : True := trivial
theorem tw15503895281595511207 : True := trivial
theorem tw9068879478100896929 : True := trivial
theorem tw15177590552357897271 : True := trivial
theorem tw18402769245516950960 : True := trivial
theorem tw5508525403501505706 : True := trivial
theorem tw3937244442570227343 : True := trivial
theorem tw4180767909326071356 : True := trivial
theorem tw17212982446460151239 : True := trivial
theorem tw3163186264296576149 : True := trivial
theorem tw5420379340680203627 : True := trivial
theorem tw1884157002324279276 : True := trivial
theorem tw15219313058300944985 : True := trivial
theorem tw6096312536470303592 : True := trivial
theorem tw8173607700945315544 : True := trivial
theorem tw4799336707676368658 : True := trivial
theorem tw14689110479457818338 : True := trivial
theorem tw16271790000277440214 : True := trivial
theorem tw4254185697877881885 : True := trivial
theorem tw12257142217187598610 : True := trivial
theorem tw7506629604006075977 : True := trivial
theorem tw4805750459014103763 : True := trivial
theorem tw9747532853796621756 : True := trivial
theorem tw13645766375491644408 : True := trivial
theorem tw17370461868930270551 : True := trivial
theorem tw5929152466802282115 : True := trivial
theorem tw5691128966781905093 : True := trivial
theorem tw16555634406735417611 : True := trivial
theorem tw10212826435615706971 : True := trivial
theorem tw11473714755269862020 : True := trivial
theorem tw7410480008539292383 : True := trivial
theorem tw1189852723036036748 : True := trivial
theorem tw9825558807504843591 : True := trivial
theorem tw12153659471345884365 : True := trivial
theorem tw8503660711936515776 : True := trivial
theorem tw8287701665231782586 : True := trivial
theorem tw11487036344001518079 : True := trivial
theorem tw13367441443243330751 : True := trivial
theorem tw7535217521190218773 : True := trivial
theorem tw372525907600081184 : True := trivial
theorem tw16684712115044843022 : True := trivial
theorem tw7378976414268029503 : True := trivial
theorem tw855168499411000503 : True := trivial
theorem tw1568304221977498611 : True := trivial
theorem tw11735543557094715807 : True := trivial
theorem tw15245283165404128447 : True := trivial
theorem tw13620483158270863084 : True := trivial
theorem tw18146764690948789024 : True := trivial
theorem tw17293893748862172525 : True := trivial
theorem tw5476256833781881076 : True := trivial
theorem tw18333366369153593237 : True := trivial
theorem tw15952451579297014379 : True := trivial
theorem tw1145438229332021567 : True := trivial
theorem tw1704360944293837785 : True := trivial
theorem tw8186581446211789357 : True := trivial
theorem tw16150095853827848020 : True := trivial
theorem tw816760262920538255 : True := trivial
theorem tw16358887474051182817 : True := trivial
theorem tw2783956855398936025 : True := trivial
theorem tw1837387332829055383 : True := trivial
theorem tw7786317283908027664 : True := trivial
theorem tw2578351281817413193 : True := trivial
theorem tw2888049423600391730 : True := trivial
theorem tw11428453990308607565 : True := trivial
theorem tw17123978112543091316 : True := trivial
theorem tw11905555436331314192 : True := trivial
theorem tw7399340436763251304 : True := trivial
theorem tw3386991895478756463 : True := trivial
theorem tw12006885876514090559 : True := trivial
theorem tw9615805986189035520 : True := trivial
theorem tw7361712229594404225 : True := trivial
theorem tw10550274581034694307 : True := trivial
theorem tw1176079322420180659 : True := trivial
theorem tw9626081196716337632 : True := trivial
theorem tw7370714080064044178 : True := trivial
theorem tw6215711625029554326 : True := trivial
theorem tw13727842991768132915 : True := trivial
theorem tw9846580632930943956 : True := trivial
theorem tw16904184608623526695 : True := trivial
theorem tw10235648714583199142 : True := trivial
theorem tw9383755259358098369 : True := trivial
theorem tw12079561201602305451 : True := trivial
theorem tw7750870508779351027 : True := trivial
theorem tw11755220345028815485 : True := trivial
theorem tw905587528695013960 : True := trivial
theorem tw6293537249065075018 : True := trivial
theorem tw13711046040431484001 : True := trivial
theorem tw17510572939308434107 : True := trivial
theorem tw5607320358360422370 : True := trivial
theorem tw16681182357726690485 : True := trivial
theorem tw3055067098921867479 : True := trivial
theorem tw16614067421052205742 : True := trivial
theorem tw12996058070159970514 : True := trivial
theorem tw2590165118902636919 : True := trivial
theorem tw4860882504843640059 : True := trivial
theorem tw18221496740607612500 : True := trivial
theorem tw2783002473615349720 : True := trivial
theorem tw4390709760044529272 : True := trivial
theorem tw7041936335270540444 : True := trivial
theorem tw5429872173572285534 : True := trivial
theorem tw5604835808296057489 : True := trivial
theorem tw15288119110419142276 : True := trivial
theorem tw16707821526901707475 : True := trivial
theorem tw2026564882714474611 : True := trivial
theorem tw7796274234245561170 : True := trivial
theorem tw708045295726102117 : True := trivial
theorem tw2878793156848834522 : True := trivial
theorem tw3380935380687781973 : True := trivial
theorem tw4751282534402498312 : True := trivial
theorem tw15350405441227627966 : True := trivial
theorem tw9146186308222619086 : True := trivial
theorem tw5856148982977898499 : True := trivial
theorem tw7535002799637355120 : True := trivial
theorem tw8400504248407071456 : True := trivial
theorem tw11317579533362982705 : True := trivial
theorem tw12313064947553493437 : True := trivial
theorem tw1036825053919208512 : True := trivial
theorem tw8845853409719386050 : True := trivial
theorem tw14682451217626634541 : True := trivial
theorem tw16679067981958320292 : True := trivial
theorem tw8705084889997695571 : True := trivial
theorem tw3847893416258255458 : True := trivial
theorem tw9311056039789755042 : True := trivial
theorem tw8852530127386481689 : True := trivial
theorem tw12259539577975103698 : True := trivial
theorem tw4870820990998705960 : True := trivial
theorem tw5715541218033375376 : True := trivial
theorem tw9036433230102450664 : True := trivial
theorem tw14390980076652992266 : True := trivial
theorem tw12248449101503654515 : True := trivial
theorem tw6269800576724384367 : True := trivial
theorem tw10475928700771966044 : True := trivial
theorem tw11942033471057451943 : True := trivial
theorem tw12669503823874496449 : True := trivial
theorem tw2096941204305443750 : True := trivial
theorem tw9699336115117729930 : True := trivial
theorem tw12986058576653620508 : True := trivial
theorem tw14648113513234639647 : True := trivial
theorem tw10017788899150057895 : True := trivial
theorem tw5205668749297161461 : True := trivial
theorem tw13398399663865162544 : True := trivial
theorem tw1830728938623689242 : True := trivial
theorem tw7947338347599594513 : True := trivial
theorem tw1469108666565013507 : True := trivial
theorem tw17318491242503451848 : True := trivial
theorem tw14529177570932698710 : True := trivial
theorem tw2806393524482611236 : True := trivial
theorem tw13195987100727223770 : True := trivial
theorem tw6505889829745165318 : True := trivial
theorem tw14448571779701392506 : True := trivial
theorem tw10319501003782391847 : True := trivial
theorem tw5165581774834855932 : True := trivial
theorem tw1297032668609970923 : True := trivial
theorem tw15649738087625292210 : True := trivial
theorem tw10067355104075643275 : True := trivial
theorem tw12896701216255168246 : True := trivial
theorem tw11231268535681671339 : True := trivial
theorem tw16395373911868539363 : True := trivial
theorem tw2915261920159502568 : True := trivial
theorem tw14544301321182030741 : True := trivial
theorem tw2183507218278447879 : True := trivial
theorem tw2897632379665089931 : True := trivial
theorem tw18101633758920084897 : True := trivial
theorem tw15793845956213341450 : True := trivial
theorem tw17982695594306778445 : True := trivial
theorem tw4546644275788622102 : True := trivial
theorem tw7291353366514221010 : True := trivial
theorem tw12784360240843720142 : True := trivial
theorem tw3969824237570100776 : True := trivial
theorem tw3500045380929495133 : True := trivial
theorem tw14081329003077593056 : True := trivial
theorem tw6428836445399620781 : True := trivial
theorem tw1868049742777792244 : True := trivial
theorem tw13661287511392017892 : True := trivial
theorem tw9227535465733522349 : True := trivial
theorem tw3015681194108742775 : True := trivial
theorem tw10677181023311604214 : True := trivial
theorem tw11542872704083187369 : True := trivial
theorem tw8623564961340791734 : True := trivial
theorem tw13901490053756404744 : True := trivial
theorem tw960050848766937271 : True := trivial
theorem tw18405412784536827354 : True := trivial
theorem tw6646879331855590304 : True := trivial
theorem tw4009338424391153071 : True := trivial
theorem tw15786061811284279205 : True := trivial
theorem tw9470199025548531795 : True := trivial
theorem tw15974282380777841002 : True := trivial
theorem tw4882206569832762009 : True := trivial
theorem tw11447941907663803046 : True := trivial
theorem tw6134002508673835281 : True := trivial
theorem tw2307090439938425327 : True := trivial
theorem tw16059254498097762931 : True := trivial
theorem tw12810138939210626630 : True := trivial
theorem tw12934951853975421420 : True := trivial
theorem tw9351873909626609782 : True := trivial
theorem tw10158975050279796663 : True := trivial
theorem tw3518270114063514274 : True := trivial
theorem tw12544253977147454324 : True := trivial
theorem tw8472439999578884724 : True := trivial
theorem tw9798339236106811196 : True := trivial
theorem tw11427050489749338305 : True := trivial
theorem tw14239289350908617314 : True := trivial
theorem tw12981684361872513027 : True := trivial
theorem tw1282731619024302628 : True := trivial
theorem tw2531088321402163243 : True := trivial
theorem tw8344245260858803287 : True := trivial
theorem tw8697609910814775846 : True := trivial
theorem tw3136306842365405576 : True := trivial
theorem tw6297739454017681220 : True := trivial
theorem tw17977988725892707158 : True := trivial
theorem tw16039362008813612741 : True := trivial
theorem tw1436249589536657150 : True := trivial
theorem tw8799372203303575795 : True := trivial
theorem tw8782778689837717695 : True := trivial
theorem tw4579577086566881272 : True := trivial
theorem tw4478334040652372635 : True := trivial
theorem tw3786290960044989686 : True := trivial
theorem tw3120113681926121877 : True := trivial
theorem tw9552418135779484783 : True := trivial
theorem tw9063316141770240257 : True := trivial
theorem tw339224592812192667 : True := trivial
theorem tw10572733635573505725 : True := trivial
theorem tw10734346761020631068 : True := trivial
theorem tw6131459261266714361 : True := trivial
theorem tw2247844110553814248 : True := trivial
theorem tw7568337925879359064 : True := trivial
theorem tw16676502588462916709 : True := trivial
theorem tw10419726682591262557 : True := trivial
theorem tw12798658024124653879 : True := trivial
theorem tw12839877120325842763 : True := trivial
theorem tw8937378945868886277 : True := trivial
theorem tw6722888759846166110 : True := trivial
theorem tw10322692437255734812 : True := trivial
theorem tw3588971163530525636 : True := trivial
theorem tw15595976923621643440 : True := trivial
theorem tw17988498918168435268 : True := trivial
theorem tw1873386468875058060 : True := trivial
theorem tw1053057342741277391 : True := trivial
theorem tw3305749480084898945 : True := trivial
theorem tw8225862300816985948 : True := trivial
theorem tw17603631647825564964 : True := trivial
theorem tw13434923799626022156 : True := trivial
theorem tw2847899997164225806 : True := trivial
theorem tw10414193584920412627 : True := trivial
theorem tw10512983876303221748 : True := trivial
theorem tw2042762938286467980 : True := trivial
theorem tw7136564018072386347 : True := trivial
theorem tw8942416064926795761 : True := trivial
theorem tw9872894533333302952 : True := trivial
theorem tw12541584954729255465 : True := trivial
theorem tw1521555265194172318 : True := trivial
theorem tw15649314382953645090 : True := trivial
theorem tw3519013304060778432 : True := trivial
theorem tw13789677630325051226 : True := trivial
theorem tw17570792280595983627 : True := trivial
theorem tw15937438585856900970 : True := trivial
theorem tw8248988724413977058 : True := trivial
theorem tw6005223870892913473 : True := trivial
theorem tw4478279841756930620 : True := trivial
theorem tw497360663706884021 : True := trivial
theorem tw11458501801640361781 : True := trivial
theorem tw11550254677324453141 : True := trivial
theorem tw10107192914230221782 : True := trivial
theorem tw3430832569373482215 : True := trivial
theorem tw17156949415198633774 : True := trivial
theorem tw10515750818216680289 : True := trivial
theorem tw12033344195343221276 : True := trivial
theorem tw18431168122545246677 : True := trivial
theorem tw16741848247305013400 : True := trivial
theorem tw9062863342759334271 : True := trivial
theorem tw4847161687196603734 : True := trivial
theorem tw16142530673812704952 : True := trivial
theorem tw13921838146772490189 : True := trivial
theorem tw355996382856560000 : True := trivial
theorem tw14420782012553526155 : True := trivial
theorem tw2951386002248001958 : True := trivial
theorem tw14738332839276273773 : True := trivial
theorem tw1994805565058289416 : True := trivial
theorem tw6789686797176568049 : True := trivial
theorem tw1378004814817118474 : True := trivial
theorem tw1046303050538599212 : True := trivial
theorem tw15604690081134836391 : True := trivial
theorem tw4326596812911890447 : True := trivial
theorem tw11001209747788500658 : True := trivial
theorem tw16651234390879853358 : True := trivial
theorem tw6958645189134850556 : True := trivial
theorem tw10307651466734162137 : True := trivial
theorem tw14973298472011693169 : True := trivial
theorem tw7201601642792764949 : True := trivial
theorem tw16531870463292877737 : True := trivial
theorem tw6124941601319975727 : True := trivial
theorem tw14670985005669395366 : True := trivial
theorem tw167985071357648463 : True := trivial
theorem tw2231793398430435732 : True := trivial
theorem tw12320029094706313238 : True := trivial
theorem tw17712836694852530870 : True := trivial
theorem tw6739956485725728979 : True := trivial
theorem tw2097802629581862470 : True := trivial
theorem tw7118430192128766453 : True := trivial
theorem tw5989770250344729309 : True := trivial
theorem tw5477099115154274003 : True := trivial
theorem tw16716546644139784768 : True := trivial
theorem tw6418923982407956075 : True := trivial
theorem tw9736829806540214903 : True := trivial
theorem tw14113409516418308985 : True := trivial
theorem tw7233317754108828066 : True := trivial
theorem tw2541478479852403590 : True := trivial
theorem tw12528596615628285788 : True := trivial
theorem tw2485307429580185532 : True := trivial
theorem tw16169267508442259383 : True := trivial
theorem tw15089131379500936453 : True := trivial
theorem tw3288797421917072072 : True := trivial
theorem tw1981864175885520407 : True := trivial
theorem tw13153322381789100428 : True := trivial
theorem tw7039955194728326051 : True := trivial
theorem tw16984034402943854141 : True := trivial
theorem tw11976874915213706559 : True := trivial
theorem tw7404225678548197383 : True := trivial
theorem tw2315787472201323137 : True := trivial
theorem tw6116779600463100829 : True := trivial
theorem tw15288339253287142081 : True := trivial
theorem tw14464295826435592742 : True := trivial
theorem tw10618657522404741396 : True := trivial
theorem tw12431542053280375191 : True := trivial
theorem tw11151343764693416090 : True := trivial
theorem tw12550224545676175790 : True := trivial
theorem tw10503246459050303822 : True := trivial
theorem tw16342384386772038482 : True := trivial
theorem tw10413290030777078302 : True := trivial
theorem tw11651941772573755169 : True := trivial
theorem tw136063440050343210 : True := trivial
theorem tw17704734469149224921 : True := trivial
theorem tw14899287272273142816 : True := trivial
theorem tw4584557407448336657 : True := trivial
theorem tw11441155719893706612 : True := trivial
theorem tw18403864235283672485 : True := trivial
theorem tw2013409472790794623 : True := trivial
theorem tw14855939166130383842 : True := trivial
theorem tw8458771079182394079 : True := trivial
theorem tw14441849217696572001 : True := trivial
theorem tw17204517880365750426 : True := trivial
theorem tw4383407420157449125 : True := trivial
theorem tw2959161835317433322 : True := trivial
theorem tw1491336424311045069 : True := trivial
theorem tw16659000165413568518 : True := trivial
theorem tw11163215250233400309 : True := trivial
theorem tw13511928953172602288 : True := trivial
theorem tw17012835219290240407 : True := trivial
theorem tw10585602135961546881 : True := trivial
theorem tw6389871804011585230 : True := trivial
theorem tw13667648759157132173 : True := trivial
theorem tw15373800813920376587 : True := trivial
theorem tw12941394351013496133 : True := trivial
theorem tw3794940417139765988 : True := trivial
theorem tw17333732557754245501 : True := trivial
theorem tw13298019607888386524 : True := trivial
theorem tw9835184126452975737 : True := trivial
theorem tw17460586045901743480 : True := trivial
theorem tw12214340855711000089 : True := trivial
theorem tw11343473884540193551 : True := trivial
theorem tw12217529378293269236 : True := trivial
theorem tw13271241176467474704 : True := trivial
theorem tw16238695689765254002 : True := trivial
theorem tw15478290568897951882 : True := trivial
theorem tw13952589186035531799 : True := trivial
theorem tw2346434553980085496 : True := trivial
theorem tw17615970304678335875 : True := trivial
theorem tw3569573548083652402 : True := trivial
theorem tw5627482875092495166 : True := trivial
theorem tw4420862922631421675 : True := trivial
theorem tw15541911741645186728 : True := trivial
theorem tw15104707605424631900 : True := trivial
theorem tw12865646669610348388 : True := trivial
theorem tw5409097454765578910 : True := trivial
theorem tw7537462302237696571 : True := trivial
theorem tw11725341453786465626 : True := trivial
theorem tw6126834691248478450 : True := trivial
theorem tw15617995345080321057 : True := trivial
theorem tw10305944480496733701 : True := trivial
theorem tw11138982444225711653 : True := trivial
theorem tw9853699950698129989 : True := trivial
theorem tw16619460248487745004 : True := trivial
theorem tw10775545438231040131 : True := trivial
theorem tw7357894038608555523 : True := trivial
theorem tw776734900397645373 : True := trivial
theorem tw13289503774068558980 : True := trivial
theorem tw15245239720828614882 : True := trivial
theorem tw3409573036451121051 : True := trivial
theorem tw7663180509135097439 : True := trivial
theorem tw11275849817020842167 : True := trivial
theorem tw16090597687862852191 : True := trivial
theorem tw13745481164612088859 : True := trivial
theorem tw17840979056596484806 : True := trivial
theorem tw14135771155940000022 : True := trivial
theorem tw2143957283656266077 : True := trivial
theorem tw8943310382620502071 : True := trivial
theorem tw8046985584504496282 : True := trivial
theorem tw1268191746442894382 : True := trivial
theorem tw18425225725321503756 : True := trivial
theorem tw9615672326265013607 : True := trivial
theorem tw8873467754133050205 : True := trivial
theorem tw7760847729004739588 : True := trivial
theorem tw15193711935924093839 : True := trivial
theorem tw4514444992273521089 : True := trivial
theorem tw13038914319371988265 : True := trivial
theorem tw9473030223221459465 : True := trivial
theorem tw15966169735260121141 : True := trivial
theorem tw26877405466343447 : True := trivial
theorem tw8059042711464421741 : True := trivial
theorem tw11450201745270654222 : True := trivial
theorem tw12491366953266690239 : True := trivial
theorem tw7475871208913492162 : True := trivial
theorem tw9629474434527699809 : True := trivial
theorem tw5409366007584967075 : True := trivial
theorem tw9257927824111913287 : True := trivial
theorem tw7970412397520320654 : True := trivial
theorem tw17155855487621836709 : True := trivial
theorem tw11438849694878761156 : True := trivial
theorem tw15788977797503366972 : True := trivial
theorem tw4306564808082017633 : True := trivial
theorem tw1308745403456363181 : True := trivial
theorem tw4208734143498477645 : True := trivial
theorem tw17049085943102205794 : True := trivial
theorem tw3437907633828208000 : True := trivial
theorem tw10166195152394021702 : True := trivial
theorem tw2391073300771724814 : True := trivial
theorem tw8049430661905582836 : True := trivial
theorem tw2150228535269823783 : True := trivial
theorem tw2591819956746355244 : True := trivial
theorem tw6408363902074713917 : True := trivial
theorem tw17456490922900562567 : True := trivial
theorem tw5910440616305488821 : True := trivial
theorem tw3402068791998441560 : True := trivial
theorem tw7686422701275456138 : True := trivial
theorem tw18250224025411190348 : True := trivial
theorem tw2047077231110316048 : True := trivial
theorem tw5495102863194933002 : True := trivial
theorem tw13245039147307675536 : True := trivial
theorem tw11199705531422776145 : True := trivial
theorem tw6412721170132791065 : True := trivial
theorem tw14233375716992088506 : True := trivial
theorem tw8001199741054128350 : True := trivial
theorem tw15781415185009098019 : True := trivial
theorem tw10816754735631942548 : True := trivial
theorem tw79765421381628701 : True := trivial
theorem tw1951304671486616457 : True := trivial
theorem tw6905344724608913962 : True := trivial
theorem tw16061927722193772204 : True := trivial
theorem tw7005053513127541163 : True := trivial
theorem tw12965636546680305311 : True := trivial
theorem tw1745254952650340349 : True := trivial
theorem tw13075672575759723129 : True := trivial
theorem tw7949111435810904832 : True := trivial
theorem tw5605740251130056851 : True := trivial
theorem tw5502607343161352764 : True := trivial
theorem tw15167757616076435489 : True := trivial
theorem tw8065493402013126719 : True := trivial
theorem tw17127716466403307401 : True := trivial
theorem tw1892497086594246384 : True := trivial
theorem tw4578073838729092694 : True := trivial
theorem tw12693335245358512814 : True := trivial
theorem tw3148966950799367373 : True := trivial
theorem tw3298963211978639673 : True := trivial
theorem tw2317740693662035978 : True := trivial
theorem tw5108028236548922365 : True := trivial
theorem tw15176716407839422527 : True := trivial
theorem tw18248651582587074862 : True := trivial
theorem tw10164489421610927104 : True := trivial
theorem tw9083635313989964351 : True := trivial
theorem tw16626288849920792520 : True := trivial
theorem tw10247054860911567197 : True := trivial
theorem tw14097420413321514433 : True := trivial
theorem tw14156971944580773197 : True := trivial
theorem tw3523916434977887104 : True := trivial
theorem tw18323763663938697113 : True := trivial
theorem tw14972248735013912518 : True := trivial
theorem tw8677302658230128891 : True := trivial
theorem tw3048625272048801309 : True := trivial
theorem tw10783158620024282116 : True := trivial
theorem tw4284608214837042114 : True := trivial
theorem tw378083904730610894 : True := trivial
theorem tw13204161976637456802 : True := trivial
theorem tw11680981566860643967 : True := trivial
theorem tw14243037624748947413 : True := trivial
theorem tw6131462240629131000 : True := trivial
theorem tw12130288347816450477 : True := trivial
theorem tw13279870413759428154 : True := trivial
theorem tw13572087799763237570 : True := trivial
theorem tw12616172019080302470 : True := trivial
theorem tw3750821004556546318 : True := trivial
theorem tw5144897212246035213 : True := trivial
theorem tw11235201746331668935 : True := trivial
theorem tw1566920424647158498 : True := trivial
theorem tw9089277918775038142 : True := trivial
theorem tw7855729953441644567 : True := trivial
theorem tw8027916372720486466 : True := trivial
theorem tw1285798067458324753 : True := trivial
theorem tw11636107060374798686 : True := trivial
theorem tw15139554571385455295 : True := trivial
theorem tw10010845322139352627 : True := trivial
theorem tw3470672704688877459 : True := trivial
theorem tw17151064592585248314 : True := trivial
theorem tw15729114282328834007 : True := trivial
theorem tw64889433194763705 : True := trivial
theorem tw12476784377090588212 : True := trivial
theorem tw16541751714859608290 : True := trivial
theorem tw11435658123040128006 : True := trivial
theorem tw2339369739504128151 : True := trivial
theorem tw9449784247559233269 : True := trivial
theorem tw4637192288282360748 : True := trivial
theorem tw17644019301889704414 : True := trivial
theorem tw15316214492922139463 : True := trivial
theorem tw11733734702629043749 : True := trivial
theorem tw14508051596820820839 : True := trivial
theorem tw12604221089893923323 : True := trivial
theorem tw4460268821922463416 : True := trivial
theorem tw9761581780216786772 : True := trivial
theorem tw3146396220367132296 : True := trivial
theorem tw3497379577797680091 : True := trivial
theorem tw251177777154480768 : True := trivial
theorem tw92803350260385714 : True := trivial
theorem tw1430864054731318241 : True := trivial
theorem tw16524059280546940625 : True := trivial
theorem tw17419156074687965551 : True := trivial
theorem tw1604004307016998346 : True := trivial
theorem tw10711610238166011483 : True := trivial
theorem tw15056242554879593273 : True := trivial
theorem tw1217745672201319790 : True := trivial
theorem tw15513460198188007025 : True := trivial
theorem tw10868594059437301352 : True := trivial
theorem tw15338273020528510402 : True := trivial
theorem tw4719937437743394932 : True := trivial
theorem tw5396451591722742697 : True := trivial
theorem tw15260663562296954404 : True := trivial
theorem tw8058740734964580546 : True := trivial
theorem tw17782419194950345232 : True := trivial
theorem tw14374489479828959890 : True := trivial
theorem tw185286079852928538 : True := trivial
theorem tw10746670940284610437 : True := trivial
theorem tw13281160262870861691 : True := trivial
theorem tw18106157062355010138 : True := trivial
theorem tw4105787885487224124 : True := trivial
theorem tw5657525579230229757 : True := trivial
theorem tw3565192438606804756 : True := trivial
theorem tw15670875253111351066 : True := trivial
theorem tw9990210928843065123 : True := trivial
theorem tw5138320013819281356 : True := trivial
theorem tw5938935180784926153 : True := trivial
theorem tw13965410898340613445 : True := trivial
theorem tw6628020113012296143 : True := trivial
theorem tw8499357920116406194 : True := trivial
theorem tw2274366630676871501 : True := trivial
theorem tw16484381730997062492 : True := trivial
theorem tw17126466730425718045 : True := trivial
theorem tw3093972172620865988 : True := trivial
theorem tw2804180765906522570 : True := trivial
theorem tw5308408606060209583 : True := trivial
theorem tw10173080693487543003 : True := trivial
theorem tw16134883265113472841 : True := trivial
theorem tw15975467772437593770 : True := trivial
theorem tw10194237121763327897 : True := trivial
theorem tw9294019548499875384 : True := trivial
theorem tw12351822775331109856 : True := trivial
theorem tw13102114777984284480 : True := trivial
theorem tw6096052327025629822 : True := trivial
theorem tw660219271244974385 : True := trivial
theorem tw2286868999187377653 : True := trivial
theorem tw11474072394728222210 : True := trivial
theorem tw3175499789867179999 : True := trivial
theorem tw15047718948170510788 : True := trivial
theorem tw11756683028873655540 : True := trivial
theorem tw10278784268148742078 : True := trivial
theorem tw5291707243805272689 : True := trivial
theorem tw2421974210947943896 : True := trivial
theorem tw13139216254927382609 : True := trivial
theorem tw10119173065603353996 : True := trivial
theorem tw2948353722112939280 : True := trivial
theorem tw1557172595067183701 : True := trivial
theorem tw8091685420355434742 : True := trivial
theorem tw7759241252895905792 : True := trivial
theorem tw3964741812652841094 : True := trivial
theorem tw2875617102437824151 : True := trivial
theorem tw4042970992223234270 : True := trivial
theorem tw18210978504206961622 : True := trivial
theorem tw2465201272906389876 : True := trivial
theorem tw2502861189909245467 : True := trivial
theorem tw2520595883203713878 : True := trivial
theorem tw13185223269041771558 : True := trivial
theorem tw5163333308569226706 : True := trivial
theorem tw6089881760442619883 : True := trivial
theorem tw10281885422764332917 : True := trivial
theorem tw13169099215198932927 : True := trivial
theorem tw10428136857845229736 : True := trivial
theorem tw6662825323830028513 : True := trivial
theorem tw12106956960737714382 : True := trivial
theorem tw3114665982151778685 : True := trivial
theorem tw8296667696301474193 : True := trivial
theorem tw2076075013181031077 : True := trivial
theorem tw8317748790123228767 : True := trivial
theorem tw5859076091229191063 : True := trivial
theorem tw3963732402816797218 : True := trivial
theorem tw7123160386482661844 : True := trivial
theorem tw11673848817800129705 : True := trivial
theorem tw9044453912763272853 : True := trivial
theorem tw14651759690360970083 : True := trivial
theorem tw580900189688234962 : True := trivial
theorem tw2420845466144198696 : True := trivial
theorem tw6909686524076739110 : True := trivial
theorem tw7969243833403816725 : True := trivial
theorem tw9429051258219011899 : True := trivial
theorem tw16004732814133205632 : True := trivial
theorem tw484259573861387075 : True := trivial
theorem tw12823683342366667648 : True := trivial
theorem tw11679227984046665637 : True := trivial
theorem tw1964536653777527937 : True := trivial
theorem tw16177888989005199918 : True := trivial
theorem tw5481060920723979279 : True := trivial
theorem tw16364119444717739325 : True := trivial
theorem tw17732004547103332221 : True := trivial
theorem tw15573197441692842753 : True := trivial
theorem tw219993478784210309 : True := trivial
theorem tw9743262540276851430 : True := trivial
theorem tw1193177490992119184 : True := trivial
theorem tw9914334180009780790 : True := trivial
theorem tw1760258660891434357 : True := trivial
theorem tw16725842125655001164 : True := trivial
theorem tw14749652554219716343 : True := trivial
theorem tw10122685962138206643 : True := trivial
theorem tw7693063965818392853 : True := trivial
theorem tw11098422062798722175 : True := trivial
theorem tw6117160472753561346 : True := trivial
theorem tw3108816052577961834 : True := trivial
theorem tw10673186237915159280 : True := trivial
theorem tw12634102005968315378 : True := trivial
theorem tw16808101064571166239 : True := trivial
theorem tw17399954126358607745 : True := trivial
theorem tw5055731070195491554 : True := trivial
theorem tw5393928187633336410 : True := trivial
theorem tw4410027799531969111 : True := trivial
theorem tw11150181478950402312 : True := trivial
theorem tw6919729201539898713 : True := trivial
theorem tw9007937751257014164 : True := trivial
theorem tw13218149750968122468 : True := trivial
theorem tw8629024110906615861 : True := trivial
theorem tw8811210696775513096 : True := trivial
theorem tw2264310253170993280 : True := trivial
theorem tw17110205108780911252 : True := trivial
theorem tw2624490968562700473 : True := trivial
theorem tw487194709873768154 : True := trivial
theorem tw6110318783425859748 : True := trivial
theorem tw4416284522434416561 : True := trivial
theorem tw18241957777257879750 : True := trivial
theorem tw12893040443140650081 : True := trivial
theorem tw542248526100295013 : True := trivial
theorem tw6150976936601723337 : True := trivial
theorem tw17412967051597721154 : True := trivial
theorem tw15941966535906006232 : True := trivial
theorem tw6791312159097376134 : True := trivial
theorem tw14635209518871669915 : True := trivial
theorem tw5755368545809505600 : True := trivial
theorem tw13184737160273421960 : True := trivial
theorem tw1422925138140981434 : True := trivial
theorem tw8677362600404108592 : True := trivial
theorem tw1017680836896482676 : True := trivial
theorem tw9054821845631497969 : True := trivial
theorem tw12103893770153526615 : True := trivial
theorem tw362842376099311688 : True := trivial
theorem tw2187532262907252767 : True := trivial
theorem tw9988109110853653462 : True := trivial
theorem tw12537388514157618536 : True := trivial
theorem tw824338114699188088 : True := trivial
theorem tw18243017937811348529 : True := trivial
theorem tw1559350885289867682 : True := trivial
theorem tw1743478796703445569 : True := trivial
theorem tw14043705154278696030 : True := trivial
theorem tw2657588340156428226 : True := trivial
theorem tw7977824130624017432 : True := trivial
theorem tw16849047098392431026 : True := trivial
theorem tw8233058068214865731 : True := trivial
theorem tw14889336212933601618 : True := trivial
theorem tw2959051711841503385 : True := trivial
theorem tw11293558784370279379 : True := trivial
theorem tw4411523569163513559 : True := trivial
theorem tw16433658569358754951 : True := trivial
theorem tw4527832340654653562 : True := trivial
theorem tw3303203929878661176 : True := trivial
theorem tw9476022492007706598 : True := trivial
theorem tw3436416683638535253 : True := trivial
theorem tw11131275715287355575 : True := trivial
theorem tw3030242004042926618 : True := trivial
theorem tw15419372733056382389 : True := trivial
theorem tw3714478934894655845 : True := trivial
theorem tw11203037126535159687 : True := trivial
theorem tw4476036477331449620 : True := trivial
theorem tw5100337038175710370 : True := trivial
theorem tw8958366324690311949 : True := trivial
theorem tw14786365380234952175 : True := trivial
theorem tw14184987369404498229 : True := trivial
theorem tw13397439640534830812 : True := trivial
theorem tw8346696010151329043 : True := trivial
theorem tw17281509130118850763 : True := trivial
theorem tw892583518287064474 : True := trivial
theorem tw15694488320144950346 : True := trivial
theorem tw12194875641299781416 : True := trivial
theorem tw6987257369885776379 : True := trivial
theorem tw4469214478219274814 : True := trivial
theorem tw12563112198918280810 : True := trivial
theorem tw9983460089433338982 : True := trivial
theorem tw12643286276921385653 : True := trivial
theorem tw308856326611634325 : True := trivial
theorem tw6500145776929650466 : True := trivial
theorem tw11535936197290861371 : True := trivial
theorem tw1678003217307428568 : True := trivial
theorem tw18138672634151941913 : True := trivial
theorem tw6975353774855479699 : True := trivial
theorem tw9025524662215436914 : True := trivial
theorem tw4901701916038814030 : True := trivial
theorem tw14832296044313233530 : True := trivial
theorem tw15609716034131776777 : True := trivial
theorem tw6889086249523499052 : True := trivial
theorem tw4581717185110730986 : True := trivial
theorem tw11759856159870746441 : True := trivial
theorem tw7867692867405754409 : True := trivial
theorem tw12530120557820931060 : True := trivial
theorem tw15874489536405178614 : True := trivial
theorem tw8639440022213153879 : True := trivial
theorem tw7963365950823558655 : True := trivial
theorem tw13316687733899125188 : True := trivial
theorem tw11035348620512844836 : True := trivial
theorem tw16661676742480009506 : True := trivial
theorem tw279229455494635177 : True := trivial
theorem tw11102211075282905558 : True := trivial
theorem tw17699476320425303637 : True := trivial
end Mine.hdT
open PySem PySem.W PySem.Calls PyProof.Rows
set_option maxHeartbeats 8000000 in
set_option Elab.async true in
theorem Mine.hdT : PySem.Challenge.rw_te0036_02.Holds := by
  w_on
  refine holds_law Mine.said fun said => ?_
  o_head (kHook Mine.K2 [3, 22, 27, 41, 42, 48, 49, 62, 63, 69, 70, 72, 73, 83, 84, 97, 98, 104, 105, 111, 112, 118, 119, 125, 126, 132, 133, 134, 140, 141, 147, 148, 149, 155, 156, 162, 163, 165, 166, 254, 260, 261, 267, 268, 296, 297, 303, 304, 331, 332, 338, 339, 345, 346, 352, 353, 366, 367, 534, 535, 541, 542, 597, 598, 604, 605, 611, 612, 625, 626, 632, 633, 639, 640, 761, 762, 772, 773, 779, 780, 786, 787, 791, 792, 796, 797, 801, 802] (fun _ => by kernel_rfl))
  case hw => w_witness2
  intro w s₀ s₁ mg mb G Y a o pm cd doc dV kV ho hd hcd hD hmg hg args vals as hpre hlay hrd hwl hlo
  have KX : (Mine.K2 w.params).In s₁.heap := kIn_of Y
  refine Ground.open G ?_
  intro T B D TE TW
  have T' := topRead_of T
  have ha := mg_of KX T'.g (Mine.gl_law w.params)
  have ha' : some (Value.ref a) = some (Value.ref 802) := hmg.symm.trans ha
  cases ha'
  clear hd hcd hD hmg Y TE TW D B G ho
  wrow_args hpre hlay hrd hwl hlo
  rename_i ns hs hlay0 hL1 hr1 hl2 w4 w3 l vs w0 hL ra w1 r0 hI hr2 hcond hcond2
  show wpAny _ _ (PySem.call (.ref 802) [.ref l]) _ _ _
  refine wpAny_call (codeAny_mono (Mine.law_ok KX T' hL (Mine.ints_conc hI) (by omega) hg Mine.caller_room) fun r s' z => ?_)
  cases r with
  | error e => exact z.elim
  | ok f =>
    cases f with
    | ret v =>
      obtain ⟨b, cb, ⟨rfl, ab⟩, eo, keep⟩ := z
      cases cb
      refine ⟨.inl ⟨.bool true, .bool true, [], rfl, fun _ => ?_, ?_, ?_, fun _ => ?_⟩, .of_keep keep, eo, ab⟩
      · rfl
      · exact .bool true
      · simp only [RowW.claim, OpenLaw.row]
        kernel_rfl
      · exact ⟨List.nodup_nil, fun _ h => nomatch h⟩
    | _ => exact z.elim
theorem PySem.Challenge.cw_te0036_02_holds : PySem.Challenge.rw_te0036_02.Holds := by
  exact Mine.hdT
