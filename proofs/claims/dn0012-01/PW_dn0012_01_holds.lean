import PyProof.Rows.All
import Wide.All
import OpenK.AllK
import Wide.FinOn
import PySem.Challenge.RW_dn0012_01
open PySem PySem.W PyProof.Rows
set_option Elab.async false
set_option maxRecDepth 100000
set_option maxHeartbeats 8000000
section
namespace Mine
/-- the top's run over a tree of objects, by any step that is the machine's -/
def topT (stp : SharedT → Thread → Option (SharedT × Thread)) (ok : Thread → Bool) : Nat → SharedT → Thread → Option SharedT
  | 0, _, _ => none
  | n + 1, s, t => match through t with
    | true => some s
    | false => match ok t with
      | false => none
      | true => match stp s t with
        | some (s', t') => topT stp ok n s' t'
        | none => none
theorem topT_of {tb : String → Option Builtin} {p : Program} {w : World} {n₀ : Nat} {ann : Option Value} : ∀ {n : Nat} {s s' : SharedT} {t : Thread}, topT (stepT (denote tb) p w) (stepOk n₀ ann) n s t = some s' → topRun tb p w n₀ ann n s.abs t = some s'.abs
  | 0, _, _, _, h => by cases h
  | n + 1, s, s', t, h => by
    unfold topT at h
    unfold topRun
    cases he : through t with
    | true => rw [he] at h; cases h; rfl
    | false =>
      rw [he] at h
      cases hk : stepOk n₀ ann t with
      | false => rw [hk] at h; cases h
      | true =>
        rw [hk] at h
        cases hs : stepT (denote tb) p w s t with
        | none => rw [hs] at h; cases h
        | some r => obtain ⟨s₂, t₂⟩ := r; rw [hs] at h; dsimp only at h ⊢; rw [stepT_spec hs]; exact topT_of h
def impT (stp : SharedT → Thread → Option (SharedT × Thread)) : Nat → SharedT → Thread → Option SharedT
  | 0, _, _ => none
  | n + 1, s, t => match t.atExitBegin with
    | some [] => some s
    | some (_ :: _) => none
    | none => match stp s t with
      | some (s', t') => impT stp n s' t'
      | none => none
theorem impT_of {tb : String → Option Builtin} {p : Program} {w : World} : ∀ {n : Nat} {s s' : SharedT} {t : Thread}, impT (stepT (denote tb) p w) n s t = some s' → importEnds tb p w n s.abs t = some s'.abs
  | 0, _, _, _, h => by cases h
  | n + 1, s, s', t, h => by
    unfold impT at h
    unfold importEnds
    cases he : t.atExitBegin with
    | some l =>
      rw [he] at h
      cases l with
      | nil => cases h; rfl
      | cons => cases h
    | none =>
      rw [he] at h
      cases hs : stepT (denote tb) p w s t with
      | none => rw [hs] at h; cases h
      | some r => obtain ⟨s₂, t₂⟩ := r; rw [hs] at h; dsimp only at h ⊢; rw [stepT_spec hs]; exact impT_of h
/-- a list of objects as a tree -/
def insAll : List Obj → Nat → BT → Option BT
  | [], _, t => some t
  | o :: l, n, t => match ((t.ins n o).get n).isSome with
    | true => insAll l (n + 1) (t.ins n o)
    | false => none
theorem insAll_of : ∀ {l : List Obj} {n : Nat} {t t' : BT} {life : Life} {h : Heap}, insAll l n t = some t' → absHeap t n life = h → absHeap t' (n + l.length) life = l.foldl Heap.push h
  | [], n, t, t', life, h, e, a => by cases e; exact a
  | o :: l, n, t, t', life, h, e, a => by
    unfold insAll at e
    cases hs : ((t.ins n o).get n).isSome with
    | false => rw [hs] at e; cases e
    | true =>
      rw [hs] at e
      have := insAll_of e ((absHeap_ins hs).trans (congrArg (Heap.push · o) a))
      rw [List.length_cons, show n + (l.length + 1) = n + 1 + l.length by omega]
      exact this
theorem push_all (l : List Obj) : ∀ (a : Array Obj) (life : Life), l.foldl Heap.push ⟨a, life⟩ = ⟨a ++ l.toArray, life⟩ := by
  induction l with
  | nil => intro a life; simp
  | cons o l ih =>
    intro a life
    rw [List.foldl_cons]
    show l.foldl Heap.push ⟨a.push o, life⟩ = _
    rw [ih]
    simp
def toT (s : Shared) : Option SharedT := (insAll s.heap.objs.toList 0 .nil).map fun t => ⟨t, s.heap.objs.toList.length, s.heap.life, s.gens, s.drawn, s.toks, s.os⟩
theorem toT_of {s : Shared} {t : SharedT} (h : toT s = some t) : t.abs = s := by
  obtain ⟨T, hT, rfl⟩ := Option.map_eq_some_iff.mp h
  have := insAll_of (life := s.heap.life) hT rfl
  rw [Nat.zero_add] at this
  obtain ⟨⟨objs, life⟩, g, d, k, os⟩ := s
  show Shared.mk _ _ _ _ _ = _
  dsimp only at this ⊢
  congr 1
  rw [this]
  show List.foldl Heap.push ⟨(BT.nil.list 0).toArray, life⟩ objs.toList = _
  rw [push_all]
  simp [BT.list]
/-- the library's quick readings of the machine's words -/
noncomputable def stepQ : Program → World → SharedT → Thread → Option (SharedT × Thread) := Fast.tw10156331382660048174 (Fast.tw11892475500146522536 Fast.tw14364793385576792824)
theorem stepQ_eq : stepQ = stepT (denote treeTable) := by
  unfold stepQ
  rw [Fast.te10156331382660048174, Fast.te11892475500146522536, Fast.te14364793385576792824]
noncomputable def fenced (p : Program) (w : World) (N : Nat) : Option Shared := ((toT (Fast.tw1435165496053646825 (opening p)).1).bind fun s => impT (stepQ (opening p) w) N s (Fast.tw1435165496053646825 (opening p)).2).bind fun s => Fast.tw14289696077712309145 p s.abs
theorem fenced_of {p : Program} {w : World} {N : Nat} {s : Shared} (h : fenced p w N = some s) : fencedOpening treeTable p w N = some s := by
  unfold fenced at h
  rw [stepQ_eq, ← Fast.te14289696077712309145, ← Fast.te1435165496053646825] at h
  obtain ⟨s₁, h₁, h₂⟩ := Option.bind_eq_some_iff.mp h
  obtain ⟨s₀, h₀, h₁⟩ := Option.bind_eq_some_iff.mp h₁
  unfold fencedOpening
  have e := impT_of h₁
  rw [toT_of h₀] at e
  rw [e]
  exact h₂
noncomputable def seenEnd {α : Type} (p q : Program) (loose : List Str) (Xt : Shared → Bool) (g0 : Bool) (Yf : Shared → α) (s₀ s₁ : Shared) := match staticsOk (importedModules p.main.body) s₀.heap s₁.heap && namesBound p s₁.heap && gensDone s₁ && laidKept s₀.heap s₁.heap with
  | true => some (Fast.tw4187177175401517315 q loose (importedModules p.main.body) Xt g0 s₁, Yf s₁)
  | false => none
noncomputable def endsT {α : Type} (p q : Program) (loose : List Str) (Xt : Shared → Bool) (g0 : Bool) (Yf : Shared → α) (N : Nat) (w : World) := (fenced p w N).bind fun s₀ => match s₀.heap.isNs mainGlobals && s₀.gens.size == 0 with
  | true => (toT s₀).bind fun t => (topT (stepQ p w) (Fast.tw6613529449190102663 s₀.heap.objs.size (s₀.heap.nsMap mainGlobals "__annotations__")) N t (topStub p)).bind fun sT => seenEnd p q loose Xt g0 Yf s₀ sT.abs
  | false => none
theorem endsT_of {α : Type} {p q : Program} {loose : List Str} {Xt : Shared → Bool} {g0 : Bool} {Yf : Shared → α} {N : Nat} {w : World} {x : _} (h : endsT p q loose Xt g0 Yf N w = some x) :
    (openEnds treeTable p w N).map (fun s => (openSeen q loose (importedModules p.main.body) Xt g0 s, Yf s)) = some x := by
  unfold endsT seenEnd at h
  rw [stepQ_eq, ← Fast.te6613529449190102663, ← Fast.te4187177175401517315] at h
  obtain ⟨s₀, h₀, h⟩ := Option.bind_eq_some_iff.mp h
  unfold openEnds
  rw [fenced_of h₀]
  show (topFrom treeTable p w N s₀).map _ = _
  unfold topFrom
  cases hb : (s₀.heap.isNs mainGlobals && s₀.gens.size == 0) with
  | false => rw [hb] at h; cases h
  | true =>
    rw [hb] at h
    dsimp only at h ⊢
    obtain ⟨t, ht, h⟩ := Option.bind_eq_some_iff.mp h
    obtain ⟨sT, hs, h⟩ := Option.bind_eq_some_iff.mp h
    have e := topT_of hs
    rw [toT_of ht] at e
    rw [e]
    show (match staticsOk (importedModules p.main.body) s₀.heap sT.abs.heap && namesBound p sT.abs.heap && gensDone sT.abs && laidKept s₀.heap sT.abs.heap with | true => some sT.abs | false => none).map _ = _
    cases hc : (staticsOk (importedModules p.main.body) s₀.heap sT.abs.heap && namesBound p sT.abs.heap && gensDone sT.abs && laidKept s₀.heap sT.abs.heap) with
    | false => rw [hc] at h; cases h
    | true => rw [hc] at h; exact h
theorem left_of {α : Type} {p q : Program} {loose : List Str} {Xt : Shared → Bool} {Yf : Shared → α} {Ya : World → α} {N : Nat} (row : String)
    (hf : ∀ w : World, endsT p q loose Xt true Yf N (w.withFollow row false) = some (openGood q loose, Ya (w.withFollow row false)))
    (ht : ∀ w : World, endsT p q loose Xt true Yf N (w.withFollow row true) = some (openGood q loose, Ya (w.withFollow row true))) : LeftO p q loose Xt Yf Ya N :=
  byRow2 row (fun w => endsT_of (hf w)) (fun w => endsT_of (ht w))
end Mine
end
section
namespace Mine
def cells : List Stmt := PySem.Challenge.rw_dn0012_01.prog.main.body
def cell (i : Nat) : Stmt := cells.getD i (.Pass ⟨0, 0, 0, 0⟩)
def sub (i j : Nat) : Stmt := match cell i with
  | .ClassDef _ _ _ body _ _ _ _ _ _ _ => body.getD j (.Pass ⟨0, 0, 0, 0⟩)
  | _ => .Pass ⟨0, 0, 0, 0⟩
def fdat (st : Stmt) (qual : Str) (globals : Addr) (closure : List (Str × Addr)) (dV kV doc pm : Value) (an : Option Addr) (cd ct : Value) (builtins : Addr) : FuncData := match st with
  | .FunctionDef name params body _ _ _ scope _ _ _ => ⟨name, qual, params, .stmts body, scope, globals, closure, dV, kV, doc, pm, an, cd, ct, builtins⟩
  | _ => default
def view : Program := { PySem.Challenge.rw_dn0012_01.prog with main := { PySem.Challenge.rw_dn0012_01.prog.main with body := [cell 0, cell 2, cell 3, cell 5, cell 7, cell 9, cell 10, cell 14, cell 15, cell 16, cell 17, cell 18, cell 19, cell 20, cell 22, cell 23, cell 24] } }
def heapK : Params → Frag := fun P =>
((nat_lit 3), (Obj.mk (Value.type "dict") none (Data.dict #[(DictEntry.mk (PyData.keyHash P (Str.ofString "__name__")) (Value.str (Str.ofString "__name__") 165) (Value.str (Str.ofString "law_dn0012_01") 562)), (DictEntry.mk (PyData.keyHash P (Str.ofString "__doc__")) (Value.str (Str.ofString "__doc__") 166) Value.none), (DictEntry.mk (PyData.keyHash P (Str.ofString "__package__")) (Value.str (Str.ofString "__package__") 167) Value.none), (DictEntry.mk (PyData.keyHash P (Str.ofString "__loader__")) (Value.str (Str.ofString "__loader__") 168) (Value.builtin "__main__.__loader__#opaque")), (DictEntry.mk (PyData.keyHash P (Str.ofString "__spec__")) (Value.str (Str.ofString "__spec__") 169) Value.none), (DictEntry.mk (PyData.keyHash P (Str.ofString "__annotations__")) (Value.str (Str.ofString "__annotations__") 170) (Value.ref 6)), (DictEntry.mk (PyData.keyHash P (Str.ofString "__builtins__")) (Value.str (Str.ofString "__builtins__") 171) (Value.ref 4)), (DictEntry.mk (PyData.keyHash P (Str.ofString "__file__")) (Value.str (Str.ofString "__file__") 173) (Value.str (Str.ofString "/claim/cut.py") 172)), (DictEntry.mk (PyData.keyHash P (Str.ofString "__cached__")) (Value.str (Str.ofString "__cached__") 174) Value.none), (DictEntry.mk (PyData.keyHash P (Str.ofString "datetime")) (Value.str (Str.ofString "datetime") 317) (Value.type "datetime.datetime")), (DictEntry.mk (PyData.keyHash P (Str.ofString "EPOCHORDINAL")) (Value.str (Str.ofString "EPOCHORDINAL") 330) (Value.int (719163 : Int) 329)), (DictEntry.mk (PyData.keyHash P (Str.ofString "_post_epoch_days_before_year")) (Value.str (Str.ofString "_post_epoch_days_before_year") 338) (Value.ref 52)), (DictEntry.mk (PyData.keyHash P (Str.ofString "isleap")) (Value.str (Str.ofString "isleap") 347) (Value.ref 59)), (DictEntry.mk (PyData.keyHash P (Str.ofString "_DayOffset")) (Value.str (Str.ofString "_DayOffset") 413) (Value.ref 86)), (DictEntry.mk (PyData.keyHash P (Str.ofString "_DAYS_IN_MONTH")) (Value.str (Str.ofString "_DAYS_IN_MONTH") 430) (Value.ref 94)), (DictEntry.mk (PyData.keyHash P (Str.ofString "_DAYS_BEFORE_MONTH")) (Value.str (Str.ofString "_DAYS_BEFORE_MONTH") 433) (Value.ref 95)), (DictEntry.mk (PyData.keyHash P (Str.ofString "_is_leap")) (Value.str (Str.ofString "_is_leap") 479) (Value.ref 107)), (DictEntry.mk (PyData.keyHash P (Str.ofString "_days_before_year")) (Value.str (Str.ofString "_days_before_year") 487) (Value.ref 114)), (DictEntry.mk (PyData.keyHash P (Str.ofString "_days_in_month")) (Value.str (Str.ofString "_days_in_month") 495) (Value.ref 121)), (DictEntry.mk (PyData.keyHash P (Str.ofString "_DI400Y")) (Value.str (Str.ofString "_DI400Y") 512) (Value.int (146097 : Int) 511)), (DictEntry.mk (PyData.keyHash P (Str.ofString "_DI100Y")) (Value.str (Str.ofString "_DI100Y") 529) (Value.int (36524 : Int) 528)), (DictEntry.mk (PyData.keyHash P (Str.ofString "_DI4Y")) (Value.str (Str.ofString "_DI4Y") 546) (Value.int (1461 : Int) 545)), (DictEntry.mk (PyData.keyHash P (Str.ofString "_ord2ymd")) (Value.str (Str.ofString "_ord2ymd") 561) (Value.ref 131)), (DictEntry.mk (PyData.keyHash P (Str.ofString "_law_lengths")) (Value.str (Str.ofString "_law_lengths") 571) (Value.ref 138)), (DictEntry.mk (PyData.keyHash P (Str.ofString "_law_days")) (Value.str (Str.ofString "_law_days") 586) (Value.ref 145)), (DictEntry.mk (PyData.keyHash P (Str.ofString "law")) (Value.str (Str.ofString "law") 592) (Value.ref 150))] 30) #[])) ::
((nat_lit 6), (Obj.mk (Value.type "dict") none (Data.dict #[] 0) #[])) ::
((nat_lit 46), (Obj.mk (Value.type "tuple") none (Data.seq #[] 0) #[])) ::
((nat_lit 48), (Obj.mk (Value.type "tuple") none (Data.seq #[(Value.str (Str.ofString "year") 334), (Value.str (Str.ofString "y") 335)] 0) #[])) ::
((nat_lit 49), (Obj.mk (Value.type "tuple") none (Data.seq #[] 0) #[])) ::
((nat_lit 51), (Obj.mk (Value.type "code") none (Data.fields #[(Value.str (Str.ofString "_post_epoch_days_before_year") 331), (Value.str (Str.ofString "_post_epoch_days_before_year") 332), (Value.str (Str.ofString "/claim/cut.py") 333), (Value.int (4 : Int) 0), (Value.int (1 : Int) 0), (Value.int (0 : Int) 0), (Value.int (0 : Int) 0), (Value.int (3 : Int) 0), (Value.ref 46), (Value.bool Bool.true), (Value.int (318 : Int) 0), (Value.ref 47), Value.none, (Value.ref 48), (Value.ref 49), (Value.ref 50), (Value.int (336 : Int) 0), (Value.int (4 : Int) 0), (Value.str (Str.ofString "/claim/cut.py") 337)]) #[])) ::
((nat_lit 52), (Obj.mk (Value.type "function") none (Data.func (fdat (cell 3) (Str.ofString "_post_epoch_days_before_year") 3 [] Value.none Value.none Value.none (Value.str (Str.ofString "cpy313.zoneinfo._zoneinfo") 324) none (Value.ref 51) Value.none 0)) #[])) ::
((nat_lit 53), (Obj.mk (Value.type "tuple") none (Data.seq #[] 0) #[])) ::
((nat_lit 55), (Obj.mk (Value.type "tuple") none (Data.seq #[(Value.str (Str.ofString "year") 344)] 0) #[])) ::
((nat_lit 56), (Obj.mk (Value.type "tuple") none (Data.seq #[] 0) #[])) ::
((nat_lit 58), (Obj.mk (Value.type "code") none (Data.fields #[(Value.str (Str.ofString "isleap") 341), (Value.str (Str.ofString "isleap") 342), (Value.str (Str.ofString "/claim/cut.py") 343), (Value.int (8 : Int) 0), (Value.int (1 : Int) 0), (Value.int (0 : Int) 0), (Value.int (0 : Int) 0), (Value.int (3 : Int) 0), (Value.ref 53), (Value.bool Bool.true), (Value.int (318 : Int) 0), (Value.ref 54), Value.none, (Value.ref 55), (Value.ref 56), (Value.ref 57), (Value.int (345 : Int) 0), (Value.int (8 : Int) 0), (Value.str (Str.ofString "/claim/cut.py") 346)]) #[])) ::
((nat_lit 59), (Obj.mk (Value.type "function") none (Data.func (fdat (cell 5) (Str.ofString "isleap") 3 [] Value.none Value.none Value.none (Value.str (Str.ofString "calendar") 339) none (Value.ref 58) Value.none 0)) #[])) ::
((nat_lit 67), (Obj.mk (Value.type "list") none (Data.seq #[(Value.str (Str.ofString "d") 362), (Value.str (Str.ofString "julian") 363), (Value.str (Str.ofString "hour") 364), (Value.str (Str.ofString "minute") 365), (Value.str (Str.ofString "second") 366)] 0) #[])) ::
((nat_lit 68), (Obj.mk (Value.type "tuple") none (Data.seq #[(Value.int (2 : Int) 368), (Value.int (0 : Int) 369), (Value.int (0 : Int) 370)] 0) #[])) ::
((nat_lit 69), (Obj.mk (Value.type "tuple") none (Data.seq #[] 0) #[])) ::
((nat_lit 71), (Obj.mk (Value.type "tuple") none (Data.seq #[(Value.str (Str.ofString "self") 374), (Value.str (Str.ofString "d") 375), (Value.str (Str.ofString "julian") 376), (Value.str (Str.ofString "hour") 377), (Value.str (Str.ofString "minute") 378), (Value.str (Str.ofString "second") 379), (Value.str (Str.ofString "min_day") 380)] 0) #[])) ::
((nat_lit 72), (Obj.mk (Value.type "tuple") none (Data.seq #[] 0) #[])) ::
((nat_lit 74), (Obj.mk (Value.type "code") none (Data.fields #[(Value.str (Str.ofString "__init__") 371), (Value.str (Str.ofString "_DayOffset.__init__") 372), (Value.str (Str.ofString "/claim/cut.py") 373), (Value.int (14 : Int) 0), (Value.int (6 : Int) 0), (Value.int (0 : Int) 0), (Value.int (0 : Int) 0), (Value.int (3 : Int) 0), (Value.ref 69), (Value.bool Bool.true), (Value.int (318 : Int) 0), (Value.ref 70), Value.none, (Value.ref 71), (Value.ref 72), (Value.ref 73), (Value.int (381 : Int) 0), (Value.int (14 : Int) 0), (Value.str (Str.ofString "/claim/cut.py") 382)]) #[])) ::
((nat_lit 75), (Obj.mk (Value.type "function") none (Data.func (fdat (sub 7 1) (Str.ofString "_DayOffset.__init__") 3 [] (Value.ref 68) Value.none Value.none (Value.str (Str.ofString "cpy313.zoneinfo._zoneinfo") 348) none (Value.ref 74) Value.none 0)) #[])) ::
((nat_lit 76), (Obj.mk (Value.type "tuple") none (Data.seq #[] 0) #[])) ::
((nat_lit 78), (Obj.mk (Value.type "tuple") none (Data.seq #[(Value.str (Str.ofString "self") 387), (Value.str (Str.ofString "year") 388), (Value.str (Str.ofString "days_before_year") 389), (Value.str (Str.ofString "d") 390), (Value.str (Str.ofString "epoch") 391)] 0) #[])) ::
((nat_lit 79), (Obj.mk (Value.type "tuple") none (Data.seq #[] 0) #[])) ::
((nat_lit 81), (Obj.mk (Value.type "code") none (Data.fields #[(Value.str (Str.ofString "year_to_epoch") 384), (Value.str (Str.ofString "_DayOffset.year_to_epoch") 385), (Value.str (Str.ofString "/claim/cut.py") 386), (Value.int (24 : Int) 0), (Value.int (2 : Int) 0), (Value.int (0 : Int) 0), (Value.int (0 : Int) 0), (Value.int (3 : Int) 0), (Value.ref 76), (Value.bool Bool.true), (Value.int (318 : Int) 0), (Value.ref 77), Value.none, (Value.ref 78), (Value.ref 79), (Value.ref 80), (Value.int (392 : Int) 0), (Value.int (24 : Int) 0), (Value.str (Str.ofString "/claim/cut.py") 393)]) #[])) ::
((nat_lit 82), (Obj.mk (Value.type "function") none (Data.func (fdat (sub 7 2) (Str.ofString "_DayOffset.year_to_epoch") 3 [] Value.none Value.none Value.none (Value.str (Str.ofString "cpy313.zoneinfo._zoneinfo") 348) none (Value.ref 81) Value.none 0)) #[])) ::
((nat_lit 83), (Obj.mk (Value.type "tuple") none (Data.seq #[(Value.str (Str.ofString "d") 395), (Value.str (Str.ofString "hour") 396), (Value.str (Str.ofString "julian") 397), (Value.str (Str.ofString "minute") 398), (Value.str (Str.ofString "second") 399)] 0) #[])) ::
((nat_lit 85), (Obj.mk (Value.type "dict") none (Data.dict #[(DictEntry.mk (PyData.keyHash P (Str.ofString "__module__")) (Value.str (Str.ofString "__module__") 357) (Value.str (Str.ofString "cpy313.zoneinfo._zoneinfo") 348)), (DictEntry.mk (PyData.keyHash P (Str.ofString "__firstlineno__")) (Value.str (Str.ofString "__firstlineno__") 361) (Value.int (11 : Int) 360)), (DictEntry.mk (PyData.keyHash P (Str.ofString "__slots__")) (Value.str (Str.ofString "__slots__") 367) (Value.ref 67)), (DictEntry.mk (PyData.keyHash P (Str.ofString "__init__")) (Value.str (Str.ofString "__init__") 383) (Value.ref 75)), (DictEntry.mk (PyData.keyHash P (Str.ofString "year_to_epoch")) (Value.str (Str.ofString "year_to_epoch") 394) (Value.ref 82)), (DictEntry.mk (PyData.keyHash P (Str.ofString "__static_attributes__")) (Value.str (Str.ofString "__static_attributes__") 400) (Value.ref 83)), (DictEntry.mk (PyData.keyHash P (Str.ofString "d")) (Value.str (Str.ofString "d") 402) (Value.ref 87)), (DictEntry.mk (PyData.keyHash P (Str.ofString "hour")) (Value.str (Str.ofString "hour") 404) (Value.ref 88)), (DictEntry.mk (PyData.keyHash P (Str.ofString "julian")) (Value.str (Str.ofString "julian") 406) (Value.ref 89)), (DictEntry.mk (PyData.keyHash P (Str.ofString "minute")) (Value.str (Str.ofString "minute") 408) (Value.ref 90)), (DictEntry.mk (PyData.keyHash P (Str.ofString "second")) (Value.str (Str.ofString "second") 410) (Value.ref 91)), (DictEntry.mk (PyData.keyHash P (Str.ofString "__doc__")) (Value.str (Str.ofString "__doc__") 411) Value.none)] 7) #[])) ::
((nat_lit 86), (Obj.mk (Value.type "type") none (Data.cls (ClassData.mk (Str.ofString "_DayOffset") [(Value.type "object")] [(Value.ref 86), (Value.type "object")] 85 (Str.ofString "_DayOffset") Bool.false [(Str.ofString "d"), (Str.ofString "hour"), (Str.ofString "julian"), (Str.ofString "minute"), (Str.ofString "second")] [] Bool.false none Bool.false)) #[none, none, (some (Value.str (Str.ofString "_DayOffset") 350)), (some (Value.str (Str.ofString "_DayOffset") 358)), (some (Value.builtin "object.__new__")), (some (Value.bool Bool.false))])) ::
((nat_lit 87), (Obj.mk (Value.type "member_descriptor") none (Data.fields #[(Value.str (Str.ofString "d") 401), (Value.ref 86), (Value.builtin "proto.slot"), (Value.builtin "proto.slot#set"), (Value.int (4 : Int) 0)]) #[])) ::
((nat_lit 88), (Obj.mk (Value.type "member_descriptor") none (Data.fields #[(Value.str (Str.ofString "hour") 403), (Value.ref 86), (Value.builtin "proto.slot"), (Value.builtin "proto.slot#set"), (Value.int (3 : Int) 0)]) #[])) ::
((nat_lit 89), (Obj.mk (Value.type "member_descriptor") none (Data.fields #[(Value.str (Str.ofString "julian") 405), (Value.ref 86), (Value.builtin "proto.slot"), (Value.builtin "proto.slot#set"), (Value.int (2 : Int) 0)]) #[])) ::
((nat_lit 90), (Obj.mk (Value.type "member_descriptor") none (Data.fields #[(Value.str (Str.ofString "minute") 407), (Value.ref 86), (Value.builtin "proto.slot"), (Value.builtin "proto.slot#set"), (Value.int (1 : Int) 0)]) #[])) ::
((nat_lit 91), (Obj.mk (Value.type "member_descriptor") none (Data.fields #[(Value.str (Str.ofString "second") 409), (Value.ref 86), (Value.builtin "proto.slot"), (Value.builtin "proto.slot#set"), (Value.int (0 : Int) 0)]) #[])) ::
((nat_lit 94), (Obj.mk (Value.type "list") none (Data.seq #[(Value.int (-(1 : Int) : Int) 417), (Value.int (31 : Int) 418), (Value.int (28 : Int) 419), (Value.int (31 : Int) 420), (Value.int (30 : Int) 421), (Value.int (31 : Int) 422), (Value.int (30 : Int) 423), (Value.int (31 : Int) 424), (Value.int (31 : Int) 425), (Value.int (30 : Int) 426), (Value.int (31 : Int) 427), (Value.int (30 : Int) 428), (Value.int (31 : Int) 429)] 0) #[])) ::
((nat_lit 95), (Obj.mk (Value.type "list") none (Data.seq #[(Value.int (-(1 : Int) : Int) 432), (Value.int (0 : Int) 434), (Value.int (31 : Int) 438), (Value.int (59 : Int) 441), (Value.int (90 : Int) 444), (Value.int (120 : Int) 447), (Value.int (151 : Int) 450), (Value.int (181 : Int) 453), (Value.int (212 : Int) 456), (Value.int (243 : Int) 459), (Value.int (273 : Int) 462), (Value.int (304 : Int) 465), (Value.int (334 : Int) 468)] 12) #[])) ::
((nat_lit 101), (Obj.mk (Value.type "tuple") none (Data.seq #[] 0) #[])) ::
((nat_lit 103), (Obj.mk (Value.type "tuple") none (Data.seq #[(Value.str (Str.ofString "year") 476)] 0) #[])) ::
((nat_lit 104), (Obj.mk (Value.type "tuple") none (Data.seq #[] 0) #[])) ::
((nat_lit 106), (Obj.mk (Value.type "code") none (Data.fields #[(Value.str (Str.ofString "_is_leap") 473), (Value.str (Str.ofString "_is_leap") 474), (Value.str (Str.ofString "/claim/cut.py") 475), (Value.int (40 : Int) 0), (Value.int (1 : Int) 0), (Value.int (0 : Int) 0), (Value.int (0 : Int) 0), (Value.int (3 : Int) 0), (Value.ref 101), (Value.bool Bool.true), (Value.int (318 : Int) 0), (Value.ref 102), Value.none, (Value.ref 103), (Value.ref 104), (Value.ref 105), (Value.int (477 : Int) 0), (Value.int (40 : Int) 0), (Value.str (Str.ofString "/claim/cut.py") 478)]) #[])) ::
((nat_lit 107), (Obj.mk (Value.type "function") none (Data.func (fdat (cell 14) (Str.ofString "_is_leap") 3 [] Value.none Value.none Value.none (Value.str (Str.ofString "cpy313._pydatetime") 414) none (Value.ref 106) Value.none 0)) #[])) ::
((nat_lit 108), (Obj.mk (Value.type "tuple") none (Data.seq #[] 0) #[])) ::
((nat_lit 110), (Obj.mk (Value.type "tuple") none (Data.seq #[(Value.str (Str.ofString "year") 483), (Value.str (Str.ofString "y") 484)] 0) #[])) ::
((nat_lit 111), (Obj.mk (Value.type "tuple") none (Data.seq #[] 0) #[])) ::
((nat_lit 113), (Obj.mk (Value.type "code") none (Data.fields #[(Value.str (Str.ofString "_days_before_year") 480), (Value.str (Str.ofString "_days_before_year") 481), (Value.str (Str.ofString "/claim/cut.py") 482), (Value.int (42 : Int) 0), (Value.int (1 : Int) 0), (Value.int (0 : Int) 0), (Value.int (0 : Int) 0), (Value.int (3 : Int) 0), (Value.ref 108), (Value.bool Bool.true), (Value.int (318 : Int) 0), (Value.ref 109), Value.none, (Value.ref 110), (Value.ref 111), (Value.ref 112), (Value.int (485 : Int) 0), (Value.int (42 : Int) 0), (Value.str (Str.ofString "/claim/cut.py") 486)]) #[])) ::
((nat_lit 114), (Obj.mk (Value.type "function") none (Data.func (fdat (cell 15) (Str.ofString "_days_before_year") 3 [] Value.none Value.none Value.none (Value.str (Str.ofString "cpy313._pydatetime") 414) none (Value.ref 113) Value.none 0)) #[])) ::
((nat_lit 115), (Obj.mk (Value.type "tuple") none (Data.seq #[] 0) #[])) ::
((nat_lit 117), (Obj.mk (Value.type "tuple") none (Data.seq #[(Value.str (Str.ofString "year") 491), (Value.str (Str.ofString "month") 492)] 0) #[])) ::
((nat_lit 118), (Obj.mk (Value.type "tuple") none (Data.seq #[] 0) #[])) ::
((nat_lit 120), (Obj.mk (Value.type "code") none (Data.fields #[(Value.str (Str.ofString "_days_in_month") 488), (Value.str (Str.ofString "_days_in_month") 489), (Value.str (Str.ofString "/claim/cut.py") 490), (Value.int (45 : Int) 0), (Value.int (2 : Int) 0), (Value.int (0 : Int) 0), (Value.int (0 : Int) 0), (Value.int (3 : Int) 0), (Value.ref 115), (Value.bool Bool.true), (Value.int (318 : Int) 0), (Value.ref 116), Value.none, (Value.ref 117), (Value.ref 118), (Value.ref 119), (Value.int (493 : Int) 0), (Value.int (45 : Int) 0), (Value.str (Str.ofString "/claim/cut.py") 494)]) #[])) ::
((nat_lit 121), (Obj.mk (Value.type "function") none (Data.func (fdat (cell 16) (Str.ofString "_days_in_month") 3 [] Value.none Value.none Value.none (Value.str (Str.ofString "cpy313._pydatetime") 414) none (Value.ref 120) Value.none 0)) #[])) ::
((nat_lit 125), (Obj.mk (Value.type "tuple") none (Data.seq #[] 0) #[])) ::
((nat_lit 127), (Obj.mk (Value.type "tuple") none (Data.seq #[(Value.str (Str.ofString "n") 550), (Value.str (Str.ofString "n400") 551), (Value.str (Str.ofString "year") 552), (Value.str (Str.ofString "n100") 553), (Value.str (Str.ofString "n4") 554), (Value.str (Str.ofString "n1") 555), (Value.str (Str.ofString "leapyear") 556), (Value.str (Str.ofString "month") 557), (Value.str (Str.ofString "preceding") 558)] 0) #[])) ::
((nat_lit 128), (Obj.mk (Value.type "tuple") none (Data.seq #[] 0) #[])) ::
((nat_lit 130), (Obj.mk (Value.type "code") none (Data.fields #[(Value.str (Str.ofString "_ord2ymd") 547), (Value.str (Str.ofString "_ord2ymd") 548), (Value.str (Str.ofString "/claim/cut.py") 549), (Value.int (53 : Int) 0), (Value.int (1 : Int) 0), (Value.int (0 : Int) 0), (Value.int (0 : Int) 0), (Value.int (3 : Int) 0), (Value.ref 125), (Value.bool Bool.true), (Value.int (318 : Int) 0), (Value.ref 126), Value.none, (Value.ref 127), (Value.ref 128), (Value.ref 129), (Value.int (559 : Int) 0), (Value.int (53 : Int) 0), (Value.str (Str.ofString "/claim/cut.py") 560)]) #[])) ::
((nat_lit 131), (Obj.mk (Value.type "function") none (Data.func (fdat (cell 20) (Str.ofString "_ord2ymd") 3 [] Value.none Value.none Value.none (Value.str (Str.ofString "cpy313._pydatetime") 414) none (Value.ref 130) Value.none 0)) #[])) ::
((nat_lit 132), (Obj.mk (Value.type "tuple") none (Data.seq #[] 0) #[])) ::
((nat_lit 134), (Obj.mk (Value.type "tuple") none (Data.seq #[(Value.str (Str.ofString "year") 567), (Value.str (Str.ofString "leap") 568)] 0) #[])) ::
((nat_lit 135), (Obj.mk (Value.type "tuple") none (Data.seq #[] 0) #[])) ::
((nat_lit 137), (Obj.mk (Value.type "code") none (Data.fields #[(Value.str (Str.ofString "_law_lengths") 564), (Value.str (Str.ofString "_law_lengths") 565), (Value.str (Str.ofString "/claim/cut.py") 566), (Value.int (75 : Int) 0), (Value.int (1 : Int) 0), (Value.int (0 : Int) 0), (Value.int (0 : Int) 0), (Value.int (3 : Int) 0), (Value.ref 132), (Value.bool Bool.true), (Value.int (318 : Int) 0), (Value.ref 133), Value.none, (Value.ref 134), (Value.ref 135), (Value.ref 136), (Value.int (569 : Int) 0), (Value.int (75 : Int) 0), (Value.str (Str.ofString "/claim/cut.py") 570)]) #[])) ::
((nat_lit 138), (Obj.mk (Value.type "function") none (Data.func (fdat (cell 22) (Str.ofString "_law_lengths") 3 [] Value.none Value.none Value.none (Value.str (Str.ofString "law_dn0012_01") 562) none (Value.ref 137) Value.none 0)) #[])) ::
((nat_lit 139), (Obj.mk (Value.type "tuple") none (Data.seq #[] 0) #[])) ::
((nat_lit 141), (Obj.mk (Value.type "tuple") none (Data.seq #[(Value.str (Str.ofString "year") 575), (Value.str (Str.ofString "rounds") 576), (Value.str (Str.ofString "rest") 577), (Value.str (Str.ofString "number") 578), (Value.str (Str.ofString "weekday") 579), (Value.str (Str.ofString "past") 580), (Value.str (Str.ofString "days") 581), (Value.str (Str.ofString "month") 582), (Value.str (Str.ofString "day") 583)] 0) #[])) ::
((nat_lit 142), (Obj.mk (Value.type "tuple") none (Data.seq #[] 0) #[])) ::
((nat_lit 144), (Obj.mk (Value.type "code") none (Data.fields #[(Value.str (Str.ofString "_law_days") 572), (Value.str (Str.ofString "_law_days") 573), (Value.str (Str.ofString "/claim/cut.py") 574), (Value.int (78 : Int) 0), (Value.int (1 : Int) 0), (Value.int (0 : Int) 0), (Value.int (0 : Int) 0), (Value.int (3 : Int) 0), (Value.ref 139), (Value.bool Bool.true), (Value.int (318 : Int) 0), (Value.ref 140), Value.none, (Value.ref 141), (Value.ref 142), (Value.ref 143), (Value.int (584 : Int) 0), (Value.int (78 : Int) 0), (Value.str (Str.ofString "/claim/cut.py") 585)]) #[])) ::
((nat_lit 145), (Obj.mk (Value.type "function") none (Data.func (fdat (cell 23) (Str.ofString "_law_days") 3 [] Value.none Value.none Value.none (Value.str (Str.ofString "law_dn0012_01") 562) none (Value.ref 144) Value.none 0)) #[])) ::
((nat_lit 146), (Obj.mk (Value.type "tuple") none (Data.seq #[] 0) #[])) ::
((nat_lit 149), (Obj.mk (Value.type "code") none (Data.fields #[(Value.str (Str.ofString "law") 587), (Value.str (Str.ofString "law") 588), (Value.str (Str.ofString "/claim/cut.py") 589), (Value.int (92 : Int) 0), (Value.int (1 : Int) 0), (Value.int (0 : Int) 0), (Value.int (0 : Int) 0), (Value.int (3 : Int) 0), (Value.ref 146), (Value.bool Bool.true), (Value.int (318 : Int) 0), (Value.ref 147), Value.none, Value.none, Value.none, (Value.ref 148), (Value.int (590 : Int) 0), (Value.int (92 : Int) 0), (Value.str (Str.ofString "/claim/cut.py") 591)]) #[])) ::
((nat_lit 150), (Obj.mk (Value.type "function") none (Data.func (fdat (cell 24) (Str.ofString "law") 3 [] Value.none Value.none Value.none (Value.str (Str.ofString "law_dn0012_01") 562) none (Value.ref 149) Value.none 0)) #[])) :: []
def heapA : List Addr := nat_lit 3 :: nat_lit 6 :: nat_lit 46 :: nat_lit 48 :: nat_lit 49 :: nat_lit 51 :: nat_lit 52 :: nat_lit 53 :: nat_lit 55 :: nat_lit 56 :: nat_lit 58 :: nat_lit 59 :: nat_lit 67 :: nat_lit 68 :: nat_lit 69 :: nat_lit 71 :: nat_lit 72 :: nat_lit 74 :: nat_lit 75 :: nat_lit 76 :: nat_lit 78 :: nat_lit 79 :: nat_lit 81 :: nat_lit 82 :: nat_lit 83 :: nat_lit 85 :: nat_lit 86 :: nat_lit 87 :: nat_lit 88 :: nat_lit 89 :: nat_lit 90 :: nat_lit 91 :: nat_lit 94 :: nat_lit 95 :: nat_lit 101 :: nat_lit 103 :: nat_lit 104 :: nat_lit 106 :: nat_lit 107 :: nat_lit 108 :: nat_lit 110 :: nat_lit 111 :: nat_lit 113 :: nat_lit 114 :: nat_lit 115 :: nat_lit 117 :: nat_lit 118 :: nat_lit 120 :: nat_lit 121 :: nat_lit 125 :: nat_lit 127 :: nat_lit 128 :: nat_lit 130 :: nat_lit 131 :: nat_lit 132 :: nat_lit 134 :: nat_lit 135 :: nat_lit 137 :: nat_lit 138 :: nat_lit 139 :: nat_lit 141 :: nat_lit 142 :: nat_lit 144 :: nat_lit 145 :: nat_lit 146 :: nat_lit 149 :: nat_lit 150 :: []
end Mine
end
section
namespace Mine
def loose0 : List Str := [Str.ofString "EPOCHORDINAL", Str.ofString "_DayOffset", Str.ofString "_DAYS_IN_MONTH", Str.ofString "_DAYS_BEFORE_MONTH", Str.ofString "_DI400Y", Str.ofString "_DI100Y", Str.ofString "_DI4Y"]
def read0 : List (Str × WData) := [(Str.ofString "EPOCHORDINAL", WData.int 719163), (Str.ofString "_DI400Y", WData.int 146097), (Str.ofString "_DI100Y", WData.int 36524), (Str.ofString "_DI4Y", WData.int 1461)]
abbrev hook0 : Hook := kHook heapK heapA (fun _ => by kernel_rfl)
theorem ends_f : ∀ w : World, endsT PySem.Challenge.rw_dn0012_01.row.toRowW.prog view loose0 (fun s => xlAt view read0 s && recOk (RowW.records PySem.Challenge.rw_dn0012_01.row.toRowW) s) true (Hook.obs hook0) 3612 (w.withFollow "special-get-raises" false) = some (openGood view loose0, Hook.val hook0 (w.withFollow "special-get-raises" false)) := by
  intro w
  kernel_rfl
theorem ends_t : ∀ w : World, endsT PySem.Challenge.rw_dn0012_01.row.toRowW.prog view loose0 (fun s => xlAt view read0 s && recOk (RowW.records PySem.Challenge.rw_dn0012_01.row.toRowW) s) true (Hook.obs hook0) 3612 (w.withFollow "special-get-raises" true) = some (openGood view loose0, Hook.val hook0 (w.withFollow "special-get-raises" true)) := by
  intro w
  kernel_rfl
end Mine
end
section
namespace Mine
theorem ints_nil {ws : List Value} (h : IntsAre ws []) : ws = [] := by cases h; rfl
theorem ints_cons {ws : List Value} {n : Int} {ns : List Int} (h : IntsAre ws (n :: ns)) : ∃ t us, ws = .int n t :: us ∧ IntsAre us ns := by
  cases h with
  | cons _ t h => exact ⟨t, _, rfl, h⟩
theorem five {ns : List Int} (h : (List.take 5 ns).length = 5) : ∃ a b c d e, List.take 5 ns = [a, b, c, d, e] := by
  match ns, h with
  | a :: b :: c :: d :: e :: _, _ => exact ⟨a, b, c, d, e, rfl⟩
  | [], h => simp at h
  | [_], h => simp at h
  | [_, _], h => simp at h
  | [_, _, _], h => simp at h
  | [_, _, _, _], h => simp at h
theorem ints5 {ws : List Value} {ns : List Int} (h : IntsAre ws (List.take 5 (ns ++ (List.replicate 5 [0]).flatten))) :
    ∃ y a p q r ty ta tp tq tr, ws = [.int y ty, .int a ta, .int p tp, .int q tq, .int r tr] := by
  have hl : (List.take 5 (ns ++ (List.replicate 5 [(0 : Int)]).flatten)).length = 5 := by
    rw [List.length_take, List.length_append]
    have : ((List.replicate 5 [(0 : Int)]).flatten).length = 5 := by decide
    omega
  obtain ⟨y, a, p, q, r, e⟩ := five hl
  rw [e] at h
  obtain ⟨ty, u1, e1, h1⟩ := ints_cons h
  obtain ⟨ta, u2, e2, h2⟩ := ints_cons h1
  obtain ⟨tp, u3, e3, h3⟩ := ints_cons h2
  obtain ⟨tq, u4, e4, h4⟩ := ints_cons h3
  obtain ⟨tr, u5, e5, h5⟩ := ints_cons h4
  have e6 := ints_nil h5
  subst e1 e2 e3 e4 e5 e6
  exact ⟨y, a, p, q, r, ty, ta, tp, tq, tr, rfl⟩
end Mine
namespace Mine
open PySem.Calls
def updN (m : Str → Option Value) : List (Str × Pos) → List Value → (Str → Option Value)
  | x :: xs, v :: vs => updN (fun y => if y = x.1 then some v else m y) xs vs
  | _, _ => m
section
variable {prog : Program} {w : World} {A : Around} {E : Value → Shared → Prop} {name : Str} {scope : Scope} {L a : Addr} {cd : Value} {h₀ : Heap} {news : List (Addr × Obj)}
theorem aio {Q : Unit → Shared → Prop} (hk : scope.kind = .function) : ∀ (xs : List (Str × Pos)) (vs : List Value) (m : Str → Option Value) (s : Shared), xs.length = vs.length →
    (∀ x ∈ xs, (envOf name scope L a cd).kindOf x.1 = some .local) → Fr h₀ L s.heap m → News h₀ L s.heap news →
    (∀ h' tk, Fr h₀ L h' (updN m xs vs) → News h₀ L h' news → Q () { s with heap := h', toks := tk }) →
    wpAny (model prog w) A (assignInOrder (xs.map fun x => assign (.Name x.1 x.2) (envOf name scope L a cd)) vs) Q E s
  | [], [], _, s, _, _, F, N, h => assignInOrder_nil (h s.heap s.toks F N)
  | x :: xs, v :: vs, m, s, hl, hx, F, N, h => by
    refine assignInOrder_cons (wpAny_assign_Name (stN F N (fun h' F' N' => ?_) hk (hx x (.head _))))
    exact aio hk xs vs _ _ (Nat.succ.inj hl) (fun y hy => hx y (.tail _ hy)) F' N' fun h'' tk F'' N'' => h h'' tk F'' N''
  | [], _ :: _, _, _, hl, _, _, _, _ => nomatch hl
  | _ :: _, [], _, _, hl, _, _, _, _ => nomatch hl

theorem unpackL {m : Str → Option Value} {s : Shared} {elts : List Expr} {k : Nat} {pos : Pos} {l : Addr} {items : Array Value} {xs : List (Str × Pos)} {Q : Unit → Shared → Prop}
    (F : Fr h₀ L s.heap m) (N : News h₀ L s.heap news) (hl : s.heap.IsList l items) (hh : A.handled = none)
    (hE : assignEach elts (envOf name scope L a cd) = xs.map fun x => (false, assign (.Name x.1 x.2) (envOf name scope L a cd))) (hn : xs.length = items.size)
    (hk : scope.kind = .function) (hxb : (xs.all fun x => decide ((envOf name scope L a cd).kindOf x.1 = some .local)) = true)
    (h : ∀ h' tk, Fr h₀ L h' (updN m xs items.toList) → News h₀ L h' news → Q () { s with heap := h', toks := tk }) :
    wpAny (model prog w) A (assign (.Tuple elts k pos) (envOf name scope L a cd) (.ref l)) Q E s := by
  have hx : ∀ x ∈ xs, (envOf name scope L a cd).kindOf x.1 = some .local := fun x hx => of_decide_eq_true (List.all_eq_true.mp hxb x hx)
  clear hxb
  refine kun_list F N hl hh (by rw [hE, List.length_map, hn]) (by rw [hE, List.findIdx?_map]; clear hx hE hn; induction xs <;> simp_all) fun h' F' N' => ?_
  rw [hE, List.map_map]
  exact aio hk xs _ m _ (by simpa using hn) hx F' N' fun h'' tk F'' N'' => h h'' tk F'' N''

theorem unpackT {m : Str → Option Value} {s : Shared} {elts : List Expr} {k : Nat} {pos : Pos} {l : Addr} {items : Array Value} {xs : List (Str × Pos)} {Q : Unit → Shared → Prop}
    (F : Fr h₀ L s.heap m) (N : News h₀ L s.heap news) (hl : IsTup s.heap l items) (hh : A.handled = none)
    (hE : assignEach elts (envOf name scope L a cd) = xs.map fun x => (false, assign (.Name x.1 x.2) (envOf name scope L a cd))) (hn : xs.length = items.size)
    (hk : scope.kind = .function) (hxb : (xs.all fun x => decide ((envOf name scope L a cd).kindOf x.1 = some .local)) = true)
    (h : ∀ h' tk, Fr h₀ L h' (updN m xs items.toList) → News h₀ L h' news → Q () { s with heap := h', toks := tk }) :
    wpAny (model prog w) A (assign (.Tuple elts k pos) (envOf name scope L a cd) (.ref l)) Q E s := by
  have hx : ∀ x ∈ xs, (envOf name scope L a cd).kindOf x.1 = some .local := fun x hx => of_decide_eq_true (List.all_eq_true.mp hxb x hx)
  clear hxb
  refine unpackN_ F N hl hh (by rw [hE, List.length_map, hn]) (by rw [hE, List.findIdx?_map]; clear hx hE hn; induction xs <;> simp_all) fun h' F' N' => ?_
  rw [hE, List.map_map]
  exact aio hk xs _ m _ (by simpa using hn) hx F' N' fun h'' tk F'' N'' => h h'' tk F'' N''
end
end Mine
end
section
namespace Mine
/-- a mark at which the walk stops -/
def Stop (P : Prop) : Prop := P
theorem Stop.out {P : Prop} (h : Stop P) : P := h
theorem Stop.into {P : Prop} (h : P) : Stop P := h
section
variable {prog : Program} {w : World} {A : Around} {E : Value → Shared → Prop} {s : Shared} {env : Env} {h₀ : Heap} {x : Str} {body : List Stmt} {Q : Flow → Shared → Prop}
theorem range_loop {r : Addr} {a₀ b₀ : Int} {t₀ u₀ v₀ : Tok} {n : Nat} {m₀ : Str → Option Value} {news : List (Addr × Obj)} (J : Nat → (Str → Option Value) → List (Addr × Obj) → Prop)
    (hh : A.handled = none) (hr : IsRange s.heap r a₀ b₀ 1 t₀ u₀ v₀) (hsmall : Builtin.Range.small a₀ b₀ 1 = true) (hsz : Builtin.Range.rangeSize a₀ b₀ 1 = (n : Int)) (F : Fr h₀ env.locals s.heap m₀) (N : News h₀ env.locals s.heap news) (hj : J 0 m₀ news)
    (turn : ∀ i t m₁ nx h tk own, i < n → OwnOff own (nx.map (·.1)) → J i m₁ nx → Fr h₀ env.locals h (fun y => if y = x then some (.int (a₀ + (i : Int)) t) else m₁ y) → News h₀ env.locals h (nx ++ own) →
      wpAny (model prog w) A (execs body env) (InvPostG h₀ env.locals (J (i + 1)) own { s with heap := h, toks := tk } Q) E { s with heap := h, toks := tk })
    (done : ∀ m₁ nx h tk, J n m₁ nx → Fr h₀ env.locals h m₁ → News h₀ env.locals h nx → Q .next { s with heap := h, toks := tk }) :
    wpAny (model prog w) A (pyIter (.ref r)) (fun it s₂ => LoopAtV prog w A h₀ env x body Q E it s₂) E s := by
  refine wpAny_pyIter_range hr hsmall ?_
  have W : Walks prog w A s.heap.objs.size [s.heap.objs.size] [s.heap.objs.size] n (fun i v => i < n ∧ ∃ t, v = .int (a₀ + i * 1) t)
      (fun i h => IsRangeIter h s.heap.objs.size (a₀ + (i : Nat) * 1) ((n : Int) - (i : Nat)) 1) := (Walks.range hh _ a₀ 1 n).bound
  refine kdr_loop J W (fun _ h => h) (fun _ h => h) ?_ ?_ ?_ ?_ (by show IsRangeIter _ _ _ _ _; rw [hsz]; simpa using Heap.get?_push_size _ rfl) (F.push _) (fun p hp => ⟨Heap.get?_push_of_some _ (N p hp).1, (N p hp).2⟩) hj ?_ ?_
  · intro i h hi b hb
    rw [List.mem_singleton.mp hb]
    exact ⟨_, hi⟩
  · intro hm
    exact absurd F.ns.lt ((List.mem_singleton.mp hm) ▸ Nat.lt_irrefl _)
  · intro b hb
    rw [List.mem_singleton.mp hb]
    exact next_is_new F
  · intro p hp hI
    exact absurd (Heap.lt_size (N p hp).1) ((List.mem_singleton.mp hI) ▸ Nat.lt_irrefl _)
  · rintro i v m₁ nx h tk own hi ⟨_, t, rfl⟩ hoff hj F₁ N₁
    have e1 : a₀ + (i : Int) * 1 = a₀ + (i : Int) := by omega
    rw [e1] at F₁
    exact turn i t m₁ nx h tk own hi hoff hj F₁ N₁
  · intro m₁ nx h tk hj F₁ N₁
    exact done m₁ nx h tk hj F₁ N₁

/-- what holds between the turns of a loop that fills the list at D with data and turns two ints -/
def BJ (D : Addr) (cst : List (Addr × Obj)) (x a b : Str) (rest : List Str) (m₀ : Str → Option Value) (dat : Nat → List Dat) (wd nu : Nat → Int) (i : Nat) (m : Str → Option Value) (nx : List (Addr × Obj)) : Prop :=
  ∃ vs cap tw tn tl, nx = (D, listOf (List.toArray vs) cap) :: (cst ++ tl) ∧ DatAll tl vs (dat i) ∧ OwnOff tl (D :: cst.map (·.1)) ∧ m a = some (.int (wd i) tw) ∧ m b = some (.int (nu i) tn) ∧
    ∀ z, z ≠ x → z ≠ a → z ≠ b → rest.contains z = false → m z = m₀ z
def bfr (x a b : Str) (rest : List Str) (m₀ u : Str → Option Value) (v : Option Value) (va vb : Value) : Str → Option Value :=
  fun y => if y = x then v else if y = a then some va else if y = b then some vb else if rest.contains y then u y else m₀ y
theorem bfr_eq {x a b : Str} {rest : List Str} {m₀ m₁ : Str → Option Value} {v : Option Value} {va vb : Value} (ha : m₁ a = some va) (hb : m₁ b = some vb) (hr : ∀ z, z ≠ x → z ≠ a → z ≠ b → rest.contains z = false → m₁ z = m₀ z) :
    (fun y => if y = x then v else m₁ y) = bfr x a b rest m₀ m₁ v va vb := by
  funext y
  show (if y = x then v else m₁ y) = if y = x then v else if y = a then some va else if y = b then some vb else if rest.contains y then m₁ y else m₀ y
  by_cases h1 : y = x
  · rw [if_pos h1, if_pos h1]
  rw [if_neg h1, if_neg h1]
  by_cases h2 : y = a
  · rw [if_pos h2, h2, ha]
  rw [if_neg h2]
  by_cases h3 : y = b
  · rw [if_pos h3, h3, hb]
  rw [if_neg h3]
  by_cases h4 : rest.contains y = true
  · rw [if_pos h4]
  rw [if_neg h4]
  exact hr y h1 h2 h3 (by simpa using h4)
theorem bfr_out {x a b : Str} {rest : List Str} {m₀ m₁ : Str → Option Value} {va vb : Value} (ha : m₁ a = some va) (hb : m₁ b = some vb) (hr : ∀ z, z ≠ x → z ≠ a → z ≠ b → rest.contains z = false → m₁ z = m₀ z) :
    m₁ = fun y => bfr x a b rest m₀ m₁ (m₁ x) va vb y := by
  have := bfr_eq (v := m₁ x) ha hb hr
  rw [← this]
  funext y
  show m₁ y = if y = x then m₁ x else m₁ y
  by_cases h1 : y = x
  · rw [if_pos h1, h1]
  · rw [if_neg h1]

theorem build_loop {r : Addr} {a₀ b₀ : Int} {t₀ u₀ v₀ : Tok} {n : Nat} {m₀ : Str → Option Value} {news : List (Addr × Obj)} (D : Addr) (cst : List (Addr × Obj)) (a b : Str) (rest : List Str) (dat : Nat → List Dat) (wd nu : Nat → Int)
    {vs₀ : List Value} {cap₀ : Nat} {tw₀ tn₀ : Tok} (tl₀ : List (Addr × Obj))
    (hh : A.handled = none) (hr : IsRange s.heap r a₀ b₀ 1 t₀ u₀ v₀) (hsmall : Builtin.Range.small a₀ b₀ 1 = true) (hsz : Builtin.Range.rangeSize a₀ b₀ 1 = (n : Int)) (F : Fr h₀ env.locals s.heap m₀) (N : News h₀ env.locals s.heap news)
    (hnews : ∀ p ∈ (D, listOf (List.toArray vs₀) cap₀) :: (cst ++ tl₀), p ∈ news) (hd : DatAll tl₀ vs₀ (dat 0)) (hoff : OwnOff tl₀ (D :: cst.map (·.1))) (ha : m₀ a = some (.int (wd 0) tw₀)) (hb : m₀ b = some (.int (nu 0) tn₀))
    (turn : ∀ i t vs cap tw tn tl u h tk own, i < n → DatAll tl vs (dat i) → OwnOff tl (D :: cst.map (·.1)) → OwnOff own (D :: cst.map (·.1)) → OwnOff own (tl.map (·.1)) →
      Fr h₀ env.locals h (bfr x a b rest m₀ u (some (.int (a₀ + (i : Int)) t)) (.int (wd i) tw) (.int (nu i) tn)) →
      News h₀ env.locals h ((D, listOf (List.toArray vs) cap) :: (cst ++ (tl ++ own))) →
      wpAny (model prog w) A (execs body env) (InvPostG h₀ env.locals (BJ D cst x a b rest m₀ dat wd nu (i + 1)) own { s with heap := h, toks := tk } Q) E { s with heap := h, toks := tk })
    (done : ∀ vs cap tw tn tl u v h tk, DatAll tl vs (dat n) → OwnOff tl (D :: cst.map (·.1)) → Fr h₀ env.locals h (bfr x a b rest m₀ u v (.int (wd n) tw) (.int (nu n) tn)) →
      News h₀ env.locals h ((D, listOf (List.toArray vs) cap) :: (cst ++ tl)) → Q .next { s with heap := h, toks := tk }) :
    wpAny (model prog w) A (pyIter (.ref r)) (fun it s₂ => LoopAtV prog w A h₀ env x body Q E it s₂) E s := by
  refine range_loop (BJ D cst x a b rest m₀ dat wd nu) hh hr hsmall hsz F (fun p hp => N p (hnews p hp)) ⟨vs₀, cap₀, tw₀, tn₀, tl₀, rfl, hd, hoff, ha, hb, fun _ _ _ _ _ => rfl⟩ ?_ ?_
  · rintro i t m₁ nx h tk own hi ho ⟨vs, cap, tw, tn, tl, rfl, hd', ht, h1, h2, h3⟩ F₁ N₁
    have o1 : OwnOff own (D :: cst.map (·.1)) := fun p hp c hc => ho p hp c (by
      rw [List.map_cons, List.map_append]
      rcases List.mem_cons.mp hc with h | h
      · exact List.mem_cons.mpr (.inl h)
      · exact List.mem_cons.mpr (.inr (List.mem_append.mpr (.inl h))))
    have o2 : OwnOff own (tl.map (·.1)) := fun p hp c hc => ho p hp c (by
      rw [List.map_cons, List.map_append]
      exact List.mem_cons.mpr (.inr (List.mem_append.mpr (.inr hc))))
    refine turn i t vs cap tw tn tl m₁ h tk own hi hd' ht o1 o2 ?_ ?_
    · rw [bfr_eq h1 h2 h3] at F₁
      exact F₁
    · rw [List.cons_append, List.append_assoc] at N₁
      exact N₁
  · rintro m₁ nx h tk ⟨vs, cap, tw, tn, tl, rfl, hd', ht, h1, h2, h3⟩ F₁ N₁
    refine done vs cap tw tn tl m₁ (m₁ x) h tk hd' ht ?_ N₁
    rw [bfr_out h1 h2 h3] at F₁
    exact F₁

/-- a turn's end -/
theorem build_end {D : Addr} {cst : List (Addr × Obj)} {a b : Str} {rest : List Str} {m₀ : Str → Option Value} {dat : Nat → List Dat} {wd nu : Nat → Int} {i : Nat} {own news' : List (Addr × Obj)} {L : Addr} {m' : Str → Option Value} {s₁ : Shared} {h' : Heap} {tk : Nat}
    {vs : List Value} {cap : Nat} (tl : List (Addr × Obj)) (F : Fr h₀ L h' m') (N : News h₀ L h' news') (hnews : ∀ p ∈ (D, listOf (List.toArray vs) cap) :: (cst ++ tl), p ∈ news') (hown : ∀ p ∈ own, p ∈ news')
    (o1 : OwnOff own (D :: cst.map (·.1))) (o2 : OwnOff own (tl.map (·.1))) (hd : DatAll tl vs (dat i)) (ht : OwnOff tl (D :: cst.map (·.1))) (ha : ∃ t, m' a = some (.int (wd i) t)) (hb : ∃ t, m' b = some (.int (nu i) t))
    (hr : ∀ z, z ≠ x → z ≠ a → z ≠ b → rest.contains z = false → m' z = m₀ z) :
    InvEndG h₀ L (BJ D cst x a b rest m₀ dat wd nu i) own s₁ { s₁ with heap := h', toks := tk } := by
  obtain ⟨tw, ha⟩ := ha
  obtain ⟨tn, hb⟩ := hb
  refine ⟨h', tk, m', news', _, rfl, F, N, hnews, hown, ?_, vs, cap, tw, tn, tl, rfl, hd, ht, ha, hb, hr⟩
  intro p hp c hc
  rw [List.map_cons, List.map_append] at hc
  rcases List.mem_cons.mp hc with h | h
  · exact o1 p hp c (List.mem_cons.mpr (.inl h))
  · rcases List.mem_append.mp h with h | h
    · exact o1 p hp c (List.mem_cons.mpr (.inr h))
    · exact o2 p hp c h
end
end Mine
namespace Mine
section
open PySem.Calls
variable {prog : Program} {w : World} {A : Around} {E : Value → Shared → Prop} {s : Shared} {h₀ : Heap} {L l : Addr}
theorem int_item {value slice : PySem.Expr} {news : List (Addr × Obj)} {us : List Value} {ns : List Int} {n : Nat} {k v : Int} {u : Tok} {Q : Value → Shared → Prop} (N : News h₀ L s.heap news) (hm : (l, listOf us.toArray n) ∈ news) (hi : IntsAre us ns)
    (h0 : 0 ≤ k) (h1 : k < (ns.length : Int)) (hfit : k < 2 ^ 63) (hv : ns.getD k.toNat 0 = v) (h : ∀ t, Q (.int v t) s)
    (hs : subscripted slice false (.ref l) (.int k u) = operate [.ref l, .int k u] (getItem (.ref l) (.int k u)) := by with_unfolding_all rfl) :
    wpAny (model prog w) A (subscriptTail value slice (.ref l) (.int k u)) Q E s := by
  have hl : s.heap.IsList l us.toArray := ⟨_, (N _ hm).1, rfl, n, rfl⟩
  have hk : k.toNat < ns.length := by omega
  obtain ⟨t, hx⟩ := hi.get k.toNat (ns[k.toNat]'hk) (List.getElem?_eq_getElem hk)
  have e : ns[k.toNat]'hk = v := by rw [← hv, List.getD_eq_getElem?_getD, List.getElem?_eq_getElem hk]; rfl
  rw [e] at hx
  exact tail_any hl.typeIs slot_list_getitem.lookup (wpAny_getItem_list hl h0 hfit (by simpa using hx) (h t)) hs
end
end Mine
namespace Mine
theorem off_inner {tl news own : List (Addr × Obj)} {D DL : Addr} {o : Obj} (ht : OwnOff tl (D :: news.map (·.1))) (o2 : OwnOff own (tl.map (·.1))) (hl : ∀ p ∈ tl, p.1 < DL) : OwnOff tl (D :: ((DL, o) :: (news ++ own)).map (·.1)) := by
  intro p hp b hb
  rcases List.mem_cons.mp hb with h | h
  · exact ht p hp b (List.mem_cons.mpr (.inl h))
  rw [List.map_cons, List.map_append] at h
  rcases List.mem_cons.mp h with h | h
  · rw [h]; exact Nat.ne_of_lt (hl p hp)
  rcases List.mem_append.mp h with h | h
  · exact ht p hp b (List.mem_cons.mpr (.inr h))
  · obtain ⟨q, hq, rfl⟩ := List.mem_map.mp h
    exact fun e => o2 q hq p.1 (List.mem_map.mpr ⟨p, hp, rfl⟩) e.symm
theorem off_outer {tl news own : List (Addr × Obj)} {D DL : Addr} {o : Obj} (h : OwnOff tl (D :: ((DL, o) :: (news ++ own)).map (·.1))) : OwnOff tl (D :: news.map (·.1)) ∧ OwnOff own (tl.map (·.1)) := by
  constructor
  · intro p hp b hb
    refine h p hp b ?_
    rcases List.mem_cons.mp hb with e | e
    · exact List.mem_cons.mpr (.inl e)
    · rw [List.map_cons, List.map_append]
      exact List.mem_cons.mpr (.inr (List.mem_cons.mpr (.inr (List.mem_append.mpr (.inl e)))))
  · intro p hp b hb
    obtain ⟨q, hq, rfl⟩ := List.mem_map.mp hb
    refine fun e => h q hq p.1 ?_ e.symm
    rw [List.map_cons, List.map_append]
    exact List.mem_cons.mpr (.inr (List.mem_cons.mpr (.inr (List.mem_append.mpr (.inr (List.mem_map.mpr ⟨p, hp, rfl⟩))))))
theorem off_new {tl cst : List (Addr × Obj)} {D T : Addr} {o : Obj} (ht : OwnOff tl (D :: cst.map (·.1))) (hD : D < T) (hc : ∀ p ∈ cst, p.1 < T) : OwnOff ((T, o) :: tl) (D :: cst.map (·.1)) := by
  intro p hp b hb
  rcases List.mem_cons.mp hp with e | e
  · rw [e]
    rcases List.mem_cons.mp hb with h | h
    · rw [h]; exact Nat.ne_of_gt hD
    · obtain ⟨q, hq, rfl⟩ := List.mem_map.mp h
      exact Nat.ne_of_gt (hc q hq)
  · exact ht p e b hb
theorem off_own {tl own : List (Addr × Obj)} {T : Addr} {o : Obj} (h : OwnOff own (tl.map (·.1))) (hl : ∀ p ∈ own, p.1 < T) : OwnOff own (((T, o) :: tl).map (·.1)) := by
  intro p hp b hb
  rw [List.map_cons] at hb
  rcases List.mem_cons.mp hb with e | e
  · rw [e]; exact Nat.ne_of_lt (hl p hp)
  · exact h p hp b e
end Mine
end
section
open PySem PySem.W PyProof.Rows PySem.Calls
namespace Mine
theorem rangeContains (r : Addr) (a b i : Int) (t u v ti : Tok) :
    Meets (Builtin.«range.__contains__» ⟨[.ref r, .int i ti], []⟩) (fun _ R s => s.heap.get? r = some { cls := .type "range", dict := none, data := .fields #[.int a t, .int b u, .int 1 v], slots := #[] } ∧ R (.ok (.ret (.bool (Builtin.Range.rangePlace? a b 1 i).isSome))) s) :=
  .of_wp fun prog w A R s h => by obtain ⟨hp, g, d, tk, os⟩ := s; obtain ⟨hl, h⟩ := h; wp_walk; exact ⟨_, rfl, h⟩
theorem place_some (a b i : Int) : (Builtin.Range.rangePlace? a b 1 i).isSome = decide (a ≤ i ∧ i < b) := by
  unfold Builtin.Range.rangePlace?
  simp only [show (1 : Int) > 0 by decide, if_true, Int.emod_one, beq_self_eq_true, Bool.and_true]
  by_cases h1 : a ≤ i <;> by_cases h2 : i < b <;> simp [h1, h2]
section
variable {prog : Program} {w : World} {A : Around} {E : Value → Shared → Prop} {s : Shared}
theorem in_range {r : Addr} {a b i : Int} {t u v ti : Tok} {Q : Value → Shared → Prop} (hr : IsRange s.heap r a b 1 t u v) (h : Q (.bool (decide (a ≤ i ∧ i < b))) s) :
    wpAny (model prog w) A (compareOp .In (.int i ti) (.ref r)) Q E s := by
  have hT : s.TypeIs (.ref r) "range" := ⟨_, hr, rfl⟩
  refine In_slot hT F.slot_range_contains (call_meets F.slot_range_contains hT F.entry_range_contains (F.args_range_contains_2 _ _) (rangeContains r a b i t u v ti) ⟨hr, ?_⟩)
  rw [place_some]
  exact wpAny_pure h
end
end Mine
end
section
open PySem PySem.W PyProof.Rows PySem.Calls
namespace Mine
/-- behind the stop -/
def Behind : Prop := True
theorem Behind.mk : Behind := trivial
theorem q_int {Q : Value → Shared → Prop} {a b : Int} {t : Tok} {s : Shared} (h : Q (.int a t) s) (e : a = b) : Q (.int b t) s := e ▸ h
def bi (b : Bool) : Int := if b = true then 1 else 0
def Inside : Prop := True
theorem Inside.mk : Inside := trivial
section
variable {prog : Program} {w : World} {A : Around} {E : Value → Shared → Prop} {s : Shared} {h₀ : Heap} {L : Addr} {m : Str → Option Value} {news : List (Addr × Obj)}
theorem divmod_is {a b q r : Int} {t u : Tok} {Q : Value → Shared → Prop} (hq : a.fdiv b = q) (hr : a.fmod b = r) (F : Fr h₀ L s.heap m) (N : News h₀ L s.heap news) (hb : b ≠ 0)
    (hp : Builtin.divisionGoesByPylong a b = false ∨ PySem.PylongRoom (model prog w) A s)
    (h : ∀ T t1 t2 h' tk', Fr h₀ L h' m → News h₀ L h' ((T, ({ cls := .type "tuple", data := .seq #[.int q t1, .int r t2] } : Obj)) :: news) → (∀ p ∈ news, p.1 < T) → Q (.ref T) { s with heap := h', toks := tk' }) :
    wpAny (model prog w) A (call (.builtin "divmod") [.int a t, .int b u]) Q E s := by
  subst hq hr
  exact divmod_N F N hb (fun h' F' N' => h _ _ _ _ _ F' N' fun p hp => Heap.lt_size (N p hp).1) hp
theorem topInt {K : Frag} {value slice : PySem.Expr} {a : Addr} {vs : List Value} {ns : List Int} {dd : Option Addr} {sl : Array (Option Value)} {n : Nat} {k v : Int} {u : Tok} {Q : Value → Shared → Prop} (F : Fr h₀ L s.heap m) (X₀ : K.In h₀)
    (hl : K.lookup a = some ⟨.type "list", dd, .seq vs.toArray n, sl⟩) (hi : IntsAre vs ns) (hv : ns.getD k.toNat 0 = v) (h0 : 0 ≤ k) (h1 : k < (ns.length : Int)) (hfit : k < 2 ^ 63) (h : ∀ t, Q (.int v t) s)
    (hs : subscripted slice false (.ref a) (.int k u) = operate [.ref a, .int k u] (getItem (.ref a) (.int k u)) := by with_unfolding_all rfl) :
    wpAny (model prog w) A (subscriptTail value slice (.ref a) (.int k u)) Q E s := by
  have hk : k.toNat < ns.length := by omega
  obtain ⟨t, hx⟩ := hi.get k.toNat (ns[k.toNat]'hk) (List.getElem?_eq_getElem hk)
  have e : ns[k.toNat]'hk = v := by rw [← hv, List.getD_eq_getElem?_getD, List.getElem?_eq_getElem hk]; rfl
  rw [e] at hx
  exact topList_K F X₀ hl h0 hfit hx (h t) hs
theorem rshift_is {a n v : Int} {t u : Tok} {Q : Value → Shared → Prop} (hn : 0 ≤ n) (hv : a.fdiv (2 ^ n.toNat) = v) (h : ∀ t tk, Q (.int v t) { s with toks := tk }) : wpAny (model prog w) A (binaryOp .RShift (.int a t) (.int n u)) Q E s := by
  subst hv
  exact rshift_int hn (h _ _)
theorem eq_same {b : Bool} {Q : Value → Shared → Prop} (h : Q (.bool true) s) : wpAny (model prog w) A (compareOp .Eq (.bool b) (.bool b)) Q E s := eq_bool (by rw [beq_self_eq_true]; exact h)
theorem add_bi {a : Int} {t : Tok} {b : Bool} {Q : Value → Shared → Prop} (h : ∀ t tk, Q (.int (a + bi b) t) { s with toks := tk }) : wpAny (model prog w) A (binaryOp .Add (.int a t) (.bool b)) Q E s := add_int_bool (h _ _)
/-- an expression's end, its value a truth known beforehand -/
def BoolEnd (b : Bool) (s : Shared) (v : Value) (s' : Shared) : Prop := v = .bool b ∧ ∃ tk, s' = { s with toks := tk }
theorem BoolEnd.mk {b b' : Bool} {tk : Nat} (e : b' = b) : BoolEnd b s (.bool b') { s with toks := tk } := ⟨e ▸ rfl, _, rfl⟩
theorem bool_val {M : Model} {tree : Sem Value} {Q : Value → Shared → Prop} (b : Bool) (h1 : wpAny M A tree (BoolEnd b s) E s) (h2 : ∀ tk, Q (.bool b) { s with toks := tk }) : wpAny M A tree Q E s :=
  wpAny_mono h1 (fun v s' h => by obtain ⟨rfl, tk, rfl⟩ := h; exact h2 tk) fun _ _ h => h
end
end Mine
end
section
open PySem PySem.W PyProof.Rows PySem.Calls
namespace Mine
/-- a test's end: its truth, the ledger as it stood -/
def KeepEnd (b : Bool) (h₀ : Heap) (L : Addr) (m : Str → Option Value) (s₁ : Shared) (all : List (Addr × Obj)) (ok : Bool) (s₂ : Shared) : Prop :=
  ok = b ∧ ∃ h' tk, s₂ = { s₁ with heap := h', toks := tk } ∧ Fr h₀ L h' m ∧ News h₀ L h' all
section
variable {prog : Program} {w : World} {A : Around} {h₀ : Heap} {L : Addr} {m : Str → Option Value} {env : Env} {ct : Expr} {x : Str} {pos : Pos} {scope : Scope} {cl : List (Str × Addr)} {s : Shared} {S : List (Addr × Obj) → Prop} {Fin : List Value → List (Addr × Obj) → Prop} {news : List (Addr × Obj)}
theorem KeepEnd.mk {b b' : Bool} {s₁ : Shared} {all all' : List (Addr × Obj)} {h' : Heap} {tk : Nat} (e : b' = b) (F : Fr h₀ L h' m) (N : News h₀ L h' all') (hs : ∀ p ∈ all, p ∈ all') : KeepEnd b h₀ L m s₁ all b' { s₁ with heap := h', toks := tk } :=
  ⟨e, h', tk, rfl, F, fun p hp => N p (hs p hp)⟩
theorem keep_rest {n : Nat} {vs : List Value} {ds : List Dat} {tl : List (Addr × Obj)} (keep : Dat → Bool) (hd : DatAll tl vs ds) (hn : vs.length = n) (hS : S news)
    (turn : ∀ (i : Nat) (v : Value) (d : Dat) I oI C oC D m₂ ys h tk (E' : Value → Shared → Prop), ds[i]? = some d → DatIn tl v d → LCg.NsObj oC m₂ → m₂ x = some v → Fr h₀ L h m → News h₀ L h ((I, oI) :: (C, oC) :: (D, LCg.lst ys) :: news) → LCg.Off3 I C D news → ((@Ne Nat I C) ∧ (@Ne Nat I D) ∧ (@Ne Nat C D)) →
      wpAny (model prog w) A (isTrue ct (compEnvC scope cl C env) (eval ct (compEnvC scope cl C env))) (KeepEnd (keep d) h₀ L m { s with heap := h, toks := tk } ((I, oI) :: (C, oC) :: (D, LCg.lst ys) :: news)) E' { s with heap := h, toks := tk })
    (fin : ∀ ys, DatAll tl ys (ds.filter keep) → Fin ys news)
    (hk : ∀ C, (compEnvC scope cl C env).scope.kind = .function := by intro _; rfl) (hl : ∀ C, (compEnvC scope cl C env).kindOf x = some .local := by intro _; rfl) (hdb : (x == ("__debug__" : Str)) = false := by decide) :
    LCt.CompRestT prog w A h₀ L m env ct (.Name x pos) x scope cl s S (fun i v => vs.toArray[i]? = some v) Fin n 0 [] news := by
  have key : ∀ (j i : Nat) (ys : List Value), i + j = n → DatAll tl ys ((ds.take i).filter keep) → LCt.CompRestT prog w A h₀ L m env ct (.Name x pos) x scope cl s S (fun i v => vs.toArray[i]? = some v) Fin j i ys news := by
    intro j
    induction j with
    | zero =>
      intro i ys hi hy
      have e : i = ds.length := by rw [← hd.length]; omega
      subst e
      rw [List.take_length] at hy
      exact LCt.CompRestT.zero (fin ys hy)
    | succ j ih =>
      intro i ys hi hy
      refine LCt.CompRestT.succ ?_
      intro v I oI C oC D m₂ h tk E' hv hC hx F N off ne
      have hlt : i < ds.length := by rw [← hd.length]; omega
      obtain ⟨v', hv', hin⟩ := hd.get hlt
      have hv2 : vs[i]? = some v := by simpa using hv
      obtain rfl : v' = v := Option.some.inj (hv'.symm.trans hv2)
      have hdi : ds[i]? = some (ds[i]'hlt) := List.getElem?_eq_getElem hlt
      refine wpAny_mono (turn i v' _ I oI C oC D m₂ ys h tk E' hdi hin hC hx F N off ne) (fun ok s₂ hq => ?_) fun _ _ e => e
      obtain ⟨hb, h', tk', rfl, F', N'⟩ := hq
      have htake : ds.take (i + 1) = ds.take i ++ [ds[i]'hlt] := by rw [List.take_add_one, hdi]; rfl
      cases ok with
      | true =>
        simp only [if_true]
        refine LCgL.ld_own N' (List.mem_cons_of_mem _ (List.mem_cons_self ..)) hC hx ?_ (hk C) (hl C) hdb
        refine ⟨h', tk', news, rfl, F', N', off, hS, ?_⟩
        refine ih (i + 1) _ (by omega) ?_
        rw [htake, List.filter_append, List.filter_cons, if_pos hb.symm, List.filter_nil]
        exact DatAll.append hy (.one hin)
      | false =>
        simp only [Bool.false_eq_true, if_false]
        refine ⟨h', tk', news, rfl, F', N', off, hS, ?_⟩
        refine ih (i + 1) _ (by omega) ?_
        rw [htake, List.filter_append, List.filter_cons, if_neg (by rw [← hb]; simp), List.filter_nil, List.append_nil]
        exact hy
  exact key n 0 [] (by omega) (by simpa using DatAll.nil)
/-- an if's end: one name holds an int known beforehand -/
def DEnd (x : Str) (D : Int) (h₀ : Heap) (L : Addr) (m : Str → Option Value) (news : List (Addr × Obj)) (s : Shared) (fl : Flow) (s' : Shared) : Prop :=
  fl = .next ∧ ∃ t h' tk, s' = { s with heap := h', toks := tk } ∧ Fr h₀ L h' (fun y => if y = x then some (.int D t) else m y) ∧ News h₀ L h' news
theorem DEnd.mk {x : Str} {D D' : Int} {t : Tok} {h' : Heap} {tk : Nat} (F : Fr h₀ L h' (fun y => if y = x then some (.int D' t) else m y)) (N : News h₀ L h' news) (e : D' = D) : DEnd x D h₀ L m news s .next { s with heap := h', toks := tk } :=
  ⟨rfl, t, h', tk, rfl, e ▸ F, N⟩
theorem DEnd.mk0 {x : Str} {D D' : Int} {t : Tok} {h' : Heap} {tk : Nat} (F : Fr h₀ L h' m) (N : News h₀ L h' news) (hm : m x = some (.int D' t)) (e : D' = D) : DEnd x D h₀ L m news s .next { s with heap := h', toks := tk } :=
  ⟨rfl, t, h', tk, rfl, (by
    have : (fun y => if y = x then some (Value.int D t) else m y) = m := by
      funext y
      by_cases h : y = x
      · subst h; rw [if_pos rfl, hm, e]
      · rw [if_neg h]
    rw [this]; exact F), N⟩
theorem d_join {M : Model} {A : Around} {tree : Sem Flow} {E : Value → Shared → Prop} {Q : Flow → Shared → Prop} (x : Str) (D : Int) (_F : Fr h₀ L s.heap m) (_N : News h₀ L s.heap news) (h1 : wpAny M A tree (DEnd x D h₀ L m news s) E s)
    (h2 : ∀ t h' tk, Fr h₀ L h' (fun y => if y = x then some (.int D t) else m y) → News h₀ L h' news → Q .next { s with heap := h', toks := tk }) : wpAny M A tree Q E s :=
  wpAny_mono h1 (fun fl s' h => by obtain ⟨rfl, t, h', tk, rfl, F, N⟩ := h; exact h2 t h' tk F N) fun _ _ h => h
end
end Mine
end
section
open PySem PySem.W PyProof.Rows PySem.Calls
namespace Mine
section
variable {prog : Program} {w : World} {A : Around} {E : Value → Shared → Prop} {s : Shared} {h₀ : Heap} {L : Addr} {m : Str → Option Value} {news : List (Addr × Obj)}
theorem applied_upto2 {sl : Addr} {u : Tok} {Q : Int × Int × Nat → Shared → Prop} (hs : s.heap.IsSliceOf sl .none (.int 2 u) .none) (h : Q (0, 1, 2) s) :
    wpAny (model prog w) A (Builtin.Slice.sliceApplied (.ref sl) (pure (4 : Int))) Q E s := by
  obtain ⟨os, hos, hcs, hds⟩ := id hs
  unfold Builtin.Slice.sliceApplied Builtin.Slice.sliceFields
  refine wpAny_bind (wpAny_bind (wpAny_field hos hds (x := .none) rfl (wpAny_bind (wpAny_field hos hds (x := .int 2 u) rfl (wpAny_bind (wpAny_field hos hds (x := .none) rfl (wpAny_pure ?_)))))))
  refine wpAny_bind (slicePart_none ?_)
  show wpAny _ _ (if ((1 : Int) == 0) = true then _ else _) _ _ s
  rw [if_neg (by decide)]
  refine wpAny_bind (slicePart_none (wpAny_bind (slicePart_int (wpAny_bind (wpAny_pure ?_)))))
  show wpAny _ _ (match Builtin.Slice.sliceAdjust none (some (2 : Int)) 1 (4 : Int) with | (lo, hi) => pure (lo, (1 : Int), Builtin.Slice.slicePlaces lo hi 1)) _ _ s
  rw [show Builtin.Slice.sliceAdjust none (some (2 : Int)) 1 (4 : Int) = (0, 2) from by decide]
  show wpAny _ _ (pure ((0 : Int), (1 : Int), Builtin.Slice.slicePlaces 0 2 1)) _ _ s
  rw [show Builtin.Slice.slicePlaces 0 2 1 = 2 from by decide]
  exact wpAny_pure h
theorem getItem_upto2 {t sl : Addr} {x y z v : Value} {u : Tok} {Q : Value → Shared → Prop} (ht : IsTup s.heap t #[x, y, z, v]) (hs : s.heap.IsSliceOf sl .none (.int 2 u) .none)
    (h : Q (.ref s.heap.objs.size) { s with heap := s.heap.push { cls := .type "tuple", data := .seq #[x, y] } }) : wpAny (model prog w) A (getItem (.ref t) (.ref sl)) Q E s := by
  have hdrop : sizeOk (.seq #[x, y]) := by
    show (#[x, y] : Array Value).size ≤ sizeLine
    rw [sizeLine_eq]
    show 2 ≤ _
    decide
  obtain ⟨os, hos, hcs, hds⟩ := id hs
  have hTs : s.TypeIs (.ref sl) "slice" := ⟨os, hos, hcs⟩
  unfold getItem
  try with_reducible refine wpAny_holding ?_
  first | refine wpAny_bind (wpAny_pure ?_) | skip
  refine wpAny_bind (wpAny_sequenceKey ht.typeIs (by decide) ?_)
  refine wpAny_bind (wpAny_callSpecial?_slot (name := Str.ofString "__getitem__") ht.typeIs slot_tuple_getitem
    (wpAny_call_entry slot_tuple_getitem ht.typeIs entry_tuple_getitem ?_ (args_tuple_getitem _ _)))
  show wpAny _ _ (Builtin.Tuple.tupleItemsOf (.ref t) >>= _) _ _ s
  refine wpAny_bind (tupleItemsOf_ ht ?_)
  refine wpAny_bind (wpAny_typeOf hTs ?_)
  rw [if_pos (by decide)]
  refine wpAny_bind (applied_upto2 hs ?_)
  show wpAny _ _ (if ((0 : Int) == 0 && (1 : Int) == 1 && (2 : Nat) == (#[x, y, z, v] : Array Value).size) = true then _ else _) _ _ s
  rw [if_neg (by simp)]
  first
    | exact wpAny_bind (m := Builtin.Tuple.tupleExact _) (wpAny_newObj_type (wpAny_pure ⟨_, rfl, wpAny_pure h⟩) hdrop)
    | exact wpAny_bind (m := Builtin.Tuple.tupleExact _) (wpAny_newObj_type (wpAny_bind (wpAny_pure (wpAny_pure ⟨_, rfl, wpAny_pure h⟩))) hdrop)
    | exact wpAny_bind (wpAny_bind (m := Builtin.Tuple.tupleExact _) (wpAny_newObj_type (wpAny_pure (wpAny_pure ⟨_, rfl, wpAny_pure h⟩)) hdrop))
    | exact wpAny_bind (wpAny_bind (m := Builtin.Tuple.tupleExact _) (wpAny_newObj_type (wpAny_pure ⟨_, rfl, wpAny_pure h⟩) hdrop))
theorem cut2 {value slice : Expr} {t : Addr} {x y z v : Value} {n : Nat} {u : Tok} {Q : Value → Shared → Prop}
    (F : Fr h₀ L s.heap m) (N : News h₀ L s.heap news) (hm : (t, ({ cls := .type "tuple", data := .seq #[x, y, z, v] n } : Obj)) ∈ news)
    (h : ∀ D h', Fr h₀ L h' m → News h₀ L h' ((D, ({ cls := .type "tuple", data := .seq #[x, y] } : Obj)) :: news) → (∀ p ∈ news, p.1 < D) → Q (.ref D) { s with heap := h' })
    (hs : subscripted slice false (.ref t) (.ref s.heap.objs.size) = operate [.ref s.heap.objs.size, .ref t] (getItem (.ref t) (.ref s.heap.objs.size)) := by with_unfolding_all rfl)
    (hg : ∀ r, letTemporaryGo value (.ref t) r = pure () := by intro _; with_unfolding_all rfl) :
    wpAny (model prog w) A (subscriptTail value slice (.ref t) (.ref s.heap.objs.size)) Q E { s with heap := s.heap.push { cls := .type "slice", data := .fields #[.none, .int 2 u, .none] } } := by
  have ht : IsTup s.heap t #[x, y, z, v] := News.isTup N hm
  have ht' : IsTup (s.heap.push { cls := .type "slice", data := .fields #[.none, .int 2 u, .none] }) t #[x, y, z, v] := ht.keeps fun _ _ e => Heap.get?_push_of_some _ e
  refine subscriptTail_ops (s := { s with heap := s.heap.push { cls := .type "slice", data := .fields #[.none, .int 2 u, .none] } }) ht'.typeIs slot_tuple_getitem.lookup
    (getItem_upto2 ht' (Heap.IsSliceOf.new ..) ?_) hs hg
  have N1 := News.push (F.push { cls := .type "slice", data := .fields #[.none, .int 2 u, .none] }) (N.grown fun _ _ e => Heap.get?_push_of_some _ e) { cls := .type "tuple", data := .seq #[x, y] }
  rw [Heap.size_push] at N1
  show Q (.ref (s.heap.push _).objs.size) _
  rw [Heap.size_push]
  exact h _ _ ((F.push _).push _) N1 fun p hp => Nat.lt_succ_of_lt (Heap.lt_size (N p hp).1)
theorem cut2c {value slice : Expr} {t : Addr} {x y z v : Value} {n : Nat} {u : Tok} {Q : Value → Shared → Prop} {h : Heap} {g : Array GenState} {d : Drawn} {tk a : Nat} {os : OsState}
    (F : Fr h₀ L h m) (N : News h₀ L h news) (hm : (t, ({ cls := .type "tuple", data := .seq #[x, y, z, v] n } : Obj)) ∈ news) (ha : a = h.objs.size)
    (hq : ∀ D h', Fr h₀ L h' m → News h₀ L h' ((D, ({ cls := .type "tuple", data := .seq #[x, y] } : Obj)) :: news) → (∀ p ∈ news, p.1 < D) → Q (.ref D) ⟨h', g, d, tk, os⟩)
    (hs : ∀ a, subscripted slice false (.ref t) (.ref a) = operate [.ref a, .ref t] (getItem (.ref t) (.ref a)))
    (hg : ∀ r, letTemporaryGo value (.ref t) r = pure ()) :
    wpAny (model prog w) A (subscriptTail value slice (.ref t) (.ref a)) Q E ⟨h.push { cls := .type "slice", data := .fields #[.none, .int 2 u, .none] }, g, d, tk, os⟩ := by
  subst ha
  exact cut2 (s := ⟨h, g, d, tk, os⟩) F N hm hq (hs _) hg
end
end Mine
end
section
namespace Mine
def leapB (y : Int) : Bool := decide (y.fmod 400 = 0) || (decide (y.fmod 4 = 0) && !decide (y.fmod 100 = 0))
def nlen (lp : Bool) (i : Nat) : Nat := [31, if lp then 29 else 28, 31, 30, 31, 30, 31, 31, 30, 31, 30, 31].getD i 0
def lens (y : Int) : List Int := [31, if leapB y then 29 else 28, 31, 30, 31, 30, 31, 31, 30, 31, 30, 31]
theorem lens_leap {y : Int} (h : leapB y = true) : lens y = [31, 29, 31, 30, 31, 30, 31, 31, 30, 31, 30, 31] := by simp [lens, h]
theorem lens_no {y : Int} (h : leapB y = false) : lens y = [31, 28, 31, 30, 31, 30, 31, 31, 30, 31, 30, 31] := by simp [lens, h]
theorem lens_length (y : Int) : (lens y).length = 12 := rfl
theorem lens_getD (y : Int) (i : Nat) (h : i < 12) : (lens y).getD i 0 = (nlen (leapB y) i : Int) := by
  have : ∀ lp : Bool, ∀ i < 12, ([31, if lp then 29 else 28, 31, 30, 31, 30, 31, 31, 30, 31, 30, 31] : List Int).getD i 0 = (nlen lp i : Int) := by decide
  exact this _ i h
theorem nlen_pos (lp : Bool) (i : Nat) (h : i < 12) : 28 ≤ nlen lp i ∧ nlen lp i ≤ 31 := by
  have : ∀ lp : Bool, ∀ i < 12, 28 ≤ nlen lp i ∧ nlen lp i ≤ 31 := by decide
  exact this lp i h

/-- number and weekday of 1 January, as the law walks to them -/
def yearStart (y : Int) : Int × Int :=
  List.foldl (fun p k => (p.1 + (lens k).sum, (p.2 + (lens k).sum).fmod 7)) (10957 + (y - 2000).fdiv 400 * 146097, 6) (rangeKs 2000 (2000 + (y - 2000).fmod 400 - 2000).toNat)

/-- the months' days -/
def outerTab (lp : Bool) : Nat → List (Int × Int)
  | 0 => []
  | i + 1 => outerTab lp i ++ (List.range (nlen lp i)).map fun (q : Nat) => (1 + (i : Int), 1 + (q : Int))
def innerTab (lp : Bool) (i j : Nat) : List (Int × Int) := outerTab lp i ++ (List.range j).map fun (q : Nat) => (1 + (i : Int), 1 + (q : Int))
def dayD (W N : Int) (j : Nat) (p : Int × Int) : Dat := .tuple [.int p.1, .int p.2, .int ((W + j).fmod 7), .int (N + j)]
def datOf (W N : Int) (l : List (Int × Int)) : List Dat := l.mapIdx (dayD W N)
theorem inner_zero (lp : Bool) (i : Nat) : innerTab lp i 0 = outerTab lp i := by simp [innerTab]
theorem inner_full (lp : Bool) (i : Nat) : innerTab lp i (nlen lp i) = outerTab lp (i + 1) := rfl
theorem inner_succ (lp : Bool) (i j : Nat) : innerTab lp i (j + 1) = innerTab lp i j ++ [(1 + (i : Int), 1 + (j : Int))] := by
  simp [innerTab, List.range_succ]
theorem datOf_snoc (W N : Int) (l : List (Int × Int)) (p : Int × Int) : datOf W N (l ++ [p]) = datOf W N l ++ [dayD W N l.length p] := by
  simp [datOf, List.mapIdx_concat]
theorem fmod7_succ (W : Int) (k : Nat) : ((W + k).fmod 7 + 1).fmod 7 = (W + ((k + 1 : Nat) : Int)).fmod 7 := by
  rw [Int.fmod_eq_emod_of_nonneg _ (by omega), Int.fmod_eq_emod_of_nonneg _ (by omega), Int.fmod_eq_emod_of_nonneg _ (by omega)]
  omega
theorem yearStart_week (y : Int) : 0 ≤ (yearStart y).2 ∧ (yearStart y).2 < 7 := by
  have key : ∀ (l : List Int) (p : Int × Int), 0 ≤ p.2 ∧ p.2 < 7 → 0 ≤ (List.foldl (fun p k => (p.1 + (lens k).sum, (p.2 + (lens k).sum).fmod 7)) p l).2 ∧ (List.foldl (fun p k => (p.1 + (lens k).sum, (p.2 + (lens k).sum).fmod 7)) p l).2 < 7 := by
    intro l
    induction l with
    | nil => intro p h; exact h
    | cons k l ih =>
      intro p _
      rw [List.foldl_cons]
      refine ih _ ?_
      show 0 ≤ (p.2 + (lens k).sum).fmod 7 ∧ (p.2 + (lens k).sum).fmod 7 < 7
      rw [Int.fmod_eq_emod_of_nonneg _ (by omega)]
      omega
  exact key _ _ ⟨by show (0:Int) ≤ 6; decide, by show (6:Int) < 7; decide⟩
theorem week_self {W : Int} (h : 0 ≤ W ∧ W < 7) : (W + ((0 : Nat) : Int)).fmod 7 = W := by
  rw [Int.fmod_eq_emod_of_nonneg _ (by omega)]
  omega
end Mine
namespace Mine
theorem outer_length (lp : Bool) (i : Nat) (h : i ≤ 12) : (outerTab lp i).length ≤ 366 := by
  have : ∀ lp : Bool, ∀ i < 13, (outerTab lp i).length ≤ 366 := by decide +kernel
  exact this lp i (by omega)
theorem inner_length (lp : Bool) (i j : Nat) : (innerTab lp i j).length = (outerTab lp i).length + j := by simp [innerTab]
theorem datOf_length (W N : Int) (l : List (Int × Int)) : (datOf W N l).length = l.length := by simp [datOf]
end Mine
namespace Mine
theorem inner_week (lp : Bool) (W : Int) (i j : Nat) : ((W + ((innerTab lp i j).length : Nat)).fmod 7 + 1).fmod 7 = (W + ((innerTab lp i (j + 1)).length : Nat)).fmod 7 := by
  rw [fmod7_succ, inner_length, inner_length]; rfl
theorem inner_num (lp : Bool) (N : Int) (i j : Nat) : N + ((innerTab lp i j).length : Nat) + 1 = N + ((innerTab lp i (j + 1)).length : Nat) := by
  rw [inner_length, inner_length]; omega
end Mine
end
section
namespace Mine
/-- days ahead of 1 January of the year, as the text reckons them -/
def gY (y : Int) : Int := (y - 1) * 365 + Int.fdiv (y - 1) 4 - Int.fdiv (y - 1) 100 + Int.fdiv (y - 1) 400
theorem fdE (a : Int) {b : Int} (h : 0 ≤ b) : Int.fdiv a b = a / b := Int.fdiv_eq_ediv_of_nonneg _ h
theorem fmE (a : Int) {b : Int} (h : 0 ≤ b) : Int.fmod a b = a % b := Int.fmod_eq_emod_of_nonneg _ h
theorem leap_iff (y : Int) : leapB y = true ↔ (y % 400 = 0 ∨ (y % 4 = 0 ∧ y % 100 ≠ 0)) := by
  unfold leapB
  rw [fmE _ (by decide), fmE _ (by decide), fmE _ (by decide)]
  simp
theorem year_parts (y : Int) : ∃ q b c d : Int, y = 400 * q + 100 * b + 4 * c + d + 1 ∧ 0 ≤ b ∧ b ≤ 3 ∧ 0 ≤ c ∧ c ≤ 24 ∧ 0 ≤ d ∧ d ≤ 3 ∧ gY y = 146097 * q + 36524 * b + 1461 * c + 365 * d ∧ (leapB y = true ↔ d = 3 ∧ (c ≠ 24 ∨ b = 3)) := by
  refine ⟨(y - 1) / 400, (y - 1) % 400 / 100, (y - 1) % 400 % 100 / 4, (y - 1) % 400 % 100 % 4, by omega, by omega, by omega, by omega, by omega, by omega, by omega, ?_, ?_⟩
  · unfold gY
    rw [fdE _ (by decide), fdE _ (by decide), fdE _ (by decide)]
    omega
  · rw [leap_iff]; omega
theorem ord_parts (y k : Int) (hk : 0 ≤ k) (hk2 : k < 365 ∨ (k = 365 ∧ leapB y = true)) : ∃ q b c d e r1 r2 r3 : Int,
    Int.fdiv (gY y + k) 146097 = q ∧ Int.fmod (gY y + k) 146097 = r1 ∧ Int.fdiv r1 36524 = b ∧ Int.fmod r1 36524 = r2 ∧ Int.fdiv r2 1461 = c ∧ Int.fmod r2 1461 = r3 ∧ Int.fdiv r3 365 = d ∧ Int.fmod r3 365 = e ∧
    (((d = 4 ∨ b = 4) ∧ e = 0 ∧ q * 400 + 1 + (b * 100 + c * 4 + d) = y + 1 ∧ k = 365) ∨ (d ≠ 4 ∧ b ≠ 4 ∧ e = k ∧ k < 365 ∧ q * 400 + 1 + (b * 100 + c * 4 + d) = y ∧ (leapB y = true ↔ d = 3 ∧ (c ≠ 24 ∨ b = 3)))) := by
  obtain ⟨q, b, c, d, hy, b0, b3, c0, c4, d0, d3, hg, hl⟩ := year_parts y
  rcases hk2 with h | ⟨h, hb⟩
  · refine ⟨q, b, c, d, k, 36524 * b + 1461 * c + 365 * d + k, 1461 * c + 365 * d + k, 365 * d + k, ?_, ?_, ?_, ?_, ?_, ?_, ?_, ?_, .inr ⟨by omega, by omega, rfl, h, by omega, hl⟩⟩
    all_goals (first | rw [fdE _ (by decide)] | rw [fmE _ (by decide)])
    all_goals omega
  · obtain ⟨hd, hc⟩ := hl.mp hb
    by_cases hc4 : c = 24
    · have hb3 : b = 3 := by omega
      refine ⟨q, 4, 0, 0, 0, 146096, 0, 0, ?_, ?_, ?_, ?_, ?_, ?_, ?_, ?_, .inl ⟨.inr rfl, rfl, by omega, h⟩⟩
      all_goals (first | rw [fdE _ (by decide)] | rw [fmE _ (by decide)])
      all_goals omega
    · refine ⟨q, b, c, 4, 0, 36524 * b + 1461 * c + 1460, 1461 * c + 1460, 1460, ?_, ?_, ?_, ?_, ?_, ?_, ?_, ?_, .inl ⟨.inl rfl, rfl, by omega, h⟩⟩
      all_goals (first | rw [fdE _ (by decide)] | rw [fmE _ (by decide)])
      all_goals omega
end Mine
end
section
namespace Mine
abbrev dimL : List Int := [-1, 31, 28, 31, 30, 31, 30, 31, 31, 30, 31, 30, 31]
abbrev dbmL : List Int := [-1, 0, 31, 59, 90, 120, 151, 181, 212, 243, 273, 304, 334]
def tabRow (lp : Bool) (k : Nat) : Bool :=
  let M : Nat := (k + 50) / 32
  let P : Int := dbmL.getD M 0 + bi (decide (2 < M) && lp)
  let R : Int := P - (dimL.getD (M - 1) 0 + bi (decide (M - 1 = 2) && lp))
  decide (1 ≤ M) && decide (M ≤ 12) &&
  (if P ≤ k then decide ((k : Int) - P < (nlen lp (M - 1) : Int)) && decide ((outerTab lp 12)[k]? = some ((M : Int), k - P + 1))
   else decide (2 ≤ M) && decide (R ≤ k) && decide ((k : Int) - R < (nlen lp (M - 2) : Int)) && decide ((outerTab lp 12)[k]? = some ((M : Int) - 1, k - R + 1)))
theorem tabRows : ∀ lp : Bool, ∀ k < 365, tabRow lp k = true := by decide +kernel
theorem ord_tab (lp : Bool) (k mo da : Int) (h0 : 0 ≤ k) (h1 : k < 365) (ht : (outerTab lp 12)[k.toNat]? = some (mo, da)) :
    ∃ M P : Int, (k + 50).fdiv (2 ^ Int.toNat 5) = M ∧ 1 ≤ M ∧ M ≤ 12 ∧ dbmL.getD M.toNat 0 = P ∧
      ((P + bi (decide (2 < M) && lp) ≤ k ∧ k - (P + bi (decide (2 < M) && lp)) < (nlen lp (M - 1).toNat : Int) ∧ M = mo ∧ k - (P + bi (decide (2 < M) && lp)) + 1 = da) ∨
       (¬ P + bi (decide (2 < M) && lp) ≤ k ∧ 2 ≤ M ∧ ∃ D, dimL.getD (M - 1).toNat 0 = D ∧ P + bi (decide (2 < M) && lp) - (D + bi (decide (M - 1 = 2) && lp)) ≤ k ∧
          k - (P + bi (decide (2 < M) && lp) - (D + bi (decide (M - 1 = 2) && lp))) < (nlen lp (M - 1 - 1).toNat : Int) ∧ M - 1 = mo ∧ k - (P + bi (decide (2 < M) && lp) - (D + bi (decide (M - 1 = 2) && lp))) + 1 = da)) := by
  obtain ⟨n, rfl⟩ : ∃ n : Nat, k = n := ⟨k.toNat, by omega⟩
  have hn : n < 365 := by omega
  have hr := tabRows lp n hn
  unfold tabRow at hr
  simp only [Bool.and_eq_true, decide_eq_true_eq] at hr
  obtain ⟨⟨m1, m2⟩, hr⟩ := hr
  simp only [Int.toNat_natCast] at ht
  have eM : (((n + 50) / 32 : Nat) : Int) = ((n : Int) + 50) / 32 := by omega
  generalize hM : (n + 50) / 32 = M at *
  refine ⟨(M : Int), dbmL.getD M 0, ?_, by omega, by omega, by rw [Int.toNat_natCast], ?_⟩
  · show ((n : Int) + 50).fdiv 32 = _
    rw [fdE _ (by decide), eM]
  have e1 : (decide (2 < (M : Int)) : Bool) = decide (2 < M) := by rw [decide_eq_decide]; omega
  have e2 : (decide ((M : Int) - 1 = 2) : Bool) = decide (M - 1 = 2) := by rw [decide_eq_decide]; omega
  have e3 : ((M : Int) - 1).toNat = M - 1 := by omega
  rw [e1, e2, e3]
  have e4 : ((M : Int) - 1 - 1).toNat = M - 2 := by omega
  rw [e4]
  split at hr
  · rename_i hle
    obtain ⟨q1, q2⟩ := by simpa only [Bool.and_eq_true, decide_eq_true_eq] using hr
    rw [ht] at q2
    injection q2 with q2
    injection q2 with q3 q4
    exact .inl ⟨hle, q1, q3.symm, q4.symm⟩
  · rename_i hle
    obtain ⟨⟨⟨q0, q1⟩, q2⟩, q3⟩ := by simpa only [Bool.and_eq_true, decide_eq_true_eq] using hr
    rw [ht] at q3
    injection q3 with q3
    injection q3 with q4 q5
    exact .inr ⟨hle, by omega, _, rfl, q1, q2, q4.symm, q5.symm⟩
theorem tab_len (lp : Bool) : (outerTab lp 12).length = if lp = true then 366 else 365 := by
  have : ∀ lp : Bool, (outerTab lp 12).length = if lp = true then 366 else 365 := by decide +kernel
  exact this lp
theorem tab_last : (outerTab true 12)[365]? = some (12, 31) := by decide +kernel
theorem tab_day (lp : Bool) (k mo da : Int) (h0 : 0 ≤ k) (ht : (outerTab lp 12)[k.toNat]? = some (mo, da)) : k < 365 ∨ (k = 365 ∧ lp = true ∧ mo = 12 ∧ da = 31) := by
  have hl : k.toNat < (outerTab lp 12).length := (List.getElem?_eq_some_iff.mp ht).1
  rw [tab_len] at hl
  by_cases h : k < 365
  · exact .inl h
  · cases lp with
    | false => simp only [Bool.false_eq_true, if_false] at hl; omega
    | true =>
      simp only [if_true] at hl
      have hk : k = 365 := by omega
      subst hk
      have e : (365 : Int).toNat = 365 := rfl
      rw [e, tab_last] at ht
      injection ht with ht
      injection ht with a b
      exact .inr ⟨rfl, rfl, a.symm, b.symm⟩
theorem dim_val (lp : Bool) (mo : Int) (h0 : 1 ≤ mo) (h1 : mo ≤ 12) : (mo = 2 → lp = true → (29 : Int) = (nlen lp (mo - 1).toNat : Int)) ∧ (¬ (mo = 2 ∧ lp = true) → dimL.getD mo.toNat 0 = (nlen lp (mo - 1).toNat : Int)) := by
  obtain ⟨n, rfl⟩ : ∃ n : Nat, mo = n := ⟨mo.toNat, by omega⟩
  have key : ∀ lp : Bool, ∀ n < 13, 1 ≤ n → (n = 2 → lp = true → (29 : Int) = (nlen lp (n - 1) : Int)) ∧ (¬ (n = 2 ∧ lp = true) → dimL.getD n 0 = (nlen lp (n - 1) : Int)) := by decide
  obtain ⟨a, b⟩ := key lp n (by omega) (by omega)
  rw [show ((n : Int) - 1).toNat = n - 1 by omega, Int.toNat_natCast]
  exact ⟨fun h => a (by omega), fun h => b (fun h' => h ⟨by omega, h'.2⟩)⟩
theorem datOf_get {W N : Int} {l : List (Int × Int)} {i : Nat} {d : Dat} (h : (datOf W N l)[i]? = some d) : ∃ p, l[i]? = some p ∧ d = dayD W N i p := by
  unfold datOf at h
  rw [List.getElem?_mapIdx] at h
  obtain ⟨p, hp, e⟩ := Option.map_eq_some_iff.mp h
  exact ⟨p, hp, e.symm⟩
theorem dat_int {tl : List (Addr × Obj)} {v : Value} {a : Int} (h : DatIn tl v (.int a)) : ∃ t, v = .int a t := by
  cases h; exact ⟨_, rfl⟩
theorem dat_tup4 {tl : List (Addr × Obj)} {v : Value} {a b c e : Int} (h : DatIn tl v (.tuple [.int a, .int b, .int c, .int e])) :
    ∃ T t1 t2 t3 t4 n, v = .ref T ∧ (T, ({ cls := .type "tuple", data := .seq #[.int a t1, .int b t2, .int c t3, .int e t4] n } : Obj)) ∈ tl := by
  cases h with
  | tuple hm hs =>
    cases hs with
    | cons h1 hs => cases hs with
      | cons h2 hs => cases hs with
        | cons h3 hs => cases hs with
          | cons h4 hs =>
            cases hs
            obtain ⟨t1, rfl⟩ := dat_int h1
            obtain ⟨t2, rfl⟩ := dat_int h2
            obtain ⟨t3, rfl⟩ := dat_int h3
            obtain ⟨t4, rfl⟩ := dat_int h4
            exact ⟨_, t1, t2, t3, t4, _, rfl, hm⟩
end Mine
end
section
namespace Mine
/-- the days that are counted: all but 29 February -/
def keep1 : Dat → Bool
  | .tuple (.int a :: .int b :: _) => !(a == 2 && b == 29)
  | _ => true
def keepP (q : (Int × Int) × Nat) : Bool := !(q.1.1 == 2 && q.1.2 == 29)
theorem keep_datOf (W N : Int) (l : List (Int × Int)) : (datOf W N l).filter keep1 = (l.zipIdx.filter keepP).map fun q => dayD W N q.2 q.1 := by
  unfold datOf
  rw [List.mapIdx_eq_zipIdx_map, List.filter_map]
  rfl
def countRow (lp : Bool) (n : Nat) : Bool := match ((outerTab lp 12).zipIdx.filter keepP)[n]? with
  | some (p, i) => decide ((outerTab lp 12)[i]? = some p) && decide ((i : Int) + 1 = ((n : Int) + 1) + bi (decide (59 ≤ (n : Int) + 1) && lp))
  | none => false
theorem countRows : ∀ lp : Bool, ∀ n < 365, n ≠ 58 → countRow lp n = true := by decide +kernel
theorem counted_item (lp : Bool) (W N D : Int) (h1 : 1 ≤ D) (h2 : D ≤ 365) (h3 : D ≠ 59) : ∃ (i : Nat) (mo da : Int),
    ((datOf W N (outerTab lp 12)).filter keep1)[(D - 1).toNat]? = some (dayD W N i (mo, da)) ∧ (outerTab lp 12)[i]? = some (mo, da) ∧ (i : Int) + 1 = D + bi (decide (59 ≤ D) && lp) := by
  obtain ⟨n, hn⟩ : ∃ n : Nat, D = (n : Int) + 1 := ⟨(D - 1).toNat, by omega⟩
  subst hn
  have hr := countRows lp n (by omega) (by omega)
  unfold countRow at hr
  split at hr
  · rename_i p i he
    simp only [Bool.and_eq_true, decide_eq_true_eq] at hr
    refine ⟨i, p.1, p.2, ?_, hr.1, hr.2⟩
    rw [keep_datOf, show ((n : Int) + 1 - 1).toNat = n by omega, List.getElem?_map, he]
    rfl
  · exact absurd hr Bool.false_ne_true
theorem lens_sum (k : Int) : (lens k).sum = 365 + bi (leapB k) := by
  cases h : leapB k
  · rw [lens_no h]; rfl
  · rw [lens_leap h]; rfl
theorem gY_succ (k : Int) : gY (k + 1) = gY k + 365 + bi (leapB k) := by
  have h := leap_iff k
  unfold gY
  rw [fdE _ (by decide), fdE _ (by decide), fdE _ (by decide), fdE _ (by decide), fdE _ (by decide), fdE _ (by decide)]
  cases hb : leapB k
  · rw [hb] at h
    have h' : ¬ (k % 400 = 0 ∨ (k % 4 = 0 ∧ k % 100 ≠ 0)) := fun x => absurd (h.mpr x) (by decide)
    show _ = _ + (if false = true then (1 : Int) else 0)
    rw [if_neg Bool.false_ne_true]
    omega
  · have h' := h.mp hb
    show _ = _ + (if true = true then (1 : Int) else 0)
    rw [if_pos rfl]
    omega
theorem start_fold (n : Nat) (a : Int) (p : Int × Int) : (List.foldl (fun p k => (p.1 + (lens k).sum, (p.2 + (lens k).sum).fmod 7)) p (rangeKs a n)).1 = p.1 + gY (a + n) - gY a := by
  induction n generalizing a p with
  | zero => simp [rangeKs]
  | succ n ih =>
    have e : rangeKs a (n + 1) = a :: rangeKs (a + 1) n := by
      unfold rangeKs
      rw [List.range_succ_eq_map, List.map_cons, List.map_map]
      congr 1
      · simp
      · apply List.map_congr_left
        intro i _
        show a + ((i + 1 : Nat) : Int) = a + 1 + (i : Int)
        omega
    rw [e, List.foldl_cons, ih]
    have := gY_succ a
    rw [lens_sum]
    rw [show a + ((n + 1 : Nat) : Int) = a + 1 + (n : Int) by omega]
    show p.1 + (365 + bi (leapB a)) + _ - _ = _
    omega
theorem year_num (y : Int) : (yearStart y).1 = gY y + 1 - 719163 := by
  unfold yearStart
  rw [start_fold]
  show 10957 + (y - 2000).fdiv 400 * 146097 + _ - _ = _
  rw [fdE _ (by decide), fmE _ (by decide)]
  have h0 : 0 ≤ (y - 2000) % 400 := by omega
  have e1 : ((2000 + (y - 2000) % 400 - 2000).toNat : Int) = (y - 2000) % 400 := by omega
  rw [e1]
  unfold gY
  rw [fdE _ (by decide), fdE _ (by decide), fdE _ (by decide), fdE _ (by decide), fdE _ (by decide), fdE _ (by decide), fdE _ (by decide), fdE _ (by decide), fdE _ (by decide)]
  omega
theorem fdiv_clock (x c : Int) : (x * 86400 + c - c).fdiv 86400 = x := by
  rw [fdE _ (by decide)]; omega
end Mine
end
section
namespace Mine
theorem post_true (args : List WData) {b : Bool} (h : b = true) : (PySem.Challenge.rw_dn0012_01.row.claim).post args (.bool b) args = true :=
  postW_of (by wrow_shape) (by wtm_val) (show (b == true) = true by rw [h]; rfl)
theorem no_raise (args : List WData) : ∀ cls, (PySem.Challenge.rw_dn0012_01.row.claim).raises args cls = false := raisesW_false (by wrow_none_raised)
end Mine
end
section
namespace Mine
abbrev Call1 (kdp : Nat) (w : World) (f : Addr) (vs : List Value) (Post : Heap → Addr → (Str → Option Value) → List (Addr × Obj) → Shared → (Value → Shared → Prop) → Prop) : Prop :=
  ∀ (p : Program) (loose : List Str) (mean : ExcName → Option Value) (mg mb : Str → Option Value) (news : List (Addr × Obj)) (dp un : Nat) (gd : Option (List Code)) (cn : Str) (cs : Scope) (a : Addr) (ccd : Value) (cl : List (Str × Addr)) (outer : List Env) (A₀ : Around) (base h₀ : Heap) (L : Addr) (m : Str → Option Value) (s : Shared) (Q E : Value → Shared → Prop),
    Below A₀ base outer h₀ → Fr h₀ L s.heap m → (Mine.heapK w.params).In h₀ → News h₀ L s.heap news → Top p loose mean mg mb h₀ → cs.kind = .function → dp + kdp < recursionLimit → un + 30 * kdp < cLine →
    Post h₀ L m news s Q →
    wpAny (model PySem.Challenge.rw_dn0012_01.row.prog w) (ktrTop dp un gd cn cs L a ccd cl outer) (call (.ref f) vs) Q E s
theorem lengths_call : ∀ (w : World) (y : Int) (ty : Tok), Call1 1 w 138 [.int y ty] (fun h₀ L m news s Q => ∀ D vs h' tk', IntsAre vs (lens y) → Fr h₀ L h' m → News h₀ L h' ((D, listOf vs.toArray 0) :: news) → (∀ q ∈ news, q.1 < D) → Q (.ref D) { s with heap := h', toks := tk' }) := by
  unfold Call1
  k_fill
  intro w y ty p loose mean mg mb news dp un gd cn cs a ccd cl outer A₀ base h₀ L m s Q E B F X N T hcs hdp hun hret
  refine wpAny_call ?_
  cell_enter
  k_steps
  all_goals (first | (exfalso; omega) | skip)
  all_goals (refine hret _ _ _ _ ?_ (by assumption) (by assumption) (by assumption))
  all_goals (cases hb : leapB y)
  all_goals (first | (exfalso; revert hb; simp [leapB, *]; done) | skip)
  all_goals (simp only [lens, hb, if_true, Bool.false_eq_true, if_false])
  all_goals (repeat (first | exact IntsAre.nil | refine IntsAre.cons _ _ ?_))
end Mine
end
section
namespace Mine
theorem leap_a {y : Int} (_ : y.fmod 4 = 0) (h : y.fmod 100 ≠ 0) : (y.fmod 100 != 0) = leapB y := by simp [leapB, *]
theorem leap_b {y : Int} (_ : y.fmod 4 = 0) (h : y.fmod 100 = 0) : (y.fmod 400 == 0) = leapB y := by
  have : decide (y.fmod 400 = 0) = (y.fmod 400 == 0) := by cases h2 : (y.fmod 400 == 0) <;> simp_all
  simp [leapB, *]
theorem leap_c {y : Int} (h : y.fmod 4 ≠ 0) : (y.fmod 4 == 0) = leapB y := by
  have h4 : y.fmod 400 ≠ 0 := by
    rw [fmE _ (by decide)] at h ⊢
    omega
  simp [leapB, *]
theorem q_bool {Q : Value → Shared → Prop} {a b : Bool} {s : Shared} (h : Q (.bool a) s) (e : a = b) : Q (.bool b) s := e ▸ h
theorem isleap_call : ∀ (w : World) (y : Int) (ty : Tok), Call1 1 w 59 [.int y ty] (fun h₀ L m news s Q => ∀ h' tk', Fr h₀ L h' m → News h₀ L h' news → Q (.bool (leapB y)) { s with heap := h', toks := tk' }) := by
  unfold Call1
  k_fill
  intro w y ty p loose mean mg mb news dp un gd cn cs a ccd cl outer A₀ base h₀ L m s Q E B F X N T hcs hdp hun hret
  refine wpAny_call ?_
  cell_enter
  k_steps
  all_goals (refine q_bool (hret _ _ (by assumption) (by assumption)) ?_; first | exact leap_a (by assumption) (by assumption) | exact leap_b (by assumption) (by assumption) | exact leap_c (by assumption) | exact (leap_a (by assumption) (by assumption)).symm | exact (leap_b (by assumption) (by assumption)).symm | exact (leap_c (by assumption)).symm)
theorem is_leap_call : ∀ (w : World) (y : Int) (ty : Tok), Call1 1 w 107 [.int y ty] (fun h₀ L m news s Q => ∀ h' tk', Fr h₀ L h' m → News h₀ L h' news → Q (.bool (leapB y)) { s with heap := h', toks := tk' }) := by
  unfold Call1
  k_fill
  intro w y ty p loose mean mg mb news dp un gd cn cs a ccd cl outer A₀ base h₀ L m s Q E B F X N T hcs hdp hun hret
  refine wpAny_call ?_
  cell_enter
  k_steps
  all_goals (refine q_bool (hret _ _ (by assumption) (by assumption)) ?_; first | exact leap_a (by assumption) (by assumption) | exact leap_b (by assumption) (by assumption) | exact leap_c (by assumption) | exact (leap_a (by assumption) (by assumption)).symm | exact (leap_b (by assumption) (by assumption)).symm | exact (leap_c (by assumption)).symm)
end Mine
end
section
namespace Mine
local macro_rules | `(tactic| walk_at "call ref") => `(tactic| (k_here; (with_reducible show wpAny _ _ (call (Value.ref 138) [Value.int _ _]) _ _ _); refine' Mine.lengths_call _ _ _ _ _ _ _ _ _ _ _ _ _ _ _ _ _ _ _ _ _ _ _ _ _ _ ?kB ?kF ?kX ?kN ?kT ?kc ?kd ?ku ?_; (case kB => k_asm); (case kF => k_asm); (case kX => k_asm); (case kN => k_asm); (case kT => k_asm); (case kc => first | assumption | rfl); (case kd => ktr_room); (case ku => ktr_units); intro D' vs' h' tk' hI' F' N' l1; (try k_lt l1); (try k_sweep)))
local macro_rules | `(tactic| walk_at "pyIter ref") => `(tactic| (k_of "month" "day" => (refine Mine.Stop.out ?_)))
local macro_rules | `(tactic| walk_at "subscriptTail Call Name cons nil BinOp ref int") => `(tactic| (k_here; refine Mine.Stop.out ?_))
theorem news_two {h₀ h : Heap} {L D T : Addr} {o oT : Obj} {news : List (Addr × Obj)} (N : News h₀ L h ((D, o) :: (T, oT) :: news)) : News h₀ L h ((D, o) :: news) := fun p hp => N p (by
  rcases List.mem_cons.mp hp with h | h
  · exact List.mem_cons.mpr (.inl h)
  · exact List.mem_cons.mpr (.inr (List.mem_cons.mpr (.inr h))))
theorem days_call : ∀ (w : World) (y : Int) (ty : Tok), Call1 3 w 145 [.int y ty] (fun h₀ L m news s Q => ∀ D vs cap tl h' tk', Fr h₀ L h' m → News h₀ L h' ((D, listOf (List.toArray vs) cap) :: (news ++ tl)) → DatAll tl vs (datOf (yearStart y).2 (yearStart y).1 (outerTab (leapB y) 12)) → OwnOff tl (D :: news.map (·.1)) → (∀ p ∈ news, p.1 < D) → Q (.ref D) { s with heap := h', toks := tk' }) := by
  unfold Call1
  k_fill
  intro w y ty p loose mean mg mb news dp un gd cn cs a ccd cl outer A₀ base h₀ L m s Q E B F X N T hcs hdp hun hret
  refine wpAny_call ?_
  cell_enter
  repeat' (first | (k_unfold; (try dsimp only)) | (k_end; wrow_close) | (dsimp only; walk1) | walk1 | (leave1; walk_say "STEP leave1"; try dsimp only) | fail "no step")
  refine Stop.into ?_
  rename_i D hA FA NA lD hB FB NB hC tkC tr ur vr R1 F1 N1 G1
  clear FA NA FB NB G1
  have hW := yearStart_week y
  have lDn := lD.2
  have N2 := news_two N1
  clear N1
  generalize eN : (yearStart y).1 = N0 at *
  generalize eW : (yearStart y).2 = W0 at *
  unfold yearStart at eN eW
  rw [eN, eW] at F1
  try dsimp only at F1
  clear eN eW
  refine' build_loop (vs₀ := []) (cap₀ := 0) (tw₀ := t') (tn₀ := t) D news (Str.ofString "weekday") (Str.ofString "number") [Str.ofString "day"] (fun i => datOf W0 N0 (outerTab (leapB y) i)) (fun i => (W0 + ((outerTab (leapB y) i).length : Nat)).fmod 7) (fun i => N0 + ((outerTab (leapB y) i).length : Nat)) [] rfl R1 (n := 12) (by decide) (by decide) F1 N2 ?_ ?_ ?_ ?_ ?_ ?_ ?_
  · intro p hp; rw [List.append_nil] at hp; exact hp
  · exact .nil
  · exact fun p hp => nomatch hp
  · show some (Value.int W0 t') = some (Value.int ((W0 + ((0 : Nat) : Int)).fmod 7) t'); rw [week_self hW]
  · show some (Value.int N0 t) = some (Value.int (N0 + ((0 : Nat) : Int)) t); rw [Int.add_comm, Int.natCast_zero, Int.zero_add]
  · intro i t vs cap tw tn tl u h tk own hi hd ht o1 o2 F2 N3
    clear F1 N2

    unfold bfr at F2
    try simp only [List.cons_append, List.append_assoc] at N3
    repeat' (first | (k_unfold; (try dsimp only)) | (k_end; wrow_close) | (dsimp only; walk1) | walk1 | (leave1; walk_say "STEP leave1"; try dsimp only) | fail "no step")
    rename_i lF DL vsl hL tkL hIL FL NL lL
    clear lF
    refine Stop.into ?_
    refine int_item (v := (nlen (leapB y) i : Int)) NL (List.mem_cons_self ..) hIL (by omega) (by rw [lens_length]; omega) (by omega) (by rw [show (1 + (i : Int) - 1).toNat = i by omega]; exact lens_getD y i hi) (fun tv => ?_)
    have hlen := nlen_pos (leapB y) i hi
    dsimp only at FL NL ⊢
    repeat' (first | (k_unfold; (try dsimp only)) | (k_end; wrow_close) | (dsimp only; walk1) | walk1 | (leave1; walk_say "STEP leave1"; try dsimp only) | fail "no step")
    refine Stop.into ?_
    rename_i F3 N4 hR tkR tr2 ur2 vr2 R2 F5 N5 G5
    clear F3 N4 G5
    have hLT := tb_ltOf lL.2
    have hD1 : ∀ p ∈ news, p.1 < DL := fun p hp => hLT p (List.mem_append.mpr (.inl hp))
    have hD2 : ∀ p ∈ tl, p.1 < DL := fun p hp => hLT p (List.mem_append.mpr (.inr (List.mem_append.mpr (.inl hp))))
    refine' build_loop (vs₀ := vs) (cap₀ := cap) (tw₀ := tw) (tn₀ := tn) D ((DL, listOf vsl.toArray 0) :: (news ++ own)) (Str.ofString "weekday") (Str.ofString "number") [] (fun j => datOf W0 N0 (innerTab (leapB y) i j)) (fun j => (W0 + ((innerTab (leapB y) i j).length : Nat)).fmod 7) (fun j => N0 + ((innerTab (leapB y) i j).length : Nat)) tl rfl R2 (n := nlen (leapB y) i) (small_one (by omega) (by omega) (by omega) (by omega)) (by rw [rangeSize_nat]; omega) F5 N5 ?_ ?_ (off_inner ht o2 hD2) ?_ ?_ ?_ ?_
    · intro p hp
      simp only [List.mem_cons, List.mem_append] at hp ⊢
      rcases hp with h | (h | h | h) | h <;> simp [h]
    · rw [inner_zero]; exact hd
    · rw [inner_zero]; rfl
    · rw [inner_zero]; rfl
    · intro j t2 vs2 cap2 tw2 tn2 tl2 u2 h2 tk2 own2 hj hd2 ht2 o12 o22 F6 N6
      clear F5 N5
      unfold bfr at F6
      try simp only [List.cons_append, List.append_assoc] at N6
      have hv2 : vs2.toArray.size ≤ sizeLine := by
        have h1 := hd2.length
        have h2 := inner_length (leapB y) i j
        have h3 := outer_length (leapB y) i (by omega)
        rw [datOf_length] at h1
        rw [List.size_toArray, sizeLine_eq]
        omega
      have hn1 : ∀ p ∈ news, p.1 ≠ D := fun p hp => Nat.ne_of_lt (tb_ltOf lDn p hp)
      have hn2 : ∀ p ∈ own, p.1 ≠ D := fun p hp => o1 p hp D (List.mem_cons_self ..)
      have hn3 : ∀ p ∈ tl2, p.1 ≠ D := fun p hp => ht2 p hp D (List.mem_cons_self ..)
      have hn4 : ∀ p ∈ own2, p.1 ≠ D := fun p hp => o12 p hp D (List.mem_cons_self ..)
      have hall : ∀ p ∈ (DL, listOf vsl.toArray 0) :: (news ++ (own ++ (tl2 ++ own2))), p.1 ≠ D := by
        intro p hp
        rcases List.mem_cons.mp hp with rfl | hp
        · exact Nat.ne_of_gt lL.1
        rcases List.mem_append.mp hp with hp | hp
        · exact hn1 p hp
        rcases List.mem_append.mp hp with hp | hp
        · exact hn2 p hp
        rcases List.mem_append.mp hp with hp | hp
        · exact hn3 p hp
        · exact hn4 p hp
      repeat' (first | (k_unfold; (try dsimp only)) | (k_end; wrow_close) | (dsimp only; walk1) | walk1 | (leave1; walk_say "STEP leave1"; try dsimp only) | fail "no step")
      rename_i T hT FT NT lT
      refine' append_K ?k1 ?k2 ?k3 ?_ hv2
      case k1 => k_asm
      case k2 => k_asm
      case k3 => exact Upd.tail (by k_ne) (Upd.head hall)
      intro h' F' N'
      k_sweep
      repeat' (first | (k_unfold; (try dsimp only)) | (k_end; wrow_close) | (dsimp only; walk1) | walk1 | (leave1; walk_say "STEP leave1"; try dsimp only) | fail "no step")
      rename Fr _ _ _ _ => FE
      rename News _ _ _ _ => NE
      have hTL := tb_ltOf lT.2.2
      dsimp only at FE
      rw [inner_week, inner_num] at FE
      rw [List.push_toArray] at NE
      refine build_end (vs := vs2 ++ [.ref T]) (cap := cap2 + 1) ((T, ({ cls := .type "tuple", data := .seq #[.int (1 + (i : Int)) t, .int (1 + (j : Int)) t2, .int ((W0 + ((innerTab (leapB y) i j).length : Nat)).fmod 7) tw2, .int (N0 + ((innerTab (leapB y) i j).length : Nat)) tn2] } : Obj)) :: tl2) FE NE ?_ ?_ o12 (off_own o22 fun p hp => hTL p (by simp [hp])) ?_ (off_new ht2 lT.1 ?_) ?_ ?_ ?_
      · intro p hp
        simp only [List.cons_append, List.append_assoc, List.mem_cons, List.mem_append] at hp ⊢
        rcases hp with h | h | h | h | h | h
        · exact .inr (.inl h)
        · exact .inr (.inr (.inl h))
        · exact .inr (.inr (.inr (.inl h)))
        · exact .inr (.inr (.inr (.inr (.inl h))))
        · exact .inl h
        · exact .inr (.inr (.inr (.inr (.inr (.inl h)))))
      · intro p hp
        simp only [List.mem_cons, List.mem_append]
        exact .inr (.inr (.inr (.inr (.inr (.inr hp)))))
      · rw [inner_succ, datOf_snoc]
        exact DatAll.append (DatAll.mono (fun p hp => .tail _ hp) hd2) (.one (DatIn.tuple (vs := [_, _, _, _]) (n := 0) (.head _) (.cons (.int _ _) (.cons (.int _ _) (.cons (.int _ _) (.cons (.int _ _) .nil))))))
      · intro p hp
        rcases List.mem_cons.mp hp with rfl | hp
        · exact lT.2.1
        · rcases List.mem_append.mp hp with hp | hp
          · exact hTL p (by simp [hp])
          · exact hTL p (by simp [hp])
      · exact ⟨_, by with_unfolding_all rfl⟩
      · exact ⟨_, by with_unfolding_all rfl⟩
      · intro z h1 h2 h3 h4
        simp [h1, h2, h3]
    · intro vs2 cap2 tw2 tn2 tl2 u2 v2 h2 tk2 hd2 ht2 F6 N6
      clear F5 N5
      unfold bfr at F6
      try simp only [List.cons_append, List.append_assoc] at N6
      repeat' (first | (k_unfold; (try dsimp only)) | (k_end; wrow_close) | (dsimp only; walk1) | walk1 | (leave1; walk_say "STEP leave1"; try dsimp only) | fail "no step")
      refine build_end (vs := vs2) (cap := cap2) tl2 F6 N6 ?_ ?_ o1 (off_outer ht2).2 hd2 (off_outer ht2).1 ?_ ?_ ?_
      · intro p hp
        simp only [List.cons_append, List.append_assoc, List.mem_cons, List.mem_append] at hp ⊢
        rcases hp with h | h | h
        · exact .inl h
        · exact .inr (.inr (.inl h))
        · exact .inr (.inr (.inr (.inr h)))
      · intro p hp
        simp only [List.mem_cons, List.mem_append]
        exact .inr (.inr (.inr (.inl hp)))
      · exact ⟨_, by with_unfolding_all rfl⟩
      · exact ⟨_, by with_unfolding_all rfl⟩
      · intro z h1 h2 h3 h4
        have h5 : z ≠ Str.ofString "day" := by
          intro e
          rw [e] at h4
          exact absurd h4 (by decide)
        simp [h1, h2, h3, h5]
  · intro vs cap tw tn tl u v h tk hd ht F2 N3
    clear F1 N2
    unfold bfr at F2
    try simp only [List.cons_append, List.append_assoc] at N3
    repeat' (first | (k_unfold; (try dsimp only)) | (k_end; wrow_close) | (dsimp only; walk1) | walk1 | (leave1; walk_say "STEP leave1"; try dsimp only) | fail "no step")
    exact hret D vs cap tl h tk (by assumption) (by assumption) hd ht (tb_ltOf lDn)
end Mine
end
section
namespace Mine
local macro_rules | `(tactic| walk_at "call ref cons nil") => `(tactic| (k_here; (with_reducible show wpAny _ _ (call (Value.ref 107) [Value.int _ _]) _ _ _); refine' Mine.is_leap_call _ _ _ _ _ _ _ _ _ _ _ _ _ _ _ _ _ _ _ _ _ _ _ _ _ _ ?kB ?kF ?kX ?kN ?kT ?kc ?kd ?ku ?_; (case kB => k_asm); (case kF => k_asm); (case kX => k_asm); (case kN => k_asm); (case kT => k_asm); (case kc => first | assumption | rfl); (case kd => ktr_room); (case ku => ktr_units); intro h' tk' F' N'; (try dsimp only); (try k_sweep)))
local macro_rules | `(tactic| walk_at "subscriptTail Name Name ref int") => `(tactic| (k_here; (refine' Mine.topInt ?kF ?kX ?kl ?ki ?kv ?k0 ?k1 ?kf ?_; (case kF => k_asm); (case kX => k_asm); (case kl => k_dflt k_is); (case kv => assumption); (case ki => repeat (first | exact IntsAre.nil | refine IntsAre.cons _ _ ?_)); (case k0 => omega); (case k1 => (simp only [List.length_cons, List.length_nil]; omega)); (case kf => omega); intro t')))
theorem dim_call : ∀ (w : World) (y mo D : Int) (ty tm : Tok), 1 ≤ mo → mo ≤ 12 → dimL.getD mo.toNat 0 = D → Call1 2 w 121 [.int y ty, .int mo tm] (fun h₀ L m news s Q => ∀ t h' tk', Fr h₀ L h' m → News h₀ L h' news → Q (.int (nlen (leapB y) (mo - 1).toNat : Int) t) { s with heap := h', toks := tk' }) := by
  unfold Call1
  k_fill
  intro w y mo D ty tm hm0 hm1 hD p loose mean mg mb news dp un gd cn cs a ccd cl outer A₀ base h₀ L m s Q E B F X N T hcs hdp hun hret
  obtain ⟨hv1, hv2⟩ := dim_val (leapB y) mo hm0 hm1
  refine wpAny_call ?_
  cell_enter
  repeat' (first | (k_unfold; (try dsimp only)) | (k_end; wrow_close) | (dsimp only; walk1) | walk1 | (leave1; walk_say "STEP leave1"; try dsimp only) | fail "no step")
  all_goals (refine q_int (hret _ _ _ (by assumption) (by assumption)) ?_)
  all_goals first | exact (hv1 (by assumption) (by assumption)).symm | exact (hv2 (fun hz => by have h1 := hz.1; have h2 := hz.2; first | omega | simp_all)).symm.trans (by assumption)
end Mine
end
section
namespace Mine
local macro_rules | `(tactic| walk_at "call ref cons nil") => `(tactic| (k_here; (with_reducible show wpAny _ _ (call (Value.ref 107) [Value.int _ _]) _ _ _); refine' Mine.is_leap_call _ _ _ _ _ _ _ _ _ _ _ _ _ _ _ _ _ _ _ _ _ _ _ _ _ _ ?kB ?kF ?kX ?kN ?kT ?kc ?kd ?ku ?_; (case kB => k_asm); (case kF => k_asm); (case kX => k_asm); (case kN => k_asm); (case kT => k_asm); (case kc => first | assumption | rfl); (case kd => ktr_room); (case ku => ktr_units); intro h' tk' F' N'; (try dsimp only); (try k_sweep)))
local macro_rules | `(tactic| walk_at "call ref cons nil") => `(tactic| (k_here; (with_reducible show wpAny _ _ (call (Value.ref 121) [Value.int _ _, Value.int _ _]) _ _ _); refine' Mine.dim_call _ _ _ _ _ _ ?h0 ?h1 rfl _ _ _ _ _ _ _ _ _ _ _ _ _ _ _ _ _ _ _ _ _ _ _ ?kB ?kF ?kX ?kN ?kT ?kc ?kd ?ku ?_; (case h0 => omega); (case h1 => omega); (case kB => k_asm); (case kF => k_asm); (case kX => k_asm); (case kN => k_asm); (case kT => k_asm); (case kc => first | assumption | rfl); (case kd => ktr_room); (case ku => ktr_units); intro t' h' tk' F' N'; (try dsimp only); (try k_sweep)))
local macro_rules | `(tactic| walk_at "subscriptTail Name Name ref int") => `(tactic| (k_here; (refine' Mine.topInt ?kF ?kX ?kl ?ki ?kv ?k0 ?k1 ?kf ?_; (case kF => k_asm); (case kX => k_asm); (case kl => k_dflt k_is); (case kv => assumption); (case ki => repeat (first | exact IntsAre.nil | refine IntsAre.cons _ _ ?_)); (case k0 => omega); (case k1 => (simp only [List.length_cons, List.length_nil]; omega)); (case kf => omega); intro t')))
local macro_rules | `(tactic| walk_at "binaryOp RShift int int") => `(tactic| (k_here; (refine' Mine.rshift_is ?k0 ?kv ?_; (case k0 => decide); (case kv => assumption)); intro t' tk'; (try dsimp only)))
local macro_rules | `(tactic| walk_at "call builtin:divmod") => `(tactic| (k_here; (refine' Mine.divmod_is ?q ?r ?kF ?kN ?kb ?kp ?_; (case q => assumption); (case r => assumption); (case kF => k_asm); (case kN => k_asm); (case kb => decide); (case kp => first | exact Or.inl (PyProof.noPylong_of_log2 (by decide +kernel)) | exact Or.inl (PyProof.noPylong_small (by omega)) | exact Or.inr (PySem.PylongRoom.of (by first | assumption | (refine PySem.Heap.NoLimit.keeps ?_ (PyProof.Rows.Fr.keep (by assumption)); first | assumption | exact PyProof.Rows.Glob.nolimit (by assumption) | exact PyProof.Rows.Top.nolimit (by assumption))))); intro T' t1' t2' h' tk' F' N' l1; (try dsimp only); (try k_lt l1); (try k_sweep))))
local macro_rules | `(tactic| walk_at "exec If BoolOp") => `(tactic| (k_here; (fail_if_success (have hM9 : Mine.Behind := by with_reducible assumption)); (refine Mine.Stop.out ?_)))
local macro_rules | `(tactic| walk_at "eval BoolOp And cons") => `(tactic| (k_here; (fail_if_success (have hM9 : Mine.Inside := by with_reducible assumption)); (refine Mine.Stop.out ?_)))
local macro_rules | `(tactic| walk_at "compareOp Eq bool bool") => `(tactic| (k_here; (refine Mine.eq_same ?_)))
local macro_rules | `(tactic| walk_at "binaryOp Add int bool") => `(tactic| (k_here; (refine Mine.add_bi ?_); intro t' tk'; (try dsimp only)))
theorem ord_call : ∀ (w : World) (y k n mo da : Int) (tn : Tok), n - 1 = gY y + k → 0 ≤ k → (outerTab (leapB y) 12)[k.toNat]? = some (mo, da) → Call1 3 w 131 [.int n tn] (fun h₀ L m news s Q => ∀ T t1 t2 t3 h' tk', Fr h₀ L h' m → News h₀ L h' ((T, ({ cls := .type "tuple", data := .seq #[.int y t1, .int mo t2, .int da t3] } : Obj)) :: news) → (∀ q ∈ news, q.1 < T) → Q (.ref T) { s with heap := h', toks := tk' }) := by
  unfold Call1
  k_fill
  intro w y k n mo da tn hn hk0 htab p loose mean mg mb news dp un gd cn cs a ccd cl outer A₀ base h₀ L m s Q E B F X N T hcs hdp hun hret
  have hday := tab_day _ _ _ _ hk0 htab
  obtain ⟨q, b, c, d, e, r1, r2, r3, e1, e2, e3, e4, e5, e6, e7, e8, hcase⟩ := ord_parts y k hk0 (by rcases hday with h | h; exact .inl h; exact .inr ⟨h.1, h.2.1⟩)
  rw [← hn] at e1 e2
  refine wpAny_call ?_
  cell_enter
  repeat' (first | (k_unfold; (try dsimp only)) | (k_end; wrow_close) | (dsimp only; walk1) | walk1 | (leave1; walk_say "STEP leave1"; try dsimp only) | fail "no step")
  refine Stop.into ?_
  rename Fr _ _ _ (fun y => if y = Str.ofString "year" then _ else _) => F1
  have hBehind := Behind.mk
  rcases hcase with ⟨hdb, he, hy, hk⟩ | ⟨hd4, hb4, he, hk, hy, hl⟩
  · subst he
    have hy' := hy
    obtain ⟨rfl, rfl⟩ : mo = 12 ∧ da = 31 := by
      rcases hday with h | ⟨_, _, h1, h2⟩
      · exact absurd h (by omega)
      · exact ⟨h1, h2⟩
    rcases hdb with rfl | rfl
    · rw [hy] at F1
      repeat' (first | (k_unfold; (try dsimp only)) | (k_end; wrow_close) | (dsimp only; walk1) | walk1 | (leave1; walk_say "STEP leave1"; try dsimp only) | fail "no step")
      rename Fr h₀ L _ m => FZ
      rename News h₀ L _ (_ :: _) => NZ
      rename (_ < _ ∧ _ < _ ∧ _ < _ ∧ _ < _ ∧ AllLt _ _) => lZ
      rw [show y + 1 - 1 = y by omega] at NZ
      exact hret _ _ _ _ _ _ FZ (kst_newsOf NZ (fun p hp => by rcases List.mem_cons.mp hp with h | h; exact List.mem_cons.mpr (.inl h); simp [h])) (tb_ltOf lZ.2.2.2.2)
    · rw [hy] at F1
      repeat' (first | (k_unfold; (try dsimp only)) | (k_end; wrow_close) | (dsimp only; walk1) | walk1 | (leave1; walk_say "STEP leave1"; try dsimp only) | fail "no step")
      all_goals (
        rename Fr h₀ L _ m => FZ
        rename News h₀ L _ (_ :: _) => NZ
        rename (_ < _ ∧ _ < _ ∧ _ < _ ∧ _ < _ ∧ AllLt _ _) => lZ
        rw [show y + 1 - 1 = y by omega] at NZ
        exact hret _ _ _ _ _ _ FZ (kst_newsOf NZ (fun p hp => by rcases List.mem_cons.mp hp with h | h; exact List.mem_cons.mpr (.inl h); simp [h])) (tb_ltOf lZ.2.2.2.2))
  · rw [hy] at F1
    subst he
    obtain ⟨M, P, hM, hm0, hm1, hP, hway⟩ := ord_tab (leapB y) e mo da hk0 hk htab
    clear hday htab
    repeat' (first | (k_unfold; (try dsimp only)) | (k_end; wrow_close) | (dsimp only; walk1) | walk1 | (leave1; walk_say "STEP leave1"; try dsimp only) | fail "no step")
    all_goals try (first | exact absurd (by assumption) hd4 | exact absurd (by assumption) hb4)
    refine Stop.into ?_
    refine bool_val (leapB y) ?_ ?_
    · have hInside := Inside.mk
      repeat' (first | (k_unfold; (try dsimp only)) | (k_end; wrow_close) | (dsimp only; walk1) | walk1 | (leave1; walk_say "STEP leave1"; try dsimp only) | fail "no step")
      all_goals (refine BoolEnd.mk ?_; rw [Bool.eq_iff_iff, hl]; simp only [bne_iff_ne, beq_iff_eq]; omega)
    intro tk1
    dsimp only
    repeat' (first | (k_unfold; (try dsimp only)) | (k_end; wrow_close) | (dsimp only; walk1) | walk1 | (leave1; walk_say "STEP leave1"; try dsimp only) | fail "no step")
    refine Stop.into ?_
    refine bool_val (decide (2 < M) && leapB y) ?_ ?_
    · have hInside := Inside.mk
      repeat' (first | (k_unfold; (try dsimp only)) | (k_end; wrow_close) | (dsimp only; walk1) | walk1 | (leave1; walk_say "STEP leave1"; try dsimp only) | fail "no step")
      · have h2 : 2 < M := by omega
        exact BoolEnd.mk (by simp [h2])
      · have h2 : ¬ 2 < M := by omega
        exact BoolEnd.mk (by simp [h2])
    intro tk1
    dsimp only
    rcases hway with ⟨w1, w2, w3, w4⟩ | ⟨w1, w2, D, hD, w3, w4, w5, w6⟩
    · clear hP hM
      repeat' (first | (k_unfold; (try dsimp only)) | (k_end; wrow_close) | (dsimp only; walk1) | walk1 | (leave1; walk_say "STEP leave1"; try dsimp only) | fail "no step")
      all_goals try (first | exact absurd w1 (by omega))
      rename Fr h₀ L _ m => FZ
      rename News h₀ L _ (_ :: _) => NZ
      rename (_ < _ ∧ _ < _ ∧ _ < _ ∧ _ < _ ∧ AllLt _ _) => lZ
      rw [w4, w3] at NZ
      exact hret _ _ _ _ _ _ FZ (kst_newsOf NZ (fun p hp => by rcases List.mem_cons.mp hp with h | h; exact List.mem_cons.mpr (.inl h); simp [h])) (tb_ltOf lZ.2.2.2.2)
    · clear hP hM
      repeat' (first | (k_unfold; (try dsimp only)) | (k_end; wrow_close) | (dsimp only; walk1) | walk1 | (leave1; walk_say "STEP leave1"; try dsimp only) | fail "no step")
      all_goals try (first | exact absurd (show P + bi (decide (2 < M) && leapB y) ≤ e by omega) w1)
      refine Stop.into ?_
      refine bool_val (decide (M - 1 = 2) && leapB y) ?_ ?_
      · have hInside := Inside.mk
        repeat' (first | (k_unfold; (try dsimp only)) | (k_end; wrow_close) | (dsimp only; walk1) | walk1 | (leave1; walk_say "STEP leave1"; try dsimp only) | fail "no step")
        · have h2 : M - 1 = 2 := by omega
          exact BoolEnd.mk (by simp [h2])
        · have h2 : ¬ M - 1 = 2 := by omega
          exact BoolEnd.mk (by simp [h2])
      intro tk1
      dsimp only
      repeat' (first | (k_unfold; (try dsimp only)) | (k_end; wrow_close) | (dsimp only; walk1) | walk1 | (leave1; walk_say "STEP leave1"; try dsimp only) | fail "no step")
      rename Fr h₀ L _ m => FZ
      rename News h₀ L _ (_ :: _) => NZ
      rename (_ < _ ∧ _ < _ ∧ _ < _ ∧ _ < _ ∧ AllLt _ _) => lZ
      rw [w6, w5] at NZ
      exact hret _ _ _ _ _ _ FZ (kst_newsOf NZ (fun p hp => by rcases List.mem_cons.mp hp with h | h; exact List.mem_cons.mpr (.inl h); simp [h])) (tb_ltOf lZ.2.2.2.2)
end Mine
end
section
namespace Mine
local macro_rules | `(tactic| walk_at "call ref cons nil") => `(tactic| (k_here; (with_reducible show wpAny _ _ (call (Value.ref 59) [Value.int _ _]) _ _ _); refine' Mine.isleap_call _ _ _ _ _ _ _ _ _ _ _ _ _ _ _ _ _ _ _ _ _ _ _ _ _ _ ?kB ?kF ?kX ?kN ?kT ?kc ?kd ?ku ?_; (case kB => k_asm); (case kF => k_asm); (case kX => k_asm); (case kN => k_asm); (case kT => k_asm); (case kc => first | assumption | rfl); (case kd => ktr_room); (case ku => ktr_units); intro h' tk' F' N'; (try dsimp only); (try k_sweep)))
theorem before_call : ∀ (w : World) (y : Int) (ty : Tok), Call1 1 w 52 [.int y ty] (fun h₀ L m news s Q => ∀ t h' tk', Fr h₀ L h' m → News h₀ L h' news → Q (.int (gY y - 719163) t) { s with heap := h', toks := tk' }) := by
  unfold Call1
  k_fill
  intro w y ty p loose mean mg mb news dp un gd cn cs a ccd cl outer A₀ base h₀ L m s Q E B F X N T hcs hdp hun hret
  refine wpAny_call ?_
  cell_enter
  repeat' (first | (k_unfold; (try dsimp only)) | (k_end; wrow_close) | (dsimp only; walk1) | walk1 | (leave1; walk_say "STEP leave1"; try dsimp only) | fail "no step")
  exact hret _ _ _ (by assumption) (by assumption)
local macro_rules | `(tactic| walk_at "call ref cons nil") => `(tactic| (k_here; (with_reducible show wpAny _ _ (call (Value.ref 52) [Value.int _ _]) _ _ _); refine' Mine.before_call _ _ _ _ _ _ _ _ _ _ _ _ _ _ _ _ _ _ _ _ _ _ _ _ _ _ ?kB ?kF ?kX ?kN ?kT ?kc ?kd ?ku ?_; (case kB => k_asm); (case kF => k_asm); (case kX => k_asm); (case kN => k_asm); (case kT => k_asm); (case kc => first | assumption | rfl); (case kd => ktr_room); (case ku => ktr_units); intro t' h' tk' F' N'; (try dsimp only); (try k_sweep)))
theorem epoch_call : ∀ (w : World) (x dx : Addr) (y d hh mi se : Int) (ty td th tm ts : Tok) (rest : List (Addr × Obj)), Call1 3 w 82 [.ref x, .int y ty] (fun h₀ L m news s Q => (x, ({ cls := Value.ref 86, dict := some dx, slots := #[some (.int d td), some (.int hh th), some (.bool true), some (.int mi tm), some (.int se ts)] } : Obj)) ∈ news ∧ (dx, dictOf [] 0) ∈ news ∧ (∀ t h' tk', Fr h₀ L h' m → News h₀ L h' news → Q (.int ((gY y - 719163 + (d + bi (decide (59 ≤ d) && leapB y))) * 86400 + (hh * 3600 + mi * 60 + se)) t) { s with heap := h', toks := tk' })) := by
  unfold Call1
  k_fill
  intro w x dx y d hh mi se ty td th tm ts rest p loose mean mg mb news dp un gd cn cs a ccd cl outer A₀ base h₀ L m s Q E B F X N T hcs hdp hun hret
  obtain ⟨hx, hdx, hret⟩ := hret
  have N2 : News h₀ L s.heap ((x, ({ cls := Value.ref 86, dict := some dx, slots := #[some (.int d td), some (.int hh th), some (.bool true), some (.int mi tm), some (.int se ts)] } : Obj)) :: (dx, dictOf [] 0) :: news) := fun p hp => by
    rcases List.mem_cons.mp hp with rfl | hp
    · exact N _ hx
    rcases List.mem_cons.mp hp with rfl | hp
    · exact N _ hdx
    · exact N _ hp
  clear N
  refine wpAny_call ?_
  cell_enter
  repeat' (first | (k_unfold; (try dsimp only)) | (k_end; wrow_close) | (dsimp only; walk1) | walk1 | (leave1; walk_say "STEP leave1"; try dsimp only) | fail "no step")
  all_goals (rename Fr h₀ L _ m => FZ; rename News h₀ L _ (_ :: _) => NZ)
  all_goals (refine q_int (hret _ _ _ FZ (kst_newsOf NZ fun p hp => List.mem_cons.mpr (.inr (List.mem_cons.mpr (.inr hp))))) ?_)
  all_goals simp [bi, *]
theorem epoch_at {w : World} {x dx : Addr} {y d hh mi se : Int} {ty td th tm ts : Tok} {p : Program} {loose : List Str} {mean : ExcName → Option Value} {mg mb : Str → Option Value} {news : List (Addr × Obj)} {dp un : Nat} {gd : Option (List Code)} {cn : Str} {cs : Scope} {a : Addr} {ccd : Value} {cl : List (Str × Addr)} {outer : List Env} {A₀ : Around} {base h₀ : Heap} {L : Addr} {m : Str → Option Value} {s : Shared} {Q E : Value → Shared → Prop}
    (hx : (x, ({ cls := Value.ref 86, dict := some dx, slots := #[some (.int d td), some (.int hh th), some (.bool true), some (.int mi tm), some (.int se ts)] } : Obj)) ∈ news) (hdx : (dx, dictOf [] 0) ∈ news)
    (B : Below A₀ base outer h₀) (F : Fr h₀ L s.heap m) (X : (Mine.heapK w.params).In h₀) (N : News h₀ L s.heap news) (T : Top p loose mean mg mb h₀) (hcs : cs.kind = .function) (hdp : dp + 3 < recursionLimit) (hun : un + 30 * 3 < cLine)
    (hret : ∀ t h' tk', Fr h₀ L h' m → News h₀ L h' news → Q (.int ((gY y - 719163 + (d + bi (decide (59 ≤ d) && leapB y))) * 86400 + (hh * 3600 + mi * 60 + se)) t) { s with heap := h', toks := tk' }) :
    wpAny (model PySem.Challenge.rw_dn0012_01.row.prog w) (ktrTop dp un gd cn cs L a ccd cl outer) (call (.ref 82) [.ref x, .int y ty]) Q E s :=
  epoch_call w x dx y d hh mi se ty td th tm ts [] p loose mean mg mb news dp un gd cn cs a ccd cl outer A₀ base h₀ L m s Q E B F X N T hcs hdp hun ⟨hx, hdx, hret⟩
end Mine
end
local macro_rules | `(tactic| walk_at "compareOp In int ref") => `(tactic| (k_here; (with_reducible show wpAny _ _ (compareOp CmpOp.In (Value.int _ _) (Value.ref _)) _ _ _); (rename IsRange _ _ _ _ _ _ _ _ => hR9); (refine Mine.in_range hR9 ?_); (try clear hR9)))
local macro_rules | `(tactic| walk_at "leaving ref") => `(tactic| (k_here; (refine' leave_raiseK ?k1 (Heap.MadeExc.of (by assumption)) ?k2 ?k3 ?_; (case k1 => assumption); (case k2 => assumption); (case k3 => k_asm); k_whole; intro h' t' R' U'; (try dsimp only [InitBack] at R' U' ⊢))))
local macro_rules | `(tactic| walk_at "call type:range") => `(tactic| (k_here; (with_reducible show wpAny _ _ (call (Value.type "range") [Value.int _ _, Value.int _ _]) _ _ _); (refine' range2_rows ?k1 ?k2 ?_; (case k1 => k_asm); (case k2 => k_asm); k_whole); intro h' tk' t' u' v' R' F' N' G'; (try clear G'); (try k_sweep)))
local macro_rules | `(tactic| walk_at "exec Assign cons ListComp") => `(tactic| (k_here; (refine Mine.Stop.out ?_)))
local macro_rules | `(tactic| walk_at "call ref cons nil") => `(tactic| (k_here; (with_reducible show wpAny _ _ (call (Value.ref 145) [Value.int _ _]) _ _ _); refine' Mine.days_call _ _ _ _ _ _ _ _ _ _ _ _ _ _ _ _ _ _ _ _ _ _ _ _ _ _ ?kB ?kF ?kX ?kN ?kT ?kc ?kd ?ku ?_; (case kB => k_asm); (case kF => k_asm); (case kX => k_asm); (case kN => k_asm); (case kT => k_asm); (case kc => first | rfl | assumption); (case kd => ktr_room); (case ku => ktr_units); intro D' vs' cap' tl' h' tk' F' N' hD' hO' l1; (try dsimp only); (try k_lt l1)))
local macro_rules | `(tactic| walk_at "exec If Compare") => `(tactic| (k_here; (fail_if_success (have hM9 : Mine.Behind := by with_reducible assumption)); (refine Mine.Stop.out ?_)))
local macro_rules | `(tactic| walk_at "CompSrcT") => `(tactic| (refine Mine.Stop.out ?_))
local macro_rules | `(tactic| walk_at "KeepEnd") => `(tactic| (fail "stop"))
local macro_rules | `(tactic| walk_at "call ref cons nil") => `(tactic| (k_here; (with_reducible show wpAny _ _ (call (Value.ref 82) [Value.ref _, Value.int _ _]) _ _ _); refine' Mine.epoch_at ?hx ?hdx ?kB ?kF ?kX ?kN ?kT ?kc ?kd ?ku ?_; (case kB => k_asm); (case kF => k_asm); (case kX => k_asm); (case kN => k_asm); (case hx => k_mem); (case hdx => k_mem); (case kT => k_asm); (case kc => first | rfl | assumption); (case kd => ktr_room); (case ku => ktr_units); intro t' h' tk' F' N'; (try dsimp only); (try k_sweep)))
local macro_rules | `(tactic| walk_at "call ref cons nil") => `(tactic| (k_here; (with_reducible show wpAny _ _ (call (Value.ref 131) [Value.int _ _]) _ _ _); refine' Mine.ord_call _ _ _ _ _ _ _ ?hn ?hk ?ht _ _ _ _ _ _ _ _ _ _ _ _ _ _ _ _ _ _ _ _ _ _ _ ?kB ?kF ?kX ?kN ?kT ?kc ?kd ?ku ?_; (case hn => assumption); (case hk => assumption); (case ht => assumption); (case kB => k_asm); (case kF => k_asm); (case kX => k_asm); (case kN => k_asm); (case kT => k_asm); (case kc => first | rfl | assumption); (case kd => ktr_room); (case ku => ktr_units); intro T' t1' t2' t3' h' tk' F' N' l1; (try dsimp only); (try k_lt l1); (try k_sweep)))
theorem Mine.list_item {prog : Program} {w : World} {A : Around} {E : Value → Shared → Prop} {s : Shared} {h₀ : Heap} {L l : Addr} {value slice : PySem.Expr} {news : List (Addr × Obj)} {us : List Value} {n : Nat} {k : Int} {v : Value} {u : Tok} {Q : Value → Shared → Prop} (N : News h₀ L s.heap news) (hm : (l, ({ cls := .type "list", data := .seq us.toArray n } : Obj)) ∈ news)
    (hx : us[k.toNat]? = some v) (h0 : 0 ≤ k) (hfit : k < 2 ^ 63) (h : Q v s)
    (hs : subscripted slice false (.ref l) (.int k u) = operate [.ref l, .int k u] (getItem (.ref l) (.int k u)) := by with_unfolding_all rfl) :
    wpAny (model prog w) A (subscriptTail value slice (.ref l) (.int k u)) Q E s := by
  have hl : s.heap.IsList l us.toArray := ⟨_, (N _ hm).1, rfl, n, rfl⟩
  exact tail_any hl.typeIs slot_list_getitem.lookup (wpAny_getItem_list hl h0 hfit (by simpa using hx) h) hs
local macro_rules | `(tactic| walk_at "subscriptTail Name BinOp ref int") => `(tactic| (k_here; (refine' Mine.list_item ?kN ?km ?kx ?k0 ?kf ?_; (case kN => k_asm); (case km => k_mem); (case kx => assumption); (case k0 => omega); (case kf => omega); k_whole)))
local macro_rules | `(tactic| walk_at "subscriptTail Name Slice ref ref") => `(tactic| (k_here; (refine' Mine.cut2c ?F ?N ?m ?a ?_ ?s ?t; (case F => k_asm); (case N => k_asm); (case m => k_mem); (case a => rfl); (case s => intro _; with_unfolding_all rfl); (case t => intro _; with_unfolding_all rfl)); intro D' h' F' N' l1; (try dsimp only); (try k_lt l1)))
theorem Mine.news_cons {h₀ h : Heap} {L : Addr} {l : List (Addr × Obj)} {p : Addr × Obj} (hp : p ∈ l) (N : News h₀ L h l) : News h₀ L h (p :: l) := fun q hq => by
  rcases List.mem_cons.mp hq with rfl | hq
  · exact N _ hp
  · exact N _ hq
local macro_rules | `(tactic| walk_at "subscriptTail BinOp Call Add BinOp Slice ref ref") => `(tactic| (k_here; (refine kba_turn (value' := PySem.Expr.Name (PySem.Str.ofString "_") ⟨0, 0, 0, 0⟩) (fun _ => rfl) ?_)))
local macro_rules | `(tactic| wrow_close) => `(tactic| (w_end; (with_reducible show GoodW _ _ _ _ _ (.ok (.ret (.bool _))) _); refine goodW_bool (by assumption) (by assumption) (Mine.no_raise _) (Mine.post_true _ ?_); first | (with_reducible rfl) | exact decide_eq_true (by omega) | (simp only [Bool.not_eq_true', decide_eq_false_iff_not]; omega) | (exfalso; omega)))
theorem PySem.Challenge.cw_dn0012_01_holds : PySem.Challenge.rw_dn0012_01.Holds := by
  w_on
  o_law
  rename_i hsaid
  refine holds_open (q := Mine.view) (loose := [Str.ofString "EPOCHORDINAL", Str.ofString "_DayOffset", Str.ofString "_DAYS_IN_MONTH", Str.ofString "_DAYS_BEFORE_MONTH", Str.ofString "_DI400Y", Str.ofString "_DI100Y", Str.ofString "_DI4Y"])
    (Xt := fun s => xlAt Mine.view [(Str.ofString "EPOCHORDINAL", WData.int 719163), (Str.ofString "_DI400Y", WData.int 146097), (Str.ofString "_DI100Y", WData.int 36524), (Str.ofString "_DI4Y", WData.int 1461)] s && recOk (RowW.records PySem.Challenge.rw_dn0012_01.row.toRowW) s)
    (XP := XL Mine.view [(Str.ofString "EPOCHORDINAL", WData.int 719163), (Str.ofString "_DI400Y", WData.int 146097), (Str.ofString "_DI100Y", WData.int 36524), (Str.ofString "_DI4Y", WData.int 1461)])
    (Yf := Hook.obs (kHook Mine.heapK Mine.heapA (fun _ => by kernel_rfl))) (Ya := Hook.val (kHook Mine.heapK Mine.heapA (fun _ => by kernel_rfl))) (YP := Hook.says (kHook Mine.heapK Mine.heapA (fun _ => by kernel_rfl))) (N := 3612)
    ?hl (Hook.of _) (Hook.keeps _) (fun s e => xl_of s (Bool.and_eq_true_iff.mp e).1) XL.keeps (by rfl) (by rfl) (by rfl) (fun s e => recFacts_of (Bool.and_eq_true_iff.mp e).2) (by rfl) (by first | assumption | decide +kernel) (by decide +kernel) ⟨rfl, rfl, rfl, rfl, rfl, by decide +kernel⟩ ?hw ?hc
  case hl => exact Mine.left_of "special-get-raises" Mine.ends_f Mine.ends_t
  case hw => w_witness2
  case' hc => skip
  clear hsaid
  k_go0
  (all_goals try k_fold)
  k_steps
  rename IntsAre _ (List.take 5 _) => hT5
  obtain ⟨year, a, hour, minute, second, ty, ta, th, tm, ts, rfl⟩ := Mine.ints5 hT5
  clear hT5
  rename Fr _ _ _ _ => F9
  rename News _ _ _ _ => N9
  with_unfolding_all refine' Mine.unpackL (xs := [(Str.ofString "year", _), (Str.ofString "a", _), (Str.ofString "hour", _), (Str.ofString "minute", _), (Str.ofString "second", _)]) F9 N9 ?k3 ?k4 ?k5 ?k6 ?k7 ?k8 ?_
  case k3 => exact News.isList N9 (by k_mem)
  case k4 => exact rfl
  case k5 => exact rfl
  case k6 => exact rfl
  case k7 => exact rfl
  case k8 => exact rfl
  intro h' tk' F' N'
  dsimp only [Mine.updN] at F'
  clear F9 N9
  repeat' (first | (k_unfold; (try dsimp only)) | (k_end; wrow_close) | (dsimp only; walk1) | walk1 | (leave1; walk_say "STEP leave1"; try dsimp only) | fail "no step")
  refine Mine.Stop.into ?_
  have hBehind := Mine.Behind.mk
  have hlo := fmod_lo (a + 1) (n := 366) (by decide)
  have hhi := fmod_hi (a + 1) (n := 366) (by decide)
  generalize hd0 : (a + 1).fmod 366 = d0 at *
  clear hd0
  rename Fr _ _ _ _ => F9
  rename News _ _ _ _ => N9
  obtain ⟨D, hD⟩ : ∃ D, D = if 59 ≤ d0 then d0 + 1 else d0 := ⟨_, rfl⟩
  refine Mine.d_join (Str.ofString "d") D F9 N9 ?_ ?_
  · repeat' (first | (k_unfold; (try dsimp only)) | (k_end; wrow_close) | (dsimp only; walk1) | walk1 | (leave1; walk_say "STEP leave1"; try dsimp only) | fail "no step")
    all_goals (rename Fr _ _ _ _ => FZ; rename News _ _ _ _ => NZ)
    · exact Mine.DEnd.mk FZ NZ (by rw [hD, if_pos (by assumption)])
    · exact Mine.DEnd.mk0 FZ NZ rfl (by rw [hD, if_neg (by assumption)])
  intro t9 h9 tk9 F8 N8
  dsimp only at F8 N8 ⊢
  clear F9 N9
  have hD0 : (D = 0 ∨ D = 366) ∨ (1 ≤ D ∧ D ≤ 365 ∧ D ≠ 59) := by split at hD <;> omega
  clear hD
  repeat' (first | (k_unfold; (try dsimp only)) | (k_end; wrow_close) | (dsimp only; walk1) | walk1 | (leave1; walk_say "STEP leave1"; try dsimp only) | fail "no step")
  refine Mine.Stop.into ?_
  have hDr : 1 ≤ D ∧ D ≤ 365 ∧ D ≠ 59 := by omega
  clear hD0
  rename Fr _ _ _ _ => F7
  rename News _ _ _ _ => N7
  refine LCt.Assign_ListComp_T (F₀ := F7) (by rfl) (by with_unfolding_all rfl) (by with_unfolding_all rfl) (by decide) (by rfl) (by decide) (by rfl) (by rfl) (by rfl) ?_
  repeat' (first | (k_unfold; (try dsimp only)) | (k_end; wrow_close) | (dsimp only; walk1) | walk1 | (leave1; walk_say "STEP leave1"; try dsimp only) | fail "no step")
  refine Mine.Stop.into ?_
  clear F7 N7
  rename Fr _ _ _ _ => F6
  rename News _ _ _ _ => N6
  rename DatAll _ _ _ => hDat
  rename OwnOff _ _ => hOff
  have hlen := hDat.length
  rw [Mine.datOf_length] at hlen
  have hl366 := Mine.outer_length (Mine.leapB year) 12 (by decide)
  refine LCt.CompSrcT.ledger (by rfl) F6 N6 (List.mem_cons_self ..) (by rw [List.size_toArray, PySem.sizeLine_eq]; omega) ?_
  intro g'
  refine Mine.keep_rest Mine.keep1 hDat (List.size_toArray ..).symm (.inr ⟨_, List.mem_cons_self .., rfl, _, rfl⟩) ?_ ?_
  · intro i v d I oI C oC DD m₂ ys h tk E' hdi hin hC hx F N off ne
    obtain ⟨p, hp, rfl⟩ := Mine.datOf_get hdi
    obtain ⟨T, t1, t2, t3, t4, nn, rfl, hT⟩ := Mine.dat_tup4 hin
    have N2 := Mine.news_cons (List.mem_cons_of_mem _ (List.mem_cons_of_mem _ (List.mem_cons_of_mem _ (List.mem_cons_of_mem _ (List.mem_append.mpr (.inr hT)))))) N
    clear N N6 F6
    repeat' (first | (k_unfold; (try dsimp only)) | (k_end; wrow_close) | (dsimp only; walk1) | walk1 | (leave1; walk_say "STEP leave1"; try dsimp only) | fail "no step")
    rename Fr _ _ _ _ => FZ
    rename News _ _ _ _ => NZ
    exact Mine.KeepEnd.mk rfl FZ NZ (fun q hq => List.mem_cons_of_mem _ (List.mem_cons_of_mem _ (List.mem_cons_of_mem _ hq)))
  · intro ys hys
    unfold LCg.FinA
    intro DD h5 tk5 F5 N5 o5
    clear F6 N6
    dsimp only
    obtain ⟨i, mo, da, c1, c2, c3⟩ := Mine.counted_item (Mine.leapB year) (Mine.yearStart year).2 (Mine.yearStart year).1 D hDr.1 hDr.2.1 hDr.2.2
    have hi1 : (D - 1).toNat < (List.filter Mine.keep1 (Mine.datOf (Mine.yearStart year).2 (Mine.yearStart year).1 (Mine.outerTab (Mine.leapB year) 12))).length := (List.getElem?_eq_some_iff.mp c1).1
    obtain ⟨v, hv, hin⟩ := hys.get hi1
    rw [(List.getElem?_eq_some_iff.mp c1).2] at hin
    obtain ⟨T, t1, t2, t3, t4, nn, rfl, hT⟩ := Mine.dat_tup4 hin
    rw [Mine.year_num] at hT
    have N6 := Mine.news_cons (List.mem_cons_of_mem _ (List.mem_cons_of_mem _ (List.mem_append.mpr (.inr hT)))) N5
    have N7 := kst_newsOf N6 (l' := [_, _, _, _]) (fun p hp => by
      rcases List.mem_cons.mp hp with h | hp
      · exact List.mem_cons.mpr (.inl h)
      rcases List.mem_cons.mp hp with h | hp
      · exact List.mem_cons.mpr (.inr (List.mem_cons.mpr (.inl h)))
      rcases List.mem_cons.mp hp with h | hp
      · exact List.mem_cons.mpr (.inr (List.mem_cons.mpr (.inr (List.mem_cons.mpr (.inr (List.mem_cons.mpr (.inl h)))))))
      rcases List.mem_cons.mp hp with h | hp
      · exact List.mem_cons.mpr (.inr (List.mem_cons.mpr (.inr (List.mem_cons.mpr (.inr (List.mem_cons.mpr (.inr (List.mem_cons.mpr (.inl h)))))))))
      · exact nomatch hp)
    clear N5 N6 o5 hDat hOff hys hi1 hin hT c1
    have hn : Int.fdiv ((Mine.gY year - 719163 + (D + Mine.bi (decide (59 ≤ D) && Mine.leapB year))) * 86400 + (hour * 3600 + minute * 60 + second) - (hour * 3600 + minute * 60 + second)) 86400 + 719163 - 1 = Mine.gY year + i := by
      rw [Mine.fdiv_clock]; omega
    have hi0 : 0 ≤ (i : Int) := by omega
    have hti : (Mine.outerTab (Mine.leapB year) 12)[(i : Int).toNat]? = some (mo, da) := by rw [Int.toNat_natCast]; exact c2
    repeat' (first | (k_unfold; (try dsimp only)) | (k_end; wrow_close) | (dsimp only; walk1) | walk1 | (leave1; walk_say "STEP leave1"; try dsimp only) | fail "no step")
