import PyProof.Rows.All
import Wide.All
import OpenK.AllK
import Wide.FinOn
import PySem.Challenge.RW_dn0012_02
open PySem PySem.W PyProof.Rows
set_option Elab.async false
set_option maxRecDepth 100000
set_option maxHeartbeats 8000000
section
namespace Mine
/-- the top's run over a tree of objects, by any step that is the machine's -/
def topT (stp : SharedT → Thread → Option (SharedT × Thread)) (ok : Thread → Bool) : Nat → SharedT → Thread → Option SharedT
  | 0, _, _ => none
  | n + 1, s, t => match through t with
    | true => some s
    | false => match ok t with
      | false => none
      | true => match stp s t with
        | some (s', t') => topT stp ok n s' t'
        | none => none
theorem topT_of {tb : String → Option Builtin} {p : Program} {w : World} {n₀ : Nat} {ann : Option Value} : ∀ {n : Nat} {s s' : SharedT} {t : Thread}, topT (stepT (denote tb) p w) (stepOk n₀ ann) n s t = some s' → topRun tb p w n₀ ann n s.abs t = some s'.abs
  | 0, _, _, _, h => by cases h
  | n + 1, s, s', t, h => by
    unfold topT at h
    unfold topRun
    cases he : through t with
    | true => rw [he] at h; cases h; rfl
    | false =>
      rw [he] at h
      cases hk : stepOk n₀ ann t with
      | false => rw [hk] at h; cases h
      | true =>
        rw [hk] at h
        cases hs : stepT (denote tb) p w s t with
        | none => rw [hs] at h; cases h
        | some r => obtain ⟨s₂, t₂⟩ := r; rw [hs] at h; dsimp only at h ⊢; rw [stepT_spec hs]; exact topT_of h
def impT (stp : SharedT → Thread → Option (SharedT × Thread)) : Nat → SharedT → Thread → Option SharedT
  | 0, _, _ => none
  | n + 1, s, t => match t.atExitBegin with
    | some [] => some s
    | some (_ :: _) => none
    | none => match stp s t with
      | some (s', t') => impT stp n s' t'
      | none => none
theorem impT_of {tb : String → Option Builtin} {p : Program} {w : World} : ∀ {n : Nat} {s s' : SharedT} {t : Thread}, impT (stepT (denote tb) p w) n s t = some s' → importEnds tb p w n s.abs t = some s'.abs
  | 0, _, _, _, h => by cases h
  | n + 1, s, s', t, h => by
    unfold impT at h
    unfold importEnds
    cases he : t.atExitBegin with
    | some l =>
      rw [he] at h
      cases l with
      | nil => cases h; rfl
      | cons => cases h
    | none =>
      rw [he] at h
      cases hs : stepT (denote tb) p w s t with
      | none => rw [hs] at h; cases h
      | some r => obtain ⟨s₂, t₂⟩ := r; rw [hs] at h; dsimp only at h ⊢; rw [stepT_spec hs]; exact impT_of h
/-- a list of objects as a tree -/
def insAll : List Obj → Nat → BT → Option BT
  | [], _, t => some t
  | o :: l, n, t => match ((t.ins n o).get n).isSome with
    | true => insAll l (n + 1) (t.ins n o)
    | false => none
theorem insAll_of : ∀ {l : List Obj} {n : Nat} {t t' : BT} {life : Life} {h : Heap}, insAll l n t = some t' → absHeap t n life = h → absHeap t' (n + l.length) life = l.foldl Heap.push h
  | [], n, t, t', life, h, e, a => by cases e; exact a
  | o :: l, n, t, t', life, h, e, a => by
    unfold insAll at e
    cases hs : ((t.ins n o).get n).isSome with
    | false => rw [hs] at e; cases e
    | true =>
      rw [hs] at e
      have := insAll_of e ((absHeap_ins hs).trans (congrArg (Heap.push · o) a))
      rw [List.length_cons, show n + (l.length + 1) = n + 1 + l.length by omega]
      exact this
theorem push_all (l : List Obj) : ∀ (a : Array Obj) (life : Life), l.foldl Heap.push ⟨a, life⟩ = ⟨a ++ l.toArray, life⟩ := by
  induction l with
  | nil => intro a life; simp
  | cons o l ih =>
    intro a life
    rw [List.foldl_cons]
    show l.foldl Heap.push ⟨a.push o, life⟩ = _
    rw [ih]
    simp
def toT (s : Shared) : Option SharedT := (insAll s.heap.objs.toList 0 .nil).map fun t => ⟨t, s.heap.objs.toList.length, s.heap.life, s.gens, s.drawn, s.toks, s.os⟩
theorem toT_of {s : Shared} {t : SharedT} (h : toT s = some t) : t.abs = s := by
  obtain ⟨T, hT, rfl⟩ := Option.map_eq_some_iff.mp h
  have := insAll_of (life := s.heap.life) hT rfl
  rw [Nat.zero_add] at this
  obtain ⟨⟨objs, life⟩, g, d, k, os⟩ := s
  show Shared.mk _ _ _ _ _ = _
  dsimp only at this ⊢
  congr 1
  rw [this]
  show List.foldl Heap.push ⟨(BT.nil.list 0).toArray, life⟩ objs.toList = _
  rw [push_all]
  simp [BT.list]
/-- the library's quick readings of the machine's words -/
noncomputable def stepQ : Program → World → SharedT → Thread → Option (SharedT × Thread) := Fast.tw10156331382660048174 (Fast.tw11892475500146522536 Fast.tw14364793385576792824)
theorem stepQ_eq : stepQ = stepT (denote treeTable) := by
  unfold stepQ
  rw [Fast.te10156331382660048174, Fast.te11892475500146522536, Fast.te14364793385576792824]
noncomputable def fenced (p : Program) (w : World) (N : Nat) : Option Shared := ((toT (Fast.tw1435165496053646825 (opening p)).1).bind fun s => impT (stepQ (opening p) w) N s (Fast.tw1435165496053646825 (opening p)).2).bind fun s => Fast.tw14289696077712309145 p s.abs
theorem fenced_of {p : Program} {w : World} {N : Nat} {s : Shared} (h : fenced p w N = some s) : fencedOpening treeTable p w N = some s := by
  unfold fenced at h
  rw [stepQ_eq, ← Fast.te14289696077712309145, ← Fast.te1435165496053646825] at h
  obtain ⟨s₁, h₁, h₂⟩ := Option.bind_eq_some_iff.mp h
  obtain ⟨s₀, h₀, h₁⟩ := Option.bind_eq_some_iff.mp h₁
  unfold fencedOpening
  have e := impT_of h₁
  rw [toT_of h₀] at e
  rw [e]
  exact h₂
noncomputable def seenEnd {α : Type} (p q : Program) (loose : List Str) (Xt : Shared → Bool) (g0 : Bool) (Yf : Shared → α) (s₀ s₁ : Shared) := match staticsOk (importedModules p.main.body) s₀.heap s₁.heap && namesBound p s₁.heap && gensDone s₁ && laidKept s₀.heap s₁.heap with
  | true => some (Fast.tw4187177175401517315 q loose (importedModules p.main.body) Xt g0 s₁, Yf s₁)
  | false => none
noncomputable def endsT {α : Type} (p q : Program) (loose : List Str) (Xt : Shared → Bool) (g0 : Bool) (Yf : Shared → α) (N : Nat) (w : World) := (fenced p w N).bind fun s₀ => match s₀.heap.isNs mainGlobals && s₀.gens.size == 0 with
  | true => (toT s₀).bind fun t => (topT (stepQ p w) (Fast.tw6613529449190102663 s₀.heap.objs.size (s₀.heap.nsMap mainGlobals "__annotations__")) N t (topStub p)).bind fun sT => seenEnd p q loose Xt g0 Yf s₀ sT.abs
  | false => none
theorem endsT_of {α : Type} {p q : Program} {loose : List Str} {Xt : Shared → Bool} {g0 : Bool} {Yf : Shared → α} {N : Nat} {w : World} {x : _} (h : endsT p q loose Xt g0 Yf N w = some x) :
    (openEnds treeTable p w N).map (fun s => (openSeen q loose (importedModules p.main.body) Xt g0 s, Yf s)) = some x := by
  unfold endsT seenEnd at h
  rw [stepQ_eq, ← Fast.te6613529449190102663, ← Fast.te4187177175401517315] at h
  obtain ⟨s₀, h₀, h⟩ := Option.bind_eq_some_iff.mp h
  unfold openEnds
  rw [fenced_of h₀]
  show (topFrom treeTable p w N s₀).map _ = _
  unfold topFrom
  cases hb : (s₀.heap.isNs mainGlobals && s₀.gens.size == 0) with
  | false => rw [hb] at h; cases h
  | true =>
    rw [hb] at h
    dsimp only at h ⊢
    obtain ⟨t, ht, h⟩ := Option.bind_eq_some_iff.mp h
    obtain ⟨sT, hs, h⟩ := Option.bind_eq_some_iff.mp h
    have e := topT_of hs
    rw [toT_of ht] at e
    rw [e]
    show (match staticsOk (importedModules p.main.body) s₀.heap sT.abs.heap && namesBound p sT.abs.heap && gensDone sT.abs && laidKept s₀.heap sT.abs.heap with | true => some sT.abs | false => none).map _ = _
    cases hc : (staticsOk (importedModules p.main.body) s₀.heap sT.abs.heap && namesBound p sT.abs.heap && gensDone sT.abs && laidKept s₀.heap sT.abs.heap) with
    | false => rw [hc] at h; cases h
    | true => rw [hc] at h; exact h
theorem left_of {α : Type} {p q : Program} {loose : List Str} {Xt : Shared → Bool} {Yf : Shared → α} {Ya : World → α} {N : Nat} (row : String)
    (hf : ∀ w : World, endsT p q loose Xt true Yf N (w.withFollow row false) = some (openGood q loose, Ya (w.withFollow row false)))
    (ht : ∀ w : World, endsT p q loose Xt true Yf N (w.withFollow row true) = some (openGood q loose, Ya (w.withFollow row true))) : LeftO p q loose Xt Yf Ya N :=
  byRow2 row (fun w => endsT_of (hf w)) (fun w => endsT_of (ht w))
end Mine
end
section
namespace Mine
/-- the two states of the top's run: behind the start, behind the text -/
noncomputable def runT (p : Program) (N : Nat) (w : World) : Option (Shared × SharedT) := (fenced p w N).bind fun s₀ => match s₀.heap.isNs mainGlobals && s₀.gens.size == 0 with
  | true => (toT s₀).bind fun t => (topT (stepQ p w) (Fast.tw6613529449190102663 s₀.heap.objs.size (s₀.heap.nsMap mainGlobals "__annotations__")) N t (topStub p)).bind fun sT => some (s₀, sT)
  | false => none
theorem endsT_run {α : Type} {p q : Program} {loose : List Str} {Xt : Shared → Bool} {g0 : Bool} {Yf : Shared → α} {N : Nat} {w : World} {r : Shared × SharedT} (h : runT p N w = some r) : endsT p q loose Xt g0 Yf N w = seenEnd p q loose Xt g0 Yf r.1 r.2.abs := by
  unfold runT at h
  unfold endsT
  obtain ⟨s₀, h₀, h⟩ := Option.bind_eq_some_iff.mp h
  rw [h₀]
  show (match s₀.heap.isNs mainGlobals && s₀.gens.size == 0 with
    | true => (toT s₀).bind fun t => (topT (stepQ p w) (Fast.tw6613529449190102663 s₀.heap.objs.size (s₀.heap.nsMap mainGlobals "__annotations__")) N t (topStub p)).bind fun sT => seenEnd p q loose Xt g0 Yf s₀ sT.abs
    | false => none) = _
  cases hb : (s₀.heap.isNs mainGlobals && s₀.gens.size == 0) with
  | false => rw [hb] at h; cases h
  | true =>
    rw [hb] at h
    dsimp only at h ⊢
    obtain ⟨t, ht, h⟩ := Option.bind_eq_some_iff.mp h
    obtain ⟨sT, hs, h⟩ := Option.bind_eq_some_iff.mp h
    obtain rfl := Option.some.inj h
    rw [ht, Option.bind_some, hs, Option.bind_some]
theorem run_of {β : Type} {p : Program} {N : Nat} {w : World} {g : Shared × SharedT → β} {v : β} (h : (runT p N w).map g = some v) : ∃ r, runT p N w = some r ∧ g r = v := Option.map_eq_some_iff.mp h
theorem run_at {β : Type} {p : Program} {N : Nat} {w : World} {g : Shared × SharedT → β} {v : β} {r : Shared × SharedT} (h : (runT p N w).map g = some v) (e : runT p N w = some r) : g r = v := by
  rw [e] at h
  exact Option.some.inj h
/-- an object read off the tree -/
def lookT (s : SharedT) (a : Addr) : Option Obj := match Nat.blt a s.n with
  | true => (s.tree.get a).bind alive
  | false => none
theorem lookT_of {s : SharedT} {a : Addr} {o : Obj} (h : lookT s a = some o) : s.abs.heap.get? a = some o := by
  unfold lookT at h
  cases hb : Nat.blt a s.n with
  | false => rw [hb] at h; cases h
  | true =>
    rw [hb] at h
    obtain ⟨o', g, al⟩ := Option.bind_eq_some_iff.mp h
    exact (abs_get (Nat.blt_eq.mp hb) g).trans al
theorem looks_of {s : SharedT} : ∀ {as : List Addr} {K : List (Addr × Obj)}, as.map (lookT s) = K.map (fun p => some p.2) → as.map s.abs.heap.get? = K.map fun p => some p.2
  | [], [], _ => rfl
  | a :: as, k :: K, h => by
    rw [List.map_cons, List.map_cons] at h
    rw [List.map_cons, List.map_cons, lookT_of (List.cons.inj h).1, looks_of (List.cons.inj h).2]
  | [], _ :: _, h => by cases h
  | _ :: _, [], h => by cases h
end Mine
end
section
namespace Mine
def cells : List Stmt := PySem.Challenge.rw_dn0012_02.prog.main.body
def cell (i : Nat) : Stmt := cells.getD i (.Pass ⟨0, 0, 0, 0⟩)
def sub (i j : Nat) : Stmt := match cell i with
  | .ClassDef _ _ _ body _ _ _ _ _ _ _ => body.getD j (.Pass ⟨0, 0, 0, 0⟩)
  | _ => .Pass ⟨0, 0, 0, 0⟩
def fdat (st : Stmt) (qual : Str) (globals : Addr) (closure : List (Str × Addr)) (dV kV doc pm : Value) (an : Option Addr) (cd ct : Value) (builtins : Addr) : FuncData := match st with
  | .FunctionDef name params body _ _ _ scope _ _ _ => ⟨name, qual, params, .stmts body, scope, globals, closure, dV, kV, doc, pm, an, cd, ct, builtins⟩
  | _ => default
def view : Program := { PySem.Challenge.rw_dn0012_02.prog with main := { PySem.Challenge.rw_dn0012_02.prog.main with body := [cell 0, cell 1, cell 3, cell 4, cell 6, cell 7, cell 8, cell 9, cell 10, cell 11, cell 12, cell 13, cell 14, cell 15, cell 16, cell 17, cell 18, cell 19, cell 20, cell 21, cell 22, cell 23, cell 24, cell 25, cell 26, cell 27, cell 28, cell 48, cell 49, cell 50, cell 51, cell 52, cell 53, cell 55, cell 57, cell 58, cell 62, cell 63, cell 64, cell 65, cell 66, cell 68, cell 69, cell 70] } }
def heapK : Params → Frag := fun P =>
((nat_lit 2), (Obj.mk Value.none none (Data.dict #[(DictEntry.mk (PyData.keyHash P (Str.mk #[105, 109, 112, 111, 114, 116, 46, 108, 111, 97, 100, 101, 100, 46, 95, 100, 97, 116, 101, 116, 105, 109, 101])) (Value.str (Str.mk #[105, 109, 112, 111, 114, 116, 46, 108, 111, 97, 100, 101, 100, 46, 95, 100, 97, 116, 101, 116, 105, 109, 101]) 188) (Value.bool Bool.true)), (DictEntry.mk (PyData.keyHash P (Str.ofString "class._frozen_importlib_external._LoaderBasics")) (Value.str (Str.ofString "class._frozen_importlib_external._LoaderBasics") 193) (Value.ref 16)), (DictEntry.mk (PyData.keyHash P (Str.mk #[119, 97, 116, 99, 104, 101, 100, 46, 105, 109, 112, 111, 114, 116])) (Value.str (Str.mk #[119, 97, 116, 99, 104, 101, 100, 46, 105, 109, 112, 111, 114, 116]) 209) (Value.ref 20)), (DictEntry.mk (PyData.keyHash P (Str.ofString "class._frozen_importlib_external.FileLoader")) (Value.str (Str.ofString "class._frozen_importlib_external.FileLoader") 210) (Value.ref 22)), (DictEntry.mk (PyData.keyHash P (Str.ofString "class._frozen_importlib_external.ExtensionFileLoader")) (Value.str (Str.ofString "class._frozen_importlib_external.ExtensionFileLoader") 231) (Value.ref 27)), (DictEntry.mk (PyData.keyHash P (Str.ofString "class._frozen_importlib.ModuleSpec")) (Value.str (Str.ofString "class._frozen_importlib.ModuleSpec") 259) (Value.ref 33)), (DictEntry.mk (PyData.keyHash P (Str.ofString "sys.modules.booked-epoch")) (Value.str (Str.ofString "sys.modules.booked-epoch") 288) (Value.int (3 : Int) 0)), (DictEntry.mk (PyData.keyHash P (Str.ofString "datetime.timedelta.zero")) (Value.str (Str.ofString "datetime.timedelta.zero") 308) (Value.ref 38)), (DictEntry.mk (PyData.keyHash P (Str.ofString "datetime.timezone.utc")) (Value.str (Str.ofString "datetime.timezone.utc") 309) (Value.ref 39)), (DictEntry.mk (PyData.keyHash P (Str.mk #[105, 109, 112, 111, 114, 116, 46, 108, 97, 116, 101, 114, 45, 108, 97, 105, 100, 46, 95, 100, 97, 116, 101, 116, 105, 109, 101])) (Value.str (Str.mk #[105, 109, 112, 111, 114, 116, 46, 108, 97, 116, 101, 114, 45, 108, 97, 105, 100, 46, 95, 100, 97, 116, 101, 116, 105, 109, 101]) 312) (Value.bool Bool.true)), (DictEntry.mk (PyData.keyHash P (Str.ofString "watched.library")) (Value.str (Str.ofString "watched.library") 314) (Value.ref 40)), (DictEntry.mk (PyData.keyHash P (Str.ofString "watched.library-objects")) (Value.str (Str.ofString "watched.library-objects") 0) (Value.str (Str.ofString "\x0d") 0)), (DictEntry.mk (PyData.keyHash P (Str.ofString "type.__subclasses__.IndexError.0")) (Value.str (Str.ofString "type.__subclasses__.IndexError.0") 392) (Value.int (83 : Int) 0)), (DictEntry.mk (PyData.keyHash P (Str.ofString "type.__subclasses__.IndexError.n")) (Value.str (Str.ofString "type.__subclasses__.IndexError.n") 393) (Value.int (1 : Int) 0)), (DictEntry.mk (PyData.keyHash P (Str.ofString "type.__subclasses__.int.0")) (Value.str (Str.ofString "type.__subclasses__.int.0") 518) (Value.int (190 : Int) 0)), (DictEntry.mk (PyData.keyHash P (Str.ofString "type.__subclasses__.int.n")) (Value.str (Str.ofString "type.__subclasses__.int.n") 519) (Value.int (2 : Int) 0)), (DictEntry.mk (PyData.keyHash P (Str.ofString "type.__subclasses__.int.1")) (Value.str (Str.ofString "type.__subclasses__.int.1") 644) (Value.int (300 : Int) 0))] 17) #[])) ::
((nat_lit 3), (Obj.mk (Value.type "dict") none (Data.dict #[(DictEntry.mk (PyData.keyHash P (Str.ofString "__name__")) (Value.str (Str.ofString "__name__") 165) (Value.str (Str.ofString "law_dn0012_02") 1200)), (DictEntry.mk (PyData.keyHash P (Str.ofString "__doc__")) (Value.str (Str.ofString "__doc__") 166) Value.none), (DictEntry.mk (PyData.keyHash P (Str.ofString "__package__")) (Value.str (Str.ofString "__package__") 167) Value.none), (DictEntry.mk (PyData.keyHash P (Str.ofString "__loader__")) (Value.str (Str.ofString "__loader__") 168) (Value.builtin "__main__.__loader__#opaque")), (DictEntry.mk (PyData.keyHash P (Str.ofString "__spec__")) (Value.str (Str.ofString "__spec__") 169) Value.none), (DictEntry.mk (PyData.keyHash P (Str.ofString "__annotations__")) (Value.str (Str.ofString "__annotations__") 170) (Value.ref 6)), (DictEntry.mk (PyData.keyHash P (Str.ofString "__builtins__")) (Value.str (Str.ofString "__builtins__") 171) (Value.ref 4)), (DictEntry.mk (PyData.keyHash P (Str.ofString "__file__")) (Value.str (Str.ofString "__file__") 173) (Value.str (Str.ofString "/claim/cut.py") 172)), (DictEntry.mk (PyData.keyHash P (Str.ofString "__cached__")) (Value.str (Str.ofString "__cached__") 174) Value.none), (DictEntry.mk (PyData.keyHash P (Str.ofString "MAXYEAR")) (Value.str (Str.ofString "MAXYEAR") 320) (Value.int (9999 : Int) 306)), (DictEntry.mk (PyData.keyHash P (Str.ofString "MINYEAR")) (Value.str (Str.ofString "MINYEAR") 323) (Value.int (1 : Int) 304)), (DictEntry.mk (PyData.keyHash P (Str.ofString "date")) (Value.str (Str.ofString "date") 326) (Value.type "datetime.date")), (DictEntry.mk (PyData.keyHash P (Str.ofString "datetime")) (Value.str (Str.ofString "datetime") 329) (Value.type "datetime.datetime")), (DictEntry.mk (PyData.keyHash P (Str.ofString "_wall")) (Value.str (Str.ofString "_wall") 342) (Value.ref 51)), (DictEntry.mk (PyData.keyHash P (Str.ofString "EPOCHORDINAL")) (Value.str (Str.ofString "EPOCHORDINAL") 349) (Value.int (719163 : Int) 348)), (DictEntry.mk (PyData.keyHash P (Str.ofString "_post_epoch_days_before_year")) (Value.str (Str.ofString "_post_epoch_days_before_year") 357) (Value.ref 59)), (DictEntry.mk (PyData.keyHash P (Str.ofString "IllegalMonthError")) (Value.str (Str.ofString "IllegalMonthError") 395) (Value.ref 83)), (DictEntry.mk (PyData.keyHash P (Str.ofString "Month")) (Value.str (Str.ofString "Month") 521) (Value.ref 190)), (DictEntry.mk (PyData.keyHash P (Str.ofString "Day")) (Value.str (Str.ofString "Day") 647) (Value.ref 300)), (DictEntry.mk (PyData.keyHash P (Str.ofString "_member")) (Value.str (Str.ofString "_member") 657) (Value.ref 313)), (DictEntry.mk (PyData.keyHash P (Str.ofString "JANUARY")) (Value.str (Str.ofString "JANUARY") 670) (Value.ref 316)), (DictEntry.mk (PyData.keyHash P (Str.ofString "FEBRUARY")) (Value.str (Str.ofString "FEBRUARY") 683) (Value.ref 319)), (DictEntry.mk (PyData.keyHash P (Str.ofString "MARCH")) (Value.str (Str.ofString "MARCH") 696) (Value.ref 322)), (DictEntry.mk (PyData.keyHash P (Str.ofString "APRIL")) (Value.str (Str.ofString "APRIL") 709) (Value.ref 325)), (DictEntry.mk (PyData.keyHash P (Str.ofString "MAY")) (Value.str (Str.ofString "MAY") 722) (Value.ref 328)), (DictEntry.mk (PyData.keyHash P (Str.ofString "JUNE")) (Value.str (Str.ofString "JUNE") 735) (Value.ref 331)), (DictEntry.mk (PyData.keyHash P (Str.ofString "JULY")) (Value.str (Str.ofString "JULY") 748) (Value.ref 334)), (DictEntry.mk (PyData.keyHash P (Str.ofString "AUGUST")) (Value.str (Str.ofString "AUGUST") 761) (Value.ref 337)), (DictEntry.mk (PyData.keyHash P (Str.ofString "SEPTEMBER")) (Value.str (Str.ofString "SEPTEMBER") 774) (Value.ref 340)), (DictEntry.mk (PyData.keyHash P (Str.ofString "OCTOBER")) (Value.str (Str.ofString "OCTOBER") 787) (Value.ref 343)), (DictEntry.mk (PyData.keyHash P (Str.ofString "NOVEMBER")) (Value.str (Str.ofString "NOVEMBER") 800) (Value.ref 346)), (DictEntry.mk (PyData.keyHash P (Str.ofString "DECEMBER")) (Value.str (Str.ofString "DECEMBER") 813) (Value.ref 349)), (DictEntry.mk (PyData.keyHash P (Str.ofString "MONDAY")) (Value.str (Str.ofString "MONDAY") 826) (Value.ref 352)), (DictEntry.mk (PyData.keyHash P (Str.ofString "TUESDAY")) (Value.str (Str.ofString "TUESDAY") 839) (Value.ref 355)), (DictEntry.mk (PyData.keyHash P (Str.ofString "WEDNESDAY")) (Value.str (Str.ofString "WEDNESDAY") 852) (Value.ref 358)), (DictEntry.mk (PyData.keyHash P (Str.ofString "THURSDAY")) (Value.str (Str.ofString "THURSDAY") 865) (Value.ref 361)), (DictEntry.mk (PyData.keyHash P (Str.ofString "FRIDAY")) (Value.str (Str.ofString "FRIDAY") 878) (Value.ref 364)), (DictEntry.mk (PyData.keyHash P (Str.ofString "SATURDAY")) (Value.str (Str.ofString "SATURDAY") 891) (Value.ref 367)), (DictEntry.mk (PyData.keyHash P (Str.ofString "SUNDAY")) (Value.str (Str.ofString "SUNDAY") 904) (Value.ref 370)), (DictEntry.mk (PyData.keyHash P (Str.ofString "_days")) (Value.str (Str.ofString "_days") 943) (Value.ref 371)), (DictEntry.mk (PyData.keyHash P (Str.ofString "mdays")) (Value.str (Str.ofString "mdays") 957) (Value.ref 372)), (DictEntry.mk (PyData.keyHash P (Str.ofString "isleap")) (Value.str (Str.ofString "isleap") 964) (Value.ref 379)), (DictEntry.mk (PyData.keyHash P (Str.ofString "weekday")) (Value.str (Str.ofString "weekday") 973) (Value.ref 386)), (DictEntry.mk (PyData.keyHash P (Str.ofString "_validate_month")) (Value.str (Str.ofString "_validate_month") 980) (Value.ref 393)), (DictEntry.mk (PyData.keyHash P (Str.ofString "monthrange")) (Value.str (Str.ofString "monthrange") 990) (Value.ref 400)), (DictEntry.mk (PyData.keyHash P (Str.ofString "_CalendarOffset")) (Value.str (Str.ofString "_CalendarOffset") 1099) (Value.ref 438)), (DictEntry.mk (PyData.keyHash P (Str.ofString "_DAYS_IN_MONTH")) (Value.str (Str.ofString "_DAYS_IN_MONTH") 1116) (Value.ref 447)), (DictEntry.mk (PyData.keyHash P (Str.ofString "_DAYS_BEFORE_MONTH")) (Value.str (Str.ofString "_DAYS_BEFORE_MONTH") 1119) (Value.ref 448)), (DictEntry.mk (PyData.keyHash P (Str.ofString "_is_leap")) (Value.str (Str.ofString "_is_leap") 1165) (Value.ref 460)), (DictEntry.mk (PyData.keyHash P (Str.ofString "_days_before_year")) (Value.str (Str.ofString "_days_before_year") 1173) (Value.ref 467)), (DictEntry.mk (PyData.keyHash P (Str.ofString "_days_in_month")) (Value.str (Str.ofString "_days_in_month") 1181) (Value.ref 474)), (DictEntry.mk (PyData.keyHash P (Str.ofString "_days_before_month")) (Value.str (Str.ofString "_days_before_month") 1189) (Value.ref 481)), (DictEntry.mk (PyData.keyHash P (Str.ofString "_ymd2ord")) (Value.str (Str.ofString "_ymd2ord") 1199) (Value.ref 488)), (DictEntry.mk (PyData.keyHash P (Str.ofString "_law_lengths")) (Value.str (Str.ofString "_law_lengths") 1209) (Value.ref 495)), (DictEntry.mk (PyData.keyHash P (Str.ofString "_law_days")) (Value.str (Str.ofString "_law_days") 1224) (Value.ref 502)), (DictEntry.mk (PyData.keyHash P (Str.ofString "law")) (Value.str (Str.ofString "law") 1230) (Value.ref 507))] 60) #[])) ::
((nat_lit 45), (Obj.mk (Value.type "tuple") none (Data.seq #[] 0) #[])) ::
((nat_lit 47), (Obj.mk (Value.type "tuple") none (Data.seq #[(Value.str (Str.ofString "k") 339)] 0) #[])) ::
((nat_lit 48), (Obj.mk (Value.type "tuple") none (Data.seq #[] 0) #[])) ::
((nat_lit 50), (Obj.mk (Value.type "code") none (Data.fields #[(Value.str (Str.ofString "_wall") 336), (Value.str (Str.ofString "_wall") 337), (Value.str (Str.ofString "/claim/cut.py") 338), (Value.int (2 : Int) 0), (Value.int (1 : Int) 0), (Value.int (0 : Int) 0), (Value.int (0 : Int) 0), (Value.int (3 : Int) 0), (Value.ref 45), (Value.bool Bool.true), (Value.int (330 : Int) 0), (Value.ref 46), Value.none, (Value.ref 47), (Value.ref 48), (Value.ref 49), (Value.int (340 : Int) 0), (Value.int (2 : Int) 0), (Value.str (Str.ofString "/claim/cut.py") 341)]) #[])) ::
((nat_lit 51), (Obj.mk (Value.type "function") none (Data.func (fdat (cell 1) (Str.ofString "_wall") 3 [] Value.none Value.none Value.none (Value.str (Str.ofString "__main__") 164) none (Value.ref 50) Value.none 0)) #[])) ::
((nat_lit 53), (Obj.mk (Value.type "tuple") none (Data.seq #[] 0) #[])) ::
((nat_lit 55), (Obj.mk (Value.type "tuple") none (Data.seq #[(Value.str (Str.ofString "year") 353), (Value.str (Str.ofString "y") 354)] 0) #[])) ::
((nat_lit 56), (Obj.mk (Value.type "tuple") none (Data.seq #[] 0) #[])) ::
((nat_lit 58), (Obj.mk (Value.type "code") none (Data.fields #[(Value.str (Str.ofString "_post_epoch_days_before_year") 350), (Value.str (Str.ofString "_post_epoch_days_before_year") 351), (Value.str (Str.ofString "/claim/cut.py") 352), (Value.int (7 : Int) 0), (Value.int (1 : Int) 0), (Value.int (0 : Int) 0), (Value.int (0 : Int) 0), (Value.int (3 : Int) 0), (Value.ref 53), (Value.bool Bool.true), (Value.int (330 : Int) 0), (Value.ref 54), Value.none, (Value.ref 55), (Value.ref 56), (Value.ref 57), (Value.int (355 : Int) 0), (Value.int (7 : Int) 0), (Value.str (Str.ofString "/claim/cut.py") 356)]) #[])) ::
((nat_lit 59), (Obj.mk (Value.type "function") none (Data.func (fdat (cell 4) (Str.ofString "_post_epoch_days_before_year") 3 [] Value.none Value.none Value.none (Value.str (Str.ofString "cpy313.zoneinfo._zoneinfo") 343) none (Value.ref 58) Value.none 0)) #[])) ::
((nat_lit 60), (Obj.mk (Value.type "tuple") none (Data.seq #[(Value.type "ValueError"), (Value.type "IndexError")] 0) #[])) ::
((nat_lit 67), (Obj.mk (Value.type "tuple") none (Data.seq #[] 0) #[])) ::
((nat_lit 69), (Obj.mk (Value.type "tuple") none (Data.seq #[(Value.str (Str.ofString "self") 375), (Value.str (Str.ofString "month") 376)] 0) #[])) ::
((nat_lit 70), (Obj.mk (Value.type "tuple") none (Data.seq #[] 0) #[])) ::
((nat_lit 72), (Obj.mk (Value.type "code") none (Data.fields #[(Value.str (Str.ofString "__init__") 372), (Value.str (Str.ofString "IllegalMonthError.__init__") 373), (Value.str (Str.ofString "/claim/cut.py") 374), (Value.int (13 : Int) 0), (Value.int (2 : Int) 0), (Value.int (0 : Int) 0), (Value.int (0 : Int) 0), (Value.int (3 : Int) 0), (Value.ref 67), (Value.bool Bool.true), (Value.int (330 : Int) 0), (Value.ref 68), Value.none, (Value.ref 69), (Value.ref 70), (Value.ref 71), (Value.int (377 : Int) 0), (Value.int (13 : Int) 0), (Value.str (Str.ofString "/claim/cut.py") 378)]) #[])) ::
((nat_lit 73), (Obj.mk (Value.type "function") none (Data.func (fdat (sub 6 0) (Str.ofString "IllegalMonthError.__init__") 3 [] Value.none Value.none Value.none (Value.str (Str.ofString "calendar") 358) none (Value.ref 72) Value.none 0)) #[])) ::
((nat_lit 74), (Obj.mk (Value.type "tuple") none (Data.seq #[] 0) #[])) ::
((nat_lit 76), (Obj.mk (Value.type "tuple") none (Data.seq #[(Value.str (Str.ofString "self") 383)] 0) #[])) ::
((nat_lit 77), (Obj.mk (Value.type "tuple") none (Data.seq #[] 0) #[])) ::
((nat_lit 79), (Obj.mk (Value.type "code") none (Data.fields #[(Value.str (Str.ofString "__str__") 380), (Value.str (Str.ofString "IllegalMonthError.__str__") 381), (Value.str (Str.ofString "/claim/cut.py") 382), (Value.int (16 : Int) 0), (Value.int (1 : Int) 0), (Value.int (0 : Int) 0), (Value.int (0 : Int) 0), (Value.int (3 : Int) 0), (Value.ref 74), (Value.bool Bool.true), (Value.int (330 : Int) 0), (Value.ref 75), Value.none, (Value.ref 76), (Value.ref 77), (Value.ref 78), (Value.int (384 : Int) 0), (Value.int (16 : Int) 0), (Value.str (Str.ofString "/claim/cut.py") 385)]) #[])) ::
((nat_lit 80), (Obj.mk (Value.type "function") none (Data.func (fdat (sub 6 1) (Str.ofString "IllegalMonthError.__str__") 3 [] Value.none Value.none Value.none (Value.str (Str.ofString "calendar") 358) none (Value.ref 79) Value.none 0)) #[])) ::
((nat_lit 81), (Obj.mk (Value.type "tuple") none (Data.seq #[(Value.str (Str.ofString "month") 387)] 0) #[])) ::
((nat_lit 82), (Obj.mk (Value.type "dict") none (Data.dict #[(DictEntry.mk (PyData.keyHash P (Str.ofString "__module__")) (Value.str (Str.ofString "__module__") 367) (Value.str (Str.ofString "calendar") 358)), (DictEntry.mk (PyData.keyHash P (Str.ofString "__firstlineno__")) (Value.str (Str.ofString "__firstlineno__") 371) (Value.int (11 : Int) 370)), (DictEntry.mk (PyData.keyHash P (Str.ofString "__init__")) (Value.str (Str.ofString "__init__") 379) (Value.ref 73)), (DictEntry.mk (PyData.keyHash P (Str.ofString "__str__")) (Value.str (Str.ofString "__str__") 386) (Value.ref 80)), (DictEntry.mk (PyData.keyHash P (Str.ofString "__static_attributes__")) (Value.str (Str.ofString "__static_attributes__") 388) (Value.ref 81)), (DictEntry.mk (PyData.keyHash P (Str.ofString "__weakref__")) (Value.str (Str.ofString "__weakref__") 390) (Value.ref 84)), (DictEntry.mk (PyData.keyHash P (Str.ofString "__doc__")) (Value.str (Str.ofString "__doc__") 391) Value.none)] 3) #[])) ::
((nat_lit 83), (Obj.mk (Value.type "type") none (Data.cls (ClassData.mk (Str.ofString "IllegalMonthError") [(Value.type "ValueError"), (Value.type "IndexError")] [(Value.ref 83), (Value.type "ValueError"), (Value.type "IndexError"), (Value.type "LookupError"), (Value.type "Exception"), (Value.type "BaseException"), (Value.type "object")] 82 (Str.ofString "IllegalMonthError") Bool.true [] [] Bool.false none Bool.false)) #[(some (Value.ref 60)), none, (some (Value.str (Str.ofString "IllegalMonthError") 360)), (some (Value.str (Str.ofString "IllegalMonthError") 368)), (some (Value.builtin "ValueError.__new__")), (some (Value.bool Bool.true))])) ::
((nat_lit 84), (Obj.mk (Value.type "getset_descriptor") none (Data.fields #[(Value.str (Str.ofString "__weakref__") 389), (Value.ref 83), (Value.builtin "ExceptionGroup.__weakref__"), Value.none]) #[])) ::
((nat_lit 87), (Obj.mk (Value.type "tuple") none (Data.seq #[(Value.type "int")] 0) #[])) ::
((nat_lit 94), (Obj.mk (Value.type "tuple") none (Data.seq #[] 0) #[])) ::
((nat_lit 96), (Obj.mk (Value.type "tuple") none (Data.seq #[(Value.str (Str.ofString "cls") 411), (Value.str (Str.ofString "args") 412), (Value.str (Str.ofString "kwargs") 413)] 0) #[])) ::
((nat_lit 97), (Obj.mk (Value.type "tuple") none (Data.seq #[] 0) #[])) ::
((nat_lit 99), (Obj.mk (Value.type "code") none (Data.fields #[(Value.str (Str.ofString "__new__") 408), (Value.str (Str.ofString "Month.__new__") 409), (Value.str (Str.ofString "/claim/cut.py") 410), (Value.int (20 : Int) 0), (Value.int (1 : Int) 0), (Value.int (0 : Int) 0), (Value.int (0 : Int) 0), (Value.int (15 : Int) 0), (Value.ref 94), (Value.bool Bool.true), (Value.int (330 : Int) 0), (Value.ref 95), Value.none, (Value.ref 96), (Value.ref 97), (Value.ref 98), (Value.int (414 : Int) 0), (Value.int (20 : Int) 0), (Value.str (Str.ofString "/claim/cut.py") 415)]) #[])) ::
((nat_lit 100), (Obj.mk (Value.type "function") none (Data.func (fdat (sub 7 0) (Str.ofString "Month.__new__") 3 [] Value.none Value.none Value.none (Value.str (Str.ofString "calendar") 358) none (Value.ref 99) Value.none 0)) #[])) ::
((nat_lit 101), (Obj.mk (Value.type "tuple") none (Data.seq #[] 0) #[])) ::
((nat_lit 103), (Obj.mk (Value.type "tuple") none (Data.seq #[(Value.str (Str.ofString "cls") 420), (Value.str (Str.ofString "kwargs") 421)] 0) #[])) ::
((nat_lit 104), (Obj.mk (Value.type "tuple") none (Data.seq #[] 0) #[])) ::
((nat_lit 106), (Obj.mk (Value.type "code") none (Data.fields #[(Value.str (Str.ofString "__init_subclass__") 417), (Value.str (Str.ofString "Month.__init_subclass__") 418), (Value.str (Str.ofString "/claim/cut.py") 419), (Value.int (23 : Int) 0), (Value.int (1 : Int) 0), (Value.int (0 : Int) 0), (Value.int (0 : Int) 0), (Value.int (11 : Int) 0), (Value.ref 101), (Value.bool Bool.true), (Value.int (330 : Int) 0), (Value.ref 102), Value.none, (Value.ref 103), (Value.ref 104), (Value.ref 105), (Value.int (422 : Int) 0), (Value.int (23 : Int) 0), (Value.str (Str.ofString "/claim/cut.py") 423)]) #[])) ::
((nat_lit 107), (Obj.mk (Value.type "function") none (Data.func (fdat (sub 7 1) (Str.ofString "Month.__init_subclass__") 3 [] Value.none Value.none Value.none (Value.str (Str.ofString "calendar") 358) none (Value.ref 106) Value.none 0)) #[])) ::
((nat_lit 108), (Obj.mk (Value.type "tuple") none (Data.seq #[] 0) #[])) ::
((nat_lit 110), (Obj.mk (Value.type "tuple") none (Data.seq #[(Value.str (Str.ofString "cls") 428), (Value.str (Str.ofString "item") 429)] 0) #[])) ::
((nat_lit 111), (Obj.mk (Value.type "tuple") none (Data.seq #[] 0) #[])) ::
((nat_lit 113), (Obj.mk (Value.type "code") none (Data.fields #[(Value.str (Str.ofString "__class_getitem__") 425), (Value.str (Str.ofString "Month.__class_getitem__") 426), (Value.str (Str.ofString "/claim/cut.py") 427), (Value.int (26 : Int) 0), (Value.int (2 : Int) 0), (Value.int (0 : Int) 0), (Value.int (0 : Int) 0), (Value.int (3 : Int) 0), (Value.ref 108), (Value.bool Bool.true), (Value.int (330 : Int) 0), (Value.ref 109), Value.none, (Value.ref 110), (Value.ref 111), (Value.ref 112), (Value.int (430 : Int) 0), (Value.int (26 : Int) 0), (Value.str (Str.ofString "/claim/cut.py") 431)]) #[])) ::
((nat_lit 114), (Obj.mk (Value.type "function") none (Data.func (fdat (sub 7 2) (Str.ofString "Month.__class_getitem__") 3 [] Value.none Value.none Value.none (Value.str (Str.ofString "calendar") 358) none (Value.ref 113) Value.none 0)) #[])) ::
((nat_lit 115), (Obj.mk (Value.type "tuple") none (Data.seq #[] 0) #[])) ::
((nat_lit 117), (Obj.mk (Value.type "tuple") none (Data.seq #[(Value.str (Str.ofString "self") 436)] 0) #[])) ::
((nat_lit 118), (Obj.mk (Value.type "tuple") none (Data.seq #[] 0) #[])) ::
((nat_lit 120), (Obj.mk (Value.type "code") none (Data.fields #[(Value.str (Str.ofString "name") 433), (Value.str (Str.ofString "Month.name") 434), (Value.str (Str.ofString "/claim/cut.py") 435), (Value.int (29 : Int) 0), (Value.int (1 : Int) 0), (Value.int (0 : Int) 0), (Value.int (0 : Int) 0), (Value.int (3 : Int) 0), (Value.ref 115), (Value.bool Bool.true), (Value.int (330 : Int) 0), (Value.ref 116), Value.none, (Value.ref 117), (Value.ref 118), (Value.ref 119), (Value.int (437 : Int) 0), (Value.int (29 : Int) 0), (Value.str (Str.ofString "/claim/cut.py") 438)]) #[])) ::
((nat_lit 121), (Obj.mk (Value.type "function") none (Data.func (fdat (sub 7 3) (Str.ofString "Month.name") 3 [] Value.none Value.none Value.none (Value.str (Str.ofString "calendar") 358) none (Value.ref 120) Value.none 0)) #[])) ::
((nat_lit 124), (Obj.mk (Value.type "tuple") none (Data.seq #[] 0) #[])) ::
((nat_lit 126), (Obj.mk (Value.type "tuple") none (Data.seq #[(Value.str (Str.ofString "self") 445), (Value.str (Str.ofString "value") 446)] 0) #[])) ::
((nat_lit 127), (Obj.mk (Value.type "tuple") none (Data.seq #[] 0) #[])) ::
((nat_lit 129), (Obj.mk (Value.type "code") none (Data.fields #[(Value.str (Str.ofString "name") 442), (Value.str (Str.ofString "Month.name") 443), (Value.str (Str.ofString "/claim/cut.py") 444), (Value.int (33 : Int) 0), (Value.int (2 : Int) 0), (Value.int (0 : Int) 0), (Value.int (0 : Int) 0), (Value.int (3 : Int) 0), (Value.ref 124), (Value.bool Bool.true), (Value.int (330 : Int) 0), (Value.ref 125), Value.none, (Value.ref 126), (Value.ref 127), (Value.ref 128), (Value.int (447 : Int) 0), (Value.int (33 : Int) 0), (Value.str (Str.ofString "/claim/cut.py") 448)]) #[])) ::
((nat_lit 130), (Obj.mk (Value.type "function") none (Data.func (fdat (sub 7 4) (Str.ofString "Month.name") 3 [] Value.none Value.none Value.none (Value.str (Str.ofString "calendar") 358) none (Value.ref 129) Value.none 0)) #[])) ::
((nat_lit 133), (Obj.mk (Value.type "tuple") none (Data.seq #[] 0) #[])) ::
((nat_lit 135), (Obj.mk (Value.type "tuple") none (Data.seq #[(Value.str (Str.ofString "self") 455)] 0) #[])) ::
((nat_lit 136), (Obj.mk (Value.type "tuple") none (Data.seq #[] 0) #[])) ::
((nat_lit 138), (Obj.mk (Value.type "code") none (Data.fields #[(Value.str (Str.ofString "name") 452), (Value.str (Str.ofString "Month.name") 453), (Value.str (Str.ofString "/claim/cut.py") 454), (Value.int (37 : Int) 0), (Value.int (1 : Int) 0), (Value.int (0 : Int) 0), (Value.int (0 : Int) 0), (Value.int (3 : Int) 0), (Value.ref 133), (Value.bool Bool.true), (Value.int (330 : Int) 0), (Value.ref 134), Value.none, (Value.ref 135), (Value.ref 136), (Value.ref 137), (Value.int (456 : Int) 0), (Value.int (37 : Int) 0), (Value.str (Str.ofString "/claim/cut.py") 457)]) #[])) ::
((nat_lit 139), (Obj.mk (Value.type "function") none (Data.func (fdat (sub 7 5) (Str.ofString "Month.name") 3 [] Value.none Value.none Value.none (Value.str (Str.ofString "calendar") 358) none (Value.ref 138) Value.none 0)) #[])) ::
((nat_lit 140), (Obj.mk (Value.type "property") none (Data.fields #[(Value.ref 121), (Value.ref 130), (Value.ref 139), Value.none, (Value.str (Str.ofString "name") 440), (Value.bool Bool.false)]) #[])) ::
((nat_lit 141), (Obj.mk (Value.type "tuple") none (Data.seq #[] 0) #[])) ::
((nat_lit 143), (Obj.mk (Value.type "tuple") none (Data.seq #[(Value.str (Str.ofString "self") 463)] 0) #[])) ::
((nat_lit 144), (Obj.mk (Value.type "tuple") none (Data.seq #[] 0) #[])) ::
((nat_lit 146), (Obj.mk (Value.type "code") none (Data.fields #[(Value.str (Str.ofString "value") 460), (Value.str (Str.ofString "Month.value") 461), (Value.str (Str.ofString "/claim/cut.py") 462), (Value.int (41 : Int) 0), (Value.int (1 : Int) 0), (Value.int (0 : Int) 0), (Value.int (0 : Int) 0), (Value.int (3 : Int) 0), (Value.ref 141), (Value.bool Bool.true), (Value.int (330 : Int) 0), (Value.ref 142), Value.none, (Value.ref 143), (Value.ref 144), (Value.ref 145), (Value.int (464 : Int) 0), (Value.int (41 : Int) 0), (Value.str (Str.ofString "/claim/cut.py") 465)]) #[])) ::
((nat_lit 147), (Obj.mk (Value.type "function") none (Data.func (fdat (sub 7 6) (Str.ofString "Month.value") 3 [] Value.none Value.none Value.none (Value.str (Str.ofString "calendar") 358) none (Value.ref 146) Value.none 0)) #[])) ::
((nat_lit 150), (Obj.mk (Value.type "tuple") none (Data.seq #[] 0) #[])) ::
((nat_lit 152), (Obj.mk (Value.type "tuple") none (Data.seq #[(Value.str (Str.ofString "self") 472), (Value.str (Str.ofString "value") 473)] 0) #[])) ::
((nat_lit 153), (Obj.mk (Value.type "tuple") none (Data.seq #[] 0) #[])) ::
((nat_lit 155), (Obj.mk (Value.type "code") none (Data.fields #[(Value.str (Str.ofString "value") 469), (Value.str (Str.ofString "Month.value") 470), (Value.str (Str.ofString "/claim/cut.py") 471), (Value.int (45 : Int) 0), (Value.int (2 : Int) 0), (Value.int (0 : Int) 0), (Value.int (0 : Int) 0), (Value.int (3 : Int) 0), (Value.ref 150), (Value.bool Bool.true), (Value.int (330 : Int) 0), (Value.ref 151), Value.none, (Value.ref 152), (Value.ref 153), (Value.ref 154), (Value.int (474 : Int) 0), (Value.int (45 : Int) 0), (Value.str (Str.ofString "/claim/cut.py") 475)]) #[])) ::
((nat_lit 156), (Obj.mk (Value.type "function") none (Data.func (fdat (sub 7 7) (Str.ofString "Month.value") 3 [] Value.none Value.none Value.none (Value.str (Str.ofString "calendar") 358) none (Value.ref 155) Value.none 0)) #[])) ::
((nat_lit 159), (Obj.mk (Value.type "tuple") none (Data.seq #[] 0) #[])) ::
((nat_lit 161), (Obj.mk (Value.type "tuple") none (Data.seq #[(Value.str (Str.ofString "self") 482)] 0) #[])) ::
((nat_lit 162), (Obj.mk (Value.type "tuple") none (Data.seq #[] 0) #[])) ::
((nat_lit 164), (Obj.mk (Value.type "code") none (Data.fields #[(Value.str (Str.ofString "value") 479), (Value.str (Str.ofString "Month.value") 480), (Value.str (Str.ofString "/claim/cut.py") 481), (Value.int (49 : Int) 0), (Value.int (1 : Int) 0), (Value.int (0 : Int) 0), (Value.int (0 : Int) 0), (Value.int (3 : Int) 0), (Value.ref 159), (Value.bool Bool.true), (Value.int (330 : Int) 0), (Value.ref 160), Value.none, (Value.ref 161), (Value.ref 162), (Value.ref 163), (Value.int (483 : Int) 0), (Value.int (49 : Int) 0), (Value.str (Str.ofString "/claim/cut.py") 484)]) #[])) ::
((nat_lit 165), (Obj.mk (Value.type "function") none (Data.func (fdat (sub 7 8) (Str.ofString "Month.value") 3 [] Value.none Value.none Value.none (Value.str (Str.ofString "calendar") 358) none (Value.ref 164) Value.none 0)) #[])) ::
((nat_lit 166), (Obj.mk (Value.type "property") none (Data.fields #[(Value.ref 147), (Value.ref 156), (Value.ref 165), Value.none, (Value.str (Str.ofString "value") 467), (Value.bool Bool.false)]) #[])) ::
((nat_lit 167), (Obj.mk (Value.type "tuple") none (Data.seq #[] 0) #[])) ::
((nat_lit 169), (Obj.mk (Value.type "tuple") none (Data.seq #[(Value.str (Str.ofString "self") 490)] 0) #[])) ::
((nat_lit 170), (Obj.mk (Value.type "tuple") none (Data.seq #[] 0) #[])) ::
((nat_lit 172), (Obj.mk (Value.type "code") none (Data.fields #[(Value.str (Str.ofString "__copy__") 487), (Value.str (Str.ofString "Month.__copy__") 488), (Value.str (Str.ofString "/claim/cut.py") 489), (Value.int (53 : Int) 0), (Value.int (1 : Int) 0), (Value.int (0 : Int) 0), (Value.int (0 : Int) 0), (Value.int (3 : Int) 0), (Value.ref 167), (Value.bool Bool.true), (Value.int (330 : Int) 0), (Value.ref 168), Value.none, (Value.ref 169), (Value.ref 170), (Value.ref 171), (Value.int (491 : Int) 0), (Value.int (53 : Int) 0), (Value.str (Str.ofString "/claim/cut.py") 492)]) #[])) ::
((nat_lit 173), (Obj.mk (Value.type "function") none (Data.func (fdat (sub 7 9) (Str.ofString "Month.__copy__") 3 [] Value.none Value.none Value.none (Value.str (Str.ofString "calendar") 358) none (Value.ref 172) Value.none 0)) #[])) ::
((nat_lit 174), (Obj.mk (Value.type "tuple") none (Data.seq #[] 0) #[])) ::
((nat_lit 176), (Obj.mk (Value.type "tuple") none (Data.seq #[(Value.str (Str.ofString "self") 497), (Value.str (Str.ofString "memo") 498)] 0) #[])) ::
((nat_lit 177), (Obj.mk (Value.type "tuple") none (Data.seq #[] 0) #[])) ::
((nat_lit 179), (Obj.mk (Value.type "code") none (Data.fields #[(Value.str (Str.ofString "__deepcopy__") 494), (Value.str (Str.ofString "Month.__deepcopy__") 495), (Value.str (Str.ofString "/claim/cut.py") 496), (Value.int (56 : Int) 0), (Value.int (2 : Int) 0), (Value.int (0 : Int) 0), (Value.int (0 : Int) 0), (Value.int (3 : Int) 0), (Value.ref 174), (Value.bool Bool.true), (Value.int (330 : Int) 0), (Value.ref 175), Value.none, (Value.ref 176), (Value.ref 177), (Value.ref 178), (Value.int (499 : Int) 0), (Value.int (56 : Int) 0), (Value.str (Str.ofString "/claim/cut.py") 500)]) #[])) ::
((nat_lit 180), (Obj.mk (Value.type "function") none (Data.func (fdat (sub 7 10) (Str.ofString "Month.__deepcopy__") 3 [] Value.none Value.none Value.none (Value.str (Str.ofString "calendar") 358) none (Value.ref 179) Value.none 0)) #[])) ::
((nat_lit 181), (Obj.mk (Value.type "tuple") none (Data.seq #[] 0) #[])) ::
((nat_lit 183), (Obj.mk (Value.type "tuple") none (Data.seq #[(Value.str (Str.ofString "self") 505)] 0) #[])) ::
((nat_lit 184), (Obj.mk (Value.type "tuple") none (Data.seq #[] 0) #[])) ::
((nat_lit 186), (Obj.mk (Value.type "code") none (Data.fields #[(Value.str (Str.ofString "__repr__") 502), (Value.str (Str.ofString "Month.__repr__") 503), (Value.str (Str.ofString "/claim/cut.py") 504), (Value.int (59 : Int) 0), (Value.int (1 : Int) 0), (Value.int (0 : Int) 0), (Value.int (0 : Int) 0), (Value.int (3 : Int) 0), (Value.ref 181), (Value.bool Bool.true), (Value.int (330 : Int) 0), (Value.ref 182), Value.none, (Value.ref 183), (Value.ref 184), (Value.ref 185), (Value.int (506 : Int) 0), (Value.int (59 : Int) 0), (Value.str (Str.ofString "/claim/cut.py") 507)]) #[])) ::
((nat_lit 187), (Obj.mk (Value.type "function") none (Data.func (fdat (sub 7 11) (Str.ofString "Month.__repr__") 3 [] Value.none Value.none Value.none (Value.str (Str.ofString "calendar") 358) none (Value.ref 186) Value.none 0)) #[])) ::
((nat_lit 188), (Obj.mk (Value.type "tuple") none (Data.seq #[] 0) #[])) ::
((nat_lit 189), (Obj.mk (Value.type "dict") none (Data.dict #[(DictEntry.mk (PyData.keyHash P (Str.ofString "__module__")) (Value.str (Str.ofString "__module__") 403) (Value.str (Str.ofString "calendar") 358)), (DictEntry.mk (PyData.keyHash P (Str.ofString "__firstlineno__")) (Value.str (Str.ofString "__firstlineno__") 407) (Value.int (18 : Int) 406)), (DictEntry.mk (PyData.keyHash P (Str.ofString "__new__")) (Value.str (Str.ofString "__new__") 416) (Value.ref 191)), (DictEntry.mk (PyData.keyHash P (Str.ofString "__init_subclass__")) (Value.str (Str.ofString "__init_subclass__") 424) (Value.ref 192)), (DictEntry.mk (PyData.keyHash P (Str.ofString "__class_getitem__")) (Value.str (Str.ofString "__class_getitem__") 432) (Value.ref 193)), (DictEntry.mk (PyData.keyHash P (Str.ofString "name")) (Value.str (Str.ofString "name") 440) (Value.ref 140)), (DictEntry.mk (PyData.keyHash P (Str.ofString "value")) (Value.str (Str.ofString "value") 467) (Value.ref 166)), (DictEntry.mk (PyData.keyHash P (Str.ofString "__copy__")) (Value.str (Str.ofString "__copy__") 493) (Value.ref 173)), (DictEntry.mk (PyData.keyHash P (Str.ofString "__deepcopy__")) (Value.str (Str.ofString "__deepcopy__") 501) (Value.ref 180)), (DictEntry.mk (PyData.keyHash P (Str.ofString "__repr__")) (Value.str (Str.ofString "__repr__") 508) (Value.ref 187)), (DictEntry.mk (PyData.keyHash P (Str.ofString "__str__")) (Value.str (Str.ofString "__str__") 510) (Value.builtin "int.__repr__")), (DictEntry.mk (PyData.keyHash P (Str.ofString "__static_attributes__")) (Value.str (Str.ofString "__static_attributes__") 511) (Value.ref 188)), (DictEntry.mk (PyData.keyHash P (Str.ofString "__dict__")) (Value.str (Str.ofString "__dict__") 516) (Value.ref 194)), (DictEntry.mk (PyData.keyHash P (Str.ofString "__doc__")) (Value.str (Str.ofString "__doc__") 517) Value.none), (DictEntry.mk (PyData.keyHash P (Str.ofString "JANUARY")) (Value.str (Str.ofString "JANUARY") 906) (Value.ref 316)), (DictEntry.mk (PyData.keyHash P (Str.ofString "FEBRUARY")) (Value.str (Str.ofString "FEBRUARY") 908) (Value.ref 319)), (DictEntry.mk (PyData.keyHash P (Str.ofString "MARCH")) (Value.str (Str.ofString "MARCH") 910) (Value.ref 322)), (DictEntry.mk (PyData.keyHash P (Str.ofString "APRIL")) (Value.str (Str.ofString "APRIL") 912) (Value.ref 325)), (DictEntry.mk (PyData.keyHash P (Str.ofString "MAY")) (Value.str (Str.ofString "MAY") 914) (Value.ref 328)), (DictEntry.mk (PyData.keyHash P (Str.ofString "JUNE")) (Value.str (Str.ofString "JUNE") 916) (Value.ref 331)), (DictEntry.mk (PyData.keyHash P (Str.ofString "JULY")) (Value.str (Str.ofString "JULY") 918) (Value.ref 334)), (DictEntry.mk (PyData.keyHash P (Str.ofString "AUGUST")) (Value.str (Str.ofString "AUGUST") 920) (Value.ref 337)), (DictEntry.mk (PyData.keyHash P (Str.ofString "SEPTEMBER")) (Value.str (Str.ofString "SEPTEMBER") 922) (Value.ref 340)), (DictEntry.mk (PyData.keyHash P (Str.ofString "OCTOBER")) (Value.str (Str.ofString "OCTOBER") 924) (Value.ref 343)), (DictEntry.mk (PyData.keyHash P (Str.ofString "NOVEMBER")) (Value.str (Str.ofString "NOVEMBER") 926) (Value.ref 346)), (DictEntry.mk (PyData.keyHash P (Str.ofString "DECEMBER")) (Value.str (Str.ofString "DECEMBER") 928) (Value.ref 349))] 15) #[])) ::
((nat_lit 190), (Obj.mk (Value.type "type") none (Data.cls (ClassData.mk (Str.ofString "Month") [(Value.type "int")] [(Value.ref 190), (Value.type "int"), (Value.type "object")] 189 (Str.ofString "Month") Bool.true [] [] Bool.false none Bool.false)) #[(some (Value.ref 87)), none, (some (Value.str (Str.ofString "Month") 396)), (some (Value.str (Str.ofString "Month") 404)), (some Value.none), (some (Value.bool Bool.false))])) ::
((nat_lit 191), (Obj.mk (Value.type "staticmethod") none (Data.fields #[(Value.ref 100)]) #[])) ::
((nat_lit 192), (Obj.mk (Value.type "classmethod") none (Data.fields #[(Value.ref 107)]) #[])) ::
((nat_lit 193), (Obj.mk (Value.type "classmethod") none (Data.fields #[(Value.ref 114)]) #[])) ::
((nat_lit 194), (Obj.mk (Value.type "getset_descriptor") none (Data.fields #[(Value.str (Str.ofString "__dict__") 515), (Value.ref 190), (Value.builtin "function.__dict__"), (Value.builtin "function.__dict__#set")]) #[])) ::
((nat_lit 197), (Obj.mk (Value.type "tuple") none (Data.seq #[(Value.type "int")] 0) #[])) ::
((nat_lit 204), (Obj.mk (Value.type "tuple") none (Data.seq #[] 0) #[])) ::
((nat_lit 206), (Obj.mk (Value.type "tuple") none (Data.seq #[(Value.str (Str.ofString "cls") 537), (Value.str (Str.ofString "args") 538), (Value.str (Str.ofString "kwargs") 539)] 0) #[])) ::
((nat_lit 207), (Obj.mk (Value.type "tuple") none (Data.seq #[] 0) #[])) ::
((nat_lit 209), (Obj.mk (Value.type "code") none (Data.fields #[(Value.str (Str.ofString "__new__") 534), (Value.str (Str.ofString "Day.__new__") 535), (Value.str (Str.ofString "/claim/cut.py") 536), (Value.int (64 : Int) 0), (Value.int (1 : Int) 0), (Value.int (0 : Int) 0), (Value.int (0 : Int) 0), (Value.int (15 : Int) 0), (Value.ref 204), (Value.bool Bool.true), (Value.int (330 : Int) 0), (Value.ref 205), Value.none, (Value.ref 206), (Value.ref 207), (Value.ref 208), (Value.int (540 : Int) 0), (Value.int (64 : Int) 0), (Value.str (Str.ofString "/claim/cut.py") 541)]) #[])) ::
((nat_lit 210), (Obj.mk (Value.type "function") none (Data.func (fdat (sub 8 0) (Str.ofString "Day.__new__") 3 [] Value.none Value.none Value.none (Value.str (Str.ofString "calendar") 358) none (Value.ref 209) Value.none 0)) #[])) ::
((nat_lit 211), (Obj.mk (Value.type "tuple") none (Data.seq #[] 0) #[])) ::
((nat_lit 213), (Obj.mk (Value.type "tuple") none (Data.seq #[(Value.str (Str.ofString "cls") 546), (Value.str (Str.ofString "kwargs") 547)] 0) #[])) ::
((nat_lit 214), (Obj.mk (Value.type "tuple") none (Data.seq #[] 0) #[])) ::
((nat_lit 216), (Obj.mk (Value.type "code") none (Data.fields #[(Value.str (Str.ofString "__init_subclass__") 543), (Value.str (Str.ofString "Day.__init_subclass__") 544), (Value.str (Str.ofString "/claim/cut.py") 545), (Value.int (67 : Int) 0), (Value.int (1 : Int) 0), (Value.int (0 : Int) 0), (Value.int (0 : Int) 0), (Value.int (11 : Int) 0), (Value.ref 211), (Value.bool Bool.true), (Value.int (330 : Int) 0), (Value.ref 212), Value.none, (Value.ref 213), (Value.ref 214), (Value.ref 215), (Value.int (548 : Int) 0), (Value.int (67 : Int) 0), (Value.str (Str.ofString "/claim/cut.py") 549)]) #[])) ::
((nat_lit 217), (Obj.mk (Value.type "function") none (Data.func (fdat (sub 8 1) (Str.ofString "Day.__init_subclass__") 3 [] Value.none Value.none Value.none (Value.str (Str.ofString "calendar") 358) none (Value.ref 216) Value.none 0)) #[])) ::
((nat_lit 218), (Obj.mk (Value.type "tuple") none (Data.seq #[] 0) #[])) ::
((nat_lit 220), (Obj.mk (Value.type "tuple") none (Data.seq #[(Value.str (Str.ofString "cls") 554), (Value.str (Str.ofString "item") 555)] 0) #[])) ::
((nat_lit 221), (Obj.mk (Value.type "tuple") none (Data.seq #[] 0) #[])) ::
((nat_lit 223), (Obj.mk (Value.type "code") none (Data.fields #[(Value.str (Str.ofString "__class_getitem__") 551), (Value.str (Str.ofString "Day.__class_getitem__") 552), (Value.str (Str.ofString "/claim/cut.py") 553), (Value.int (70 : Int) 0), (Value.int (2 : Int) 0), (Value.int (0 : Int) 0), (Value.int (0 : Int) 0), (Value.int (3 : Int) 0), (Value.ref 218), (Value.bool Bool.true), (Value.int (330 : Int) 0), (Value.ref 219), Value.none, (Value.ref 220), (Value.ref 221), (Value.ref 222), (Value.int (556 : Int) 0), (Value.int (70 : Int) 0), (Value.str (Str.ofString "/claim/cut.py") 557)]) #[])) ::
((nat_lit 224), (Obj.mk (Value.type "function") none (Data.func (fdat (sub 8 2) (Str.ofString "Day.__class_getitem__") 3 [] Value.none Value.none Value.none (Value.str (Str.ofString "calendar") 358) none (Value.ref 223) Value.none 0)) #[])) ::
((nat_lit 225), (Obj.mk (Value.type "tuple") none (Data.seq #[] 0) #[])) ::
((nat_lit 227), (Obj.mk (Value.type "tuple") none (Data.seq #[(Value.str (Str.ofString "self") 562)] 0) #[])) ::
((nat_lit 228), (Obj.mk (Value.type "tuple") none (Data.seq #[] 0) #[])) ::
((nat_lit 230), (Obj.mk (Value.type "code") none (Data.fields #[(Value.str (Str.ofString "name") 559), (Value.str (Str.ofString "Day.name") 560), (Value.str (Str.ofString "/claim/cut.py") 561), (Value.int (73 : Int) 0), (Value.int (1 : Int) 0), (Value.int (0 : Int) 0), (Value.int (0 : Int) 0), (Value.int (3 : Int) 0), (Value.ref 225), (Value.bool Bool.true), (Value.int (330 : Int) 0), (Value.ref 226), Value.none, (Value.ref 227), (Value.ref 228), (Value.ref 229), (Value.int (563 : Int) 0), (Value.int (73 : Int) 0), (Value.str (Str.ofString "/claim/cut.py") 564)]) #[])) ::
((nat_lit 231), (Obj.mk (Value.type "function") none (Data.func (fdat (sub 8 3) (Str.ofString "Day.name") 3 [] Value.none Value.none Value.none (Value.str (Str.ofString "calendar") 358) none (Value.ref 230) Value.none 0)) #[])) ::
((nat_lit 234), (Obj.mk (Value.type "tuple") none (Data.seq #[] 0) #[])) ::
((nat_lit 236), (Obj.mk (Value.type "tuple") none (Data.seq #[(Value.str (Str.ofString "self") 571), (Value.str (Str.ofString "value") 572)] 0) #[])) ::
((nat_lit 237), (Obj.mk (Value.type "tuple") none (Data.seq #[] 0) #[])) ::
((nat_lit 239), (Obj.mk (Value.type "code") none (Data.fields #[(Value.str (Str.ofString "name") 568), (Value.str (Str.ofString "Day.name") 569), (Value.str (Str.ofString "/claim/cut.py") 570), (Value.int (77 : Int) 0), (Value.int (2 : Int) 0), (Value.int (0 : Int) 0), (Value.int (0 : Int) 0), (Value.int (3 : Int) 0), (Value.ref 234), (Value.bool Bool.true), (Value.int (330 : Int) 0), (Value.ref 235), Value.none, (Value.ref 236), (Value.ref 237), (Value.ref 238), (Value.int (573 : Int) 0), (Value.int (77 : Int) 0), (Value.str (Str.ofString "/claim/cut.py") 574)]) #[])) ::
((nat_lit 240), (Obj.mk (Value.type "function") none (Data.func (fdat (sub 8 4) (Str.ofString "Day.name") 3 [] Value.none Value.none Value.none (Value.str (Str.ofString "calendar") 358) none (Value.ref 239) Value.none 0)) #[])) ::
((nat_lit 243), (Obj.mk (Value.type "tuple") none (Data.seq #[] 0) #[])) ::
((nat_lit 245), (Obj.mk (Value.type "tuple") none (Data.seq #[(Value.str (Str.ofString "self") 581)] 0) #[])) ::
((nat_lit 246), (Obj.mk (Value.type "tuple") none (Data.seq #[] 0) #[])) ::
((nat_lit 248), (Obj.mk (Value.type "code") none (Data.fields #[(Value.str (Str.ofString "name") 578), (Value.str (Str.ofString "Day.name") 579), (Value.str (Str.ofString "/claim/cut.py") 580), (Value.int (81 : Int) 0), (Value.int (1 : Int) 0), (Value.int (0 : Int) 0), (Value.int (0 : Int) 0), (Value.int (3 : Int) 0), (Value.ref 243), (Value.bool Bool.true), (Value.int (330 : Int) 0), (Value.ref 244), Value.none, (Value.ref 245), (Value.ref 246), (Value.ref 247), (Value.int (582 : Int) 0), (Value.int (81 : Int) 0), (Value.str (Str.ofString "/claim/cut.py") 583)]) #[])) ::
((nat_lit 249), (Obj.mk (Value.type "function") none (Data.func (fdat (sub 8 5) (Str.ofString "Day.name") 3 [] Value.none Value.none Value.none (Value.str (Str.ofString "calendar") 358) none (Value.ref 248) Value.none 0)) #[])) ::
((nat_lit 250), (Obj.mk (Value.type "property") none (Data.fields #[(Value.ref 231), (Value.ref 240), (Value.ref 249), Value.none, (Value.str (Str.ofString "name") 566), (Value.bool Bool.false)]) #[])) ::
((nat_lit 251), (Obj.mk (Value.type "tuple") none (Data.seq #[] 0) #[])) ::
((nat_lit 253), (Obj.mk (Value.type "tuple") none (Data.seq #[(Value.str (Str.ofString "self") 589)] 0) #[])) ::
((nat_lit 254), (Obj.mk (Value.type "tuple") none (Data.seq #[] 0) #[])) ::
((nat_lit 256), (Obj.mk (Value.type "code") none (Data.fields #[(Value.str (Str.ofString "value") 586), (Value.str (Str.ofString "Day.value") 587), (Value.str (Str.ofString "/claim/cut.py") 588), (Value.int (85 : Int) 0), (Value.int (1 : Int) 0), (Value.int (0 : Int) 0), (Value.int (0 : Int) 0), (Value.int (3 : Int) 0), (Value.ref 251), (Value.bool Bool.true), (Value.int (330 : Int) 0), (Value.ref 252), Value.none, (Value.ref 253), (Value.ref 254), (Value.ref 255), (Value.int (590 : Int) 0), (Value.int (85 : Int) 0), (Value.str (Str.ofString "/claim/cut.py") 591)]) #[])) ::
((nat_lit 257), (Obj.mk (Value.type "function") none (Data.func (fdat (sub 8 6) (Str.ofString "Day.value") 3 [] Value.none Value.none Value.none (Value.str (Str.ofString "calendar") 358) none (Value.ref 256) Value.none 0)) #[])) ::
((nat_lit 260), (Obj.mk (Value.type "tuple") none (Data.seq #[] 0) #[])) ::
((nat_lit 262), (Obj.mk (Value.type "tuple") none (Data.seq #[(Value.str (Str.ofString "self") 598), (Value.str (Str.ofString "value") 599)] 0) #[])) ::
((nat_lit 263), (Obj.mk (Value.type "tuple") none (Data.seq #[] 0) #[])) ::
((nat_lit 265), (Obj.mk (Value.type "code") none (Data.fields #[(Value.str (Str.ofString "value") 595), (Value.str (Str.ofString "Day.value") 596), (Value.str (Str.ofString "/claim/cut.py") 597), (Value.int (89 : Int) 0), (Value.int (2 : Int) 0), (Value.int (0 : Int) 0), (Value.int (0 : Int) 0), (Value.int (3 : Int) 0), (Value.ref 260), (Value.bool Bool.true), (Value.int (330 : Int) 0), (Value.ref 261), Value.none, (Value.ref 262), (Value.ref 263), (Value.ref 264), (Value.int (600 : Int) 0), (Value.int (89 : Int) 0), (Value.str (Str.ofString "/claim/cut.py") 601)]) #[])) ::
((nat_lit 266), (Obj.mk (Value.type "function") none (Data.func (fdat (sub 8 7) (Str.ofString "Day.value") 3 [] Value.none Value.none Value.none (Value.str (Str.ofString "calendar") 358) none (Value.ref 265) Value.none 0)) #[])) ::
((nat_lit 269), (Obj.mk (Value.type "tuple") none (Data.seq #[] 0) #[])) ::
((nat_lit 271), (Obj.mk (Value.type "tuple") none (Data.seq #[(Value.str (Str.ofString "self") 608)] 0) #[])) ::
((nat_lit 272), (Obj.mk (Value.type "tuple") none (Data.seq #[] 0) #[])) ::
((nat_lit 274), (Obj.mk (Value.type "code") none (Data.fields #[(Value.str (Str.ofString "value") 605), (Value.str (Str.ofString "Day.value") 606), (Value.str (Str.ofString "/claim/cut.py") 607), (Value.int (93 : Int) 0), (Value.int (1 : Int) 0), (Value.int (0 : Int) 0), (Value.int (0 : Int) 0), (Value.int (3 : Int) 0), (Value.ref 269), (Value.bool Bool.true), (Value.int (330 : Int) 0), (Value.ref 270), Value.none, (Value.ref 271), (Value.ref 272), (Value.ref 273), (Value.int (609 : Int) 0), (Value.int (93 : Int) 0), (Value.str (Str.ofString "/claim/cut.py") 610)]) #[])) ::
((nat_lit 275), (Obj.mk (Value.type "function") none (Data.func (fdat (sub 8 8) (Str.ofString "Day.value") 3 [] Value.none Value.none Value.none (Value.str (Str.ofString "calendar") 358) none (Value.ref 274) Value.none 0)) #[])) ::
((nat_lit 276), (Obj.mk (Value.type "property") none (Data.fields #[(Value.ref 257), (Value.ref 266), (Value.ref 275), Value.none, (Value.str (Str.ofString "value") 593), (Value.bool Bool.false)]) #[])) ::
((nat_lit 277), (Obj.mk (Value.type "tuple") none (Data.seq #[] 0) #[])) ::
((nat_lit 279), (Obj.mk (Value.type "tuple") none (Data.seq #[(Value.str (Str.ofString "self") 616)] 0) #[])) ::
((nat_lit 280), (Obj.mk (Value.type "tuple") none (Data.seq #[] 0) #[])) ::
((nat_lit 282), (Obj.mk (Value.type "code") none (Data.fields #[(Value.str (Str.ofString "__copy__") 613), (Value.str (Str.ofString "Day.__copy__") 614), (Value.str (Str.ofString "/claim/cut.py") 615), (Value.int (97 : Int) 0), (Value.int (1 : Int) 0), (Value.int (0 : Int) 0), (Value.int (0 : Int) 0), (Value.int (3 : Int) 0), (Value.ref 277), (Value.bool Bool.true), (Value.int (330 : Int) 0), (Value.ref 278), Value.none, (Value.ref 279), (Value.ref 280), (Value.ref 281), (Value.int (617 : Int) 0), (Value.int (97 : Int) 0), (Value.str (Str.ofString "/claim/cut.py") 618)]) #[])) ::
((nat_lit 283), (Obj.mk (Value.type "function") none (Data.func (fdat (sub 8 9) (Str.ofString "Day.__copy__") 3 [] Value.none Value.none Value.none (Value.str (Str.ofString "calendar") 358) none (Value.ref 282) Value.none 0)) #[])) ::
((nat_lit 284), (Obj.mk (Value.type "tuple") none (Data.seq #[] 0) #[])) ::
((nat_lit 286), (Obj.mk (Value.type "tuple") none (Data.seq #[(Value.str (Str.ofString "self") 623), (Value.str (Str.ofString "memo") 624)] 0) #[])) ::
((nat_lit 287), (Obj.mk (Value.type "tuple") none (Data.seq #[] 0) #[])) ::
((nat_lit 289), (Obj.mk (Value.type "code") none (Data.fields #[(Value.str (Str.ofString "__deepcopy__") 620), (Value.str (Str.ofString "Day.__deepcopy__") 621), (Value.str (Str.ofString "/claim/cut.py") 622), (Value.int (100 : Int) 0), (Value.int (2 : Int) 0), (Value.int (0 : Int) 0), (Value.int (0 : Int) 0), (Value.int (3 : Int) 0), (Value.ref 284), (Value.bool Bool.true), (Value.int (330 : Int) 0), (Value.ref 285), Value.none, (Value.ref 286), (Value.ref 287), (Value.ref 288), (Value.int (625 : Int) 0), (Value.int (100 : Int) 0), (Value.str (Str.ofString "/claim/cut.py") 626)]) #[])) ::
((nat_lit 290), (Obj.mk (Value.type "function") none (Data.func (fdat (sub 8 10) (Str.ofString "Day.__deepcopy__") 3 [] Value.none Value.none Value.none (Value.str (Str.ofString "calendar") 358) none (Value.ref 289) Value.none 0)) #[])) ::
((nat_lit 291), (Obj.mk (Value.type "tuple") none (Data.seq #[] 0) #[])) ::
((nat_lit 293), (Obj.mk (Value.type "tuple") none (Data.seq #[(Value.str (Str.ofString "self") 631)] 0) #[])) ::
((nat_lit 294), (Obj.mk (Value.type "tuple") none (Data.seq #[] 0) #[])) ::
((nat_lit 296), (Obj.mk (Value.type "code") none (Data.fields #[(Value.str (Str.ofString "__repr__") 628), (Value.str (Str.ofString "Day.__repr__") 629), (Value.str (Str.ofString "/claim/cut.py") 630), (Value.int (103 : Int) 0), (Value.int (1 : Int) 0), (Value.int (0 : Int) 0), (Value.int (0 : Int) 0), (Value.int (3 : Int) 0), (Value.ref 291), (Value.bool Bool.true), (Value.int (330 : Int) 0), (Value.ref 292), Value.none, (Value.ref 293), (Value.ref 294), (Value.ref 295), (Value.int (632 : Int) 0), (Value.int (103 : Int) 0), (Value.str (Str.ofString "/claim/cut.py") 633)]) #[])) ::
((nat_lit 297), (Obj.mk (Value.type "function") none (Data.func (fdat (sub 8 11) (Str.ofString "Day.__repr__") 3 [] Value.none Value.none Value.none (Value.str (Str.ofString "calendar") 358) none (Value.ref 296) Value.none 0)) #[])) ::
((nat_lit 298), (Obj.mk (Value.type "tuple") none (Data.seq #[] 0) #[])) ::
((nat_lit 299), (Obj.mk (Value.type "dict") none (Data.dict #[(DictEntry.mk (PyData.keyHash P (Str.ofString "__module__")) (Value.str (Str.ofString "__module__") 529) (Value.str (Str.ofString "calendar") 358)), (DictEntry.mk (PyData.keyHash P (Str.ofString "__firstlineno__")) (Value.str (Str.ofString "__firstlineno__") 533) (Value.int (62 : Int) 532)), (DictEntry.mk (PyData.keyHash P (Str.ofString "__new__")) (Value.str (Str.ofString "__new__") 542) (Value.ref 301)), (DictEntry.mk (PyData.keyHash P (Str.ofString "__init_subclass__")) (Value.str (Str.ofString "__init_subclass__") 550) (Value.ref 302)), (DictEntry.mk (PyData.keyHash P (Str.ofString "__class_getitem__")) (Value.str (Str.ofString "__class_getitem__") 558) (Value.ref 303)), (DictEntry.mk (PyData.keyHash P (Str.ofString "name")) (Value.str (Str.ofString "name") 566) (Value.ref 250)), (DictEntry.mk (PyData.keyHash P (Str.ofString "value")) (Value.str (Str.ofString "value") 593) (Value.ref 276)), (DictEntry.mk (PyData.keyHash P (Str.ofString "__copy__")) (Value.str (Str.ofString "__copy__") 619) (Value.ref 283)), (DictEntry.mk (PyData.keyHash P (Str.ofString "__deepcopy__")) (Value.str (Str.ofString "__deepcopy__") 627) (Value.ref 290)), (DictEntry.mk (PyData.keyHash P (Str.ofString "__repr__")) (Value.str (Str.ofString "__repr__") 634) (Value.ref 297)), (DictEntry.mk (PyData.keyHash P (Str.ofString "__str__")) (Value.str (Str.ofString "__str__") 636) (Value.builtin "int.__repr__")), (DictEntry.mk (PyData.keyHash P (Str.ofString "__static_attributes__")) (Value.str (Str.ofString "__static_attributes__") 637) (Value.ref 298)), (DictEntry.mk (PyData.keyHash P (Str.ofString "__dict__")) (Value.str (Str.ofString "__dict__") 642) (Value.ref 304)), (DictEntry.mk (PyData.keyHash P (Str.ofString "__doc__")) (Value.str (Str.ofString "__doc__") 643) Value.none), (DictEntry.mk (PyData.keyHash P (Str.ofString "MONDAY")) (Value.str (Str.ofString "MONDAY") 930) (Value.ref 352)), (DictEntry.mk (PyData.keyHash P (Str.ofString "TUESDAY")) (Value.str (Str.ofString "TUESDAY") 932) (Value.ref 355)), (DictEntry.mk (PyData.keyHash P (Str.ofString "WEDNESDAY")) (Value.str (Str.ofString "WEDNESDAY") 934) (Value.ref 358)), (DictEntry.mk (PyData.keyHash P (Str.ofString "THURSDAY")) (Value.str (Str.ofString "THURSDAY") 936) (Value.ref 361)), (DictEntry.mk (PyData.keyHash P (Str.ofString "FRIDAY")) (Value.str (Str.ofString "FRIDAY") 938) (Value.ref 364)), (DictEntry.mk (PyData.keyHash P (Str.ofString "SATURDAY")) (Value.str (Str.ofString "SATURDAY") 940) (Value.ref 367)), (DictEntry.mk (PyData.keyHash P (Str.ofString "SUNDAY")) (Value.str (Str.ofString "SUNDAY") 942) (Value.ref 370))] 10) #[])) ::
((nat_lit 300), (Obj.mk (Value.type "type") none (Data.cls (ClassData.mk (Str.ofString "Day") [(Value.type "int")] [(Value.ref 300), (Value.type "int"), (Value.type "object")] 299 (Str.ofString "Day") Bool.true [] [] Bool.false none Bool.false)) #[(some (Value.ref 197)), none, (some (Value.str (Str.ofString "Day") 522)), (some (Value.str (Str.ofString "Day") 530)), (some Value.none), (some (Value.bool Bool.false))])) ::
((nat_lit 301), (Obj.mk (Value.type "staticmethod") none (Data.fields #[(Value.ref 210)]) #[])) ::
((nat_lit 302), (Obj.mk (Value.type "classmethod") none (Data.fields #[(Value.ref 217)]) #[])) ::
((nat_lit 303), (Obj.mk (Value.type "classmethod") none (Data.fields #[(Value.ref 224)]) #[])) ::
((nat_lit 304), (Obj.mk (Value.type "getset_descriptor") none (Data.fields #[(Value.str (Str.ofString "__dict__") 641), (Value.ref 300), (Value.builtin "function.__dict__"), (Value.builtin "function.__dict__#set")]) #[])) ::
((nat_lit 315), (Obj.mk (Value.type "dict") none (Data.dict #[(DictEntry.mk (PyData.keyHash P (Str.ofString "_name_")) (Value.str (Str.ofString "_name_") 667) (Value.str (Str.ofString "JANUARY") 658)), (DictEntry.mk (PyData.keyHash P (Str.ofString "_value_")) (Value.str (Str.ofString "_value_") 669) (Value.int (1 : Int) 659))] 2) #[])) ::
((nat_lit 316), (Obj.mk (Value.ref 190) (some 315) (Data.prim (Value.int (1 : Int) 664)) #[])) ::
((nat_lit 318), (Obj.mk (Value.type "dict") none (Data.dict #[(DictEntry.mk (PyData.keyHash P (Str.ofString "_name_")) (Value.str (Str.ofString "_name_") 680) (Value.str (Str.ofString "FEBRUARY") 671)), (DictEntry.mk (PyData.keyHash P (Str.ofString "_value_")) (Value.str (Str.ofString "_value_") 682) (Value.int (2 : Int) 672))] 2) #[])) ::
((nat_lit 319), (Obj.mk (Value.ref 190) (some 318) (Data.prim (Value.int (2 : Int) 677)) #[])) ::
((nat_lit 321), (Obj.mk (Value.type "dict") none (Data.dict #[(DictEntry.mk (PyData.keyHash P (Str.ofString "_name_")) (Value.str (Str.ofString "_name_") 693) (Value.str (Str.ofString "MARCH") 684)), (DictEntry.mk (PyData.keyHash P (Str.ofString "_value_")) (Value.str (Str.ofString "_value_") 695) (Value.int (3 : Int) 685))] 2) #[])) ::
((nat_lit 322), (Obj.mk (Value.ref 190) (some 321) (Data.prim (Value.int (3 : Int) 690)) #[])) ::
((nat_lit 324), (Obj.mk (Value.type "dict") none (Data.dict #[(DictEntry.mk (PyData.keyHash P (Str.ofString "_name_")) (Value.str (Str.ofString "_name_") 706) (Value.str (Str.ofString "APRIL") 697)), (DictEntry.mk (PyData.keyHash P (Str.ofString "_value_")) (Value.str (Str.ofString "_value_") 708) (Value.int (4 : Int) 698))] 2) #[])) ::
((nat_lit 325), (Obj.mk (Value.ref 190) (some 324) (Data.prim (Value.int (4 : Int) 703)) #[])) ::
((nat_lit 327), (Obj.mk (Value.type "dict") none (Data.dict #[(DictEntry.mk (PyData.keyHash P (Str.ofString "_name_")) (Value.str (Str.ofString "_name_") 719) (Value.str (Str.ofString "MAY") 710)), (DictEntry.mk (PyData.keyHash P (Str.ofString "_value_")) (Value.str (Str.ofString "_value_") 721) (Value.int (5 : Int) 711))] 2) #[])) ::
((nat_lit 328), (Obj.mk (Value.ref 190) (some 327) (Data.prim (Value.int (5 : Int) 716)) #[])) ::
((nat_lit 330), (Obj.mk (Value.type "dict") none (Data.dict #[(DictEntry.mk (PyData.keyHash P (Str.ofString "_name_")) (Value.str (Str.ofString "_name_") 732) (Value.str (Str.ofString "JUNE") 723)), (DictEntry.mk (PyData.keyHash P (Str.ofString "_value_")) (Value.str (Str.ofString "_value_") 734) (Value.int (6 : Int) 724))] 2) #[])) ::
((nat_lit 331), (Obj.mk (Value.ref 190) (some 330) (Data.prim (Value.int (6 : Int) 729)) #[])) ::
((nat_lit 333), (Obj.mk (Value.type "dict") none (Data.dict #[(DictEntry.mk (PyData.keyHash P (Str.ofString "_name_")) (Value.str (Str.ofString "_name_") 745) (Value.str (Str.ofString "JULY") 736)), (DictEntry.mk (PyData.keyHash P (Str.ofString "_value_")) (Value.str (Str.ofString "_value_") 747) (Value.int (7 : Int) 737))] 2) #[])) ::
((nat_lit 334), (Obj.mk (Value.ref 190) (some 333) (Data.prim (Value.int (7 : Int) 742)) #[])) ::
((nat_lit 336), (Obj.mk (Value.type "dict") none (Data.dict #[(DictEntry.mk (PyData.keyHash P (Str.ofString "_name_")) (Value.str (Str.ofString "_name_") 758) (Value.str (Str.ofString "AUGUST") 749)), (DictEntry.mk (PyData.keyHash P (Str.ofString "_value_")) (Value.str (Str.ofString "_value_") 760) (Value.int (8 : Int) 750))] 2) #[])) ::
((nat_lit 337), (Obj.mk (Value.ref 190) (some 336) (Data.prim (Value.int (8 : Int) 755)) #[])) ::
((nat_lit 339), (Obj.mk (Value.type "dict") none (Data.dict #[(DictEntry.mk (PyData.keyHash P (Str.ofString "_name_")) (Value.str (Str.ofString "_name_") 771) (Value.str (Str.ofString "SEPTEMBER") 762)), (DictEntry.mk (PyData.keyHash P (Str.ofString "_value_")) (Value.str (Str.ofString "_value_") 773) (Value.int (9 : Int) 763))] 2) #[])) ::
((nat_lit 340), (Obj.mk (Value.ref 190) (some 339) (Data.prim (Value.int (9 : Int) 768)) #[])) ::
((nat_lit 342), (Obj.mk (Value.type "dict") none (Data.dict #[(DictEntry.mk (PyData.keyHash P (Str.ofString "_name_")) (Value.str (Str.ofString "_name_") 784) (Value.str (Str.ofString "OCTOBER") 775)), (DictEntry.mk (PyData.keyHash P (Str.ofString "_value_")) (Value.str (Str.ofString "_value_") 786) (Value.int (10 : Int) 776))] 2) #[])) ::
((nat_lit 343), (Obj.mk (Value.ref 190) (some 342) (Data.prim (Value.int (10 : Int) 781)) #[])) ::
((nat_lit 345), (Obj.mk (Value.type "dict") none (Data.dict #[(DictEntry.mk (PyData.keyHash P (Str.ofString "_name_")) (Value.str (Str.ofString "_name_") 797) (Value.str (Str.ofString "NOVEMBER") 788)), (DictEntry.mk (PyData.keyHash P (Str.ofString "_value_")) (Value.str (Str.ofString "_value_") 799) (Value.int (11 : Int) 789))] 2) #[])) ::
((nat_lit 346), (Obj.mk (Value.ref 190) (some 345) (Data.prim (Value.int (11 : Int) 794)) #[])) ::
((nat_lit 348), (Obj.mk (Value.type "dict") none (Data.dict #[(DictEntry.mk (PyData.keyHash P (Str.ofString "_name_")) (Value.str (Str.ofString "_name_") 810) (Value.str (Str.ofString "DECEMBER") 801)), (DictEntry.mk (PyData.keyHash P (Str.ofString "_value_")) (Value.str (Str.ofString "_value_") 812) (Value.int (12 : Int) 802))] 2) #[])) ::
((nat_lit 349), (Obj.mk (Value.ref 190) (some 348) (Data.prim (Value.int (12 : Int) 807)) #[])) ::
((nat_lit 351), (Obj.mk (Value.type "dict") none (Data.dict #[(DictEntry.mk (PyData.keyHash P (Str.ofString "_name_")) (Value.str (Str.ofString "_name_") 823) (Value.str (Str.ofString "MONDAY") 814)), (DictEntry.mk (PyData.keyHash P (Str.ofString "_value_")) (Value.str (Str.ofString "_value_") 825) (Value.int (0 : Int) 815))] 2) #[])) ::
((nat_lit 352), (Obj.mk (Value.ref 300) (some 351) (Data.prim (Value.int (0 : Int) 820)) #[])) ::
((nat_lit 354), (Obj.mk (Value.type "dict") none (Data.dict #[(DictEntry.mk (PyData.keyHash P (Str.ofString "_name_")) (Value.str (Str.ofString "_name_") 836) (Value.str (Str.ofString "TUESDAY") 827)), (DictEntry.mk (PyData.keyHash P (Str.ofString "_value_")) (Value.str (Str.ofString "_value_") 838) (Value.int (1 : Int) 828))] 2) #[])) ::
((nat_lit 355), (Obj.mk (Value.ref 300) (some 354) (Data.prim (Value.int (1 : Int) 833)) #[])) ::
((nat_lit 357), (Obj.mk (Value.type "dict") none (Data.dict #[(DictEntry.mk (PyData.keyHash P (Str.ofString "_name_")) (Value.str (Str.ofString "_name_") 849) (Value.str (Str.ofString "WEDNESDAY") 840)), (DictEntry.mk (PyData.keyHash P (Str.ofString "_value_")) (Value.str (Str.ofString "_value_") 851) (Value.int (2 : Int) 841))] 2) #[])) ::
((nat_lit 358), (Obj.mk (Value.ref 300) (some 357) (Data.prim (Value.int (2 : Int) 846)) #[])) ::
((nat_lit 360), (Obj.mk (Value.type "dict") none (Data.dict #[(DictEntry.mk (PyData.keyHash P (Str.ofString "_name_")) (Value.str (Str.ofString "_name_") 862) (Value.str (Str.ofString "THURSDAY") 853)), (DictEntry.mk (PyData.keyHash P (Str.ofString "_value_")) (Value.str (Str.ofString "_value_") 864) (Value.int (3 : Int) 854))] 2) #[])) ::
((nat_lit 361), (Obj.mk (Value.ref 300) (some 360) (Data.prim (Value.int (3 : Int) 859)) #[])) ::
((nat_lit 363), (Obj.mk (Value.type "dict") none (Data.dict #[(DictEntry.mk (PyData.keyHash P (Str.ofString "_name_")) (Value.str (Str.ofString "_name_") 875) (Value.str (Str.ofString "FRIDAY") 866)), (DictEntry.mk (PyData.keyHash P (Str.ofString "_value_")) (Value.str (Str.ofString "_value_") 877) (Value.int (4 : Int) 867))] 2) #[])) ::
((nat_lit 364), (Obj.mk (Value.ref 300) (some 363) (Data.prim (Value.int (4 : Int) 872)) #[])) ::
((nat_lit 366), (Obj.mk (Value.type "dict") none (Data.dict #[(DictEntry.mk (PyData.keyHash P (Str.ofString "_name_")) (Value.str (Str.ofString "_name_") 888) (Value.str (Str.ofString "SATURDAY") 879)), (DictEntry.mk (PyData.keyHash P (Str.ofString "_value_")) (Value.str (Str.ofString "_value_") 890) (Value.int (5 : Int) 880))] 2) #[])) ::
((nat_lit 367), (Obj.mk (Value.ref 300) (some 366) (Data.prim (Value.int (5 : Int) 885)) #[])) ::
((nat_lit 369), (Obj.mk (Value.type "dict") none (Data.dict #[(DictEntry.mk (PyData.keyHash P (Str.ofString "_name_")) (Value.str (Str.ofString "_name_") 901) (Value.str (Str.ofString "SUNDAY") 892)), (DictEntry.mk (PyData.keyHash P (Str.ofString "_value_")) (Value.str (Str.ofString "_value_") 903) (Value.int (6 : Int) 893))] 2) #[])) ::
((nat_lit 370), (Obj.mk (Value.ref 300) (some 369) (Data.prim (Value.int (6 : Int) 898)) #[])) ::
((nat_lit 371), (Obj.mk (Value.type "tuple") none (Data.seq #[(Value.ref 352), (Value.ref 355), (Value.ref 358), (Value.ref 361), (Value.ref 364), (Value.ref 367), (Value.ref 370)] 0) #[])) ::
((nat_lit 372), (Obj.mk (Value.type "list") none (Data.seq #[(Value.int (0 : Int) 944), (Value.int (31 : Int) 945), (Value.int (28 : Int) 946), (Value.int (31 : Int) 947), (Value.int (30 : Int) 948), (Value.int (31 : Int) 949), (Value.int (30 : Int) 950), (Value.int (31 : Int) 951), (Value.int (31 : Int) 952), (Value.int (30 : Int) 953), (Value.int (31 : Int) 954), (Value.int (30 : Int) 955), (Value.int (31 : Int) 956)] 0) #[])) ::
((nat_lit 373), (Obj.mk (Value.type "tuple") none (Data.seq #[] 0) #[])) ::
((nat_lit 375), (Obj.mk (Value.type "tuple") none (Data.seq #[(Value.str (Str.ofString "year") 961)] 0) #[])) ::
((nat_lit 376), (Obj.mk (Value.type "tuple") none (Data.seq #[] 0) #[])) ::
((nat_lit 378), (Obj.mk (Value.type "code") none (Data.fields #[(Value.str (Str.ofString "isleap") 958), (Value.str (Str.ofString "isleap") 959), (Value.str (Str.ofString "/claim/cut.py") 960), (Value.int (151 : Int) 0), (Value.int (1 : Int) 0), (Value.int (0 : Int) 0), (Value.int (0 : Int) 0), (Value.int (3 : Int) 0), (Value.ref 373), (Value.bool Bool.true), (Value.int (330 : Int) 0), (Value.ref 374), Value.none, (Value.ref 375), (Value.ref 376), (Value.ref 377), (Value.int (962 : Int) 0), (Value.int (151 : Int) 0), (Value.str (Str.ofString "/claim/cut.py") 963)]) #[])) ::
((nat_lit 379), (Obj.mk (Value.type "function") none (Data.func (fdat (cell 50) (Str.ofString "isleap") 3 [] Value.none Value.none Value.none (Value.str (Str.ofString "calendar") 358) none (Value.ref 378) Value.none 0)) #[])) ::
((nat_lit 380), (Obj.mk (Value.type "tuple") none (Data.seq #[] 0) #[])) ::
((nat_lit 382), (Obj.mk (Value.type "tuple") none (Data.seq #[(Value.str (Str.ofString "year") 968), (Value.str (Str.ofString "month") 969), (Value.str (Str.ofString "day") 970)] 0) #[])) ::
((nat_lit 383), (Obj.mk (Value.type "tuple") none (Data.seq #[] 0) #[])) ::
((nat_lit 385), (Obj.mk (Value.type "code") none (Data.fields #[(Value.str (Str.ofString "weekday") 965), (Value.str (Str.ofString "weekday") 966), (Value.str (Str.ofString "/claim/cut.py") 967), (Value.int (153 : Int) 0), (Value.int (3 : Int) 0), (Value.int (0 : Int) 0), (Value.int (0 : Int) 0), (Value.int (3 : Int) 0), (Value.ref 380), (Value.bool Bool.true), (Value.int (330 : Int) 0), (Value.ref 381), Value.none, (Value.ref 382), (Value.ref 383), (Value.ref 384), (Value.int (971 : Int) 0), (Value.int (153 : Int) 0), (Value.str (Str.ofString "/claim/cut.py") 972)]) #[])) ::
((nat_lit 386), (Obj.mk (Value.type "function") none (Data.func (fdat (cell 51) (Str.ofString "weekday") 3 [] Value.none Value.none Value.none (Value.str (Str.ofString "calendar") 358) none (Value.ref 385) Value.none 0)) #[])) ::
((nat_lit 387), (Obj.mk (Value.type "tuple") none (Data.seq #[] 0) #[])) ::
((nat_lit 389), (Obj.mk (Value.type "tuple") none (Data.seq #[(Value.str (Str.ofString "month") 977)] 0) #[])) ::
((nat_lit 390), (Obj.mk (Value.type "tuple") none (Data.seq #[] 0) #[])) ::
((nat_lit 392), (Obj.mk (Value.type "code") none (Data.fields #[(Value.str (Str.ofString "_validate_month") 974), (Value.str (Str.ofString "_validate_month") 975), (Value.str (Str.ofString "/claim/cut.py") 976), (Value.int (157 : Int) 0), (Value.int (1 : Int) 0), (Value.int (0 : Int) 0), (Value.int (0 : Int) 0), (Value.int (3 : Int) 0), (Value.ref 387), (Value.bool Bool.true), (Value.int (330 : Int) 0), (Value.ref 388), Value.none, (Value.ref 389), (Value.ref 390), (Value.ref 391), (Value.int (978 : Int) 0), (Value.int (157 : Int) 0), (Value.str (Str.ofString "/claim/cut.py") 979)]) #[])) ::
((nat_lit 393), (Obj.mk (Value.type "function") none (Data.func (fdat (cell 52) (Str.ofString "_validate_month") 3 [] Value.none Value.none Value.none (Value.str (Str.ofString "calendar") 358) none (Value.ref 392) Value.none 0)) #[])) ::
((nat_lit 394), (Obj.mk (Value.type "tuple") none (Data.seq #[] 0) #[])) ::
((nat_lit 396), (Obj.mk (Value.type "tuple") none (Data.seq #[(Value.str (Str.ofString "year") 984), (Value.str (Str.ofString "month") 985), (Value.str (Str.ofString "day1") 986), (Value.str (Str.ofString "ndays") 987)] 0) #[])) ::
((nat_lit 397), (Obj.mk (Value.type "tuple") none (Data.seq #[] 0) #[])) ::
((nat_lit 399), (Obj.mk (Value.type "code") none (Data.fields #[(Value.str (Str.ofString "monthrange") 981), (Value.str (Str.ofString "monthrange") 982), (Value.str (Str.ofString "/claim/cut.py") 983), (Value.int (160 : Int) 0), (Value.int (2 : Int) 0), (Value.int (0 : Int) 0), (Value.int (0 : Int) 0), (Value.int (3 : Int) 0), (Value.ref 394), (Value.bool Bool.true), (Value.int (330 : Int) 0), (Value.ref 395), Value.none, (Value.ref 396), (Value.ref 397), (Value.ref 398), (Value.int (988 : Int) 0), (Value.int (160 : Int) 0), (Value.str (Str.ofString "/claim/cut.py") 989)]) #[])) ::
((nat_lit 400), (Obj.mk (Value.type "function") none (Data.func (fdat (cell 53) (Str.ofString "monthrange") 3 [] Value.none Value.none Value.none (Value.str (Str.ofString "calendar") 358) none (Value.ref 399) Value.none 0)) #[])) ::
((nat_lit 408), (Obj.mk (Value.type "list") none (Data.seq #[(Value.str (Str.ofString "m") 1005), (Value.str (Str.ofString "w") 1006), (Value.str (Str.ofString "d") 1007), (Value.str (Str.ofString "hour") 1008), (Value.str (Str.ofString "minute") 1009), (Value.str (Str.ofString "second") 1010)] 0) #[])) ::
((nat_lit 409), (Obj.mk (Value.type "tuple") none (Data.seq #[(Value.int (-(1 : Int) : Int) 1013), (Value.int (0 : Int) 1014), (Value.int (31 : Int) 1015), (Value.int (59 : Int) 1016), (Value.int (90 : Int) 1017), (Value.int (120 : Int) 1018), (Value.int (151 : Int) 1019), (Value.int (181 : Int) 1020), (Value.int (212 : Int) 1021), (Value.int (243 : Int) 1022), (Value.int (273 : Int) 1023), (Value.int (304 : Int) 1024), (Value.int (334 : Int) 1025)] 0) #[])) ::
((nat_lit 410), (Obj.mk (Value.type "tuple") none (Data.seq #[(Value.int (2 : Int) 1027), (Value.int (0 : Int) 1028), (Value.int (0 : Int) 1029)] 0) #[])) ::
((nat_lit 411), (Obj.mk (Value.type "tuple") none (Data.seq #[] 0) #[])) ::
((nat_lit 413), (Obj.mk (Value.type "tuple") none (Data.seq #[(Value.str (Str.ofString "self") 1033), (Value.str (Str.ofString "m") 1034), (Value.str (Str.ofString "w") 1035), (Value.str (Str.ofString "d") 1036), (Value.str (Str.ofString "hour") 1037), (Value.str (Str.ofString "minute") 1038), (Value.str (Str.ofString "second") 1039)] 0) #[])) ::
((nat_lit 414), (Obj.mk (Value.type "tuple") none (Data.seq #[] 0) #[])) ::
((nat_lit 416), (Obj.mk (Value.type "code") none (Data.fields #[(Value.str (Str.ofString "__init__") 1030), (Value.str (Str.ofString "_CalendarOffset.__init__") 1031), (Value.str (Str.ofString "/claim/cut.py") 1032), (Value.int (170 : Int) 0), (Value.int (7 : Int) 0), (Value.int (0 : Int) 0), (Value.int (0 : Int) 0), (Value.int (3 : Int) 0), (Value.ref 411), (Value.bool Bool.true), (Value.int (330 : Int) 0), (Value.ref 412), Value.none, (Value.ref 413), (Value.ref 414), (Value.ref 415), (Value.int (1040 : Int) 0), (Value.int (170 : Int) 0), (Value.str (Str.ofString "/claim/cut.py") 1041)]) #[])) ::
((nat_lit 417), (Obj.mk (Value.type "function") none (Data.func (fdat (sub 55 2) (Str.ofString "_CalendarOffset.__init__") 3 [] (Value.ref 410) Value.none Value.none (Value.str (Str.ofString "cpy313.zoneinfo._zoneinfo") 991) none (Value.ref 416) Value.none 0)) #[])) ::
((nat_lit 418), (Obj.mk (Value.type "tuple") none (Data.seq #[] 0) #[])) ::
((nat_lit 420), (Obj.mk (Value.type "tuple") none (Data.seq #[(Value.str (Str.ofString "cls") 1046), (Value.str (Str.ofString "year") 1047), (Value.str (Str.ofString "month") 1048), (Value.str (Str.ofString "day") 1049)] 0) #[])) ::
((nat_lit 421), (Obj.mk (Value.type "tuple") none (Data.seq #[] 0) #[])) ::
((nat_lit 423), (Obj.mk (Value.type "code") none (Data.fields #[(Value.str (Str.ofString "_ymd2ord") 1043), (Value.str (Str.ofString "_CalendarOffset._ymd2ord") 1044), (Value.str (Str.ofString "/claim/cut.py") 1045), (Value.int (184 : Int) 0), (Value.int (4 : Int) 0), (Value.int (0 : Int) 0), (Value.int (0 : Int) 0), (Value.int (3 : Int) 0), (Value.ref 418), (Value.bool Bool.true), (Value.int (330 : Int) 0), (Value.ref 419), Value.none, (Value.ref 420), (Value.ref 421), (Value.ref 422), (Value.int (1050 : Int) 0), (Value.int (184 : Int) 0), (Value.str (Str.ofString "/claim/cut.py") 1051)]) #[])) ::
((nat_lit 424), (Obj.mk (Value.type "function") none (Data.func (fdat (sub 55 3) (Str.ofString "_CalendarOffset._ymd2ord") 3 [] Value.none Value.none Value.none (Value.str (Str.ofString "cpy313.zoneinfo._zoneinfo") 991) (some 427) (Value.ref 423) Value.none 0)) #[])) ::
((nat_lit 425), (Obj.mk (Value.type "dict") none (Data.dict #[(DictEntry.mk (PyData.keyHash P (Str.ofString "__module__")) (Value.str (Str.ofString "__module__") 1053) (Value.str (Str.ofString "cpy313.zoneinfo._zoneinfo") 991)), (DictEntry.mk (PyData.keyHash P (Str.ofString "__name__")) (Value.str (Str.ofString "__name__") 1056) (Value.str (Str.ofString "_ymd2ord") 1055)), (DictEntry.mk (PyData.keyHash P (Str.ofString "__qualname__")) (Value.str (Str.ofString "__qualname__") 1059) (Value.str (Str.ofString "_CalendarOffset._ymd2ord") 1058)), (DictEntry.mk (PyData.keyHash P (Str.ofString "__doc__")) (Value.str (Str.ofString "__doc__") 1061) Value.none), (DictEntry.mk (PyData.keyHash P (Str.ofString "__annotations__")) (Value.str (Str.ofString "__annotations__") 1063) (Value.ref 427))] 5) #[])) ::
((nat_lit 426), (Obj.mk (Value.type "classmethod") (some 425) (Data.fields #[(Value.ref 424), (Value.bool Bool.false)]) #[])) ::
((nat_lit 427), (Obj.mk (Value.type "dict") none (Data.dict #[] 0) #[])) ::
((nat_lit 428), (Obj.mk (Value.type "tuple") none (Data.seq #[] 0) #[])) ::
((nat_lit 430), (Obj.mk (Value.type "tuple") none (Data.seq #[(Value.str (Str.ofString "self") 1068), (Value.str (Str.ofString "year") 1069), (Value.str (Str.ofString "first_day") 1070), (Value.str (Str.ofString "days_in_month") 1071), (Value.str (Str.ofString "month_day") 1072), (Value.str (Str.ofString "ordinal") 1073), (Value.str (Str.ofString "epoch") 1074)] 0) #[])) ::
((nat_lit 431), (Obj.mk (Value.type "tuple") none (Data.seq #[] 0) #[])) ::
((nat_lit 433), (Obj.mk (Value.type "code") none (Data.fields #[(Value.str (Str.ofString "year_to_epoch") 1065), (Value.str (Str.ofString "_CalendarOffset.year_to_epoch") 1066), (Value.str (Str.ofString "/claim/cut.py") 1067), (Value.int (188 : Int) 0), (Value.int (2 : Int) 0), (Value.int (0 : Int) 0), (Value.int (0 : Int) 0), (Value.int (3 : Int) 0), (Value.ref 428), (Value.bool Bool.true), (Value.int (330 : Int) 0), (Value.ref 429), Value.none, (Value.ref 430), (Value.ref 431), (Value.ref 432), (Value.int (1075 : Int) 0), (Value.int (188 : Int) 0), (Value.str (Str.ofString "/claim/cut.py") 1076)]) #[])) ::
((nat_lit 434), (Obj.mk (Value.type "function") none (Data.func (fdat (sub 55 4) (Str.ofString "_CalendarOffset.year_to_epoch") 3 [] Value.none Value.none Value.none (Value.str (Str.ofString "cpy313.zoneinfo._zoneinfo") 991) none (Value.ref 433) Value.none 0)) #[])) ::
((nat_lit 435), (Obj.mk (Value.type "tuple") none (Data.seq #[(Value.str (Str.ofString "d") 1078), (Value.str (Str.ofString "hour") 1079), (Value.str (Str.ofString "m") 1080), (Value.str (Str.ofString "minute") 1081), (Value.str (Str.ofString "second") 1082), (Value.str (Str.ofString "w") 1083)] 0) #[])) ::
((nat_lit 437), (Obj.mk (Value.type "dict") none (Data.dict #[(DictEntry.mk (PyData.keyHash P (Str.ofString "__module__")) (Value.str (Str.ofString "__module__") 1000) (Value.str (Str.ofString "cpy313.zoneinfo._zoneinfo") 991)), (DictEntry.mk (PyData.keyHash P (Str.ofString "__firstlineno__")) (Value.str (Str.ofString "__firstlineno__") 1004) (Value.int (166 : Int) 1003)), (DictEntry.mk (PyData.keyHash P (Str.ofString "__slots__")) (Value.str (Str.ofString "__slots__") 1011) (Value.ref 408)), (DictEntry.mk (PyData.keyHash P (Str.ofString "_DAYS_BEFORE_MONTH")) (Value.str (Str.ofString "_DAYS_BEFORE_MONTH") 1026) (Value.ref 409)), (DictEntry.mk (PyData.keyHash P (Str.ofString "__init__")) (Value.str (Str.ofString "__init__") 1042) (Value.ref 417)), (DictEntry.mk (PyData.keyHash P (Str.ofString "_ymd2ord")) (Value.str (Str.ofString "_ymd2ord") 1064) (Value.ref 426)), (DictEntry.mk (PyData.keyHash P (Str.ofString "year_to_epoch")) (Value.str (Str.ofString "year_to_epoch") 1077) (Value.ref 434)), (DictEntry.mk (PyData.keyHash P (Str.ofString "__static_attributes__")) (Value.str (Str.ofString "__static_attributes__") 1084) (Value.ref 435)), (DictEntry.mk (PyData.keyHash P (Str.ofString "d")) (Value.str (Str.ofString "d") 1086) (Value.ref 439)), (DictEntry.mk (PyData.keyHash P (Str.ofString "hour")) (Value.str (Str.ofString "hour") 1088) (Value.ref 440)), (DictEntry.mk (PyData.keyHash P (Str.ofString "m")) (Value.str (Str.ofString "m") 1090) (Value.ref 441)), (DictEntry.mk (PyData.keyHash P (Str.ofString "minute")) (Value.str (Str.ofString "minute") 1092) (Value.ref 442)), (DictEntry.mk (PyData.keyHash P (Str.ofString "second")) (Value.str (Str.ofString "second") 1094) (Value.ref 443)), (DictEntry.mk (PyData.keyHash P (Str.ofString "w")) (Value.str (Str.ofString "w") 1096) (Value.ref 444)), (DictEntry.mk (PyData.keyHash P (Str.ofString "__doc__")) (Value.str (Str.ofString "__doc__") 1097) Value.none)] 8) #[])) ::
((nat_lit 438), (Obj.mk (Value.type "type") none (Data.cls (ClassData.mk (Str.ofString "_CalendarOffset") [(Value.type "object")] [(Value.ref 438), (Value.type "object")] 437 (Str.ofString "_CalendarOffset") Bool.false [(Str.ofString "d"), (Str.ofString "hour"), (Str.ofString "m"), (Str.ofString "minute"), (Str.ofString "second"), (Str.ofString "w")] [] Bool.false none Bool.false)) #[none, none, (some (Value.str (Str.ofString "_CalendarOffset") 993)), (some (Value.str (Str.ofString "_CalendarOffset") 1001)), (some (Value.builtin "object.__new__")), (some (Value.bool Bool.false))])) ::
((nat_lit 439), (Obj.mk (Value.type "member_descriptor") none (Data.fields #[(Value.str (Str.ofString "d") 1085), (Value.ref 438), (Value.builtin "proto.slot"), (Value.builtin "proto.slot#set"), (Value.int (5 : Int) 0)]) #[])) ::
((nat_lit 440), (Obj.mk (Value.type "member_descriptor") none (Data.fields #[(Value.str (Str.ofString "hour") 1087), (Value.ref 438), (Value.builtin "proto.slot"), (Value.builtin "proto.slot#set"), (Value.int (4 : Int) 0)]) #[])) ::
((nat_lit 441), (Obj.mk (Value.type "member_descriptor") none (Data.fields #[(Value.str (Str.ofString "m") 1089), (Value.ref 438), (Value.builtin "proto.slot"), (Value.builtin "proto.slot#set"), (Value.int (3 : Int) 0)]) #[])) ::
((nat_lit 442), (Obj.mk (Value.type "member_descriptor") none (Data.fields #[(Value.str (Str.ofString "minute") 1091), (Value.ref 438), (Value.builtin "proto.slot"), (Value.builtin "proto.slot#set"), (Value.int (2 : Int) 0)]) #[])) ::
((nat_lit 443), (Obj.mk (Value.type "member_descriptor") none (Data.fields #[(Value.str (Str.ofString "second") 1093), (Value.ref 438), (Value.builtin "proto.slot"), (Value.builtin "proto.slot#set"), (Value.int (1 : Int) 0)]) #[])) ::
((nat_lit 444), (Obj.mk (Value.type "member_descriptor") none (Data.fields #[(Value.str (Str.ofString "w") 1095), (Value.ref 438), (Value.builtin "proto.slot"), (Value.builtin "proto.slot#set"), (Value.int (0 : Int) 0)]) #[])) ::
((nat_lit 447), (Obj.mk (Value.type "list") none (Data.seq #[(Value.int (-(1 : Int) : Int) 1103), (Value.int (31 : Int) 1104), (Value.int (28 : Int) 1105), (Value.int (31 : Int) 1106), (Value.int (30 : Int) 1107), (Value.int (31 : Int) 1108), (Value.int (30 : Int) 1109), (Value.int (31 : Int) 1110), (Value.int (31 : Int) 1111), (Value.int (30 : Int) 1112), (Value.int (31 : Int) 1113), (Value.int (30 : Int) 1114), (Value.int (31 : Int) 1115)] 0) #[])) ::
((nat_lit 448), (Obj.mk (Value.type "list") none (Data.seq #[(Value.int (-(1 : Int) : Int) 1118), (Value.int (0 : Int) 1120), (Value.int (31 : Int) 1124), (Value.int (59 : Int) 1127), (Value.int (90 : Int) 1130), (Value.int (120 : Int) 1133), (Value.int (151 : Int) 1136), (Value.int (181 : Int) 1139), (Value.int (212 : Int) 1142), (Value.int (243 : Int) 1145), (Value.int (273 : Int) 1148), (Value.int (304 : Int) 1151), (Value.int (334 : Int) 1154)] 12) #[])) ::
((nat_lit 454), (Obj.mk (Value.type "tuple") none (Data.seq #[] 0) #[])) ::
((nat_lit 456), (Obj.mk (Value.type "tuple") none (Data.seq #[(Value.str (Str.ofString "year") 1162)] 0) #[])) ::
((nat_lit 457), (Obj.mk (Value.type "tuple") none (Data.seq #[] 0) #[])) ::
((nat_lit 459), (Obj.mk (Value.type "code") none (Data.fields #[(Value.str (Str.ofString "_is_leap") 1159), (Value.str (Str.ofString "_is_leap") 1160), (Value.str (Str.ofString "/claim/cut.py") 1161), (Value.int (206 : Int) 0), (Value.int (1 : Int) 0), (Value.int (0 : Int) 0), (Value.int (0 : Int) 0), (Value.int (3 : Int) 0), (Value.ref 454), (Value.bool Bool.true), (Value.int (330 : Int) 0), (Value.ref 455), Value.none, (Value.ref 456), (Value.ref 457), (Value.ref 458), (Value.int (1163 : Int) 0), (Value.int (206 : Int) 0), (Value.str (Str.ofString "/claim/cut.py") 1164)]) #[])) ::
((nat_lit 460), (Obj.mk (Value.type "function") none (Data.func (fdat (cell 62) (Str.ofString "_is_leap") 3 [] Value.none Value.none Value.none (Value.str (Str.ofString "cpy313._pydatetime") 1100) none (Value.ref 459) Value.none 0)) #[])) ::
((nat_lit 461), (Obj.mk (Value.type "tuple") none (Data.seq #[] 0) #[])) ::
((nat_lit 463), (Obj.mk (Value.type "tuple") none (Data.seq #[(Value.str (Str.ofString "year") 1169), (Value.str (Str.ofString "y") 1170)] 0) #[])) ::
((nat_lit 464), (Obj.mk (Value.type "tuple") none (Data.seq #[] 0) #[])) ::
((nat_lit 466), (Obj.mk (Value.type "code") none (Data.fields #[(Value.str (Str.ofString "_days_before_year") 1166), (Value.str (Str.ofString "_days_before_year") 1167), (Value.str (Str.ofString "/claim/cut.py") 1168), (Value.int (208 : Int) 0), (Value.int (1 : Int) 0), (Value.int (0 : Int) 0), (Value.int (0 : Int) 0), (Value.int (3 : Int) 0), (Value.ref 461), (Value.bool Bool.true), (Value.int (330 : Int) 0), (Value.ref 462), Value.none, (Value.ref 463), (Value.ref 464), (Value.ref 465), (Value.int (1171 : Int) 0), (Value.int (208 : Int) 0), (Value.str (Str.ofString "/claim/cut.py") 1172)]) #[])) ::
((nat_lit 467), (Obj.mk (Value.type "function") none (Data.func (fdat (cell 63) (Str.ofString "_days_before_year") 3 [] Value.none Value.none Value.none (Value.str (Str.ofString "cpy313._pydatetime") 1100) none (Value.ref 466) Value.none 0)) #[])) ::
((nat_lit 468), (Obj.mk (Value.type "tuple") none (Data.seq #[] 0) #[])) ::
((nat_lit 470), (Obj.mk (Value.type "tuple") none (Data.seq #[(Value.str (Str.ofString "year") 1177), (Value.str (Str.ofString "month") 1178)] 0) #[])) ::
((nat_lit 471), (Obj.mk (Value.type "tuple") none (Data.seq #[] 0) #[])) ::
((nat_lit 473), (Obj.mk (Value.type "code") none (Data.fields #[(Value.str (Str.ofString "_days_in_month") 1174), (Value.str (Str.ofString "_days_in_month") 1175), (Value.str (Str.ofString "/claim/cut.py") 1176), (Value.int (211 : Int) 0), (Value.int (2 : Int) 0), (Value.int (0 : Int) 0), (Value.int (0 : Int) 0), (Value.int (3 : Int) 0), (Value.ref 468), (Value.bool Bool.true), (Value.int (330 : Int) 0), (Value.ref 469), Value.none, (Value.ref 470), (Value.ref 471), (Value.ref 472), (Value.int (1179 : Int) 0), (Value.int (211 : Int) 0), (Value.str (Str.ofString "/claim/cut.py") 1180)]) #[])) ::
((nat_lit 474), (Obj.mk (Value.type "function") none (Data.func (fdat (cell 64) (Str.ofString "_days_in_month") 3 [] Value.none Value.none Value.none (Value.str (Str.ofString "cpy313._pydatetime") 1100) none (Value.ref 473) Value.none 0)) #[])) ::
((nat_lit 475), (Obj.mk (Value.type "tuple") none (Data.seq #[] 0) #[])) ::
((nat_lit 477), (Obj.mk (Value.type "tuple") none (Data.seq #[(Value.str (Str.ofString "year") 1185), (Value.str (Str.ofString "month") 1186)] 0) #[])) ::
((nat_lit 478), (Obj.mk (Value.type "tuple") none (Data.seq #[] 0) #[])) ::
((nat_lit 480), (Obj.mk (Value.type "code") none (Data.fields #[(Value.str (Str.ofString "_days_before_month") 1182), (Value.str (Str.ofString "_days_before_month") 1183), (Value.str (Str.ofString "/claim/cut.py") 1184), (Value.int (216 : Int) 0), (Value.int (2 : Int) 0), (Value.int (0 : Int) 0), (Value.int (0 : Int) 0), (Value.int (3 : Int) 0), (Value.ref 475), (Value.bool Bool.true), (Value.int (330 : Int) 0), (Value.ref 476), Value.none, (Value.ref 477), (Value.ref 478), (Value.ref 479), (Value.int (1187 : Int) 0), (Value.int (216 : Int) 0), (Value.str (Str.ofString "/claim/cut.py") 1188)]) #[])) ::
((nat_lit 481), (Obj.mk (Value.type "function") none (Data.func (fdat (cell 65) (Str.ofString "_days_before_month") 3 [] Value.none Value.none Value.none (Value.str (Str.ofString "cpy313._pydatetime") 1100) none (Value.ref 480) Value.none 0)) #[])) ::
((nat_lit 482), (Obj.mk (Value.type "tuple") none (Data.seq #[] 0) #[])) ::
((nat_lit 484), (Obj.mk (Value.type "tuple") none (Data.seq #[(Value.str (Str.ofString "year") 1193), (Value.str (Str.ofString "month") 1194), (Value.str (Str.ofString "day") 1195), (Value.str (Str.ofString "dim") 1196)] 0) #[])) ::
((nat_lit 485), (Obj.mk (Value.type "tuple") none (Data.seq #[] 0) #[])) ::
((nat_lit 487), (Obj.mk (Value.type "code") none (Data.fields #[(Value.str (Str.ofString "_ymd2ord") 1190), (Value.str (Str.ofString "_ymd2ord") 1191), (Value.str (Str.ofString "/claim/cut.py") 1192), (Value.int (219 : Int) 0), (Value.int (3 : Int) 0), (Value.int (0 : Int) 0), (Value.int (0 : Int) 0), (Value.int (3 : Int) 0), (Value.ref 482), (Value.bool Bool.true), (Value.int (330 : Int) 0), (Value.ref 483), Value.none, (Value.ref 484), (Value.ref 485), (Value.ref 486), (Value.int (1197 : Int) 0), (Value.int (219 : Int) 0), (Value.str (Str.ofString "/claim/cut.py") 1198)]) #[])) ::
((nat_lit 488), (Obj.mk (Value.type "function") none (Data.func (fdat (cell 66) (Str.ofString "_ymd2ord") 3 [] Value.none Value.none Value.none (Value.str (Str.ofString "cpy313._pydatetime") 1100) none (Value.ref 487) Value.none 0)) #[])) ::
((nat_lit 489), (Obj.mk (Value.type "tuple") none (Data.seq #[] 0) #[])) ::
((nat_lit 491), (Obj.mk (Value.type "tuple") none (Data.seq #[(Value.str (Str.ofString "year") 1205), (Value.str (Str.ofString "leap") 1206)] 0) #[])) ::
((nat_lit 492), (Obj.mk (Value.type "tuple") none (Data.seq #[] 0) #[])) ::
((nat_lit 494), (Obj.mk (Value.type "code") none (Data.fields #[(Value.str (Str.ofString "_law_lengths") 1202), (Value.str (Str.ofString "_law_lengths") 1203), (Value.str (Str.ofString "/claim/cut.py") 1204), (Value.int (225 : Int) 0), (Value.int (1 : Int) 0), (Value.int (0 : Int) 0), (Value.int (0 : Int) 0), (Value.int (3 : Int) 0), (Value.ref 489), (Value.bool Bool.true), (Value.int (330 : Int) 0), (Value.ref 490), Value.none, (Value.ref 491), (Value.ref 492), (Value.ref 493), (Value.int (1207 : Int) 0), (Value.int (225 : Int) 0), (Value.str (Str.ofString "/claim/cut.py") 1208)]) #[])) ::
((nat_lit 495), (Obj.mk (Value.type "function") none (Data.func (fdat (cell 68) (Str.ofString "_law_lengths") 3 [] Value.none Value.none Value.none (Value.str (Str.ofString "law_dn0012_02") 1200) none (Value.ref 494) Value.none 0)) #[])) ::
((nat_lit 496), (Obj.mk (Value.type "tuple") none (Data.seq #[] 0) #[])) ::
((nat_lit 498), (Obj.mk (Value.type "tuple") none (Data.seq #[(Value.str (Str.ofString "year") 1213), (Value.str (Str.ofString "rounds") 1214), (Value.str (Str.ofString "rest") 1215), (Value.str (Str.ofString "number") 1216), (Value.str (Str.ofString "weekday_v") 1217), (Value.str (Str.ofString "past") 1218), (Value.str (Str.ofString "days") 1219), (Value.str (Str.ofString "month") 1220), (Value.str (Str.ofString "day") 1221)] 0) #[])) ::
((nat_lit 499), (Obj.mk (Value.type "tuple") none (Data.seq #[] 0) #[])) ::
((nat_lit 501), (Obj.mk (Value.type "code") none (Data.fields #[(Value.str (Str.ofString "_law_days") 1210), (Value.str (Str.ofString "_law_days") 1211), (Value.str (Str.ofString "/claim/cut.py") 1212), (Value.int (228 : Int) 0), (Value.int (1 : Int) 0), (Value.int (0 : Int) 0), (Value.int (0 : Int) 0), (Value.int (3 : Int) 0), (Value.ref 496), (Value.bool Bool.true), (Value.int (330 : Int) 0), (Value.ref 497), Value.none, (Value.ref 498), (Value.ref 499), (Value.ref 500), (Value.int (1222 : Int) 0), (Value.int (228 : Int) 0), (Value.str (Str.ofString "/claim/cut.py") 1223)]) #[])) ::
((nat_lit 502), (Obj.mk (Value.type "function") none (Data.func (fdat (cell 69) (Str.ofString "_law_days") 3 [] Value.none Value.none Value.none (Value.str (Str.ofString "law_dn0012_02") 1200) none (Value.ref 501) Value.none 0)) #[])) ::
((nat_lit 503), (Obj.mk (Value.type "tuple") none (Data.seq #[] 0) #[])) ::
((nat_lit 506), (Obj.mk (Value.type "code") none (Data.fields #[(Value.str (Str.ofString "law") 1225), (Value.str (Str.ofString "law") 1226), (Value.str (Str.ofString "/claim/cut.py") 1227), (Value.int (242 : Int) 0), (Value.int (1 : Int) 0), (Value.int (0 : Int) 0), (Value.int (0 : Int) 0), (Value.int (3 : Int) 0), (Value.ref 503), (Value.bool Bool.true), (Value.int (330 : Int) 0), (Value.ref 504), Value.none, Value.none, Value.none, (Value.ref 505), (Value.int (1228 : Int) 0), (Value.int (242 : Int) 0), (Value.str (Str.ofString "/claim/cut.py") 1229)]) #[])) ::
((nat_lit 507), (Obj.mk (Value.type "function") none (Data.func (fdat (cell 70) (Str.ofString "law") 3 [] Value.none Value.none Value.none (Value.str (Str.ofString "law_dn0012_02") 1200) none (Value.ref 506) Value.none 0)) #[])) :: []
def heapA : List Addr := nat_lit 2 :: nat_lit 3 :: nat_lit 45 :: nat_lit 47 :: nat_lit 48 :: nat_lit 50 :: nat_lit 51 :: nat_lit 53 :: nat_lit 55 :: nat_lit 56 :: nat_lit 58 :: nat_lit 59 :: nat_lit 60 :: nat_lit 67 :: nat_lit 69 :: nat_lit 70 :: nat_lit 72 :: nat_lit 73 :: nat_lit 74 :: nat_lit 76 :: nat_lit 77 :: nat_lit 79 :: nat_lit 80 :: nat_lit 81 :: nat_lit 82 :: nat_lit 83 :: nat_lit 84 :: nat_lit 87 :: nat_lit 94 :: nat_lit 96 :: nat_lit 97 :: nat_lit 99 :: nat_lit 100 :: nat_lit 101 :: nat_lit 103 :: nat_lit 104 :: nat_lit 106 :: nat_lit 107 :: nat_lit 108 :: nat_lit 110 :: nat_lit 111 :: nat_lit 113 :: nat_lit 114 :: nat_lit 115 :: nat_lit 117 :: nat_lit 118 :: nat_lit 120 :: nat_lit 121 :: nat_lit 124 :: nat_lit 126 :: nat_lit 127 :: nat_lit 129 :: nat_lit 130 :: nat_lit 133 :: nat_lit 135 :: nat_lit 136 :: nat_lit 138 :: nat_lit 139 :: nat_lit 140 :: nat_lit 141 :: nat_lit 143 :: nat_lit 144 :: nat_lit 146 :: nat_lit 147 :: nat_lit 150 :: nat_lit 152 :: nat_lit 153 :: nat_lit 155 :: nat_lit 156 :: nat_lit 159 :: nat_lit 161 :: nat_lit 162 :: nat_lit 164 :: nat_lit 165 :: nat_lit 166 :: nat_lit 167 :: nat_lit 169 :: nat_lit 170 :: nat_lit 172 :: nat_lit 173 :: nat_lit 174 :: nat_lit 176 :: nat_lit 177 :: nat_lit 179 :: nat_lit 180 :: nat_lit 181 :: nat_lit 183 :: nat_lit 184 :: nat_lit 186 :: nat_lit 187 :: nat_lit 188 :: nat_lit 189 :: nat_lit 190 :: nat_lit 191 :: nat_lit 192 :: nat_lit 193 :: nat_lit 194 :: nat_lit 197 :: nat_lit 204 :: nat_lit 206 :: nat_lit 207 :: nat_lit 209 :: nat_lit 210 :: nat_lit 211 :: nat_lit 213 :: nat_lit 214 :: nat_lit 216 :: nat_lit 217 :: nat_lit 218 :: nat_lit 220 :: nat_lit 221 :: nat_lit 223 :: nat_lit 224 :: nat_lit 225 :: nat_lit 227 :: nat_lit 228 :: nat_lit 230 :: nat_lit 231 :: nat_lit 234 :: nat_lit 236 :: nat_lit 237 :: nat_lit 239 :: nat_lit 240 :: nat_lit 243 :: nat_lit 245 :: nat_lit 246 :: nat_lit 248 :: nat_lit 249 :: nat_lit 250 :: nat_lit 251 :: nat_lit 253 :: nat_lit 254 :: nat_lit 256 :: nat_lit 257 :: nat_lit 260 :: nat_lit 262 :: nat_lit 263 :: nat_lit 265 :: nat_lit 266 :: nat_lit 269 :: nat_lit 271 :: nat_lit 272 :: nat_lit 274 :: nat_lit 275 :: nat_lit 276 :: nat_lit 277 :: nat_lit 279 :: nat_lit 280 :: nat_lit 282 :: nat_lit 283 :: nat_lit 284 :: nat_lit 286 :: nat_lit 287 :: nat_lit 289 :: nat_lit 290 :: nat_lit 291 :: nat_lit 293 :: nat_lit 294 :: nat_lit 296 :: nat_lit 297 :: nat_lit 298 :: nat_lit 299 :: nat_lit 300 :: nat_lit 301 :: nat_lit 302 :: nat_lit 303 :: nat_lit 304 :: nat_lit 315 :: nat_lit 316 :: nat_lit 318 :: nat_lit 319 :: nat_lit 321 :: nat_lit 322 :: nat_lit 324 :: nat_lit 325 :: nat_lit 327 :: nat_lit 328 :: nat_lit 330 :: nat_lit 331 :: nat_lit 333 :: nat_lit 334 :: nat_lit 336 :: nat_lit 337 :: nat_lit 339 :: nat_lit 340 :: nat_lit 342 :: nat_lit 343 :: nat_lit 345 :: nat_lit 346 :: nat_lit 348 :: nat_lit 349 :: nat_lit 351 :: nat_lit 352 :: nat_lit 354 :: nat_lit 355 :: nat_lit 357 :: nat_lit 358 :: nat_lit 360 :: nat_lit 361 :: nat_lit 363 :: nat_lit 364 :: nat_lit 366 :: nat_lit 367 :: nat_lit 369 :: nat_lit 370 :: nat_lit 371 :: nat_lit 372 :: nat_lit 373 :: nat_lit 375 :: nat_lit 376 :: nat_lit 378 :: nat_lit 379 :: nat_lit 380 :: nat_lit 382 :: nat_lit 383 :: nat_lit 385 :: nat_lit 386 :: nat_lit 387 :: nat_lit 389 :: nat_lit 390 :: nat_lit 392 :: nat_lit 393 :: nat_lit 394 :: nat_lit 396 :: nat_lit 397 :: nat_lit 399 :: nat_lit 400 :: nat_lit 408 :: nat_lit 409 :: nat_lit 410 :: nat_lit 411 :: nat_lit 413 :: nat_lit 414 :: nat_lit 416 :: nat_lit 417 :: nat_lit 418 :: nat_lit 420 :: nat_lit 421 :: nat_lit 423 :: nat_lit 424 :: nat_lit 425 :: nat_lit 426 :: nat_lit 427 :: nat_lit 428 :: nat_lit 430 :: nat_lit 431 :: nat_lit 433 :: nat_lit 434 :: nat_lit 435 :: nat_lit 437 :: nat_lit 438 :: nat_lit 439 :: nat_lit 440 :: nat_lit 441 :: nat_lit 442 :: nat_lit 443 :: nat_lit 444 :: nat_lit 447 :: nat_lit 448 :: nat_lit 454 :: nat_lit 456 :: nat_lit 457 :: nat_lit 459 :: nat_lit 460 :: nat_lit 461 :: nat_lit 463 :: nat_lit 464 :: nat_lit 466 :: nat_lit 467 :: nat_lit 468 :: nat_lit 470 :: nat_lit 471 :: nat_lit 473 :: nat_lit 474 :: nat_lit 475 :: nat_lit 477 :: nat_lit 478 :: nat_lit 480 :: nat_lit 481 :: nat_lit 482 :: nat_lit 484 :: nat_lit 485 :: nat_lit 487 :: nat_lit 488 :: nat_lit 489 :: nat_lit 491 :: nat_lit 492 :: nat_lit 494 :: nat_lit 495 :: nat_lit 496 :: nat_lit 498 :: nat_lit 499 :: nat_lit 501 :: nat_lit 502 :: nat_lit 503 :: nat_lit 506 :: nat_lit 507 :: []
end Mine
end
section
namespace Mine
def loose0 : List Str := [Str.ofString "EPOCHORDINAL", Str.ofString "IllegalMonthError", Str.ofString "Month", Str.ofString "Day", Str.ofString "JANUARY", Str.ofString "FEBRUARY", Str.ofString "MARCH", Str.ofString "APRIL", Str.ofString "MAY", Str.ofString "JUNE", Str.ofString "JULY", Str.ofString "AUGUST", Str.ofString "SEPTEMBER", Str.ofString "OCTOBER", Str.ofString "NOVEMBER", Str.ofString "DECEMBER", Str.ofString "MONDAY", Str.ofString "TUESDAY", Str.ofString "WEDNESDAY", Str.ofString "THURSDAY", Str.ofString "FRIDAY", Str.ofString "SATURDAY", Str.ofString "SUNDAY", Str.ofString "_days", Str.ofString "mdays", Str.ofString "_CalendarOffset", Str.ofString "_DAYS_IN_MONTH", Str.ofString "_DAYS_BEFORE_MONTH"]
def read0 : List (Str × WData) := [(Str.ofString "EPOCHORDINAL", WData.int 719163)]
abbrev hook0 : Hook := kHook heapK heapA (fun _ => by kernel_rfl)
noncomputable def see0 (r : Shared × SharedT) := Fast.tw4187177175401517315 view loose0 (importedModules (PySem.Challenge.rw_dn0012_02.row.toRowW.prog).main.body) (fun s => xlAt view read0 s && recOk (RowW.records PySem.Challenge.rw_dn0012_02.row.toRowW) s) true r.2.abs
noncomputable def gA (r : Shared × SharedT) := (staticsOk (importedModules (PySem.Challenge.rw_dn0012_02.row.toRowW.prog).main.body) r.1.heap r.2.abs.heap && namesBound PySem.Challenge.rw_dn0012_02.row.toRowW.prog r.2.abs.heap && gensDone r.2.abs && laidKept r.1.heap r.2.abs.heap, (see0 r).1)
noncomputable def gB (r : Shared × SharedT) := (see0 r).2.2.1
noncomputable def gC (r : Shared × SharedT) := (heapA.map (lookT r.2), (see0 r).2.1, (see0 r).2.2.2.1, (see0 r).2.2.2.2.1, (see0 r).2.2.2.2.2.1, (see0 r).2.2.2.2.2.2.1, (see0 r).2.2.2.2.2.2.2.1, (see0 r).2.2.2.2.2.2.2.2)
theorem ends_of {w : World} (hA : (runT PySem.Challenge.rw_dn0012_02.row.toRowW.prog 14860 w).map gA = some (true, expectedOf view)) (hB : (runT PySem.Challenge.rw_dn0012_02.row.toRowW.prog 14860 w).map gB = some true)
    (hC : (runT PySem.Challenge.rw_dn0012_02.row.toRowW.prog 14860 w).map gC = some ((heapK w.params).map fun p => some p.2, bltViewBooted, true, pinGoodD (drecsOf view), plainGoodE view (looseW view loose0), plainGoodD view loose0, wideGood view, clsGoodW view loose0)) :
    endsT PySem.Challenge.rw_dn0012_02.row.toRowW.prog view loose0 (fun s => xlAt view read0 s && recOk (RowW.records PySem.Challenge.rw_dn0012_02.row.toRowW) s) true (Hook.obs hook0) 14860 w = some (openGood view loose0, Hook.val hook0 w) := by
  obtain ⟨r, hr, eA⟩ := run_of hA
  have eB := run_at hB hr
  have eC := run_at hC hr
  unfold gA at eA
  unfold gB at eB
  unfold gC at eC
  obtain ⟨a1, a2⟩ := Prod.mk.inj eA
  obtain ⟨c0, eC⟩ := Prod.mk.inj eC
  obtain ⟨c1, eC⟩ := Prod.mk.inj eC
  obtain ⟨c2, eC⟩ := Prod.mk.inj eC
  obtain ⟨c3, eC⟩ := Prod.mk.inj eC
  obtain ⟨c4, eC⟩ := Prod.mk.inj eC
  obtain ⟨c5, eC⟩ := Prod.mk.inj eC
  obtain ⟨c6, c7⟩ := Prod.mk.inj eC
  have e : see0 r = openGood view loose0 := Prod.ext a2 (Prod.ext c1 (Prod.ext eB (Prod.ext c2 (Prod.ext c3 (Prod.ext c4 (Prod.ext c5 (Prod.ext c6 c7)))))))
  have eo : Hook.obs hook0 r.2.abs = Hook.val hook0 w := looks_of c0
  rw [endsT_run hr]
  unfold seenEnd
  rw [a1]
  show some (see0 r, Hook.obs hook0 r.2.abs) = _
  rw [e, eo]
theorem fA (w : World) : (runT PySem.Challenge.rw_dn0012_02.row.toRowW.prog 14860 (w.withFollow "special-get-raises" false)).map gA = some (true, expectedOf view) := by
  kernel_rfl
theorem fB (w : World) : (runT PySem.Challenge.rw_dn0012_02.row.toRowW.prog 14860 (w.withFollow "special-get-raises" false)).map gB = some true := by
  kernel_rfl
theorem fC (w : World) : (runT PySem.Challenge.rw_dn0012_02.row.toRowW.prog 14860 (w.withFollow "special-get-raises" false)).map gC = some ((heapK (w.withFollow "special-get-raises" false).params).map fun p => some p.2, bltViewBooted, true, pinGoodD (drecsOf view), plainGoodE view (looseW view loose0), plainGoodD view loose0, wideGood view, clsGoodW view loose0) := by
  kernel_rfl
theorem ends_f : ∀ w : World, endsT PySem.Challenge.rw_dn0012_02.row.toRowW.prog view loose0 (fun s => xlAt view read0 s && recOk (RowW.records PySem.Challenge.rw_dn0012_02.row.toRowW) s) true (Hook.obs hook0) 14860 (w.withFollow "special-get-raises" false) = some (openGood view loose0, Hook.val hook0 (w.withFollow "special-get-raises" false)) := fun w => ends_of (fA w) (fB w) (fC w)
theorem tA (w : World) : (runT PySem.Challenge.rw_dn0012_02.row.toRowW.prog 14860 (w.withFollow "special-get-raises" true)).map gA = some (true, expectedOf view) := by
  kernel_rfl
theorem tB (w : World) : (runT PySem.Challenge.rw_dn0012_02.row.toRowW.prog 14860 (w.withFollow "special-get-raises" true)).map gB = some true := by
  kernel_rfl
theorem tC (w : World) : (runT PySem.Challenge.rw_dn0012_02.row.toRowW.prog 14860 (w.withFollow "special-get-raises" true)).map gC = some ((heapK (w.withFollow "special-get-raises" true).params).map fun p => some p.2, bltViewBooted, true, pinGoodD (drecsOf view), plainGoodE view (looseW view loose0), plainGoodD view loose0, wideGood view, clsGoodW view loose0) := by
  kernel_rfl
theorem ends_t : ∀ w : World, endsT PySem.Challenge.rw_dn0012_02.row.toRowW.prog view loose0 (fun s => xlAt view read0 s && recOk (RowW.records PySem.Challenge.rw_dn0012_02.row.toRowW) s) true (Hook.obs hook0) 14860 (w.withFollow "special-get-raises" true) = some (openGood view loose0, Hook.val hook0 (w.withFollow "special-get-raises" true)) := fun w => ends_of (tA w) (tB w) (tC w)
end Mine
end
section
namespace Mine
theorem ints_nil {ws : List Value} (h : IntsAre ws []) : ws = [] := by cases h; rfl
theorem ints_cons {ws : List Value} {n : Int} {ns : List Int} (h : IntsAre ws (n :: ns)) : ∃ t us, ws = .int n t :: us ∧ IntsAre us ns := by
  cases h with
  | cons _ t h => exact ⟨t, _, rfl, h⟩
theorem five {ns : List Int} (h : (List.take 5 ns).length = 5) : ∃ a b c d e, List.take 5 ns = [a, b, c, d, e] := by
  match ns, h with
  | a :: b :: c :: d :: e :: _, _ => exact ⟨a, b, c, d, e, rfl⟩
  | [], h => simp at h
  | [_], h => simp at h
  | [_, _], h => simp at h
  | [_, _, _], h => simp at h
  | [_, _, _, _], h => simp at h
theorem ints5 {ws : List Value} {ns : List Int} (h : IntsAre ws (List.take 5 (ns ++ (List.replicate 5 [0]).flatten))) :
    ∃ y a p q r ty ta tp tq tr, ws = [.int y ty, .int a ta, .int p tp, .int q tq, .int r tr] := by
  have hl : (List.take 5 (ns ++ (List.replicate 5 [(0 : Int)]).flatten)).length = 5 := by
    rw [List.length_take, List.length_append]
    have : ((List.replicate 5 [(0 : Int)]).flatten).length = 5 := by decide
    omega
  obtain ⟨y, a, p, q, r, e⟩ := five hl
  rw [e] at h
  obtain ⟨ty, u1, e1, h1⟩ := ints_cons h
  obtain ⟨ta, u2, e2, h2⟩ := ints_cons h1
  obtain ⟨tp, u3, e3, h3⟩ := ints_cons h2
  obtain ⟨tq, u4, e4, h4⟩ := ints_cons h3
  obtain ⟨tr, u5, e5, h5⟩ := ints_cons h4
  have e6 := ints_nil h5
  subst e1 e2 e3 e4 e5 e6
  exact ⟨y, a, p, q, r, ty, ta, tp, tq, tr, rfl⟩
end Mine
namespace Mine
open PySem.Calls
def updN (m : Str → Option Value) : List (Str × Pos) → List Value → (Str → Option Value)
  | x :: xs, v :: vs => updN (fun y => if y = x.1 then some v else m y) xs vs
  | _, _ => m
section
variable {prog : Program} {w : World} {A : Around} {E : Value → Shared → Prop} {name : Str} {scope : Scope} {L a : Addr} {cd : Value} {h₀ : Heap} {news : List (Addr × Obj)}
theorem aio {Q : Unit → Shared → Prop} (hk : scope.kind = .function) : ∀ (xs : List (Str × Pos)) (vs : List Value) (m : Str → Option Value) (s : Shared), xs.length = vs.length →
    (∀ x ∈ xs, (envOf name scope L a cd).kindOf x.1 = some .local) → Fr h₀ L s.heap m → News h₀ L s.heap news →
    (∀ h' tk, Fr h₀ L h' (updN m xs vs) → News h₀ L h' news → Q () { s with heap := h', toks := tk }) →
    wpAny (model prog w) A (assignInOrder (xs.map fun x => assign (.Name x.1 x.2) (envOf name scope L a cd)) vs) Q E s
  | [], [], _, s, _, _, F, N, h => assignInOrder_nil (h s.heap s.toks F N)
  | x :: xs, v :: vs, m, s, hl, hx, F, N, h => by
    refine assignInOrder_cons (wpAny_assign_Name (stN F N (fun h' F' N' => ?_) hk (hx x (.head _))))
    exact aio hk xs vs _ _ (Nat.succ.inj hl) (fun y hy => hx y (.tail _ hy)) F' N' fun h'' tk F'' N'' => h h'' tk F'' N''
  | [], _ :: _, _, _, hl, _, _, _, _ => nomatch hl
  | _ :: _, [], _, _, hl, _, _, _, _ => nomatch hl

theorem unpackL {m : Str → Option Value} {s : Shared} {elts : List Expr} {k : Nat} {pos : Pos} {l : Addr} {items : Array Value} {xs : List (Str × Pos)} {Q : Unit → Shared → Prop}
    (F : Fr h₀ L s.heap m) (N : News h₀ L s.heap news) (hl : s.heap.IsList l items) (hh : A.handled = none)
    (hE : assignEach elts (envOf name scope L a cd) = xs.map fun x => (false, assign (.Name x.1 x.2) (envOf name scope L a cd))) (hn : xs.length = items.size)
    (hk : scope.kind = .function) (hxb : (xs.all fun x => decide ((envOf name scope L a cd).kindOf x.1 = some .local)) = true)
    (h : ∀ h' tk, Fr h₀ L h' (updN m xs items.toList) → News h₀ L h' news → Q () { s with heap := h', toks := tk }) :
    wpAny (model prog w) A (assign (.Tuple elts k pos) (envOf name scope L a cd) (.ref l)) Q E s := by
  have hx : ∀ x ∈ xs, (envOf name scope L a cd).kindOf x.1 = some .local := fun x hx => of_decide_eq_true (List.all_eq_true.mp hxb x hx)
  clear hxb
  refine kun_list F N hl hh (by rw [hE, List.length_map, hn]) (by rw [hE, List.findIdx?_map]; clear hx hE hn; induction xs <;> simp_all) fun h' F' N' => ?_
  rw [hE, List.map_map]
  exact aio hk xs _ m _ (by simpa using hn) hx F' N' fun h'' tk F'' N'' => h h'' tk F'' N''

theorem unpackT {m : Str → Option Value} {s : Shared} {elts : List Expr} {k : Nat} {pos : Pos} {l : Addr} {items : Array Value} {xs : List (Str × Pos)} {Q : Unit → Shared → Prop}
    (F : Fr h₀ L s.heap m) (N : News h₀ L s.heap news) (hl : IsTup s.heap l items) (hh : A.handled = none)
    (hE : assignEach elts (envOf name scope L a cd) = xs.map fun x => (false, assign (.Name x.1 x.2) (envOf name scope L a cd))) (hn : xs.length = items.size)
    (hk : scope.kind = .function) (hxb : (xs.all fun x => decide ((envOf name scope L a cd).kindOf x.1 = some .local)) = true)
    (h : ∀ h' tk, Fr h₀ L h' (updN m xs items.toList) → News h₀ L h' news → Q () { s with heap := h', toks := tk }) :
    wpAny (model prog w) A (assign (.Tuple elts k pos) (envOf name scope L a cd) (.ref l)) Q E s := by
  have hx : ∀ x ∈ xs, (envOf name scope L a cd).kindOf x.1 = some .local := fun x hx => of_decide_eq_true (List.all_eq_true.mp hxb x hx)
  clear hxb
  refine unpackN_ F N hl hh (by rw [hE, List.length_map, hn]) (by rw [hE, List.findIdx?_map]; clear hx hE hn; induction xs <;> simp_all) fun h' F' N' => ?_
  rw [hE, List.map_map]
  exact aio hk xs _ m _ (by simpa using hn) hx F' N' fun h'' tk F'' N'' => h h'' tk F'' N''
end
end Mine
end
section
namespace Mine
/-- a mark at which the walk stops -/
def Stop (P : Prop) : Prop := P
theorem Stop.out {P : Prop} (h : Stop P) : P := h
theorem Stop.into {P : Prop} (h : P) : Stop P := h
section
variable {prog : Program} {w : World} {A : Around} {E : Value → Shared → Prop} {s : Shared} {env : Env} {h₀ : Heap} {x : Str} {body : List Stmt} {Q : Flow → Shared → Prop}
theorem range_loop {r : Addr} {a₀ b₀ : Int} {t₀ u₀ v₀ : Tok} {n : Nat} {m₀ : Str → Option Value} {news : List (Addr × Obj)} (J : Nat → (Str → Option Value) → List (Addr × Obj) → Prop)
    (hh : A.handled = none) (hr : IsRange s.heap r a₀ b₀ 1 t₀ u₀ v₀) (hsmall : Builtin.Range.small a₀ b₀ 1 = true) (hsz : Builtin.Range.rangeSize a₀ b₀ 1 = (n : Int)) (F : Fr h₀ env.locals s.heap m₀) (N : News h₀ env.locals s.heap news) (hj : J 0 m₀ news)
    (turn : ∀ i t m₁ nx h tk own, i < n → OwnOff own (nx.map (·.1)) → J i m₁ nx → Fr h₀ env.locals h (fun y => if y = x then some (.int (a₀ + (i : Int)) t) else m₁ y) → News h₀ env.locals h (nx ++ own) →
      wpAny (model prog w) A (execs body env) (InvPostG h₀ env.locals (J (i + 1)) own { s with heap := h, toks := tk } Q) E { s with heap := h, toks := tk })
    (done : ∀ m₁ nx h tk, J n m₁ nx → Fr h₀ env.locals h m₁ → News h₀ env.locals h nx → Q .next { s with heap := h, toks := tk }) :
    wpAny (model prog w) A (pyIter (.ref r)) (fun it s₂ => LoopAtV prog w A h₀ env x body Q E it s₂) E s := by
  refine wpAny_pyIter_range hr hsmall ?_
  have W : Walks prog w A s.heap.objs.size [s.heap.objs.size] [s.heap.objs.size] n (fun i v => i < n ∧ ∃ t, v = .int (a₀ + i * 1) t)
      (fun i h => IsRangeIter h s.heap.objs.size (a₀ + (i : Nat) * 1) ((n : Int) - (i : Nat)) 1) := (Walks.range hh _ a₀ 1 n).bound
  refine kdr_loop J W (fun _ h => h) (fun _ h => h) ?_ ?_ ?_ ?_ (by show IsRangeIter _ _ _ _ _; rw [hsz]; simpa using Heap.get?_push_size _ rfl) (F.push _) (fun p hp => ⟨Heap.get?_push_of_some _ (N p hp).1, (N p hp).2⟩) hj ?_ ?_
  · intro i h hi b hb
    rw [List.mem_singleton.mp hb]
    exact ⟨_, hi⟩
  · intro hm
    exact absurd F.ns.lt ((List.mem_singleton.mp hm) ▸ Nat.lt_irrefl _)
  · intro b hb
    rw [List.mem_singleton.mp hb]
    exact next_is_new F
  · intro p hp hI
    exact absurd (Heap.lt_size (N p hp).1) ((List.mem_singleton.mp hI) ▸ Nat.lt_irrefl _)
  · rintro i v m₁ nx h tk own hi ⟨_, t, rfl⟩ hoff hj F₁ N₁
    have e1 : a₀ + (i : Int) * 1 = a₀ + (i : Int) := by omega
    rw [e1] at F₁
    exact turn i t m₁ nx h tk own hi hoff hj F₁ N₁
  · intro m₁ nx h tk hj F₁ N₁
    exact done m₁ nx h tk hj F₁ N₁

/-- what holds between the turns of a loop that fills the list at D with data and turns two ints -/
def BJ (D : Addr) (cst : List (Addr × Obj)) (x a b : Str) (rest : List Str) (m₀ : Str → Option Value) (dat : Nat → List Dat) (wd nu : Nat → Int) (i : Nat) (m : Str → Option Value) (nx : List (Addr × Obj)) : Prop :=
  ∃ vs cap tw tn tl, nx = (D, listOf (List.toArray vs) cap) :: (cst ++ tl) ∧ DatAll tl vs (dat i) ∧ OwnOff tl (D :: cst.map (·.1)) ∧ m a = some (.int (wd i) tw) ∧ m b = some (.int (nu i) tn) ∧
    ∀ z, z ≠ x → z ≠ a → z ≠ b → rest.contains z = false → m z = m₀ z
def bfr (x a b : Str) (rest : List Str) (m₀ u : Str → Option Value) (v : Option Value) (va vb : Value) : Str → Option Value :=
  fun y => if y = x then v else if y = a then some va else if y = b then some vb else if rest.contains y then u y else m₀ y
theorem bfr_eq {x a b : Str} {rest : List Str} {m₀ m₁ : Str → Option Value} {v : Option Value} {va vb : Value} (ha : m₁ a = some va) (hb : m₁ b = some vb) (hr : ∀ z, z ≠ x → z ≠ a → z ≠ b → rest.contains z = false → m₁ z = m₀ z) :
    (fun y => if y = x then v else m₁ y) = bfr x a b rest m₀ m₁ v va vb := by
  funext y
  show (if y = x then v else m₁ y) = if y = x then v else if y = a then some va else if y = b then some vb else if rest.contains y then m₁ y else m₀ y
  by_cases h1 : y = x
  · rw [if_pos h1, if_pos h1]
  rw [if_neg h1, if_neg h1]
  by_cases h2 : y = a
  · rw [if_pos h2, h2, ha]
  rw [if_neg h2]
  by_cases h3 : y = b
  · rw [if_pos h3, h3, hb]
  rw [if_neg h3]
  by_cases h4 : rest.contains y = true
  · rw [if_pos h4]
  rw [if_neg h4]
  exact hr y h1 h2 h3 (by simpa using h4)
theorem bfr_out {x a b : Str} {rest : List Str} {m₀ m₁ : Str → Option Value} {va vb : Value} (ha : m₁ a = some va) (hb : m₁ b = some vb) (hr : ∀ z, z ≠ x → z ≠ a → z ≠ b → rest.contains z = false → m₁ z = m₀ z) :
    m₁ = fun y => bfr x a b rest m₀ m₁ (m₁ x) va vb y := by
  have := bfr_eq (v := m₁ x) ha hb hr
  rw [← this]
  funext y
  show m₁ y = if y = x then m₁ x else m₁ y
  by_cases h1 : y = x
  · rw [if_pos h1, h1]
  · rw [if_neg h1]

theorem build_loop {r : Addr} {a₀ b₀ : Int} {t₀ u₀ v₀ : Tok} {n : Nat} {m₀ : Str → Option Value} {news : List (Addr × Obj)} (D : Addr) (cst : List (Addr × Obj)) (a b : Str) (rest : List Str) (dat : Nat → List Dat) (wd nu : Nat → Int)
    {vs₀ : List Value} {cap₀ : Nat} {tw₀ tn₀ : Tok} (tl₀ : List (Addr × Obj))
    (hh : A.handled = none) (hr : IsRange s.heap r a₀ b₀ 1 t₀ u₀ v₀) (hsmall : Builtin.Range.small a₀ b₀ 1 = true) (hsz : Builtin.Range.rangeSize a₀ b₀ 1 = (n : Int)) (F : Fr h₀ env.locals s.heap m₀) (N : News h₀ env.locals s.heap news)
    (hnews : ∀ p ∈ (D, listOf (List.toArray vs₀) cap₀) :: (cst ++ tl₀), p ∈ news) (hd : DatAll tl₀ vs₀ (dat 0)) (hoff : OwnOff tl₀ (D :: cst.map (·.1))) (ha : m₀ a = some (.int (wd 0) tw₀)) (hb : m₀ b = some (.int (nu 0) tn₀))
    (turn : ∀ i t vs cap tw tn tl u h tk own, i < n → DatAll tl vs (dat i) → OwnOff tl (D :: cst.map (·.1)) → OwnOff own (D :: cst.map (·.1)) → OwnOff own (tl.map (·.1)) →
      Fr h₀ env.locals h (bfr x a b rest m₀ u (some (.int (a₀ + (i : Int)) t)) (.int (wd i) tw) (.int (nu i) tn)) →
      News h₀ env.locals h ((D, listOf (List.toArray vs) cap) :: (cst ++ (tl ++ own))) →
      wpAny (model prog w) A (execs body env) (InvPostG h₀ env.locals (BJ D cst x a b rest m₀ dat wd nu (i + 1)) own { s with heap := h, toks := tk } Q) E { s with heap := h, toks := tk })
    (done : ∀ vs cap tw tn tl u v h tk, DatAll tl vs (dat n) → OwnOff tl (D :: cst.map (·.1)) → Fr h₀ env.locals h (bfr x a b rest m₀ u v (.int (wd n) tw) (.int (nu n) tn)) →
      News h₀ env.locals h ((D, listOf (List.toArray vs) cap) :: (cst ++ tl)) → Q .next { s with heap := h, toks := tk }) :
    wpAny (model prog w) A (pyIter (.ref r)) (fun it s₂ => LoopAtV prog w A h₀ env x body Q E it s₂) E s := by
  refine range_loop (BJ D cst x a b rest m₀ dat wd nu) hh hr hsmall hsz F (fun p hp => N p (hnews p hp)) ⟨vs₀, cap₀, tw₀, tn₀, tl₀, rfl, hd, hoff, ha, hb, fun _ _ _ _ _ => rfl⟩ ?_ ?_
  · rintro i t m₁ nx h tk own hi ho ⟨vs, cap, tw, tn, tl, rfl, hd', ht, h1, h2, h3⟩ F₁ N₁
    have o1 : OwnOff own (D :: cst.map (·.1)) := fun p hp c hc => ho p hp c (by
      rw [List.map_cons, List.map_append]
      rcases List.mem_cons.mp hc with h | h
      · exact List.mem_cons.mpr (.inl h)
      · exact List.mem_cons.mpr (.inr (List.mem_append.mpr (.inl h))))
    have o2 : OwnOff own (tl.map (·.1)) := fun p hp c hc => ho p hp c (by
      rw [List.map_cons, List.map_append]
      exact List.mem_cons.mpr (.inr (List.mem_append.mpr (.inr hc))))
    refine turn i t vs cap tw tn tl m₁ h tk own hi hd' ht o1 o2 ?_ ?_
    · rw [bfr_eq h1 h2 h3] at F₁
      exact F₁
    · rw [List.cons_append, List.append_assoc] at N₁
      exact N₁
  · rintro m₁ nx h tk ⟨vs, cap, tw, tn, tl, rfl, hd', ht, h1, h2, h3⟩ F₁ N₁
    refine done vs cap tw tn tl m₁ (m₁ x) h tk hd' ht ?_ N₁
    rw [bfr_out h1 h2 h3] at F₁
    exact F₁

/-- a turn's end -/
theorem build_end {D : Addr} {cst : List (Addr × Obj)} {a b : Str} {rest : List Str} {m₀ : Str → Option Value} {dat : Nat → List Dat} {wd nu : Nat → Int} {i : Nat} {own news' : List (Addr × Obj)} {L : Addr} {m' : Str → Option Value} {s₁ : Shared} {h' : Heap} {tk : Nat}
    {vs : List Value} {cap : Nat} (tl : List (Addr × Obj)) (F : Fr h₀ L h' m') (N : News h₀ L h' news') (hnews : ∀ p ∈ (D, listOf (List.toArray vs) cap) :: (cst ++ tl), p ∈ news') (hown : ∀ p ∈ own, p ∈ news')
    (o1 : OwnOff own (D :: cst.map (·.1))) (o2 : OwnOff own (tl.map (·.1))) (hd : DatAll tl vs (dat i)) (ht : OwnOff tl (D :: cst.map (·.1))) (ha : ∃ t, m' a = some (.int (wd i) t)) (hb : ∃ t, m' b = some (.int (nu i) t))
    (hr : ∀ z, z ≠ x → z ≠ a → z ≠ b → rest.contains z = false → m' z = m₀ z) :
    InvEndG h₀ L (BJ D cst x a b rest m₀ dat wd nu i) own s₁ { s₁ with heap := h', toks := tk } := by
  obtain ⟨tw, ha⟩ := ha
  obtain ⟨tn, hb⟩ := hb
  refine ⟨h', tk, m', news', _, rfl, F, N, hnews, hown, ?_, vs, cap, tw, tn, tl, rfl, hd, ht, ha, hb, hr⟩
  intro p hp c hc
  rw [List.map_cons, List.map_append] at hc
  rcases List.mem_cons.mp hc with h | h
  · exact o1 p hp c (List.mem_cons.mpr (.inl h))
  · rcases List.mem_append.mp h with h | h
    · exact o1 p hp c (List.mem_cons.mpr (.inr h))
    · exact o2 p hp c h
end
end Mine
namespace Mine
section
open PySem.Calls
variable {prog : Program} {w : World} {A : Around} {E : Value → Shared → Prop} {s : Shared} {h₀ : Heap} {L l : Addr}
theorem int_item {value slice : PySem.Expr} {news : List (Addr × Obj)} {us : List Value} {ns : List Int} {n : Nat} {k v : Int} {u : Tok} {Q : Value → Shared → Prop} (N : News h₀ L s.heap news) (hm : (l, listOf us.toArray n) ∈ news) (hi : IntsAre us ns)
    (h0 : 0 ≤ k) (h1 : k < (ns.length : Int)) (hfit : k < 2 ^ 63) (hv : ns.getD k.toNat 0 = v) (h : ∀ t, Q (.int v t) s)
    (hs : subscripted slice false (.ref l) (.int k u) = operate [.ref l, .int k u] (getItem (.ref l) (.int k u)) := by with_unfolding_all rfl) :
    wpAny (model prog w) A (subscriptTail value slice (.ref l) (.int k u)) Q E s := by
  have hl : s.heap.IsList l us.toArray := ⟨_, (N _ hm).1, rfl, n, rfl⟩
  have hk : k.toNat < ns.length := by omega
  obtain ⟨t, hx⟩ := hi.get k.toNat (ns[k.toNat]'hk) (List.getElem?_eq_getElem hk)
  have e : ns[k.toNat]'hk = v := by rw [← hv, List.getD_eq_getElem?_getD, List.getElem?_eq_getElem hk]; rfl
  rw [e] at hx
  exact tail_any hl.typeIs slot_list_getitem.lookup (wpAny_getItem_list hl h0 hfit (by simpa using hx) (h t)) hs
end
end Mine
namespace Mine
theorem off_inner {tl news own : List (Addr × Obj)} {D DL : Addr} {o : Obj} (ht : OwnOff tl (D :: news.map (·.1))) (o2 : OwnOff own (tl.map (·.1))) (hl : ∀ p ∈ tl, p.1 < DL) : OwnOff tl (D :: ((DL, o) :: (news ++ own)).map (·.1)) := by
  intro p hp b hb
  rcases List.mem_cons.mp hb with h | h
  · exact ht p hp b (List.mem_cons.mpr (.inl h))
  rw [List.map_cons, List.map_append] at h
  rcases List.mem_cons.mp h with h | h
  · rw [h]; exact Nat.ne_of_lt (hl p hp)
  rcases List.mem_append.mp h with h | h
  · exact ht p hp b (List.mem_cons.mpr (.inr h))
  · obtain ⟨q, hq, rfl⟩ := List.mem_map.mp h
    exact fun e => o2 q hq p.1 (List.mem_map.mpr ⟨p, hp, rfl⟩) e.symm
theorem off_outer {tl news own : List (Addr × Obj)} {D DL : Addr} {o : Obj} (h : OwnOff tl (D :: ((DL, o) :: (news ++ own)).map (·.1))) : OwnOff tl (D :: news.map (·.1)) ∧ OwnOff own (tl.map (·.1)) := by
  constructor
  · intro p hp b hb
    refine h p hp b ?_
    rcases List.mem_cons.mp hb with e | e
    · exact List.mem_cons.mpr (.inl e)
    · rw [List.map_cons, List.map_append]
      exact List.mem_cons.mpr (.inr (List.mem_cons.mpr (.inr (List.mem_append.mpr (.inl e)))))
  · intro p hp b hb
    obtain ⟨q, hq, rfl⟩ := List.mem_map.mp hb
    refine fun e => h q hq p.1 ?_ e.symm
    rw [List.map_cons, List.map_append]
    exact List.mem_cons.mpr (.inr (List.mem_cons.mpr (.inr (List.mem_append.mpr (.inr (List.mem_map.mpr ⟨p, hp, rfl⟩))))))
theorem off_new {tl cst : List (Addr × Obj)} {D T : Addr} {o : Obj} (ht : OwnOff tl (D :: cst.map (·.1))) (hD : D < T) (hc : ∀ p ∈ cst, p.1 < T) : OwnOff ((T, o) :: tl) (D :: cst.map (·.1)) := by
  intro p hp b hb
  rcases List.mem_cons.mp hp with e | e
  · rw [e]
    rcases List.mem_cons.mp hb with h | h
    · rw [h]; exact Nat.ne_of_gt hD
    · obtain ⟨q, hq, rfl⟩ := List.mem_map.mp h
      exact Nat.ne_of_gt (hc q hq)
  · exact ht p e b hb
theorem off_own {tl own : List (Addr × Obj)} {T : Addr} {o : Obj} (h : OwnOff own (tl.map (·.1))) (hl : ∀ p ∈ own, p.1 < T) : OwnOff own (((T, o) :: tl).map (·.1)) := by
  intro p hp b hb
  rw [List.map_cons] at hb
  rcases List.mem_cons.mp hb with e | e
  · rw [e]; exact Nat.ne_of_lt (hl p hp)
  · exact h p hp b e
end Mine
end
section
open PySem PySem.W PyProof.Rows PySem.Calls
namespace Mine
theorem rangeContains (r : Addr) (a b i : Int) (t u v ti : Tok) :
    Meets (Builtin.«range.__contains__» ⟨[.ref r, .int i ti], []⟩) (fun _ R s => s.heap.get? r = some { cls := .type "range", dict := none, data := .fields #[.int a t, .int b u, .int 1 v], slots := #[] } ∧ R (.ok (.ret (.bool (Builtin.Range.rangePlace? a b 1 i).isSome))) s) :=
  .of_wp fun prog w A R s h => by obtain ⟨hp, g, d, tk, os⟩ := s; obtain ⟨hl, h⟩ := h; wp_walk; exact ⟨_, rfl, h⟩
theorem place_some (a b i : Int) : (Builtin.Range.rangePlace? a b 1 i).isSome = decide (a ≤ i ∧ i < b) := by
  unfold Builtin.Range.rangePlace?
  simp only [show (1 : Int) > 0 by decide, if_true, Int.emod_one, beq_self_eq_true, Bool.and_true]
  by_cases h1 : a ≤ i <;> by_cases h2 : i < b <;> simp [h1, h2]
section
variable {prog : Program} {w : World} {A : Around} {E : Value → Shared → Prop} {s : Shared}
theorem in_range {r : Addr} {a b i : Int} {t u v ti : Tok} {Q : Value → Shared → Prop} (hr : IsRange s.heap r a b 1 t u v) (h : Q (.bool (decide (a ≤ i ∧ i < b))) s) :
    wpAny (model prog w) A (compareOp .In (.int i ti) (.ref r)) Q E s := by
  have hT : s.TypeIs (.ref r) "range" := ⟨_, hr, rfl⟩
  refine In_slot hT F.slot_range_contains (call_meets F.slot_range_contains hT F.entry_range_contains (F.args_range_contains_2 _ _) (rangeContains r a b i t u v ti) ⟨hr, ?_⟩)
  rw [place_some]
  exact wpAny_pure h
end
end Mine
end
section
open PySem PySem.W PyProof.Rows PySem.Calls
namespace Mine
/-- behind the stop -/
def Behind : Prop := True
theorem Behind.mk : Behind := trivial
theorem q_int {Q : Value → Shared → Prop} {a b : Int} {t : Tok} {s : Shared} (h : Q (.int a t) s) (e : a = b) : Q (.int b t) s := e ▸ h
def bi (b : Bool) : Int := if b = true then 1 else 0
def Inside : Prop := True
theorem Inside.mk : Inside := trivial
section
variable {prog : Program} {w : World} {A : Around} {E : Value → Shared → Prop} {s : Shared} {h₀ : Heap} {L : Addr} {m : Str → Option Value} {news : List (Addr × Obj)}
theorem divmod_is {a b q r : Int} {t u : Tok} {Q : Value → Shared → Prop} (hq : a.fdiv b = q) (hr : a.fmod b = r) (F : Fr h₀ L s.heap m) (N : News h₀ L s.heap news) (hb : b ≠ 0)
    (hp : Builtin.divisionGoesByPylong a b = false ∨ PySem.PylongRoom (model prog w) A s)
    (h : ∀ T t1 t2 h' tk', Fr h₀ L h' m → News h₀ L h' ((T, ({ cls := .type "tuple", data := .seq #[.int q t1, .int r t2] } : Obj)) :: news) → (∀ p ∈ news, p.1 < T) → Q (.ref T) { s with heap := h', toks := tk' }) :
    wpAny (model prog w) A (call (.builtin "divmod") [.int a t, .int b u]) Q E s := by
  subst hq hr
  exact divmod_N F N hb (fun h' F' N' => h _ _ _ _ _ F' N' fun p hp => Heap.lt_size (N p hp).1) hp
theorem topInt {K : Frag} {value slice : PySem.Expr} {a : Addr} {vs : List Value} {ns : List Int} {dd : Option Addr} {sl : Array (Option Value)} {n : Nat} {k v : Int} {u : Tok} {Q : Value → Shared → Prop} (F : Fr h₀ L s.heap m) (X₀ : K.In h₀)
    (hl : K.lookup a = some ⟨.type "list", dd, .seq vs.toArray n, sl⟩) (hi : IntsAre vs ns) (hv : ns.getD k.toNat 0 = v) (h0 : 0 ≤ k) (h1 : k < (ns.length : Int)) (hfit : k < 2 ^ 63) (h : ∀ t, Q (.int v t) s)
    (hs : subscripted slice false (.ref a) (.int k u) = operate [.ref a, .int k u] (getItem (.ref a) (.int k u)) := by with_unfolding_all rfl) :
    wpAny (model prog w) A (subscriptTail value slice (.ref a) (.int k u)) Q E s := by
  have hk : k.toNat < ns.length := by omega
  obtain ⟨t, hx⟩ := hi.get k.toNat (ns[k.toNat]'hk) (List.getElem?_eq_getElem hk)
  have e : ns[k.toNat]'hk = v := by rw [← hv, List.getD_eq_getElem?_getD, List.getElem?_eq_getElem hk]; rfl
  rw [e] at hx
  exact topList_K F X₀ hl h0 hfit hx (h t) hs
theorem rshift_is {a n v : Int} {t u : Tok} {Q : Value → Shared → Prop} (hn : 0 ≤ n) (hv : a.fdiv (2 ^ n.toNat) = v) (h : ∀ t tk, Q (.int v t) { s with toks := tk }) : wpAny (model prog w) A (binaryOp .RShift (.int a t) (.int n u)) Q E s := by
  subst hv
  exact rshift_int hn (h _ _)
theorem eq_same {b : Bool} {Q : Value → Shared → Prop} (h : Q (.bool true) s) : wpAny (model prog w) A (compareOp .Eq (.bool b) (.bool b)) Q E s := eq_bool (by rw [beq_self_eq_true]; exact h)
theorem add_bi {a : Int} {t : Tok} {b : Bool} {Q : Value → Shared → Prop} (h : ∀ t tk, Q (.int (a + bi b) t) { s with toks := tk }) : wpAny (model prog w) A (binaryOp .Add (.int a t) (.bool b)) Q E s := add_int_bool (h _ _)
/-- an expression's end, its value a truth known beforehand -/
def BoolEnd (b : Bool) (s : Shared) (v : Value) (s' : Shared) : Prop := v = .bool b ∧ ∃ tk, s' = { s with toks := tk }
theorem BoolEnd.mk {b b' : Bool} {tk : Nat} (e : b' = b) : BoolEnd b s (.bool b') { s with toks := tk } := ⟨e ▸ rfl, _, rfl⟩
theorem bool_val {M : Model} {tree : Sem Value} {Q : Value → Shared → Prop} (b : Bool) (h1 : wpAny M A tree (BoolEnd b s) E s) (h2 : ∀ tk, Q (.bool b) { s with toks := tk }) : wpAny M A tree Q E s :=
  wpAny_mono h1 (fun v s' h => by obtain ⟨rfl, tk, rfl⟩ := h; exact h2 tk) fun _ _ h => h
end
end Mine
end
section
open PySem PySem.W PyProof.Rows PySem.Calls
namespace Mine
/-- a test's end: its truth, the ledger as it stood -/
def KeepEnd (b : Bool) (h₀ : Heap) (L : Addr) (m : Str → Option Value) (s₁ : Shared) (all : List (Addr × Obj)) (ok : Bool) (s₂ : Shared) : Prop :=
  ok = b ∧ ∃ h' tk, s₂ = { s₁ with heap := h', toks := tk } ∧ Fr h₀ L h' m ∧ News h₀ L h' all
section
variable {prog : Program} {w : World} {A : Around} {h₀ : Heap} {L : Addr} {m : Str → Option Value} {env : Env} {ct : Expr} {x : Str} {pos : Pos} {scope : Scope} {cl : List (Str × Addr)} {s : Shared} {S : List (Addr × Obj) → Prop} {Fin : List Value → List (Addr × Obj) → Prop} {news : List (Addr × Obj)}
theorem KeepEnd.mk {b b' : Bool} {s₁ : Shared} {all all' : List (Addr × Obj)} {h' : Heap} {tk : Nat} (e : b' = b) (F : Fr h₀ L h' m) (N : News h₀ L h' all') (hs : ∀ p ∈ all, p ∈ all') : KeepEnd b h₀ L m s₁ all b' { s₁ with heap := h', toks := tk } :=
  ⟨e, h', tk, rfl, F, fun p hp => N p (hs p hp)⟩
theorem keep_rest {n : Nat} {vs : List Value} {ds : List Dat} {tl : List (Addr × Obj)} (keep : Dat → Bool) (hd : DatAll tl vs ds) (hn : vs.length = n) (hS : S news)
    (turn : ∀ (i : Nat) (v : Value) (d : Dat) I oI C oC D m₂ ys h tk (E' : Value → Shared → Prop), ds[i]? = some d → DatIn tl v d → LCg.NsObj oC m₂ → m₂ x = some v → Fr h₀ L h m → News h₀ L h ((I, oI) :: (C, oC) :: (D, LCg.lst ys) :: news) → LCg.Off3 I C D news → ((@Ne Nat I C) ∧ (@Ne Nat I D) ∧ (@Ne Nat C D)) →
      wpAny (model prog w) A (isTrue ct (compEnvC scope cl C env) (eval ct (compEnvC scope cl C env))) (KeepEnd (keep d) h₀ L m { s with heap := h, toks := tk } ((I, oI) :: (C, oC) :: (D, LCg.lst ys) :: news)) E' { s with heap := h, toks := tk })
    (fin : ∀ ys, DatAll tl ys (ds.filter keep) → Fin ys news)
    (hk : ∀ C, (compEnvC scope cl C env).scope.kind = .function := by intro _; rfl) (hl : ∀ C, (compEnvC scope cl C env).kindOf x = some .local := by intro _; rfl) (hdb : (x == ("__debug__" : Str)) = false := by decide) :
    LCt.CompRestT prog w A h₀ L m env ct (.Name x pos) x scope cl s S (fun i v => vs.toArray[i]? = some v) Fin n 0 [] news := by
  have key : ∀ (j i : Nat) (ys : List Value), i + j = n → DatAll tl ys ((ds.take i).filter keep) → LCt.CompRestT prog w A h₀ L m env ct (.Name x pos) x scope cl s S (fun i v => vs.toArray[i]? = some v) Fin j i ys news := by
    intro j
    induction j with
    | zero =>
      intro i ys hi hy
      have e : i = ds.length := by rw [← hd.length]; omega
      subst e
      rw [List.take_length] at hy
      exact LCt.CompRestT.zero (fin ys hy)
    | succ j ih =>
      intro i ys hi hy
      refine LCt.CompRestT.succ ?_
      intro v I oI C oC D m₂ h tk E' hv hC hx F N off ne
      have hlt : i < ds.length := by rw [← hd.length]; omega
      obtain ⟨v', hv', hin⟩ := hd.get hlt
      have hv2 : vs[i]? = some v := by simpa using hv
      obtain rfl : v' = v := Option.some.inj (hv'.symm.trans hv2)
      have hdi : ds[i]? = some (ds[i]'hlt) := List.getElem?_eq_getElem hlt
      refine wpAny_mono (turn i v' _ I oI C oC D m₂ ys h tk E' hdi hin hC hx F N off ne) (fun ok s₂ hq => ?_) fun _ _ e => e
      obtain ⟨hb, h', tk', rfl, F', N'⟩ := hq
      have htake : ds.take (i + 1) = ds.take i ++ [ds[i]'hlt] := by rw [List.take_add_one, hdi]; rfl
      cases ok with
      | true =>
        simp only [if_true]
        refine LCgL.ld_own N' (List.mem_cons_of_mem _ (List.mem_cons_self ..)) hC hx ?_ (hk C) (hl C) hdb
        refine ⟨h', tk', news, rfl, F', N', off, hS, ?_⟩
        refine ih (i + 1) _ (by omega) ?_
        rw [htake, List.filter_append, List.filter_cons, if_pos hb.symm, List.filter_nil]
        exact DatAll.append hy (.one hin)
      | false =>
        simp only [Bool.false_eq_true, if_false]
        refine ⟨h', tk', news, rfl, F', N', off, hS, ?_⟩
        refine ih (i + 1) _ (by omega) ?_
        rw [htake, List.filter_append, List.filter_cons, if_neg (by rw [← hb]; simp), List.filter_nil, List.append_nil]
        exact hy
  exact key n 0 [] (by omega) (by simpa using DatAll.nil)
/-- an if's end: one name holds an int known beforehand -/
def DEnd (x : Str) (D : Int) (h₀ : Heap) (L : Addr) (m : Str → Option Value) (news : List (Addr × Obj)) (s : Shared) (fl : Flow) (s' : Shared) : Prop :=
  fl = .next ∧ ∃ t h' tk, s' = { s with heap := h', toks := tk } ∧ Fr h₀ L h' (fun y => if y = x then some (.int D t) else m y) ∧ News h₀ L h' news
theorem DEnd.mk {x : Str} {D D' : Int} {t : Tok} {h' : Heap} {tk : Nat} (F : Fr h₀ L h' (fun y => if y = x then some (.int D' t) else m y)) (N : News h₀ L h' news) (e : D' = D) : DEnd x D h₀ L m news s .next { s with heap := h', toks := tk } :=
  ⟨rfl, t, h', tk, rfl, e ▸ F, N⟩
theorem DEnd.mk0 {x : Str} {D D' : Int} {t : Tok} {h' : Heap} {tk : Nat} (F : Fr h₀ L h' m) (N : News h₀ L h' news) (hm : m x = some (.int D' t)) (e : D' = D) : DEnd x D h₀ L m news s .next { s with heap := h', toks := tk } :=
  ⟨rfl, t, h', tk, rfl, (by
    have : (fun y => if y = x then some (Value.int D t) else m y) = m := by
      funext y
      by_cases h : y = x
      · subst h; rw [if_pos rfl, hm, e]
      · rw [if_neg h]
    rw [this]; exact F), N⟩
theorem d_join {M : Model} {A : Around} {tree : Sem Flow} {E : Value → Shared → Prop} {Q : Flow → Shared → Prop} (x : Str) (D : Int) (_F : Fr h₀ L s.heap m) (_N : News h₀ L s.heap news) (h1 : wpAny M A tree (DEnd x D h₀ L m news s) E s)
    (h2 : ∀ t h' tk, Fr h₀ L h' (fun y => if y = x then some (.int D t) else m y) → News h₀ L h' news → Q .next { s with heap := h', toks := tk }) : wpAny M A tree Q E s :=
  wpAny_mono h1 (fun fl s' h => by obtain ⟨rfl, t, h', tk, rfl, F, N⟩ := h; exact h2 t h' tk F N) fun _ _ h => h
end
end Mine
end
section
open PySem PySem.W PyProof.Rows PySem.Calls
namespace Mine
section
variable {A : Around} {E : Value → Shared → Prop} {s : Shared} {h₀ : Heap} {L : Addr} {m : Str → Option Value} {news : List (Addr × Obj)}
/-- an expression's end, its value a truth known beforehand; the heap may have grown -/
def BoolEndH (b : Bool) (h₀ : Heap) (L : Addr) (m : Str → Option Value) (news : List (Addr × Obj)) (s : Shared) (v : Value) (s' : Shared) : Prop :=
  v = .bool b ∧ ∃ h' tk, s' = { s with heap := h', toks := tk } ∧ Fr h₀ L h' m ∧ News h₀ L h' news
theorem BoolEndH.mk {b b' : Bool} {h' : Heap} {tk : Nat} (F : Fr h₀ L h' m) (N : News h₀ L h' news) (e : b' = b) : BoolEndH b h₀ L m news s (.bool b') { s with heap := h', toks := tk } := ⟨e ▸ rfl, _, _, rfl, F, N⟩
theorem bool_valH {M : Model} {tree : Sem Value} {Q : Value → Shared → Prop} (b : Bool) (_F : Fr h₀ L s.heap m) (_N : News h₀ L s.heap news) (h1 : wpAny M A tree (BoolEndH b h₀ L m news s) E s)
    (h2 : ∀ h' tk, Fr h₀ L h' m → News h₀ L h' news → Q (.bool b) { s with heap := h', toks := tk }) : wpAny M A tree Q E s :=
  wpAny_mono h1 (fun v s' h => by obtain ⟨rfl, h', tk, rfl, F, N⟩ := h; exact h2 h' tk F N) fun _ _ h => h
end
end Mine
end
section
namespace Mine
theorem seven {ns : List Int} (h : (List.take 7 ns).length = 7) : ∃ a b c d e f g, List.take 7 ns = [a, b, c, d, e, f, g] := by
  have hl : 7 ≤ ns.length := by rw [List.length_take] at h; omega
  match ns, hl with
  | a :: b :: c :: d :: e :: f :: g :: _, _ => exact ⟨a, b, c, d, e, f, g, rfl⟩
  | [], h => simp at h
  | [_], h => simp at h
  | [_, _], h => simp at h
  | [_, _, _], h => simp at h
  | [_, _, _, _], h => simp at h
  | [_, _, _, _, _], h => simp at h
  | [_, _, _, _, _, _], h => simp at h
theorem ints7 {ws : List Value} {ns : List Int} (h : IntsAre ws (List.take 7 (ns ++ (List.replicate 7 [0]).flatten))) :
    ∃ y a b c p q r ty ta tb tc tp tq tr, ws = [.int y ty, .int a ta, .int b tb, .int c tc, .int p tp, .int q tq, .int r tr] := by
  have hl : (List.take 7 (ns ++ (List.replicate 7 [(0 : Int)]).flatten)).length = 7 := by
    rw [List.length_take, List.length_append]
    have : ((List.replicate 7 [(0 : Int)]).flatten).length = 7 := by decide
    omega
  obtain ⟨y, a, b, c, p, q, r, e⟩ := seven hl
  rw [e] at h
  obtain ⟨ty, u1, e1, h1⟩ := ints_cons h
  obtain ⟨ta, u2, e2, h2⟩ := ints_cons h1
  obtain ⟨tb, u3, e3, h3⟩ := ints_cons h2
  obtain ⟨tc, u4, e4, h4⟩ := ints_cons h3
  obtain ⟨tp, u5, e5, h5⟩ := ints_cons h4
  obtain ⟨tq, u6, e6, h6⟩ := ints_cons h5
  obtain ⟨tr, u7, e7, h7⟩ := ints_cons h6
  have e8 := ints_nil h7
  subst e1 e2 e3 e4 e5 e6 e7 e8
  exact ⟨y, a, b, c, p, q, r, ty, ta, tb, tc, tp, tq, tr, rfl⟩
end Mine
end
section
open PySem PySem.W PyProof.Rows PySem.Calls
namespace Mine
section
variable {prog : Program} {w : World} {A : Around} {E : Value → Shared → Prop} {env : Env} {L : Addr} {h₀ : Heap} {news : List (Addr × Obj)}
theorem storeE {m : Str → Option Value} {s : Shared} {x : Str} {v : Value} {Q : Unit → Shared → Prop} (F : Fr h₀ L s.heap m) (N : News h₀ L s.heap news) (hL : env.locals = L)
    (h : ∀ h' tk, Fr h₀ L h' (fun y => if y = x then some v else m y) → News h₀ L h' news → Q () { s with heap := h', toks := tk })
    (hk : env.scope.kind = .function) (hx : env.kindOf x = some .local) : wpAny (model prog w) A (storeName env x v) Q E s := by
  subst hL
  exact wpAny_storeName_local hx F.ns (fun h' hn hs => h h' _ (F.set hn hs) (N.set hs)) (by rw [hk]; rfl)
theorem aioX {Q : Unit → Shared → Prop} (hL : env.locals = L) (hk : env.scope.kind = .function) : ∀ (xs : List (Str × Pos)) (vs : List Value) (m : Str → Option Value) (s : Shared), xs.length = vs.length →
    (∀ x ∈ xs, env.kindOf x.1 = some .local) → Fr h₀ L s.heap m → News h₀ L s.heap news →
    (∀ h' tk, Fr h₀ L h' (updN m xs vs) → News h₀ L h' news → Q () { s with heap := h', toks := tk }) →
    wpAny (model prog w) A (assignInOrder (xs.map fun x => assign (.Name x.1 x.2) env) vs) Q E s
  | [], [], _, s, _, _, F, N, h => assignInOrder_nil (h s.heap s.toks F N)
  | x :: xs, v :: vs, m, s, hl, hx, F, N, h => by
    refine assignInOrder_cons (wpAny_assign_Name (storeE F N hL (fun h' tk F' N' => ?_) hk (hx x (.head _))))
    exact aioX hL hk xs vs _ _ (Nat.succ.inj hl) (fun y hy => hx y (.tail _ hy)) F' N' fun h'' tk F'' N'' => h h'' tk F'' N''
  | [], _ :: _, _, _, hl, _, _, _, _ => nomatch hl
  | _ :: _, [], _, _, hl, _, _, _, _ => nomatch hl
theorem cell_any {P : Prop} {d : Data} {v : Option Value} (h : d = .cell v) (k : ∀ v : Option Value, d = .cell v → P) : P := k v h
theorem unpackX {m : Str → Option Value} {s : Shared} {elts : List Expr} {k : Nat} {pos : Pos} {l : Addr} {items : Array Value} {xs : List (Str × Pos)} {Q : Unit → Shared → Prop}
    (F : Fr h₀ L s.heap m) (N : News h₀ L s.heap news) (hl : s.heap.IsList l items) (hh : A.handled = none)
    (hE : assignEach elts env = xs.map fun x => (false, assign (.Name x.1 x.2) env)) (hn : xs.length = items.size) (hL : env.locals = L)
    (hk : env.scope.kind = .function) (hxb : (xs.all fun x => decide (env.kindOf x.1 = some .local)) = true)
    (h : ∀ m₁ h' tk, Fr h₀ L h' (updN m₁ xs items.toList) → News h₀ L h' news → Q () { s with heap := h', toks := tk }) :
    wpAny (model prog w) A (assign (.Tuple elts k pos) env (.ref l)) Q E s := by
  have hx : ∀ x ∈ xs, env.kindOf x.1 = some .local := fun x hx => of_decide_eq_true (List.all_eq_true.mp hxb x hx)
  clear hxb
  refine kun_list F N hl hh (by rw [hE, List.length_map, hn]) (by rw [hE, List.findIdx?_map]; clear hx hE hn; induction xs <;> simp_all) fun h' F' N' => ?_
  rw [hE, List.map_map]
  exact aioX hL hk xs _ m _ (by simpa using hn) hx F' N' fun h'' tk F'' N'' => h m h'' tk F'' N''
theorem unpackTX {m : Str → Option Value} {s : Shared} {elts : List Expr} {k : Nat} {pos : Pos} {l : Addr} {items : Array Value} {xs : List (Str × Pos)} {Q : Unit → Shared → Prop}
    (F : Fr h₀ L s.heap m) (N : News h₀ L s.heap news) (hl : IsTup s.heap l items) (hh : A.handled = none)
    (hE : assignEach elts env = xs.map fun x => (false, assign (.Name x.1 x.2) env)) (hn : xs.length = items.size) (hL : env.locals = L)
    (hk : env.scope.kind = .function) (hxb : (xs.all fun x => decide (env.kindOf x.1 = some .local)) = true)
    (h : ∀ h' tk, Fr h₀ L h' (updN m xs items.toList) → News h₀ L h' news → Q () { s with heap := h', toks := tk }) :
    wpAny (model prog w) A (assign (.Tuple elts k pos) env (.ref l)) Q E s := by
  have hx : ∀ x ∈ xs, env.kindOf x.1 = some .local := fun x hx => of_decide_eq_true (List.all_eq_true.mp hxb x hx)
  clear hxb
  refine unpackN_ F N hl hh (by rw [hE, List.length_map, hn]) (by rw [hE, List.findIdx?_map]; clear hx hE hn; induction xs <;> simp_all) fun h' F' N' => ?_
  rw [hE, List.map_map]
  exact aioX hL hk xs _ m _ (by simpa using hn) hx F' N' fun h'' tk F'' N'' => h h'' tk F'' N''
end
end Mine
end
section
open PySem PySem.W PyProof.Rows PySem.Calls
namespace Mine
/-- a clause of a try takes an exception that a callee raised; the frame may have cells -/
theorem caughtE {prog : Program} {w : World} {A₀ : Around} {E : Value → Shared → Prop} {s' : Shared} {h₀ h : Heap} {outer : List Env} {L e t : Addr} {m : Str → Option Value} {env : Env} {Kf : Frag}
    {vs : List Value} {b₀ : Stmt} {suite : List Stmt} {pos np : Pos} {rest : List ExceptHandler} {Q : Flow → Shared → Prop} {news : List (Addr × Obj)}
    {p : Program} {loose : List Str} {mg mb : Str → Option Value} {x : Str} {X T' : String}
    (K : Below A₀ h₀ outer h₀) (F : Fr h₀ L h m) (hsm : h.UpToSlots s'.heap) (R : RaisedK h₀ (env :: outer) e (.type X) t vs news s'.heap)
    (X₀ : Kf.In h₀) (T : TopRead p loose mg mb h₀) (hv : bootBuiltins x = some (.type T')) (hno : nsIn Kf mainGlobals x = some none) (hn : x ≠ "__name__")
    (hexc : isSubtype (.type T') (.type "BaseException") = pure true) (hnt : isSubtype (.type ((Manifest.find? T').elim "type" fun y => y.metatype)) (.type "tuple") = pure false) (hsub : isSubtype (.type X) (.type T') = pure true)
    (hf : env.frame = some L) (hg : env.globals = mainGlobals) (hbi : env.builtins = builtinsNs) (hk : env.scope.kind = .function) (hx : env.kindOf x = some .globalImplicit) (hd : (x == ("__debug__" : Str)) = false)
    (hE : PassesOwnAt (model prog w) ((A₀.deeper env).mark (some (.ref e))) (A₀.deeper env) env E)
    (k : ∀ h', Fr h₀ L h' m → News h₀ L h' news → wpAny (model prog w) ((A₀.deeper env).mark (some (.ref e))) (execs (b₀ :: suite) env) Q E { s' with heap := h' }) :
    wpAny (model prog w) (A₀.deeper env) (noteFrame (.ref e) env)
      (fun _ s₂ => wpAny (model prog w) (A₀.deeper env) (setFlight (.ref e) none) (fun _ s₃ =>
        wpAny (model prog w) (A₀.deeper env) (handleBy (.ref e) env (.ExceptHandler (some (.Name x np)) none (b₀ :: suite) pos :: rest)) Q E s₃) E s₂) E s' := by
  obtain ⟨⟨B, hB, hl, hfl, hnew⟩, htup⟩ := R
  refine wpAny_looks_onW (Around.frames_deeper K.stack) hf hfl fun h1 hheld sm1 => wpAny_landsW hheld fun h2 hfly sm2 => ?_
  have hfly' := flyingW_base hB hfly
  have sm12 := sm1.trans sm2
  have F2 := F.of_stays hfly'.1 (hsm.trans sm12)
  have hname : ∀ {Q' : Value → Shared → Prop} {E' : Value → Shared → Prop}, Q' (.type T') { s' with heap := h2 } → wpAny (model prog w) ((A₀.deeper env).mark (some (.ref e))) (eval (.Name x np) env) Q' E' { s' with heap := h2 } := by
    intro Q' E' hq
    refine Name_function_global hk hx (loadGlobal_builtin (mg := mg) (mb := mb) ?_ (mg_none_of X₀ T.g hno) ?_ ((T.builtins x hn).trans hv) hq) hd
    · rw [hg]; exact T.g.keeps F2.keep
    · rw [hbi]; exact T.b.keeps F2.keep
  obtain ⟨ob, hob, hobc⟩ := hfly'.there
  refine wpAny_handleBy_builtin (X := X) (T := T') (b := true) hexc hnt hsub (hname ⟨rfl, ⟨ob, hob, hobc⟩, ?_⟩)
  refine lands_againW hfly fun h3 hfly3 sm3 => wpAny_passesOwnAt hE (k h3 (F.of_stays (flyingW_base hB hfly3).1 ((hsm.trans sm12).trans sm3)) fun q hq => ?_)
  refine ⟨hfly3.1 _ _ (hl q hq).1, fun z => ?_, (hl q hq).2⟩
  obtain ⟨_, ⟨L', _, hf', hn', _⟩, _⟩ := hfl.2.2.1
  have hLL : L = L' := Option.some.inj (hf.symm.trans hf')
  have := (hl q hq).1
  rw [z, hLL, hn'] at this
  cases this
end Mine
end
section
namespace Mine
def leapB (y : Int) : Bool := decide (y.fmod 400 = 0) || (decide (y.fmod 4 = 0) && !decide (y.fmod 100 = 0))
def nlen (lp : Bool) (i : Nat) : Nat := [31, if lp then 29 else 28, 31, 30, 31, 30, 31, 31, 30, 31, 30, 31].getD i 0
def lens (y : Int) : List Int := [31, if leapB y then 29 else 28, 31, 30, 31, 30, 31, 31, 30, 31, 30, 31]
theorem lens_leap {y : Int} (h : leapB y = true) : lens y = [31, 29, 31, 30, 31, 30, 31, 31, 30, 31, 30, 31] := by simp [lens, h]
theorem lens_no {y : Int} (h : leapB y = false) : lens y = [31, 28, 31, 30, 31, 30, 31, 31, 30, 31, 30, 31] := by simp [lens, h]
theorem lens_length (y : Int) : (lens y).length = 12 := rfl
theorem lens_getD (y : Int) (i : Nat) (h : i < 12) : (lens y).getD i 0 = (nlen (leapB y) i : Int) := by
  have : ∀ lp : Bool, ∀ i < 12, ([31, if lp then 29 else 28, 31, 30, 31, 30, 31, 31, 30, 31, 30, 31] : List Int).getD i 0 = (nlen lp i : Int) := by decide
  exact this _ i h
theorem nlen_pos (lp : Bool) (i : Nat) (h : i < 12) : 28 ≤ nlen lp i ∧ nlen lp i ≤ 31 := by
  have : ∀ lp : Bool, ∀ i < 12, 28 ≤ nlen lp i ∧ nlen lp i ≤ 31 := by decide
  exact this lp i h

/-- number and weekday of 1 January, as the law walks to them -/
def yearStart (y : Int) : Int × Int :=
  List.foldl (fun p k => (p.1 + (lens k).sum, (p.2 + (lens k).sum).fmod 7)) (10957 + (y - 2000).fdiv 400 * 146097, 6) (rangeKs 2000 (2000 + (y - 2000).fmod 400 - 2000).toNat)

/-- the months' days -/
def outerTab (lp : Bool) : Nat → List (Int × Int)
  | 0 => []
  | i + 1 => outerTab lp i ++ (List.range (nlen lp i)).map fun (q : Nat) => (1 + (i : Int), 1 + (q : Int))
def innerTab (lp : Bool) (i j : Nat) : List (Int × Int) := outerTab lp i ++ (List.range j).map fun (q : Nat) => (1 + (i : Int), 1 + (q : Int))
def dayD (W N : Int) (j : Nat) (p : Int × Int) : Dat := .tuple [.int p.1, .int p.2, .int ((W + j).fmod 7), .int (N + j)]
def datOf (W N : Int) (l : List (Int × Int)) : List Dat := l.mapIdx (dayD W N)
theorem inner_zero (lp : Bool) (i : Nat) : innerTab lp i 0 = outerTab lp i := by simp [innerTab]
theorem inner_full (lp : Bool) (i : Nat) : innerTab lp i (nlen lp i) = outerTab lp (i + 1) := rfl
theorem inner_succ (lp : Bool) (i j : Nat) : innerTab lp i (j + 1) = innerTab lp i j ++ [(1 + (i : Int), 1 + (j : Int))] := by
  simp [innerTab, List.range_succ]
theorem datOf_snoc (W N : Int) (l : List (Int × Int)) (p : Int × Int) : datOf W N (l ++ [p]) = datOf W N l ++ [dayD W N l.length p] := by
  simp [datOf, List.mapIdx_concat]
theorem fmod7_succ (W : Int) (k : Nat) : ((W + k).fmod 7 + 1).fmod 7 = (W + ((k + 1 : Nat) : Int)).fmod 7 := by
  rw [Int.fmod_eq_emod_of_nonneg _ (by omega), Int.fmod_eq_emod_of_nonneg _ (by omega), Int.fmod_eq_emod_of_nonneg _ (by omega)]
  omega
theorem yearStart_week (y : Int) : 0 ≤ (yearStart y).2 ∧ (yearStart y).2 < 7 := by
  have key : ∀ (l : List Int) (p : Int × Int), 0 ≤ p.2 ∧ p.2 < 7 → 0 ≤ (List.foldl (fun p k => (p.1 + (lens k).sum, (p.2 + (lens k).sum).fmod 7)) p l).2 ∧ (List.foldl (fun p k => (p.1 + (lens k).sum, (p.2 + (lens k).sum).fmod 7)) p l).2 < 7 := by
    intro l
    induction l with
    | nil => intro p h; exact h
    | cons k l ih =>
      intro p _
      rw [List.foldl_cons]
      refine ih _ ?_
      show 0 ≤ (p.2 + (lens k).sum).fmod 7 ∧ (p.2 + (lens k).sum).fmod 7 < 7
      rw [Int.fmod_eq_emod_of_nonneg _ (by omega)]
      omega
  exact key _ _ ⟨by show (0:Int) ≤ 6; decide, by show (6:Int) < 7; decide⟩
theorem week_self {W : Int} (h : 0 ≤ W ∧ W < 7) : (W + ((0 : Nat) : Int)).fmod 7 = W := by
  rw [Int.fmod_eq_emod_of_nonneg _ (by omega)]
  omega
end Mine
namespace Mine
theorem outer_length (lp : Bool) (i : Nat) (h : i ≤ 12) : (outerTab lp i).length ≤ 366 := by
  have : ∀ lp : Bool, ∀ i < 13, (outerTab lp i).length ≤ 366 := by decide +kernel
  exact this lp i (by omega)
theorem inner_length (lp : Bool) (i j : Nat) : (innerTab lp i j).length = (outerTab lp i).length + j := by simp [innerTab]
theorem datOf_length (W N : Int) (l : List (Int × Int)) : (datOf W N l).length = l.length := by simp [datOf]
end Mine
namespace Mine
theorem inner_week (lp : Bool) (W : Int) (i j : Nat) : ((W + ((innerTab lp i j).length : Nat)).fmod 7 + 1).fmod 7 = (W + ((innerTab lp i (j + 1)).length : Nat)).fmod 7 := by
  rw [fmod7_succ, inner_length, inner_length]; rfl
theorem inner_num (lp : Bool) (N : Int) (i j : Nat) : N + ((innerTab lp i j).length : Nat) + 1 = N + ((innerTab lp i (j + 1)).length : Nat) := by
  rw [inner_length, inner_length]; omega
end Mine
end
section
namespace Mine
/-- days ahead of 1 January of the year, as the text reckons them -/
def gY (y : Int) : Int := (y - 1) * 365 + Int.fdiv (y - 1) 4 - Int.fdiv (y - 1) 100 + Int.fdiv (y - 1) 400
theorem fdE (a : Int) {b : Int} (h : 0 ≤ b) : Int.fdiv a b = a / b := Int.fdiv_eq_ediv_of_nonneg _ h
theorem fmE (a : Int) {b : Int} (h : 0 ≤ b) : Int.fmod a b = a % b := Int.fmod_eq_emod_of_nonneg _ h
theorem leap_iff (y : Int) : leapB y = true ↔ (y % 400 = 0 ∨ (y % 4 = 0 ∧ y % 100 ≠ 0)) := by
  unfold leapB
  rw [fmE _ (by decide), fmE _ (by decide), fmE _ (by decide)]
  simp
theorem year_parts (y : Int) : ∃ q b c d : Int, y = 400 * q + 100 * b + 4 * c + d + 1 ∧ 0 ≤ b ∧ b ≤ 3 ∧ 0 ≤ c ∧ c ≤ 24 ∧ 0 ≤ d ∧ d ≤ 3 ∧ gY y = 146097 * q + 36524 * b + 1461 * c + 365 * d ∧ (leapB y = true ↔ d = 3 ∧ (c ≠ 24 ∨ b = 3)) := by
  refine ⟨(y - 1) / 400, (y - 1) % 400 / 100, (y - 1) % 400 % 100 / 4, (y - 1) % 400 % 100 % 4, by omega, by omega, by omega, by omega, by omega, by omega, by omega, ?_, ?_⟩
  · unfold gY
    rw [fdE _ (by decide), fdE _ (by decide), fdE _ (by decide)]
    omega
  · rw [leap_iff]; omega
theorem ord_parts (y k : Int) (hk : 0 ≤ k) (hk2 : k < 365 ∨ (k = 365 ∧ leapB y = true)) : ∃ q b c d e r1 r2 r3 : Int,
    Int.fdiv (gY y + k) 146097 = q ∧ Int.fmod (gY y + k) 146097 = r1 ∧ Int.fdiv r1 36524 = b ∧ Int.fmod r1 36524 = r2 ∧ Int.fdiv r2 1461 = c ∧ Int.fmod r2 1461 = r3 ∧ Int.fdiv r3 365 = d ∧ Int.fmod r3 365 = e ∧
    (((d = 4 ∨ b = 4) ∧ e = 0 ∧ q * 400 + 1 + (b * 100 + c * 4 + d) = y + 1 ∧ k = 365) ∨ (d ≠ 4 ∧ b ≠ 4 ∧ e = k ∧ k < 365 ∧ q * 400 + 1 + (b * 100 + c * 4 + d) = y ∧ (leapB y = true ↔ d = 3 ∧ (c ≠ 24 ∨ b = 3)))) := by
  obtain ⟨q, b, c, d, hy, b0, b3, c0, c4, d0, d3, hg, hl⟩ := year_parts y
  rcases hk2 with h | ⟨h, hb⟩
  · refine ⟨q, b, c, d, k, 36524 * b + 1461 * c + 365 * d + k, 1461 * c + 365 * d + k, 365 * d + k, ?_, ?_, ?_, ?_, ?_, ?_, ?_, ?_, .inr ⟨by omega, by omega, rfl, h, by omega, hl⟩⟩
    all_goals (first | rw [fdE _ (by decide)] | rw [fmE _ (by decide)])
    all_goals omega
  · obtain ⟨hd, hc⟩ := hl.mp hb
    by_cases hc4 : c = 24
    · have hb3 : b = 3 := by omega
      refine ⟨q, 4, 0, 0, 0, 146096, 0, 0, ?_, ?_, ?_, ?_, ?_, ?_, ?_, ?_, .inl ⟨.inr rfl, rfl, by omega, h⟩⟩
      all_goals (first | rw [fdE _ (by decide)] | rw [fmE _ (by decide)])
      all_goals omega
    · refine ⟨q, b, c, 4, 0, 36524 * b + 1461 * c + 1460, 1461 * c + 1460, 1460, ?_, ?_, ?_, ?_, ?_, ?_, ?_, ?_, .inl ⟨.inl rfl, rfl, by omega, h⟩⟩
      all_goals (first | rw [fdE _ (by decide)] | rw [fmE _ (by decide)])
      all_goals omega
end Mine
end
section
namespace Mine
abbrev dimL : List Int := [-1, 31, 28, 31, 30, 31, 30, 31, 31, 30, 31, 30, 31]
abbrev dbmL : List Int := [-1, 0, 31, 59, 90, 120, 151, 181, 212, 243, 273, 304, 334]
def tabRow (lp : Bool) (k : Nat) : Bool :=
  let M : Nat := (k + 50) / 32
  let P : Int := dbmL.getD M 0 + bi (decide (2 < M) && lp)
  let R : Int := P - (dimL.getD (M - 1) 0 + bi (decide (M - 1 = 2) && lp))
  decide (1 ≤ M) && decide (M ≤ 12) &&
  (if P ≤ k then decide ((k : Int) - P < (nlen lp (M - 1) : Int)) && decide ((outerTab lp 12)[k]? = some ((M : Int), k - P + 1))
   else decide (2 ≤ M) && decide (R ≤ k) && decide ((k : Int) - R < (nlen lp (M - 2) : Int)) && decide ((outerTab lp 12)[k]? = some ((M : Int) - 1, k - R + 1)))
theorem tabRows : ∀ lp : Bool, ∀ k < 365, tabRow lp k = true := by decide +kernel
theorem ord_tab (lp : Bool) (k mo da : Int) (h0 : 0 ≤ k) (h1 : k < 365) (ht : (outerTab lp 12)[k.toNat]? = some (mo, da)) :
    ∃ M P : Int, (k + 50).fdiv (2 ^ Int.toNat 5) = M ∧ 1 ≤ M ∧ M ≤ 12 ∧ dbmL.getD M.toNat 0 = P ∧
      ((P + bi (decide (2 < M) && lp) ≤ k ∧ k - (P + bi (decide (2 < M) && lp)) < (nlen lp (M - 1).toNat : Int) ∧ M = mo ∧ k - (P + bi (decide (2 < M) && lp)) + 1 = da) ∨
       (¬ P + bi (decide (2 < M) && lp) ≤ k ∧ 2 ≤ M ∧ ∃ D, dimL.getD (M - 1).toNat 0 = D ∧ P + bi (decide (2 < M) && lp) - (D + bi (decide (M - 1 = 2) && lp)) ≤ k ∧
          k - (P + bi (decide (2 < M) && lp) - (D + bi (decide (M - 1 = 2) && lp))) < (nlen lp (M - 1 - 1).toNat : Int) ∧ M - 1 = mo ∧ k - (P + bi (decide (2 < M) && lp) - (D + bi (decide (M - 1 = 2) && lp))) + 1 = da)) := by
  obtain ⟨n, rfl⟩ : ∃ n : Nat, k = n := ⟨k.toNat, by omega⟩
  have hn : n < 365 := by omega
  have hr := tabRows lp n hn
  unfold tabRow at hr
  simp only [Bool.and_eq_true, decide_eq_true_eq] at hr
  obtain ⟨⟨m1, m2⟩, hr⟩ := hr
  simp only [Int.toNat_natCast] at ht
  have eM : (((n + 50) / 32 : Nat) : Int) = ((n : Int) + 50) / 32 := by omega
  generalize hM : (n + 50) / 32 = M at *
  refine ⟨(M : Int), dbmL.getD M 0, ?_, by omega, by omega, by rw [Int.toNat_natCast], ?_⟩
  · show ((n : Int) + 50).fdiv 32 = _
    rw [fdE _ (by decide), eM]
  have e1 : (decide (2 < (M : Int)) : Bool) = decide (2 < M) := by rw [decide_eq_decide]; omega
  have e2 : (decide ((M : Int) - 1 = 2) : Bool) = decide (M - 1 = 2) := by rw [decide_eq_decide]; omega
  have e3 : ((M : Int) - 1).toNat = M - 1 := by omega
  rw [e1, e2, e3]
  have e4 : ((M : Int) - 1 - 1).toNat = M - 2 := by omega
  rw [e4]
  split at hr
  · rename_i hle
    obtain ⟨q1, q2⟩ := by simpa only [Bool.and_eq_true, decide_eq_true_eq] using hr
    rw [ht] at q2
    injection q2 with q2
    injection q2 with q3 q4
    exact .inl ⟨hle, q1, q3.symm, q4.symm⟩
  · rename_i hle
    obtain ⟨⟨⟨q0, q1⟩, q2⟩, q3⟩ := by simpa only [Bool.and_eq_true, decide_eq_true_eq] using hr
    rw [ht] at q3
    injection q3 with q3
    injection q3 with q4 q5
    exact .inr ⟨hle, by omega, _, rfl, q1, q2, q4.symm, q5.symm⟩
theorem tab_len (lp : Bool) : (outerTab lp 12).length = if lp = true then 366 else 365 := by
  have : ∀ lp : Bool, (outerTab lp 12).length = if lp = true then 366 else 365 := by decide +kernel
  exact this lp
theorem tab_last : (outerTab true 12)[365]? = some (12, 31) := by decide +kernel
theorem tab_day (lp : Bool) (k mo da : Int) (h0 : 0 ≤ k) (ht : (outerTab lp 12)[k.toNat]? = some (mo, da)) : k < 365 ∨ (k = 365 ∧ lp = true ∧ mo = 12 ∧ da = 31) := by
  have hl : k.toNat < (outerTab lp 12).length := (List.getElem?_eq_some_iff.mp ht).1
  rw [tab_len] at hl
  by_cases h : k < 365
  · exact .inl h
  · cases lp with
    | false => simp only [Bool.false_eq_true, if_false] at hl; omega
    | true =>
      simp only [if_true] at hl
      have hk : k = 365 := by omega
      subst hk
      have e : (365 : Int).toNat = 365 := rfl
      rw [e, tab_last] at ht
      injection ht with ht
      injection ht with a b
      exact .inr ⟨rfl, rfl, a.symm, b.symm⟩
theorem dim_val (lp : Bool) (mo : Int) (h0 : 1 ≤ mo) (h1 : mo ≤ 12) : (mo = 2 → lp = true → (29 : Int) = (nlen lp (mo - 1).toNat : Int)) ∧ (¬ (mo = 2 ∧ lp = true) → dimL.getD mo.toNat 0 = (nlen lp (mo - 1).toNat : Int)) := by
  obtain ⟨n, rfl⟩ : ∃ n : Nat, mo = n := ⟨mo.toNat, by omega⟩
  have key : ∀ lp : Bool, ∀ n < 13, 1 ≤ n → (n = 2 → lp = true → (29 : Int) = (nlen lp (n - 1) : Int)) ∧ (¬ (n = 2 ∧ lp = true) → dimL.getD n 0 = (nlen lp (n - 1) : Int)) := by decide
  obtain ⟨a, b⟩ := key lp n (by omega) (by omega)
  rw [show ((n : Int) - 1).toNat = n - 1 by omega, Int.toNat_natCast]
  exact ⟨fun h => a (by omega), fun h => b (fun h' => h ⟨by omega, h'.2⟩)⟩
theorem datOf_get {W N : Int} {l : List (Int × Int)} {i : Nat} {d : Dat} (h : (datOf W N l)[i]? = some d) : ∃ p, l[i]? = some p ∧ d = dayD W N i p := by
  unfold datOf at h
  rw [List.getElem?_mapIdx] at h
  obtain ⟨p, hp, e⟩ := Option.map_eq_some_iff.mp h
  exact ⟨p, hp, e.symm⟩
theorem dat_int {tl : List (Addr × Obj)} {v : Value} {a : Int} (h : DatIn tl v (.int a)) : ∃ t, v = .int a t := by
  cases h; exact ⟨_, rfl⟩
theorem dat_tup4 {tl : List (Addr × Obj)} {v : Value} {a b c e : Int} (h : DatIn tl v (.tuple [.int a, .int b, .int c, .int e])) :
    ∃ T t1 t2 t3 t4 n, v = .ref T ∧ (T, ({ cls := .type "tuple", data := .seq #[.int a t1, .int b t2, .int c t3, .int e t4] n } : Obj)) ∈ tl := by
  cases h with
  | tuple hm hs =>
    cases hs with
    | cons h1 hs => cases hs with
      | cons h2 hs => cases hs with
        | cons h3 hs => cases hs with
          | cons h4 hs =>
            cases hs
            obtain ⟨t1, rfl⟩ := dat_int h1
            obtain ⟨t2, rfl⟩ := dat_int h2
            obtain ⟨t3, rfl⟩ := dat_int h3
            obtain ⟨t4, rfl⟩ := dat_int h4
            exact ⟨_, t1, t2, t3, t4, _, rfl, hm⟩
end Mine
end
section
namespace Mine
/-- the days that are counted: all but 29 February -/
def keep1 : Dat → Bool
  | .tuple (.int a :: .int b :: _) => !(a == 2 && b == 29)
  | _ => true
def keepP (q : (Int × Int) × Nat) : Bool := !(q.1.1 == 2 && q.1.2 == 29)
theorem keep_datOf (W N : Int) (l : List (Int × Int)) : (datOf W N l).filter keep1 = (l.zipIdx.filter keepP).map fun q => dayD W N q.2 q.1 := by
  unfold datOf
  rw [List.mapIdx_eq_zipIdx_map, List.filter_map]
  rfl
def countRow (lp : Bool) (n : Nat) : Bool := match ((outerTab lp 12).zipIdx.filter keepP)[n]? with
  | some (p, i) => decide ((outerTab lp 12)[i]? = some p) && decide ((i : Int) + 1 = ((n : Int) + 1) + bi (decide (59 ≤ (n : Int) + 1) && lp))
  | none => false
theorem countRows : ∀ lp : Bool, ∀ n < 365, n ≠ 58 → countRow lp n = true := by decide +kernel
theorem counted_item (lp : Bool) (W N D : Int) (h1 : 1 ≤ D) (h2 : D ≤ 365) (h3 : D ≠ 59) : ∃ (i : Nat) (mo da : Int),
    ((datOf W N (outerTab lp 12)).filter keep1)[(D - 1).toNat]? = some (dayD W N i (mo, da)) ∧ (outerTab lp 12)[i]? = some (mo, da) ∧ (i : Int) + 1 = D + bi (decide (59 ≤ D) && lp) := by
  obtain ⟨n, hn⟩ : ∃ n : Nat, D = (n : Int) + 1 := ⟨(D - 1).toNat, by omega⟩
  subst hn
  have hr := countRows lp n (by omega) (by omega)
  unfold countRow at hr
  split at hr
  · rename_i p i he
    simp only [Bool.and_eq_true, decide_eq_true_eq] at hr
    refine ⟨i, p.1, p.2, ?_, hr.1, hr.2⟩
    rw [keep_datOf, show ((n : Int) + 1 - 1).toNat = n by omega, List.getElem?_map, he]
    rfl
  · exact absurd hr Bool.false_ne_true
theorem lens_sum (k : Int) : (lens k).sum = 365 + bi (leapB k) := by
  cases h : leapB k
  · rw [lens_no h]; rfl
  · rw [lens_leap h]; rfl
theorem gY_succ (k : Int) : gY (k + 1) = gY k + 365 + bi (leapB k) := by
  have h := leap_iff k
  unfold gY
  rw [fdE _ (by decide), fdE _ (by decide), fdE _ (by decide), fdE _ (by decide), fdE _ (by decide), fdE _ (by decide)]
  cases hb : leapB k
  · rw [hb] at h
    have h' : ¬ (k % 400 = 0 ∨ (k % 4 = 0 ∧ k % 100 ≠ 0)) := fun x => absurd (h.mpr x) (by decide)
    show _ = _ + (if false = true then (1 : Int) else 0)
    rw [if_neg Bool.false_ne_true]
    omega
  · have h' := h.mp hb
    show _ = _ + (if true = true then (1 : Int) else 0)
    rw [if_pos rfl]
    omega
theorem start_fold (n : Nat) (a : Int) (p : Int × Int) : (List.foldl (fun p k => (p.1 + (lens k).sum, (p.2 + (lens k).sum).fmod 7)) p (rangeKs a n)).1 = p.1 + gY (a + n) - gY a := by
  induction n generalizing a p with
  | zero => simp [rangeKs]
  | succ n ih =>
    have e : rangeKs a (n + 1) = a :: rangeKs (a + 1) n := by
      unfold rangeKs
      rw [List.range_succ_eq_map, List.map_cons, List.map_map]
      congr 1
      · simp
      · apply List.map_congr_left
        intro i _
        show a + ((i + 1 : Nat) : Int) = a + 1 + (i : Int)
        omega
    rw [e, List.foldl_cons, ih]
    have := gY_succ a
    rw [lens_sum]
    rw [show a + ((n + 1 : Nat) : Int) = a + 1 + (n : Int) by omega]
    show p.1 + (365 + bi (leapB a)) + _ - _ = _
    omega
theorem year_num (y : Int) : (yearStart y).1 = gY y + 1 - 719163 := by
  unfold yearStart
  rw [start_fold]
  show 10957 + (y - 2000).fdiv 400 * 146097 + _ - _ = _
  rw [fdE _ (by decide), fmE _ (by decide)]
  have h0 : 0 ≤ (y - 2000) % 400 := by omega
  have e1 : ((2000 + (y - 2000) % 400 - 2000).toNat : Int) = (y - 2000) % 400 := by omega
  rw [e1]
  unfold gY
  rw [fdE _ (by decide), fdE _ (by decide), fdE _ (by decide), fdE _ (by decide), fdE _ (by decide), fdE _ (by decide), fdE _ (by decide), fdE _ (by decide), fdE _ (by decide)]
  omega
theorem fdiv_clock (x c : Int) : (x * 86400 + c - c).fdiv 86400 = x := by
  rw [fdE _ (by decide)]; omega
end Mine
end
section
namespace Mine
/-- days ahead of the month -/
def dbm (lp : Bool) (mo : Int) : Int := dbmL.getD mo.toNat 0 + bi (decide (2 < mo) && lp)
/-- the weekday (Monday 0) of the month's first day -/
def wd1 (y mo : Int) : Int := (gY y + dbm (leapB y) mo + 7) % 7
theorem wd1_range (y mo : Int) : 0 ≤ wd1 y mo ∧ wd1 y mo < 7 := by unfold wd1; omega
theorem leap_time (y : Int) : Builtin.Time.timeIsLeap y = leapB y := by
  rw [Bool.eq_iff_iff, leap_iff]
  unfold Builtin.Time.timeIsLeap
  simp
  omega
theorem before_time (lp : Bool) (mo : Int) (h0 : 1 ≤ mo) (h1 : mo ≤ 12) : Builtin.Time.timeDaysBefore lp mo = dbm lp mo := by
  obtain ⟨n, rfl⟩ : ∃ n : Nat, mo = n := ⟨mo.toNat, by omega⟩
  have key : ∀ lp : Bool, ∀ n : Nat, n < 13 → 1 ≤ n → Builtin.Time.timeDaysBefore lp (n : Int) = dbm lp (n : Int) := by decide +kernel
  exact key lp n (by omega) (by omega)
theorem date_wd (y mo : Int) (h0 : 1 ≤ mo) (h1 : mo ≤ 12) : Builtin._datetime.weekdayOf (Builtin._datetime.toOrdinal y mo 1) = wd1 y mo := by
  unfold Builtin._datetime.weekdayOf Builtin._datetime.toOrdinal wd1
  rw [leap_time, before_time _ _ h0 h1]
  unfold gY
  rw [fdE _ (by decide), fdE _ (by decide), fdE _ (by decide)]
  dsimp only
  congr 1
  omega
theorem leap_400 (y : Int) : leapB (2000 + Int.fmod y 400) = leapB y := by
  rw [Bool.eq_iff_iff, leap_iff, leap_iff, fmE _ (by decide)]
  omega
theorem wd_400 (y mo : Int) : wd1 (2000 + Int.fmod y 400) mo = wd1 y mo := by
  unfold wd1
  rw [leap_400]
  unfold gY
  rw [fmE _ (by decide), fdE _ (by decide), fdE _ (by decide), fdE _ (by decide), fdE _ (by decide), fdE _ (by decide), fdE _ (by decide)]
  omega
end Mine
end
section
namespace Mine
theorem start_week (n : Nat) (a : Int) (p : Int × Int) (c : Int) (hp : p.2 = (c + gY a) % 7) : (List.foldl (fun p k => (p.1 + (lens k).sum, (p.2 + (lens k).sum).fmod 7)) p (rangeKs a n)).2 = (c + gY (a + n)) % 7 := by
  induction n generalizing a p with
  | zero => simp [rangeKs, hp]
  | succ n ih =>
    have e : rangeKs a (n + 1) = a :: rangeKs (a + 1) n := by
      unfold rangeKs
      rw [List.range_succ_eq_map, List.map_cons, List.map_map]
      congr 1
      · simp
      · apply List.map_congr_left
        intro i _
        show a + ((i + 1 : Nat) : Int) = a + 1 + (i : Int)
        omega
    rw [e, List.foldl_cons, ih (a + 1)]
    · rw [show a + ((n + 1 : Nat) : Int) = a + 1 + (n : Int) by omega]
    · show (p.2 + (lens a).sum).fmod 7 = _
      have := gY_succ a
      rw [lens_sum, fmE _ (by decide), hp]
      omega
/-- 1 January's weekday, Sunday 0 -/
theorem year_week (y : Int) : (yearStart y).2 = (gY y + 1) % 7 := by
  unfold yearStart
  have e6 : ((6 : Int)) = (1 + gY 2000) % 7 := by decide
  rw [start_week _ _ _ 1 e6]
  have h0 : 0 ≤ (y - 2000).fmod 400 := by rw [fmE _ (by decide)]; omega
  have e1 : ((2000 + (y - 2000).fmod 400 - 2000).toNat : Int) = (y - 2000) % 400 := by rw [fmE _ (by decide)]; omega
  rw [e1]
  have key : gY y = gY (2000 + (y - 2000) % 400) + 146097 * ((y - 2000) / 400) := by
    unfold gY
    rw [fdE _ (by decide), fdE _ (by decide), fdE _ (by decide), fdE _ (by decide), fdE _ (by decide), fdE _ (by decide)]
    omega
  omega
/-- the days that fit: of a month, on a weekday -/
def keep2 (mo d : Int) : Dat → Bool
  | .tuple (.int a :: _ :: .int c :: _) => a == mo && c == d
  | _ => false
def keepM (mo : Int) (q : (Int × Int) × Nat) : Bool := q.1.1 == mo
def keepW (W d : Int) (q : (Int × Int) × Nat) : Bool := (W + (q.2 : Nat)).fmod 7 == d
theorem keep2_datOf (W N mo d : Int) (l : List (Int × Int)) : (datOf W N l).filter (keep2 mo d) = (((l.zipIdx.filter (keepM mo)).filter (keepW W d))).map fun q => dayD W N q.2 q.1 := by
  unfold datOf
  rw [List.mapIdx_eq_zipIdx_map, List.filter_map, List.filter_filter]
  congr 1
  apply List.filter_congr
  intro q _
  show (_ && _) = (_ && _)
  rw [Bool.and_comm]
  rfl
def dbmN (lp : Bool) (mo : Nat) : Nat := [0, 0, 31, 59, 90, 120, 151, 181, 212, 243, 273, 304, 334].getD mo 0 + if decide (2 < mo) && lp then 1 else 0
def seg (lp : Bool) (mo : Nat) : List ((Int × Int) × Nat) := (List.range (nlen lp (mo - 1))).map fun (q : Nat) => (((mo : Int), (q : Int) + 1), dbmN lp mo + q)
theorem seg_eq : ∀ lp : Bool, ∀ mo : Nat, mo < 13 → 1 ≤ mo → (outerTab lp 12).zipIdx.filter (keepM mo) = seg lp mo := by decide +kernel
theorem dbmN_eq : ∀ lp : Bool, ∀ mo : Nat, mo < 13 → 1 ≤ mo → (dbmN lp mo : Int) = dbm lp mo := by decide +kernel
def strides (len r : Nat) : List Nat := (List.range len).filter fun q => q % 7 == r
theorem strides_w : ∀ len < 32, 28 ≤ len → ∀ r < 7, ∀ j < 4, (strides len r)[j]? = some (r + 7 * j) := by decide +kernel
theorem strides_l : ∀ len < 32, 28 ≤ len → ∀ r < 7, 1 ≤ (strides len r).length ∧ (strides len r).length ≤ 5 ∧ (strides len r)[(strides len r).length - 1]? = some (if r + 28 < len then r + 28 else r + 21) := by decide +kernel
theorem fits_eq (lp : Bool) (W N d : Int) (mo : Nat) (h0 : 1 ≤ mo) (h1 : mo < 13) (hd : 0 ≤ d ∧ d < 7) :
    (datOf W N (outerTab lp 12)).filter (keep2 mo d) = (strides (nlen lp (mo - 1)) ((d - W - dbmN lp mo) % 7).toNat).map fun (q : Nat) => dayD W N (dbmN lp mo + q) ((mo : Int), (q : Int) + 1) := by
  rw [keep2_datOf, seg_eq lp mo h1 h0]
  unfold seg strides
  rw [List.filter_map, List.map_map]
  have e : ((keepW W d) ∘ fun (q : Nat) => (((mo : Int), (q : Int) + 1), dbmN lp mo + q)) = fun q => q % 7 == ((d - W - dbmN lp mo) % 7).toNat := by
    funext q
    show ((W + ((dbmN lp mo + q : Nat) : Int)).fmod 7 == d) = _
    rw [fmE _ (by decide), Bool.eq_iff_iff, beq_iff_eq, beq_iff_eq]
    omega
  rw [e]
  rfl
end Mine
end
section
namespace Mine
/-- the day that the rule reckons -/
def mday (y mo wk d : Int) : Int := if (d - (wd1 y mo + 1)).fmod 7 + 1 + (wk - 1) * 7 > (nlen (leapB y) (mo - 1).toNat : Int) then (d - (wd1 y mo + 1)).fmod 7 + 1 + (wk - 1) * 7 - 7 else (d - (wd1 y mo + 1)).fmod 7 + 1 + (wk - 1) * 7
def fitsL (y mo d : Int) : List Dat := (datOf (yearStart y).2 (yearStart y).1 (outerTab (leapB y) 12)).filter (keep2 mo d)
theorem fits_len (y mo d : Int) (h0 : 1 ≤ mo) (h1 : mo ≤ 12) (hd : 0 ≤ d ∧ d < 7) : 1 ≤ (fitsL y mo d).length ∧ (fitsL y mo d).length ≤ 5 := by
  obtain ⟨n, rfl⟩ : ∃ n : Nat, mo = n := ⟨mo.toNat, by omega⟩
  unfold fitsL
  rw [fits_eq _ _ _ _ n (by omega) (by omega) hd, List.length_map]
  have hl := nlen_pos (leapB y) (n - 1) (by omega)
  have := strides_l (nlen (leapB y) (n - 1)) (by omega) hl.1 ((d - (yearStart y).2 - dbmN (leapB y) n) % 7).toNat (by omega)
  exact ⟨this.1, this.2.1⟩
theorem fits_at (y mo wk d : Int) (h0 : 1 ≤ mo) (h1 : mo ≤ 12) (hd : 0 ≤ d ∧ d < 7) (hw0 : 1 ≤ wk) (hw1 : wk ≤ 5) : ∃ (i : Nat) (da : Int),
    (if wk = 5 then (fitsL y mo d)[(fitsL y mo d).length - 1]? else (fitsL y mo d)[(wk - 1).toNat]?) = some (dayD (yearStart y).2 (yearStart y).1 i (mo, da)) ∧ da = mday y mo wk d ∧ 1 ≤ da ∧ da ≤ (nlen (leapB y) (mo - 1).toNat : Int) ∧ (i : Int) = dbm (leapB y) mo + da - 1 := by
  obtain ⟨n, rfl⟩ : ∃ n : Nat, mo = n := ⟨mo.toNat, by omega⟩
  have hn1 : 1 ≤ n := by omega
  have hn2 : n < 13 := by omega
  have hW := year_week y
  have hdb := dbmN_eq (leapB y) n hn2 hn1
  have hl := nlen_pos (leapB y) (n - 1) (by omega)
  have en : ((n : Int) - 1).toNat = n - 1 := by omega
  unfold fitsL mday
  rw [fits_eq _ _ _ _ n hn1 hn2 hd, en]
  have hr : (d - (wd1 y n + 1)).fmod 7 = (((d - (yearStart y).2 - dbmN (leapB y) n) % 7).toNat : Int) := by
    rw [fmE _ (by decide)]
    unfold wd1
    omega
  rw [hr]
  generalize hR : ((d - (yearStart y).2 - dbmN (leapB y) n) % 7).toNat = r at *
  have hr7 : r < 7 := by omega
  generalize hL : nlen (leapB y) (n - 1) = len at *
  have sl := strides_l len (by omega) hl.1 r hr7
  by_cases hw : wk = 5
  · subst hw
    rw [if_pos rfl, List.length_map, List.getElem?_map, sl.2.2]
    by_cases hc : r + 28 < len
    · rw [if_pos hc]
      refine ⟨dbmN (leapB y) n + (r + 28), ((r + 28 : Nat) : Int) + 1, rfl, ?_, ?_, ?_, ?_⟩
      · rw [if_neg (by omega)]; omega
      · omega
      · omega
      · omega
    · rw [if_neg hc]
      refine ⟨dbmN (leapB y) n + (r + 21), ((r + 21 : Nat) : Int) + 1, rfl, ?_, ?_, ?_, ?_⟩
      · rw [if_pos (by omega)]; omega
      · omega
      · omega
      · omega
  · rw [if_neg hw, List.getElem?_map, strides_w len (by omega) hl.1 r hr7 (wk - 1).toNat (by omega)]
    refine ⟨dbmN (leapB y) n + (r + 7 * (wk - 1).toNat), ((r + 7 * (wk - 1).toNat : Nat) : Int) + 1, rfl, ?_, ?_, ?_, ?_⟩
    · rw [if_neg (by omega)]; omega
    · omega
    · omega
    · omega
end Mine
end
section
open PySem PySem.W PyProof.Rows PySem.Calls
namespace Mine
theorem keep2_t {mo d W N : Int} {i : Nat} {p : Int × Int} (h1 : p.1 = mo) (h2 : (W + (i : Int)).fmod 7 = d) : true = keep2 mo d (dayD W N i p) := by
  show true = (p.1 == mo && (W + (i : Int)).fmod 7 == d)
  simp [h1, h2]
theorem keep2_f {mo d W N : Int} {i : Nat} {p : Int × Int} (h1 : ¬ p.1 = mo) : false = keep2 mo d (dayD W N i p) := by
  show false = (p.1 == mo && (W + (i : Int)).fmod 7 == d)
  simp [h1]
theorem keep2_g {mo d W N : Int} {i : Nat} {p : Int × Int} (h2 : ¬ (W + (i : Int)).fmod 7 = d) : false = keep2 mo d (dayD W N i p) := by
  show false = (p.1 == mo && (W + (i : Int)).fmod 7 == d)
  simp [h2]
section
variable {prog : Program} {w : World} {A : Around} {E : Value → Shared → Prop} {s : Shared} {h₀ : Heap} {L l : Addr} {value slice : PySem.Expr} {news : List (Addr × Obj)} {us : List Value} {n : Nat} {v : Value} {u : Tok} {Q : Value → Shared → Prop}
theorem list_last (N : News h₀ L s.heap news) (hm : (l, ({ cls := .type "list", data := .seq us.toArray n } : Obj)) ∈ news)
    (hx : us[us.length - 1]? = some v) (h : Q v s)
    (hs : subscripted slice false (.ref l) (.int (-1) u) = operate [.ref l, .int (-1) u] (getItem (.ref l) (.int (-1) u)) := by with_unfolding_all rfl) :
    wpAny (model prog w) A (subscriptTail value slice (.ref l) (.int (-1) u)) Q E s := by
  have hl : s.heap.IsList l us.toArray := ⟨_, (N _ hm).1, rfl, n, rfl⟩
  have hlt : us.length - 1 < us.length := (List.getElem?_eq_some_iff.mp hx).1
  refine tail_any hl.typeIs slot_list_getitem.lookup (wpAny_getItem_list_neg hl (by decide) (by rw [List.size_toArray]; omega) (by decide) ?_ h) hs
  rw [List.size_toArray, show ((-1 : Int) + (us.length : Int)).toNat = us.length - 1 by omega]
  simpa using hx
/-- an expression's end, its value known beforehand -/
def ValEnd (v : Value) (s : Shared) (v' : Value) (s' : Shared) : Prop := v' = v ∧ ∃ tk, s' = { s with toks := tk }
theorem ValEnd.mk {v : Value} {tk : Nat} : ValEnd v s v { s with toks := tk } := ⟨rfl, _, rfl⟩
theorem val_is {M : Model} {tree : Sem Value} (v : Value) (h1 : wpAny M A tree (ValEnd v s) E s) (h2 : ∀ tk, Q v { s with toks := tk }) : wpAny M A tree Q E s :=
  wpAny_mono h1 (fun v s' h => by obtain ⟨rfl, tk, rfl⟩ := h; exact h2 tk) fun _ _ h => h
end
end Mine
end
section
namespace Mine
theorem post_true (args : List WData) {b : Bool} (h : b = true) : (PySem.Challenge.rw_dn0012_02.row.claim).post args (.bool b) args = true :=
  postW_of (by wrow_shape) (by wtm_val) (show (b == true) = true by rw [h]; rfl)
theorem no_raise (args : List WData) : ∀ cls, (PySem.Challenge.rw_dn0012_02.row.claim).raises args cls = false := raisesW_false (by wrow_none_raised)
end Mine
end
section
namespace Mine
abbrev Call1 (kdp : Nat) (w : World) (f : Addr) (vs : List Value) (Post : Heap → Addr → (Str → Option Value) → List (Addr × Obj) → Shared → (Value → Shared → Prop) → Prop) : Prop :=
  ∀ (p : Program) (loose : List Str) (mean : ExcName → Option Value) (mg mb : Str → Option Value) (news : List (Addr × Obj)) (dp un : Nat) (gd : Option (List Code)) (cn : Str) (cs : Scope) (a : Addr) (ccd : Value) (cl : List (Str × Addr)) (outer : List Env) (A₀ : Around) (base h₀ : Heap) (L : Addr) (m : Str → Option Value) (s : Shared) (Q E : Value → Shared → Prop),
    Below A₀ base outer h₀ → Fr h₀ L s.heap m → (Mine.heapK w.params).In h₀ → News h₀ L s.heap news → Top p loose mean mg mb h₀ → cs.kind = .function → dp + kdp < recursionLimit → un + 30 * kdp < cLine →
    Post h₀ L m news s Q →
    wpAny (model PySem.Challenge.rw_dn0012_02.row.prog w) (ktrTop dp un gd cn cs L a ccd cl outer) (call (.ref f) vs) Q E s
theorem lengths_call : ∀ (w : World) (y : Int) (ty : Tok), Call1 1 w 495 [.int y ty] (fun h₀ L m news s Q => ∀ D vs h' tk', IntsAre vs (lens y) → Fr h₀ L h' m → News h₀ L h' ((D, listOf vs.toArray 0) :: news) → (∀ q ∈ news, q.1 < D) → Q (.ref D) { s with heap := h', toks := tk' }) := by
  unfold Call1
  k_fill
  intro w y ty p loose mean mg mb news dp un gd cn cs a ccd cl outer A₀ base h₀ L m s Q E B F X N T hcs hdp hun hret
  refine wpAny_call ?_
  cell_enter
  k_steps
  all_goals (first | (exfalso; omega) | skip)
  all_goals (refine hret _ _ _ _ ?_ (by assumption) (by assumption) (by assumption))
  all_goals (cases hb : leapB y)
  all_goals (first | (exfalso; revert hb; simp [leapB, *]; done) | skip)
  all_goals (simp only [lens, hb, if_true, Bool.false_eq_true, if_false])
  all_goals (repeat (first | exact IntsAre.nil | refine IntsAre.cons _ _ ?_))
end Mine
end
section
namespace Mine
theorem leap_a {y : Int} (_ : y.fmod 4 = 0) (h : y.fmod 100 ≠ 0) : (y.fmod 100 != 0) = leapB y := by simp [leapB, *]
theorem leap_b {y : Int} (_ : y.fmod 4 = 0) (h : y.fmod 100 = 0) : (y.fmod 400 == 0) = leapB y := by
  have : decide (y.fmod 400 = 0) = (y.fmod 400 == 0) := by cases h2 : (y.fmod 400 == 0) <;> simp_all
  simp [leapB, *]
theorem leap_c {y : Int} (h : y.fmod 4 ≠ 0) : (y.fmod 4 == 0) = leapB y := by
  have h4 : y.fmod 400 ≠ 0 := by
    rw [fmE _ (by decide)] at h ⊢
    omega
  simp [leapB, *]
theorem q_bool {Q : Value → Shared → Prop} {a b : Bool} {s : Shared} (h : Q (.bool a) s) (e : a = b) : Q (.bool b) s := e ▸ h
theorem isleap_call : ∀ (w : World) (y : Int) (ty : Tok), Call1 1 w 379 [.int y ty] (fun h₀ L m news s Q => ∀ h' tk', Fr h₀ L h' m → News h₀ L h' news → Q (.bool (leapB y)) { s with heap := h', toks := tk' }) := by
  unfold Call1
  k_fill
  intro w y ty p loose mean mg mb news dp un gd cn cs a ccd cl outer A₀ base h₀ L m s Q E B F X N T hcs hdp hun hret
  refine wpAny_call ?_
  cell_enter
  k_steps
  all_goals (refine q_bool (hret _ _ (by assumption) (by assumption)) ?_; first | exact leap_a (by assumption) (by assumption) | exact leap_b (by assumption) (by assumption) | exact leap_c (by assumption) | exact (leap_a (by assumption) (by assumption)).symm | exact (leap_b (by assumption) (by assumption)).symm | exact (leap_c (by assumption)).symm)
theorem is_leap_call : ∀ (w : World) (y : Int) (ty : Tok), Call1 1 w 460 [.int y ty] (fun h₀ L m news s Q => ∀ h' tk', Fr h₀ L h' m → News h₀ L h' news → Q (.bool (leapB y)) { s with heap := h', toks := tk' }) := by
  unfold Call1
  k_fill
  intro w y ty p loose mean mg mb news dp un gd cn cs a ccd cl outer A₀ base h₀ L m s Q E B F X N T hcs hdp hun hret
  refine wpAny_call ?_
  cell_enter
  k_steps
  all_goals (refine q_bool (hret _ _ (by assumption) (by assumption)) ?_; first | exact leap_a (by assumption) (by assumption) | exact leap_b (by assumption) (by assumption) | exact leap_c (by assumption) | exact (leap_a (by assumption) (by assumption)).symm | exact (leap_b (by assumption) (by assumption)).symm | exact (leap_c (by assumption)).symm)
end Mine
end
section
namespace Mine
local macro_rules | `(tactic| walk_at "call ref") => `(tactic| (k_here; (with_reducible show wpAny _ _ (call (Value.ref 495) [Value.int _ _]) _ _ _); refine' Mine.lengths_call _ _ _ _ _ _ _ _ _ _ _ _ _ _ _ _ _ _ _ _ _ _ _ _ _ _ ?kB ?kF ?kX ?kN ?kT ?kc ?kd ?ku ?_; (case kB => k_asm); (case kF => k_asm); (case kX => k_asm); (case kN => k_asm); (case kT => k_asm); (case kc => first | assumption | rfl); (case kd => ktr_room); (case ku => ktr_units); intro D' vs' h' tk' hI' F' N' l1; (try k_lt l1); (try k_sweep)))
local macro_rules | `(tactic| walk_at "pyIter ref") => `(tactic| (k_of "month" "day" => (refine Mine.Stop.out ?_)))
local macro_rules | `(tactic| walk_at "subscriptTail Call Name cons nil BinOp ref int") => `(tactic| (k_here; refine Mine.Stop.out ?_))
theorem news_two {h₀ h : Heap} {L D T : Addr} {o oT : Obj} {news : List (Addr × Obj)} (N : News h₀ L h ((D, o) :: (T, oT) :: news)) : News h₀ L h ((D, o) :: news) := fun p hp => N p (by
  rcases List.mem_cons.mp hp with h | h
  · exact List.mem_cons.mpr (.inl h)
  · exact List.mem_cons.mpr (.inr (List.mem_cons.mpr (.inr h))))
theorem days_call : ∀ (w : World) (y : Int) (ty : Tok), Call1 3 w 502 [.int y ty] (fun h₀ L m news s Q => ∀ D vs cap tl h' tk', Fr h₀ L h' m → News h₀ L h' ((D, listOf (List.toArray vs) cap) :: (news ++ tl)) → DatAll tl vs (datOf (yearStart y).2 (yearStart y).1 (outerTab (leapB y) 12)) → OwnOff tl (D :: news.map (·.1)) → (∀ p ∈ news, p.1 < D) → Q (.ref D) { s with heap := h', toks := tk' }) := by
  unfold Call1
  k_fill
  intro w y ty p loose mean mg mb news dp un gd cn cs a ccd cl outer A₀ base h₀ L m s Q E B F X N T hcs hdp hun hret
  refine wpAny_call ?_
  cell_enter
  repeat' (first | (k_unfold; (try dsimp only)) | (k_end; wrow_close) | (dsimp only; walk1) | walk1 | (leave1; walk_say "STEP leave1"; try dsimp only) | fail "no step")
  refine Stop.into ?_
  rename_i D hA FA NA lD hB FB NB hC tkC tr ur vr R1 F1 N1 G1
  clear FA NA FB NB G1
  have hW := yearStart_week y
  have lDn := lD.2
  have N2 := news_two N1
  clear N1
  generalize eN : (yearStart y).1 = N0 at *
  generalize eW : (yearStart y).2 = W0 at *
  unfold yearStart at eN eW
  rw [eN, eW] at F1
  try dsimp only at F1
  clear eN eW
  refine' build_loop (vs₀ := []) (cap₀ := 0) (tw₀ := t') (tn₀ := t) D news (Str.ofString "weekday_v") (Str.ofString "number") [Str.ofString "day"] (fun i => datOf W0 N0 (outerTab (leapB y) i)) (fun i => (W0 + ((outerTab (leapB y) i).length : Nat)).fmod 7) (fun i => N0 + ((outerTab (leapB y) i).length : Nat)) [] rfl R1 (n := 12) (by decide) (by decide) F1 N2 ?_ ?_ ?_ ?_ ?_ ?_ ?_
  · intro p hp; rw [List.append_nil] at hp; exact hp
  · exact .nil
  · exact fun p hp => nomatch hp
  · show some (Value.int W0 t') = some (Value.int ((W0 + ((0 : Nat) : Int)).fmod 7) t'); rw [week_self hW]
  · show some (Value.int N0 t) = some (Value.int (N0 + ((0 : Nat) : Int)) t); rw [Int.add_comm, Int.natCast_zero, Int.zero_add]
  · intro i t vs cap tw tn tl u h tk own hi hd ht o1 o2 F2 N3
    clear F1 N2

    unfold bfr at F2
    try simp only [List.cons_append, List.append_assoc] at N3
    repeat' (first | (k_unfold; (try dsimp only)) | (k_end; wrow_close) | (dsimp only; walk1) | walk1 | (leave1; walk_say "STEP leave1"; try dsimp only) | fail "no step")
    rename_i lF DL vsl hL tkL hIL FL NL lL
    clear lF
    refine Stop.into ?_
    refine int_item (v := (nlen (leapB y) i : Int)) NL (List.mem_cons_self ..) hIL (by omega) (by rw [lens_length]; omega) (by omega) (by rw [show (1 + (i : Int) - 1).toNat = i by omega]; exact lens_getD y i hi) (fun tv => ?_)
    have hlen := nlen_pos (leapB y) i hi
    dsimp only at FL NL ⊢
    repeat' (first | (k_unfold; (try dsimp only)) | (k_end; wrow_close) | (dsimp only; walk1) | walk1 | (leave1; walk_say "STEP leave1"; try dsimp only) | fail "no step")
    refine Stop.into ?_
    rename_i F3 N4 hR tkR tr2 ur2 vr2 R2 F5 N5 G5
    clear F3 N4 G5
    have hLT := tb_ltOf lL.2
    have hD1 : ∀ p ∈ news, p.1 < DL := fun p hp => hLT p (List.mem_append.mpr (.inl hp))
    have hD2 : ∀ p ∈ tl, p.1 < DL := fun p hp => hLT p (List.mem_append.mpr (.inr (List.mem_append.mpr (.inl hp))))
    refine' build_loop (vs₀ := vs) (cap₀ := cap) (tw₀ := tw) (tn₀ := tn) D ((DL, listOf vsl.toArray 0) :: (news ++ own)) (Str.ofString "weekday_v") (Str.ofString "number") [] (fun j => datOf W0 N0 (innerTab (leapB y) i j)) (fun j => (W0 + ((innerTab (leapB y) i j).length : Nat)).fmod 7) (fun j => N0 + ((innerTab (leapB y) i j).length : Nat)) tl rfl R2 (n := nlen (leapB y) i) (small_one (by omega) (by omega) (by omega) (by omega)) (by rw [rangeSize_nat]; omega) F5 N5 ?_ ?_ (off_inner ht o2 hD2) ?_ ?_ ?_ ?_
    · intro p hp
      simp only [List.mem_cons, List.mem_append] at hp ⊢
      rcases hp with h | (h | h | h) | h <;> simp [h]
    · rw [inner_zero]; exact hd
    · rw [inner_zero]; rfl
    · rw [inner_zero]; rfl
    · intro j t2 vs2 cap2 tw2 tn2 tl2 u2 h2 tk2 own2 hj hd2 ht2 o12 o22 F6 N6
      clear F5 N5
      unfold bfr at F6
      try simp only [List.cons_append, List.append_assoc] at N6
      have hv2 : vs2.toArray.size ≤ sizeLine := by
        have h1 := hd2.length
        have h2 := inner_length (leapB y) i j
        have h3 := outer_length (leapB y) i (by omega)
        rw [datOf_length] at h1
        rw [List.size_toArray, sizeLine_eq]
        omega
      have hn1 : ∀ p ∈ news, p.1 ≠ D := fun p hp => Nat.ne_of_lt (tb_ltOf lDn p hp)
      have hn2 : ∀ p ∈ own, p.1 ≠ D := fun p hp => o1 p hp D (List.mem_cons_self ..)
      have hn3 : ∀ p ∈ tl2, p.1 ≠ D := fun p hp => ht2 p hp D (List.mem_cons_self ..)
      have hn4 : ∀ p ∈ own2, p.1 ≠ D := fun p hp => o12 p hp D (List.mem_cons_self ..)
      have hall : ∀ p ∈ (DL, listOf vsl.toArray 0) :: (news ++ (own ++ (tl2 ++ own2))), p.1 ≠ D := by
        intro p hp
        rcases List.mem_cons.mp hp with rfl | hp
        · exact Nat.ne_of_gt lL.1
        rcases List.mem_append.mp hp with hp | hp
        · exact hn1 p hp
        rcases List.mem_append.mp hp with hp | hp
        · exact hn2 p hp
        rcases List.mem_append.mp hp with hp | hp
        · exact hn3 p hp
        · exact hn4 p hp
      repeat' (first | (k_unfold; (try dsimp only)) | (k_end; wrow_close) | (dsimp only; walk1) | walk1 | (leave1; walk_say "STEP leave1"; try dsimp only) | fail "no step")
      rename_i T hT FT NT lT
      refine' append_K ?k1 ?k2 ?k3 ?_ hv2
      case k1 => k_asm
      case k2 => k_asm
      case k3 => exact Upd.tail (by k_ne) (Upd.head hall)
      intro h' F' N'
      k_sweep
      repeat' (first | (k_unfold; (try dsimp only)) | (k_end; wrow_close) | (dsimp only; walk1) | walk1 | (leave1; walk_say "STEP leave1"; try dsimp only) | fail "no step")
      rename Fr _ _ _ _ => FE
      rename News _ _ _ _ => NE
      have hTL := tb_ltOf lT.2.2
      dsimp only at FE
      rw [inner_week, inner_num] at FE
      rw [List.push_toArray] at NE
      refine build_end (vs := vs2 ++ [.ref T]) (cap := cap2 + 1) ((T, ({ cls := .type "tuple", data := .seq #[.int (1 + (i : Int)) t, .int (1 + (j : Int)) t2, .int ((W0 + ((innerTab (leapB y) i j).length : Nat)).fmod 7) tw2, .int (N0 + ((innerTab (leapB y) i j).length : Nat)) tn2] } : Obj)) :: tl2) FE NE ?_ ?_ o12 (off_own o22 fun p hp => hTL p (by simp [hp])) ?_ (off_new ht2 lT.1 ?_) ?_ ?_ ?_
      · intro p hp
        simp only [List.cons_append, List.append_assoc, List.mem_cons, List.mem_append] at hp ⊢
        rcases hp with h | h | h | h | h | h
        · exact .inr (.inl h)
        · exact .inr (.inr (.inl h))
        · exact .inr (.inr (.inr (.inl h)))
        · exact .inr (.inr (.inr (.inr (.inl h))))
        · exact .inl h
        · exact .inr (.inr (.inr (.inr (.inr (.inl h)))))
      · intro p hp
        simp only [List.mem_cons, List.mem_append]
        exact .inr (.inr (.inr (.inr (.inr (.inr hp)))))
      · rw [inner_succ, datOf_snoc]
        exact DatAll.append (DatAll.mono (fun p hp => .tail _ hp) hd2) (.one (DatIn.tuple (vs := [_, _, _, _]) (n := 0) (.head _) (.cons (.int _ _) (.cons (.int _ _) (.cons (.int _ _) (.cons (.int _ _) .nil))))))
      · intro p hp
        rcases List.mem_cons.mp hp with rfl | hp
        · exact lT.2.1
        · rcases List.mem_append.mp hp with hp | hp
          · exact hTL p (by simp [hp])
          · exact hTL p (by simp [hp])
      · exact ⟨_, by with_unfolding_all rfl⟩
      · exact ⟨_, by with_unfolding_all rfl⟩
      · intro z h1 h2 h3 h4
        simp [h1, h2, h3]
    · intro vs2 cap2 tw2 tn2 tl2 u2 v2 h2 tk2 hd2 ht2 F6 N6
      clear F5 N5
      unfold bfr at F6
      try simp only [List.cons_append, List.append_assoc] at N6
      repeat' (first | (k_unfold; (try dsimp only)) | (k_end; wrow_close) | (dsimp only; walk1) | walk1 | (leave1; walk_say "STEP leave1"; try dsimp only) | fail "no step")
      refine build_end (vs := vs2) (cap := cap2) tl2 F6 N6 ?_ ?_ o1 (off_outer ht2).2 hd2 (off_outer ht2).1 ?_ ?_ ?_
      · intro p hp
        simp only [List.cons_append, List.append_assoc, List.mem_cons, List.mem_append] at hp ⊢
        rcases hp with h | h | h
        · exact .inl h
        · exact .inr (.inr (.inl h))
        · exact .inr (.inr (.inr (.inr h)))
      · intro p hp
        simp only [List.mem_cons, List.mem_append]
        exact .inr (.inr (.inr (.inl hp)))
      · exact ⟨_, by with_unfolding_all rfl⟩
      · exact ⟨_, by with_unfolding_all rfl⟩
      · intro z h1 h2 h3 h4
        have h5 : z ≠ Str.ofString "day" := by
          intro e
          rw [e] at h4
          exact absurd h4 (by decide)
        simp [h1, h2, h3, h5]
  · intro vs cap tw tn tl u v h tk hd ht F2 N3
    clear F1 N2
    unfold bfr at F2
    try simp only [List.cons_append, List.append_assoc] at N3
    repeat' (first | (k_unfold; (try dsimp only)) | (k_end; wrow_close) | (dsimp only; walk1) | walk1 | (leave1; walk_say "STEP leave1"; try dsimp only) | fail "no step")
    exact hret D vs cap tl h tk (by assumption) (by assumption) hd ht (tb_ltOf lDn)
end Mine
end
section
namespace Mine
local macro_rules | `(tactic| walk_at "call ref cons nil") => `(tactic| (k_here; (with_reducible show wpAny _ _ (call (Value.ref 460) [Value.int _ _]) _ _ _); refine' Mine.is_leap_call _ _ _ _ _ _ _ _ _ _ _ _ _ _ _ _ _ _ _ _ _ _ _ _ _ _ ?kB ?kF ?kX ?kN ?kT ?kc ?kd ?ku ?_; (case kB => k_asm); (case kF => k_asm); (case kX => k_asm); (case kN => k_asm); (case kT => k_asm); (case kc => first | assumption | rfl); (case kd => ktr_room); (case ku => ktr_units); intro h' tk' F' N'; (try dsimp only); (try k_sweep)))
local macro_rules | `(tactic| walk_at "subscriptTail Name Name ref int") => `(tactic| (k_here; (refine' Mine.topInt ?kF ?kX ?kl ?ki ?kv ?k0 ?k1 ?kf ?_; (case kF => k_asm); (case kX => k_asm); (case kl => k_dflt k_is); (case kv => assumption); (case ki => repeat (first | exact IntsAre.nil | refine IntsAre.cons _ _ ?_)); (case k0 => omega); (case k1 => (simp only [List.length_cons, List.length_nil]; omega)); (case kf => omega); intro t')))
theorem dim_call : ∀ (w : World) (y mo D : Int) (ty tm : Tok), 1 ≤ mo → mo ≤ 12 → dimL.getD mo.toNat 0 = D → Call1 2 w 474 [.int y ty, .int mo tm] (fun h₀ L m news s Q => ∀ t h' tk', Fr h₀ L h' m → News h₀ L h' news → Q (.int (nlen (leapB y) (mo - 1).toNat : Int) t) { s with heap := h', toks := tk' }) := by
  unfold Call1
  k_fill
  intro w y mo D ty tm hm0 hm1 hD p loose mean mg mb news dp un gd cn cs a ccd cl outer A₀ base h₀ L m s Q E B F X N T hcs hdp hun hret
  obtain ⟨hv1, hv2⟩ := dim_val (leapB y) mo hm0 hm1
  refine wpAny_call ?_
  cell_enter
  repeat' (first | (k_unfold; (try dsimp only)) | (k_end; wrow_close) | (dsimp only; walk1) | walk1 | (leave1; walk_say "STEP leave1"; try dsimp only) | fail "no step")
  all_goals (refine q_int (hret _ _ _ (by assumption) (by assumption)) ?_)
  all_goals first | exact (hv1 (by assumption) (by assumption)).symm | exact (hv2 (fun hz => by have h1 := hz.1; have h2 := hz.2; first | omega | simp_all)).symm.trans (by assumption)
end Mine
end
section
open PySem PySem.W PyProof.Rows PySem.Calls
namespace Mine
theorem mro_date : mroOf (.type "datetime.date") = pure [.type "datetime.date", .type "object"] := by rw [mroOf_type]; kernel_rfl
theorem lookup_date_new : typeLookup (.type "datetime.date") "__new__" = pure (some (.builtin "datetime.date.__new__")) := by rw [typeLookup_type, builtinLookup_eq_fast]; kernel_rfl
theorem slot_date_init : Slot "datetime.date" "__init__" "object.__init__" :=
  .of (owner := "object") (n := "__init__") (by rw [typeLookup_type, builtinLookup_eq_fast]; kernel_rfl) (by decide +kernel) (by decide +kernel) (by decide +kernel)
    (by first | exact .inl (by decide +kernel) | exact .inr (by decide +kernel)) (by rw [isSubtype_type]; kernel_rfl)
theorem called_date : TypeCalled "datetime.date" "datetime.date.__new__" "object.__init__" :=
  ⟨by decide +kernel, by decide +kernel, ⟨_, _, mro_date⟩, madeBy_type mro_date lookup_date_new (by decide +kernel), by decide +kernel, by rw [isSubtype_type]; kernel_rfl, slot_date_init⟩
theorem typeCall_date (a b c : Value) : checkTypeCall "datetime.date" ⟨[a, b, c], []⟩ = pure () := by kernel_rfl
theorem newCall_date (a b c : Value) : checkBuiltinCall "datetime.date.__new__" ⟨[.type "datetime.date", a, b, c], []⟩ = pure () := by kernel_rfl
theorem entry_date_new : entryFor table "datetime.date.__new__" = some Builtin.«datetime.date.__new__» := entryFor_of_tree (by kernel_rfl)
theorem initArgs_date (obj a b c : Value) : argsOk "object.__init__" ⟨[obj, a, b, c], []⟩ := by
  unfold argsOk; rw [signature?_of (id := "object.__init__") (n := ['_', '_', 't', 'i', 'n', 'i', '_', '_']) (o := ['t', 'c', 'e', 'j', 'b', 'o']) (by kernel_rfl) F.owner_object]; kernel_rfl
theorem slot_date_weekday : Slot "datetime.date" "weekday" "datetime.date.weekday" :=
  .of (owner := "datetime.date") (n := "weekday") (by rw [typeLookup_type, builtinLookup_eq_fast]; kernel_rfl) (by decide +kernel) (by decide +kernel) (by decide +kernel)
    (by first | exact .inl (by decide +kernel) | exact .inr (by decide +kernel)) (by rw [isSubtype_type]; kernel_rfl)
theorem entry_date_weekday : entryFor table "datetime.date.weekday" = some Builtin.«datetime.date.weekday» := entryFor_of_tree (by kernel_rfl)
theorem sub_date_stamp : isSubtype (.type "datetime.date") (.type "datetime.datetime") = pure false := by rw [isSubtype_type]; kernel_rfl
theorem date_weekday (r : Addr) (y m d : Int) (t u v : Tok) :
    Meets (Builtin.«datetime.date.weekday» ⟨[.ref r], []⟩) (fun _ R s => s.heap.get? r = some { cls := .type "datetime.date", dict := none, data := .fields #[.int y t, .int m u, .int d v], slots := #[] } ∧ R (.ok (.ret (.int (Builtin._datetime.weekdayOf (Builtin._datetime.toOrdinal y m d)) s.toks))) { s with toks := s.toks + 1 }) :=
  .of_wp fun prog w A R s h => by
    obtain ⟨hp, g, d, tk, os⟩ := s
    obtain ⟨hl, h⟩ := h
    have hsub := called_date.sub
    wp_walk
    exact ⟨_, rfl, h⟩
theorem cint_ok {prog : Program} {w : World} {A : Around} {E : Value → Shared → Prop} {s : Shared} {i : Int} {u : Tok} {Q : Int → Shared → Prop} (h1 : -(2 ^ 31) ≤ i) (h2 : i < 2 ^ 31) (h : Q i s) : wpAny (model prog w) A (Builtin._datetime.dtCInt (.int i u)) Q E s := by
  have y1 : ¬ (decide (i ≥ 2 ^ 63) || decide (i < -(2 ^ 63 : Int))) = true := by simp; omega
  have y2 : ¬ (i < -(2 ^ 31 : Int)) := by omega
  have y3 : ¬ (i ≥ 2 ^ 31) := by omega
  unfold Builtin._datetime.dtCInt
  wp_walk
  rw [if_neg y1]
  dsimp only
  rw [if_neg y3, if_neg y2]
  exact wpAny_pure h
theorem days_ok (y m : Int) (h3 : 1 ≤ m) (h4 : m ≤ 12) : ¬ (decide ((1 : Int) < 1) || decide ((1 : Int) > Builtin._datetime.daysInMonth y m)) = true := by
  have : 28 ≤ Builtin._datetime.daysInMonth y m := by
    unfold Builtin._datetime.daysInMonth
    split
    · decide
    · obtain ⟨n, rfl⟩ : ∃ n : Nat, m = n := ⟨m.toNat, by omega⟩
      have key : ∀ n : Nat, n < 13 → 1 ≤ n → (28 : Int) ≤ (([31, 28, 31, 30, 31, 30, 31, 31, 30, 31, 30, 31] : List Int)[((n : Int) - 1).toNat]?).getD 0 := by decide
      exact key n (by omega) (by omega)
  simp; omega
theorem date_new (y m : Int) (t u v : Tok) (h1 : 1 ≤ y) (h2 : y ≤ 9999) (h3 : 1 ≤ m) (h4 : m ≤ 12) :
    Meets (Builtin.«datetime.date.__new__» ⟨[.type "datetime.date", .int y t, .int m u, .int 1 v], []⟩) (fun _ R s => R (.ok (.ret (.ref s.heap.objs.size))) { s with heap := s.heap.push { cls := .type "datetime.date", data := .fields #[rawInt y, rawInt m, rawInt 1] } }) :=
  .of_wp fun prog w A R s h => by
    have hsub := called_date.sub
    have hsub2 := sub_date_stamp
    obtain ⟨hp, g, d, tk, os⟩ := s
    wp_walk using (cint_ok (by omega) (by omega))
    rw [if_neg (days_ok y m h3 h4)]
    wp_walk
    exact ⟨_, rfl, h⟩
end Mine
namespace Mine
theorem plainAttrs_date : PlainAttrs "datetime.date" :=
  ⟨⟨"object.__getattribute__", by rw [typeLookup_type, builtinLookup_eq_fast]; kernel_rfl, by decide +kernel⟩, by rw [typeLookup_type, builtinLookup_eq_fast]; kernel_rfl⟩
section
variable {prog : Program} {w : World} {A : Around} {E : Value → Shared → Prop} {s : Shared} {h₀ : Heap} {L : Addr} {m : Str → Option Value} {news : List (Addr × Obj)}
abbrev dateObj (y m : Int) : Obj := { cls := .type "datetime.date", data := .fields #[rawInt y, rawInt m, rawInt 1] }
theorem date_make {y mo : Int} {t u v : Tok} {Q : Value → Shared → Prop} (F : Fr h₀ L s.heap m) (N : News h₀ L s.heap news) (h1 : 1 ≤ y) (h2 : y ≤ 9999) (h3 : 1 ≤ mo) (h4 : mo ≤ 12)
    (h : ∀ D h', Fr h₀ L h' m → News h₀ L h' ((D, dateObj y mo) :: news) → (∀ p ∈ news, p.1 < D) → Q (.ref D) { s with heap := h' }) :
    wpAny (model prog w) A (call (.type "datetime.date") [.int y t, .int mo u, .int 1 v]) Q E s :=
  callType_new called_date (by decide) (typeCall_date _ _ _) (newCall_date _ _ _) (fun obj => initArgs_date obj _ _ _) entry_date_new (date_new y mo t u v h1 h2 h3 h4)
    ⟨⟨_, Heap.get?_push_size _ rfl, rfl⟩, h _ _ (F.push _) (News.push F N _) fun p hp => Heap.lt_size (N p hp).1⟩
theorem args_date_weekday (a : Value) : argsOk "datetime.date.weekday" ⟨[a], []⟩ := by unfold argsOk; kernel_rfl
theorem date_day {D : Addr} {y mo : Int} {Q : Value → Shared → Prop} (N : News h₀ L s.heap news) (hm : (D, dateObj y mo) ∈ news)
    (h : ∀ t tk, Q (.int (Builtin._datetime.weekdayOf (Builtin._datetime.toOrdinal y mo 1)) t) { s with toks := tk }) :
    wpAny (model prog w) A (call (.builtin "datetime.date.weekday") [.ref D]) Q E s :=
  call_meets slot_date_weekday ⟨_, (N _ hm).1, rfl⟩ entry_date_weekday (args_date_weekday _) (date_weekday D y mo 1 _ _ _) ⟨(N _ hm).1, h _ _⟩
theorem date_method {D : Addr} {y mo : Int} {pl : Sem Bool} {Q : Value × List Value → Shared → Prop} (N : News h₀ L s.heap news) (hm : (D, dateObj y mo) ∈ news) (h : Q (.builtin "datetime.date.weekday", [.ref D]) s) :
    wpAny (model prog w) A (getMethod (.ref D) (PySem.Str.ofString "weekday") pl) Q E s :=
  getMethod_builtin ⟨_, (N _ hm).1, rfl⟩ plainAttrs_date slot_date_weekday (by kernel_rfl) (fun a e => by cases e; exact ⟨_, (N _ hm).1, rfl⟩) h
end
end Mine
end
section
open PySem PySem.W PyProof.Rows PySem.Calls
namespace Mine
section
variable {prog : Program} {w : World} {A : Around} {E : Value → Shared → Prop} {s : Shared}
theorem sub_call {id : String} {B : Builtin} {self : Value} {rest : List Value} {S : PySem.Spec} {Q : Value → Shared → Prop} (plain : plainId id = true) (entry : entryFor table id = some B) (chk : Looks (model prog w) s.heap (checkBuiltinCall id ⟨self :: rest, []⟩) ())
    (g : Meets (B ⟨self :: rest, []⟩) S) (h : S A (wants Q E) s) : wpAny (model prog w) A (call (.builtin id) (self :: rest)) Q E s :=
  wpAny_call (codeAny_call_builtin plain entry (chk _ _ _ s (fun _ _ e => e) (g prog w A (wants Q E) s h)))
theorem add_ref (x dx C : Addr) (k b : Int) (t u : Tok) :
    Meets (Builtin.«int.__add__» ⟨[.ref x, .int b u], []⟩) (fun _ R s => s.heap.get? x = some ⟨.ref C, some dx, .prim (.int k t), #[]⟩ ∧ R (.ok (.ret (.int (k + b) s.toks))) { s with toks := s.toks + 1 }) :=
  .of_wp fun prog w A R s h => by
    obtain ⟨hp, g, d, tk, os⟩ := s
    obtain ⟨hl, h⟩ := h
    wp_walk
    exact ⟨_, rfl, h⟩
theorem eq_ref (x dx C : Addr) (k b : Int) (t u : Tok) :
    Meets (Builtin.«int.__eq__» ⟨[.ref x, .int b u], []⟩) (fun _ R s => s.heap.get? x = some ⟨.ref C, some dx, .prim (.int k t), #[]⟩ ∧ R (.ok (.ret (.bool (k == b)))) s) :=
  .of_wp fun prog w A R s h => by
    obtain ⟨hp, g, d, tk, os⟩ := s
    obtain ⟨hl, h⟩ := h
    wp_walk
    exact ⟨_, rfl, h⟩
theorem fills_day (w : World) {h : Heap} (X : (heapK w.params).In h) : Looks (model PySem.Challenge.rw_dn0012_02.row.prog w) h (fillsNumberSlot (.ref 300) "add") true := Looks.of_peek X (by kernel_rfl)
theorem sub_day (w : World) {h : Heap} (X : (heapK w.params).In h) : Looks (model PySem.Challenge.rw_dn0012_02.row.prog w) h (isSubtype (.type "int") (.ref 300)) false := Looks.of_peek X (by kernel_rfl)
theorem num_day (w : World) {h : Heap} (X : (heapK w.params).In h) : Looks (model PySem.Challenge.rw_dn0012_02.row.prog w) h (numberSlotInPython (.ref 300) "add") false := Looks.of_peek X (by kernel_rfl)
theorem look_day (w : World) {h : Heap} (X : (heapK w.params).In h) : Looks (model PySem.Challenge.rw_dn0012_02.row.prog w) h (typeLookup (.ref 300) "__add__") (some (.builtin "int.__add__")) := Looks.of_peek X (by kernel_rfl)
/-- the members of Day -/
def dayA (k : Int) : Addr := [352, 355, 358, 361, 364, 367, 370].getD k.toNat 0
theorem day_cases {k : Int} (h0 : 0 ≤ k) (h1 : k < 7) : (k = 0 ∨ k = 1 ∨ k = 2 ∨ k = 3 ∨ k = 4 ∨ k = 5 ∨ k = 6) := by omega
theorem day_obj (w : World) {h : Heap} (X : (heapK w.params).In h) (k : Int) (h0 : 0 ≤ k) (h1 : k < 7) : ∃ dx t, h.get? (dayA k) = some ⟨.ref 300, some dx, .prim (.int k t), #[]⟩ := by
  rcases day_cases h0 h1 with rfl | rfl | rfl | rfl | rfl | rfl | rfl
  · exact ⟨_, _, X 352 _ rfl⟩
  · exact ⟨_, _, X 355 _ rfl⟩
  · exact ⟨_, _, X 358 _ rfl⟩
  · exact ⟨_, _, X 361 _ rfl⟩
  · exact ⟨_, _, X 364 _ rfl⟩
  · exact ⟨_, _, X 367 _ rfl⟩
  · exact ⟨_, _, X 370 _ rfl⟩
theorem day_chk (w : World) {h : Heap} (X : (heapK w.params).In h) (k : Int) (h0 : 0 ≤ k) (h1 : k < 7) (b : Int) (u : Tok) : Looks (model PySem.Challenge.rw_dn0012_02.row.prog w) h (checkBuiltinCall "int.__add__" ⟨[.ref (dayA k), .int b u], []⟩) () := by
  rcases day_cases h0 h1 with rfl | rfl | rfl | rfl | rfl | rfl | rfl
  all_goals exact Looks.of_peek X (by kernel_rfl)
theorem day_type (w : World) {h : Heap} (X : (heapK w.params).In h) (k : Int) (h0 : 0 ≤ k) (h1 : k < 7) : Looks (model PySem.Challenge.rw_dn0012_02.row.prog w) h (typeOf (.ref (dayA k))) (.ref 300) := by
  rcases day_cases h0 h1 with rfl | rfl | rfl | rfl | rfl | rfl | rfl
  all_goals exact Looks.of_peek X (by kernel_rfl)
theorem day_add {m : Str → Option Value} {h₀ : Heap} {L : Addr} {k b : Int} {u : Tok} {Q : Value → Shared → Prop} (F : Fr h₀ L s.heap m) (X₀ : (heapK w.params).In h₀) (h0 : 0 ≤ k) (h1 : k < 7) (h : ∀ t tk, Q (.int (k + b) t) { s with toks := tk }) :
    wpAny (model PySem.Challenge.rw_dn0012_02.row.prog w) A (binaryOp .Add (.ref (dayA k)) (.int b u)) Q E s := by
  have X := X₀.keeps F.keep
  obtain ⟨dx, t, ho⟩ := day_obj w X k h0 h1
  have hT := day_type w X k h0 h1
  unfold binaryOp
  refine wpAny_holding (wpAny_bind ?_)
  show wpAny _ A (binaryOp1 "add" _ _) _ _ _
  unfold binaryOp1
  refine wpAny_bind (hT.here (wpAny_bind (wpAny_pure (wpAny_bind ((fills_day w X).here ?_)))))
  rw [if_neg (by decide)]
  refine wpAny_bind (wpAny_of_eq PySem.F.fills_int_add ?_)
  simp only [Bool.and_self, Bool.not_false, if_true]
  refine wpAny_bind ((sub_day w X).here ?_)
  simp only [Bool.false_eq_true, if_false, Bool.not_false, Bool.and_self, if_true]
  refine wpAny_bind ((num_day w X).here ?_)
  simp only [Bool.false_eq_true, if_false]
  refine wpAny_bind (m := tryMethod _ _ _) ?_
  unfold tryMethod
  refine wpAny_bind (wpAny_bind (wpAny_bind (hT.here ((look_day w X).here (wpAny_holding ?_)))))
  refine wpAny_bind (wpAny_of_eq (PySem.F.slot_int_add.bind _) ?_)
  dsimp only
  refine wpAny_bind (sub_call (by decide +kernel) PySem.F.entry_int_add (day_chk w X k h0 h1 b u) (add_ref (dayA k) dx 300 k b t u) ⟨ho, ?_⟩)
  exact wpAny_pure (wpAny_pure (wpAny_pure (wpAny_pure (h _ _))))
theorem beq_two (k : Int) : ((2 : Int) == k) = decide (k = 2) := by rw [Bool.eq_iff_iff, beq_iff_eq, decide_eq_true_iff]; exact eq_comm
/-- FEBRUARY -/
theorem feb_eq {m : Str → Option Value} {h₀ : Heap} {L : Addr} {k : Int} {u : Tok} {Q : Value → Shared → Prop} (F : Fr h₀ L s.heap m) (X₀ : (heapK w.params).In h₀) (hu : A.units < cLine) (h : Q (.bool (decide (k = 2))) s) :
    wpAny (model PySem.Challenge.rw_dn0012_02.row.prog w) A (compareOp .Eq (.int k u) (.ref 319)) Q E s := by
  have X := X₀.keeps F.keep
  have hT : Looks (model PySem.Challenge.rw_dn0012_02.row.prog w) s.heap (typeOf (.ref 319)) (.ref 190) := Looks.of_peek X (by kernel_rfl)
  have hS : Looks (model PySem.Challenge.rw_dn0012_02.row.prog w) s.heap (isSubtype (.ref 190) (.type "int")) true := Looks.of_peek X (by kernel_rfl)
  have hC : Looks (model PySem.Challenge.rw_dn0012_02.row.prog w) s.heap (checkBuiltinCall "int.__eq__" ⟨[.ref 319, .int k u], []⟩) () := Looks.of_peek X (by kernel_rfl)
  have hL : Looks (model PySem.Challenge.rw_dn0012_02.row.prog w) s.heap (typeLookup (.ref 190) "__eq__") (some (.builtin "int.__eq__")) := Looks.of_peek X (by kernel_rfl)
  obtain ⟨dx, t, ho⟩ : ∃ dx t, s.heap.get? 319 = some ⟨.ref 190, some dx, .prim (.int 2 t), #[]⟩ := ⟨_, _, X 319 _ rfl⟩
  have call_ : wpAny (model PySem.Challenge.rw_dn0012_02.row.prog w) A (call (.builtin "int.__eq__") ([.ref 319] ++ [.int k u])) (fun v s' => v = .bool (decide (k = 2)) ∧ s' = s) E s := by
    refine sub_call (by decide +kernel) PySem.F.entry_int_eq hC (eq_ref 319 dx 190 2 k t u) ⟨ho, ?_⟩
    show Value.bool _ = Value.bool _ ∧ s = s
    refine ⟨congrArg _ ?_, rfl⟩
    exact beq_two k
  have fin : wpAny (model PySem.Challenge.rw_dn0012_02.row.prog w) A (call (.builtin "int.__eq__") ([.ref 319] ++ [.int k u]) >>= fun v => pure (some v)) (fun v s' => v = some (.bool (decide (k = 2))) ∧ s' = s) E s :=
    wpAny_bind (wpAny_mono call_ (fun v s' h => wpAny_pure ⟨congrArg some h.1, h.2⟩) fun _ _ h => h)
  have one : wpAny (model PySem.Challenge.rw_dn0012_02.row.prog w) A (tryCompare (.ref 319) "__eq__" (.int k u)) (fun r s' => r = some (.bool (decide (k = 2))) ∧ s' = s) E s := by
    unfold tryCompare
    refine wpAny_bind (wpAny_mono (Q := fun v s' => v = some (.bool (decide (k = 2))) ∧ s' = s) ?_ (fun v s' h => ?_) fun _ _ h => h)
    · simp only [callSpecialIfBound?, bindSpecialIfBound?]
      refine wpAny_holding (wpAny_bind (wpAny_bind (wpAny_bind (hT.here (hL.here ?_)))))
      refine wpAny_bind (wpAny_askSetting (wpAny_ite ?_))
      split
      · exact wpAny_bind (wpAny_of_eq (PySem.F.slot_int_eq.bind _) (wpAny_pure (by exact fin)))
      · exact wpAny_tryCatch (wpAny_bind (wpAny_of_eq (PySem.F.slot_int_eq.bind _) (wpAny_pure (by exact fin))))
    · obtain ⟨rfl, rfl⟩ := h
      exact wpAny_pure ⟨rfl, rfl⟩
  show wpAny _ A (richCompare .Eq _ _) _ _ _
  unfold richCompare
  refine wpAny_holding (wpAny_bind (wpAny_cRoomFor hu ?_))
  show wpAny _ A (do let ta ← typeOf (Value.int k u); _) _ _ _
  refine wpAny_bind (wpAny_pure (wpAny_bind (hT.here ?_)))
  rw [if_pos (by decide)]
  refine wpAny_bind (hS.here ?_)
  simp only [if_true]
  refine wpAny_bind (wpAny_mono one (fun r s' z => ?_) fun _ _ e => e)
  obtain ⟨rfl, rfl⟩ := z
  exact wpAny_bind (wpAny_rule (wpAny_pure h))
end
end Mine
end
section
namespace Mine
theorem before_call : ∀ (w : World) (y : Int) (ty : Tok), Call1 1 w 59 [.int y ty] (fun h₀ L m news s Q => ∀ t h' tk', Fr h₀ L h' m → News h₀ L h' news → Q (.int (gY y - 719163) t) { s with heap := h', toks := tk' }) := by
  unfold Call1
  k_fill
  intro w y ty p loose mean mg mb news dp un gd cn cs a ccd cl outer A₀ base h₀ L m s Q E B F X N T hcs hdp hun hret
  refine wpAny_call ?_
  cell_enter
  repeat' (first | (k_unfold; (try dsimp only)) | (k_end; wrow_close) | (dsimp only; walk1) | walk1 | (leave1; walk_say "STEP leave1"; try dsimp only) | fail "no step")
  exact hret _ _ _ (by assumption) (by assumption)
theorem days_item {w : World} {A : Around} {E : Value → Shared → Prop} {s : Shared} {m : Str → Option Value} {h₀ : Heap} {L : Addr} {value slice : PySem.Expr} {k : Int} {u : Tok} {Q : Value → Shared → Prop} (F : Fr h₀ L s.heap m) (X₀ : (heapK w.params).In h₀) (h0 : 0 ≤ k) (h1 : k < 7) (h : Q (.ref (dayA k)) s)
    (hs : subscripted slice false (.ref 371) (.int k u) = operate [.ref 371, .int k u] (getItem (.ref 371) (.int k u)) := by with_unfolding_all rfl) :
    wpAny (model PySem.Challenge.rw_dn0012_02.row.prog w) A (subscriptTail value slice (.ref 371) (.int k u)) Q E s := by
  have hl : (heapK w.params).lookup 371 = some ⟨.type "tuple", none, .seq ([.ref 352, .ref 355, .ref 358, .ref 361, .ref 364, .ref 367, .ref 370] : List Value).toArray 0, #[]⟩ := rfl
  have hi := StrLaws.seqIndex_nonneg (i := k) (n := 7) h0 (by omega)
  refine topTup_K F X₀ hl (by omega) (by omega) hi ?_ h hs
  rcases day_cases h0 h1 with rfl | rfl | rfl | rfl | rfl | rfl | rfl <;> rfl
local macro_rules | `(tactic| walk_at "call type:datetime.date cons nil") => `(tactic| (k_here; (refine' Mine.date_make ?kF ?kN ?h1 ?h2 ?h3 ?h4 ?_; (case kF => k_asm); (case kN => k_asm); (case h1 => omega); (case h2 => omega); (case h3 => omega); (case h4 => omega)); intro D' h' F' N' l1; (try dsimp only); (try k_lt l1); (try k_sweep)))
local macro_rules | `(tactic| walk_at "getMethod ref") => `(tactic| (k_here; (refine' Mine.date_method ?kN ?km ?_; (case kN => k_asm); (case km => k_mem))))
local macro_rules | `(tactic| walk_at "call builtin:datetime.date.weekday cons nil") => `(tactic| (k_here; (refine' Mine.date_day ?kN ?km ?_; (case kN => k_asm); (case km => k_mem)); intro t' tk'; (try dsimp only)))
local macro_rules | `(tactic| walk_at "subscriptTail Name Call ref int") => `(tactic| (k_here; refine Mine.Stop.out ?_))
theorem weekday_call : ∀ (w : World) (y mo : Int) (ty tm td : Tok), 1 ≤ mo → mo ≤ 12 → Call1 1 w 386 [.int y ty, .int mo tm, .int 1 td] (fun h₀ L m news s Q => ∀ h' tk', Fr h₀ L h' m → News h₀ L h' news → Q (.ref (dayA (wd1 y mo))) { s with heap := h', toks := tk' }) := by
  unfold Call1
  k_fill
  intro w y mo ty tm td hm0 hm1 p loose mean mg mb news dp un gd cn cs a ccd cl outer A₀ base h₀ L m s Q E B F X N T hcs hdp hun hret
  have hlo := fmod_lo y (n := 400) (by decide)
  have hhi := fmod_hi y (n := 400) (by decide)
  have hR := wd1_range y mo
  refine wpAny_call ?_
  cell_enter
  repeat' (first | (k_unfold; (try dsimp only)) | (k_end; wrow_close) | (dsimp only; walk1) | walk1 | (leave1; walk_say "STEP leave1"; try dsimp only) | fail "no step")
  all_goals try refine Stop.into ?_
  all_goals rw [date_wd _ _ hm0 hm1]
  all_goals try rw [wd_400]
  all_goals refine days_item (by k_asm) (by k_asm) hR.1 hR.2 ?_
  all_goals try dsimp only
  all_goals repeat' (first | (k_unfold; (try dsimp only)) | (k_end; wrow_close) | (dsimp only; walk1) | walk1 | (leave1; walk_say "STEP leave1"; try dsimp only) | fail "no step")
  all_goals (rename Fr h₀ L _ m => FZ; rename News h₀ L _ _ => NZ)
  all_goals first | exact hret _ _ FZ NZ | exact hret _ _ FZ (kst_newsOf NZ fun p hp => List.mem_cons_of_mem _ hp)
end Mine
end
section
namespace Mine
local macro_rules | `(tactic| walk_at "call ref cons nil") => `(tactic| (k_here; (with_reducible show wpAny _ _ (call (Value.ref 379) [Value.int _ _]) _ _ _); refine' Mine.isleap_call _ _ _ _ _ _ _ _ _ _ _ _ _ _ _ _ _ _ _ _ _ _ _ _ _ _ ?kB ?kF ?kX ?kN ?kT ?kc ?kd ?ku ?_; (case kB => k_asm); (case kF => k_asm); (case kX => k_asm); (case kN => k_asm); (case kT => k_asm); (case kc => first | assumption | rfl); (case kd => ktr_room); (case ku => ktr_units); intro h' tk' F' N'; (try dsimp only); (try k_sweep)))
local macro_rules | `(tactic| walk_at "call ref cons nil") => `(tactic| (k_here; (with_reducible show wpAny _ _ (call (Value.ref 386) [Value.int _ _, Value.int _ _, Value.int _ _]) _ _ _); refine' Mine.weekday_call _ _ _ _ _ _ ?h0 ?h1 _ _ _ _ _ _ _ _ _ _ _ _ _ _ _ _ _ _ _ _ _ _ _ ?kB ?kF ?kX ?kN ?kT ?kc ?kd ?ku ?_; (case h0 => omega); (case h1 => omega); (case kB => k_asm); (case kF => k_asm); (case kX => k_asm); (case kN => k_asm); (case kT => k_asm); (case kc => first | assumption | rfl); (case kd => ktr_room); (case ku => ktr_units); intro h' tk' F' N'; (try dsimp only); (try k_sweep)))
local macro_rules | `(tactic| walk_at "compareOp Eq int ref") => `(tactic| (k_here; (refine' Mine.feb_eq ?kF ?kX ?ku ?_; (case kF => k_asm); (case kX => k_asm); (case ku => ktr_units))))
local macro_rules | `(tactic| walk_at "binaryOp Add int bool") => `(tactic| (k_here; (refine Mine.add_bi ?_); intro t' tk'; (try dsimp only)))
local macro_rules | `(tactic| walk_at "subscriptTail Name Name ref int") => `(tactic| (k_here; (refine' Mine.topInt ?kF ?kX ?kl ?ki ?kv ?k0 ?k1 ?kf ?_; (case kF => k_asm); (case kX => k_asm); (case kl => k_dflt k_is); (case kv => assumption); (case ki => repeat (first | exact IntsAre.nil | refine IntsAre.cons _ _ ?_)); (case k0 => omega); (case k1 => (simp only [List.length_cons, List.length_nil]; omega)); (case kf => omega); intro t')))
local macro_rules | `(tactic| walk_at "eval BoolOp And cons") => `(tactic| (k_here; (fail_if_success (have hM9 : Mine.Inside := by with_reducible assumption)); (refine Mine.Stop.out ?_)))
theorem validate_call : ∀ (w : World) (mo : Int) (tm : Tok), 1 ≤ mo → mo ≤ 12 → Call1 1 w 393 [.int mo tm] (fun h₀ L m news s Q => ∀ h' tk', Fr h₀ L h' m → News h₀ L h' news → Q .none { s with heap := h', toks := tk' }) := by
  unfold Call1
  k_fill
  intro w mo tm hm0 hm1 p loose mean mg mb news dp un gd cn cs a ccd cl outer A₀ base h₀ L m s Q E B F X N T hcs hdp hun hret
  refine wpAny_call ?_
  cell_enter
  repeat' (first | (k_unfold; (try dsimp only)) | (k_end; wrow_close) | (dsimp only; walk1) | walk1 | (leave1; walk_say "STEP leave1"; try dsimp only) | fail "no step")
  exact hret _ _ (by assumption) (by assumption)
local macro_rules | `(tactic| walk_at "call ref cons nil") => `(tactic| (k_here; (with_reducible show wpAny _ _ (call (Value.ref 393) [Value.int _ _]) _ _ _); refine' Mine.validate_call _ _ _ ?h0 ?h1 _ _ _ _ _ _ _ _ _ _ _ _ _ _ _ _ _ _ _ _ _ _ _ ?kB ?kF ?kX ?kN ?kT ?kc ?kd ?ku ?_; (case h0 => omega); (case h1 => omega); (case kB => k_asm); (case kF => k_asm); (case kX => k_asm); (case kN => k_asm); (case kT => k_asm); (case kc => first | assumption | rfl); (case kd => ktr_room); (case ku => ktr_units); intro h' tk' F' N'; (try dsimp only); (try k_sweep)))
abbrev mdayL : List Int := [0, 31, 28, 31, 30, 31, 30, 31, 31, 30, 31, 30, 31]
theorem mday_val (lp : Bool) (mo : Int) (h0 : 1 ≤ mo) (h1 : mo ≤ 12) : mdayL.getD mo.toNat 0 + bi (decide (mo = 2) && lp) = (nlen lp (mo - 1).toNat : Int) := by
  obtain ⟨n, rfl⟩ : ∃ n : Nat, mo = n := ⟨mo.toNat, by omega⟩
  have key : ∀ lp : Bool, ∀ n < 13, 1 ≤ n → mdayL.getD n 0 + bi (decide ((n : Int) = 2) && lp) = (nlen lp (n - 1) : Int) := by decide
  have := key lp n (by omega) (by omega)
  rw [show ((n : Int) - 1).toNat = n - 1 by omega, Int.toNat_natCast]
  exact this
theorem range_call : ∀ (w : World) (y mo : Int) (ty tm : Tok), 1 ≤ mo → mo ≤ 12 → Call1 3 w 400 [.int y ty, .int mo tm] (fun h₀ L m news s Q => ∀ T t1 h' tk', Fr h₀ L h' m → News h₀ L h' ((T, ({ cls := .type "tuple", data := .seq #[.ref (dayA (wd1 y mo)), .int (nlen (leapB y) (mo - 1).toNat : Int) t1] } : Obj)) :: news) → (∀ p ∈ news, p.1 < T) → Q (.ref T) { s with heap := h', toks := tk' }) := by
  unfold Call1
  k_fill
  intro w y mo ty tm hm0 hm1 p loose mean mg mb news dp un gd cn cs a ccd cl outer A₀ base h₀ L m s Q E B F X N T hcs hdp hun hret
  have hv := mday_val (leapB y) mo hm0 hm1
  obtain ⟨D, hD⟩ : ∃ D, mdayL.getD mo.toNat 0 = D := ⟨_, rfl⟩
  rw [hD] at hv
  refine wpAny_call ?_
  cell_enter
  repeat' (first | (k_unfold; (try dsimp only)) | (k_end; wrow_close) | (dsimp only; walk1) | walk1 | (leave1; walk_say "STEP leave1"; try dsimp only) | fail "no step")
  refine Stop.into ?_
  rename Fr _ _ _ _ => F9
  rename News _ _ _ _ => N9
  refine bool_valH (decide (mo = 2) && leapB y) F9 N9 ?_ ?_
  · have hInside := Inside.mk
    repeat' (first | (k_unfold; (try dsimp only)) | (k_end; wrow_close) | (dsimp only; walk1) | walk1 | (leave1; walk_say "STEP leave1"; try dsimp only) | fail "no step")
    · refine BoolEndH.mk (by k_asm) (by k_asm) ?_
      have h2 : mo = 2 := by assumption
      simp [h2]
    · refine BoolEndH.mk (by k_asm) (by k_asm) ?_
      have h2 : ¬ mo = 2 := by assumption
      simp [h2]
  intro h9 tk9 F8 N8
  clear F9 N9
  dsimp only
  repeat' (first | (k_unfold; (try dsimp only)) | (k_end; wrow_close) | (dsimp only; walk1) | walk1 | (leave1; walk_say "STEP leave1"; try dsimp only) | fail "no step")
  rename Fr h₀ L _ m => FZ
  rename News h₀ L _ (_ :: _) => NZ
  rw [hv] at NZ
  exact hret _ _ _ _ FZ NZ (by assumption)
end Mine
end
section
namespace Mine
local macro_rules | `(tactic| walk_at "call ref cons nil") => `(tactic| (k_here; (with_reducible show wpAny _ _ (call (Value.ref 379) [Value.int _ _]) _ _ _); refine' Mine.isleap_call _ _ _ _ _ _ _ _ _ _ _ _ _ _ _ _ _ _ _ _ _ _ _ _ _ _ ?kB ?kF ?kX ?kN ?kT ?kc ?kd ?ku ?_; (case kB => k_asm); (case kF => k_asm); (case kX => k_asm); (case kN => k_asm); (case kT => k_asm); (case kc => first | assumption | rfl); (case kd => ktr_room); (case ku => ktr_units); intro h' tk' F' N'; (try dsimp only); (try k_sweep)))
local macro_rules | `(tactic| walk_at "call ref cons nil") => `(tactic| (k_here; (with_reducible show wpAny _ _ (call (Value.ref 59) [Value.int _ _]) _ _ _); refine' Mine.before_call _ _ _ _ _ _ _ _ _ _ _ _ _ _ _ _ _ _ _ _ _ _ _ _ _ _ ?kB ?kF ?kX ?kN ?kT ?kc ?kd ?ku ?_; (case kB => k_asm); (case kF => k_asm); (case kX => k_asm); (case kN => k_asm); (case kT => k_asm); (case kc => first | assumption | rfl); (case kd => ktr_room); (case ku => ktr_units); intro t' h' tk' F' N'; (try dsimp only); (try k_sweep)))
local macro_rules | `(tactic| walk_at "call ref cons nil") => `(tactic| (k_here; (with_reducible show wpAny _ _ (call (Value.ref 400) [Value.int _ _, Value.int _ _]) _ _ _); refine' Mine.range_call _ _ _ _ _ ?h0 ?h1 _ _ _ _ _ _ _ _ _ _ _ _ _ _ _ _ _ _ _ _ _ _ _ ?kB ?kF ?kX ?kN ?kT ?kc ?kd ?ku ?_; (case h0 => omega); (case h1 => omega); (case kB => k_asm); (case kF => k_asm); (case kX => k_asm); (case kN => k_asm); (case kT => k_asm); (case kc => first | assumption | rfl); (case kd => ktr_room); (case ku => ktr_units); intro T' t1' h' tk' F' N' l1; (try dsimp only); (try k_lt l1); (try k_sweep)))
local macro_rules | `(tactic| walk_at "binaryOp Add ref int") => `(tactic| (k_here; (refine' Mine.day_add ?kF ?kX ?k0 ?k1 ?_; (case kF => k_asm); (case kX => k_asm); (case k0 => exact (Mine.wd1_range _ _).1); (case k1 => exact (Mine.wd1_range _ _).2)); intro t' tk'; (try dsimp only)))
local macro_rules | `(tactic| walk_at "binaryOp Add int bool") => `(tactic| (k_here; (refine Mine.add_bi ?_); intro t' tk'; (try dsimp only)))
local macro_rules | `(tactic| walk_at "eval BoolOp And cons") => `(tactic| (k_here; (fail_if_success (have hM9 : Mine.Inside := by with_reducible assumption)); (refine Mine.Stop.out ?_)))
theorem cls_tab {w : World} {A : Around} {E : Value → Shared → Prop} {s : Shared} {m : Str → Option Value} {h₀ : Heap} {L : Addr} {expr : Bool} {Q : Value → Shared → Prop} (F : Fr h₀ L s.heap m) (X₀ : (heapK w.params).In h₀) (h : ∀ tk, Q (.ref 409) { s with toks := tk }) :
    wpAny (model PySem.Challenge.rw_dn0012_02.row.prog w) A (getAttr (.ref 438) (PySem.Str.ofString "_DAYS_BEFORE_MONTH") expr) Q E s := cls_value (mc := .type "type") (X₀.keeps F.keep) (by kernel_rfl) (by kernel_rfl) rfl (h _)
theorem tab_item {w : World} {A : Around} {E : Value → Shared → Prop} {s : Shared} {m : Str → Option Value} {h₀ : Heap} {L : Addr} {value slice : PySem.Expr} {k D : Int} {u : Tok} {Q : Value → Shared → Prop} (F : Fr h₀ L s.heap m) (X₀ : (heapK w.params).In h₀) (hv : dbmL.getD k.toNat 0 = D) (h0 : 0 ≤ k) (h1 : k < 13) (h : ∀ t, Q (.int D t) s)
    (hs : subscripted slice false (.ref 409) (.int k u) = operate [.ref 409, .int k u] (getItem (.ref 409) (.int k u)) := by with_unfolding_all rfl) :
    wpAny (model PySem.Challenge.rw_dn0012_02.row.prog w) A (subscriptTail value slice (.ref 409) (.int k u)) Q E s := by
  subst hv
  obtain ⟨vs, n, hl, hi⟩ : ∃ (vs : List Value) (n : Nat), (heapK w.params).lookup 409 = some ⟨.type "tuple", none, .seq vs.toArray n, #[]⟩ ∧ IntsAre vs dbmL :=
    ⟨_, _, rfl, by repeat (first | exact IntsAre.nil | refine IntsAre.cons _ _ ?_)⟩
  exact item_anyT (tupK (X₀.keeps F.keep) hl) hi h0 (by show k < (13 : Int); exact h1) (by omega) h hs
local macro_rules | `(tactic| walk_at "getAttr ref") => `(tactic| (k_here; (refine' Mine.cls_tab ?kF ?kX ?_; (case kF => k_asm); (case kX => k_asm)); intro tk'; (try dsimp only)))
local macro_rules | `(tactic| walk_at "subscriptTail Attribute Name Name ref int") => `(tactic| (k_here; (refine' Mine.tab_item ?kF ?kX ?kv ?k0 ?k1 ?_; (case kF => k_asm); (case kX => k_asm); (case kv => assumption); (case k0 => omega); (case k1 => omega)); intro t'))
/-- the body's code, for a call through a bound method -/
abbrev Code1 (kdp : Nat) (w : World) (f : Addr) (vs : List Value) (Post : Heap → Addr → (Str → Option Value) → List (Addr × Obj) → Shared → (Value → Shared → Prop) → Prop) : Prop :=
  ∀ (p : Program) (loose : List Str) (mean : ExcName → Option Value) (mg mb : Str → Option Value) (news : List (Addr × Obj)) (dp un : Nat) (gd : Option (List Code)) (cn : Str) (cs : Scope) (a : Addr) (ccd : Value) (cl : List (Str × Addr)) (outer : List Env) (A₀ : Around) (base h₀ : Heap) (L : Addr) (m : Str → Option Value) (s : Shared) (Q E : Value → Shared → Prop),
    Below A₀ base outer h₀ → Fr h₀ L s.heap m → (heapK w.params).In h₀ → News h₀ L s.heap news → Top p loose mean mg mb h₀ → cs.kind = .function → dp + kdp < recursionLimit → un + 30 * kdp < cLine →
    Post h₀ L m news s Q →
    codeAny (model PySem.Challenge.rw_dn0012_02.row.prog w) (ktrTop dp un gd cn cs L a ccd cl outer) (.call (.ref f) ⟨vs, []⟩) (fun r s' => match r with | .ok (.ret v) => Q v s' | .ok _ => False | .error e => E e s') s
theorem ymd_code : ∀ (w : World) (y mo da : Int) (ty tm td : Tok), 1 ≤ mo → mo ≤ 12 → Code1 2 w 424 [.ref 438, .int y ty, .int mo tm, .int da td] (fun h₀ L m news s Q => ∀ t h' tk', Fr h₀ L h' m → News h₀ L h' news → Q (.int (gY y - 719163 + dbm (leapB y) mo + da) t) { s with heap := h', toks := tk' }) := by
  unfold Code1
  k_fill
  intro w y mo da ty tm td hm0 hm1 p loose mean mg mb news dp un gd cn cs a ccd cl outer A₀ base h₀ L m s Q E B F X N T hcs hdp hun hret
  obtain ⟨D, hD⟩ : ∃ D, dbmL.getD mo.toNat 0 = D := ⟨_, rfl⟩
  cell_enter
  repeat' (first | (k_unfold; (try dsimp only)) | (k_end; wrow_close) | (dsimp only; walk1) | walk1 | (leave1; walk_say "STEP leave1"; try dsimp only) | fail "no step")
  refine Stop.into ?_
  rename Fr _ _ _ _ => F9
  rename News _ _ _ _ => N9
  refine bool_valH (decide (2 < mo) && leapB y) F9 N9 ?_ ?_
  · have hInside := Inside.mk
    repeat' (first | (k_unfold; (try dsimp only)) | (k_end; wrow_close) | (dsimp only; walk1) | walk1 | (leave1; walk_say "STEP leave1"; try dsimp only) | fail "no step")
    · refine BoolEndH.mk (by k_asm) (by k_asm) ?_
      have h2 : 2 < mo := by omega
      simp [h2]
    · refine BoolEndH.mk (by k_asm) (by k_asm) ?_
      have h2 : ¬ 2 < mo := by omega
      simp [h2]
  intro h9 tk9 F8 N8
  clear F9 N9
  dsimp only
  repeat' (first | (k_unfold; (try dsimp only)) | (k_end; wrow_close) | (dsimp only; walk1) | walk1 | (leave1; walk_say "STEP leave1"; try dsimp only) | fail "no step")
  rename Fr h₀ L _ m => FZ
  rename News h₀ L _ _ => NZ
  refine q_int (hret _ _ _ FZ NZ) ?_
  unfold dbm
  rw [hD]
  omega
theorem ymd_at {w : World} {q : Addr} {y mo da : Int} {ty tm td : Tok} {p : Program} {loose : List Str} {mean : ExcName → Option Value} {mg mb : Str → Option Value} {news : List (Addr × Obj)} {dp un : Nat} {gd : Option (List Code)} {cn : Str} {cs : Scope} {a : Addr} {ccd : Value} {cl : List (Str × Addr)} {outer : List Env} {A₀ : Around} {base h₀ : Heap} {L : Addr} {m : Str → Option Value} {s : Shared} {Q E : Value → Shared → Prop}
    (B : Below A₀ base outer h₀) (F : Fr h₀ L s.heap m) (X : (heapK w.params).In h₀) (N : News h₀ L s.heap news) (hq : (q, methodObj (.ref 424) (.ref 438)) ∈ news) (hm0 : 1 ≤ mo) (hm1 : mo ≤ 12) (T : Top p loose mean mg mb h₀) (hcs : cs.kind = .function) (hdp : dp + 2 < recursionLimit) (hun : un + 30 * 2 < cLine)
    (hret : ∀ t h' tk', Fr h₀ L h' m → News h₀ L h' news → Q (.int (gY y - 719163 + dbm (leapB y) mo + da) t) { s with heap := h', toks := tk' }) :
    wpAny (model PySem.Challenge.rw_dn0012_02.row.prog w) (ktrTop dp un gd cn cs L a ccd cl outer) (call (.ref q) [.int y ty, .int mo tm, .int da td]) Q E s :=
  call_meth N hq (ymd_code w y mo da ty tm td hm0 hm1 p loose mean mg mb news dp un gd cn cs a ccd cl outer A₀ base h₀ L m s Q E B F X N T hcs hdp hun hret)
theorem ymd_get {w : World} {A : Around} {E : Value → Shared → Prop} {s : Shared} {m : Str → Option Value} {h₀ : Heap} {L x : Addr} {ox : Obj} {news : List (Addr × Obj)} {pl : Sem Bool} {Q : Value × List Value → Shared → Prop} (F : Fr h₀ L s.heap m) (X₀ : (heapK w.params).In h₀) (N : News h₀ L s.heap news) (I : InstAt s.heap x ox 438 (some (dictOf [] 0)))
    (h : ∀ q h' tk, Fr h₀ L h' m → News h₀ L h' ((q, methodObj (.ref 424) (.ref 438)) :: news) → (∀ r ∈ news, r.1 < q) → Q (.ref q, []) { s with heap := h', toks := tk }) :
    wpAny (model PySem.Challenge.rw_dn0012_02.row.prog w) A (getMethod (.ref x) (PySem.Str.ofString "_ymd2ord") pl) Q E s := by
  have X := X₀.keeps F.keep
  have hga : findIn (heapK w.params) (.ref 438) "__getattribute__" = some (some (.builtin "object.__getattribute__")) := by kernel_rfl
  have hk : findIn (heapK w.params) (.ref 438) "__getattr__" = some none := by kernel_rfl
  have hf : findIn (heapK w.params) (.ref 438) (PySem.Str.ofString "_ymd2ord") = some (some (.ref 426)) := by kernel_rfl
  have hb : findObj (heapK w.params) 438 (some (dictOf [] 0)) (PySem.Str.ofString "_ymd2ord") = some (.bind (.builtin "classmethod.__get__") (.ref 426)) := by kernel_rfl
  have hp : recIn (heapK w.params) 426 "classmethod" = some [.ref 424, .bool false] := by kernel_rfl
  exact method_usual (r := some (.ref 426)) X I hga hk hf (by kernel_rfl)
    (get_bind X I hga hb hk (wpAny_call (cm_get (s := { s with toks := s.toks + 1 }) X hp (handed_on rfl (h s.heap.objs.size _ _ (F.push _) (N.push F _) fun r hr => Heap.lt_size (N r hr).1)))))
end Mine
end
section
namespace Mine
local macro_rules | `(tactic| walk_at "no key of this walk") => `(tactic| (fail "the table of lines is kept by their number: one more than the part ahead has"))
local macro_rules | `(tactic| walk_at "call ref cons nil") => `(tactic| (k_here; (with_reducible show wpAny _ _ (call (Value.ref 379) [Value.int _ _]) _ _ _); refine' Mine.isleap_call _ _ _ _ _ _ _ _ _ _ _ _ _ _ _ _ _ _ _ _ _ _ _ _ _ _ ?kB ?kF ?kX ?kN ?kT ?kc ?kd ?ku ?_; (case kB => k_asm); (case kF => k_asm); (case kX => k_asm); (case kN => k_asm); (case kT => k_asm); (case kc => first | assumption | rfl); (case kd => ktr_room); (case ku => ktr_units); intro h' tk' F' N'; (try dsimp only); (try k_sweep)))
local macro_rules | `(tactic| walk_at "call ref cons nil") => `(tactic| (k_here; (with_reducible show wpAny _ _ (call (Value.ref 59) [Value.int _ _]) _ _ _); refine' Mine.before_call _ _ _ _ _ _ _ _ _ _ _ _ _ _ _ _ _ _ _ _ _ _ _ _ _ _ ?kB ?kF ?kX ?kN ?kT ?kc ?kd ?ku ?_; (case kB => k_asm); (case kF => k_asm); (case kX => k_asm); (case kN => k_asm); (case kT => k_asm); (case kc => first | assumption | rfl); (case kd => ktr_room); (case ku => ktr_units); intro t' h' tk' F' N'; (try dsimp only); (try k_sweep)))
local macro_rules | `(tactic| walk_at "call ref cons nil") => `(tactic| (k_here; (with_reducible show wpAny _ _ (call (Value.ref 400) [Value.int _ _, Value.int _ _]) _ _ _); refine' Mine.range_call _ _ _ _ _ ?h0 ?h1 _ _ _ _ _ _ _ _ _ _ _ _ _ _ _ _ _ _ _ _ _ _ _ ?kB ?kF ?kX ?kN ?kT ?kc ?kd ?ku ?_; (case h0 => omega); (case h1 => omega); (case kB => k_asm); (case kF => k_asm); (case kX => k_asm); (case kN => k_asm); (case kT => k_asm); (case kc => first | assumption | rfl); (case kd => ktr_room); (case ku => ktr_units); intro T' t1' h' tk' F' N' l1; (try dsimp only); (try k_lt l1); (try k_sweep)))
local macro_rules | `(tactic| walk_at "binaryOp Add ref int") => `(tactic| (k_here; (refine' Mine.day_add ?kF ?kX ?k0 ?k1 ?_; (case kF => k_asm); (case kX => k_asm); (case k0 => exact (Mine.wd1_range _ _).1); (case k1 => exact (Mine.wd1_range _ _).2)); intro t' tk'; (try dsimp only)))
local macro_rules | `(tactic| walk_at "binaryOp Add int bool") => `(tactic| (k_here; (refine Mine.add_bi ?_); intro t' tk'; (try dsimp only)))
local macro_rules | `(tactic| walk_at "eval BoolOp And cons") => `(tactic| (k_here; (fail_if_success (have hM9 : Mine.Inside := by with_reducible assumption)); (refine Mine.Stop.out ?_)))
local macro_rules | `(tactic| walk_at "call ref cons nil") => `(tactic| (k_here; (with_reducible show wpAny _ _ (call (Value.ref _) [Value.int _ _, Value.int _ _, Value.int _ _]) _ _ _); refine' Mine.ymd_at ?kB ?kF ?kX ?kN ?kq ?h0 ?h1 ?kT ?kc ?kd ?ku ?_; (case kB => k_asm); (case kF => k_asm); (case kX => k_asm); (case kN => k_asm); (case kq => k_mem); (case h0 => omega); (case h1 => omega); (case kT => k_asm); (case kc => first | assumption | rfl); (case kd => ktr_room); (case ku => ktr_units); intro t' h' tk' F' N'; (try dsimp only); (try k_sweep)))
local macro_rules | `(tactic| walk_at "getMethod ref") => `(tactic| (k_here; (refine' Mine.ymd_get ?k1 ?k2 ?k3 ?k4 ?_; (case k1 => k_asm); (case k2 => k_asm); (case k3 => k_asm); (case k4 => k_inst)); intro q' h' tk' F' N' l1; (try dsimp only); (try k_lt l1); (try k_sweep)))
theorem epoch_call : ∀ (w : World) (x dx : Addr) (y mo wk d hh mi se : Int) (ty tmo twk td th tm ts : Tok) (md : Int), 1 ≤ mo → mo ≤ 12 →
    md = (if (d - (wd1 y mo + 1)).fmod 7 + 1 + (wk - 1) * 7 > (nlen (leapB y) (mo - 1).toNat : Int) then (d - (wd1 y mo + 1)).fmod 7 + 1 + (wk - 1) * 7 - 7 else (d - (wd1 y mo + 1)).fmod 7 + 1 + (wk - 1) * 7) →
    Call1 5 w 434 [.ref x, .int y ty] (fun h₀ L m news s Q => (x, ({ cls := Value.ref 438, dict := some dx, slots := #[some (.int d td), some (.int hh th), some (.int mo tmo), some (.int mi tm), some (.int se ts), some (.int wk twk)] } : Obj)) ∈ news ∧ (dx, dictOf [] 0) ∈ news ∧ (∀ t h' tk', Fr h₀ L h' m → News h₀ L h' news → Q (.int ((gY y - 719163 + dbm (leapB y) mo + md) * 86400 + (hh * 3600 + mi * 60 + se)) t) { s with heap := h', toks := tk' })) := by
  unfold Call1
  k_fill
  intro w x dx y mo wk d hh mi se ty tmo twk td th tm ts md hm0 hm1 hmd p loose mean mg mb news dp un gd cn cs a ccd cl outer A₀ base h₀ L m s Q E B F X N T hcs hdp hun hret
  obtain ⟨hx, hdx, hret⟩ := hret
  have N2 : News h₀ L s.heap ((x, ({ cls := Value.ref 438, dict := some dx, slots := #[some (.int d td), some (.int hh th), some (.int mo tmo), some (.int mi tm), some (.int se ts), some (.int wk twk)] } : Obj)) :: (dx, dictOf [] 0) :: news) := fun p hp => by
    rcases List.mem_cons.mp hp with rfl | hp
    · exact N _ hx
    rcases List.mem_cons.mp hp with rfl | hp
    · exact N _ hdx
    · exact N _ hp
  clear N
  refine wpAny_call ?_
  cell_enter
  repeat' (first | (k_unfold; (try dsimp only)) | (k_end; wrow_close) | (dsimp only; walk1) | walk1 | (leave1; walk_say "STEP leave1"; try dsimp only) | fail "no step")
  all_goals (rename Fr h₀ L _ m => FZ; rename News h₀ L _ (_ :: _) => NZ)
  · refine q_int (hret _ _ _ FZ (kst_newsOf NZ fun p hp => by simp [hp])) ?_
    rw [hmd, if_pos (by assumption)]
  · refine q_int (hret _ _ _ FZ (kst_newsOf NZ fun p hp => by simp [hp])) ?_
    rw [hmd, if_neg (by assumption)]
theorem epoch_at {w : World} {x dx : Addr} {y mo wk d hh mi se : Int} {ty tmo twk td th tm ts : Tok} {md : Int} {p : Program} {loose : List Str} {mean : ExcName → Option Value} {mg mb : Str → Option Value} {news : List (Addr × Obj)} {dp un : Nat} {gd : Option (List Code)} {cn : Str} {cs : Scope} {a : Addr} {ccd : Value} {cl : List (Str × Addr)} {outer : List Env} {A₀ : Around} {base h₀ : Heap} {L : Addr} {m : Str → Option Value} {s : Shared} {Q E : Value → Shared → Prop}
    (B : Below A₀ base outer h₀) (F : Fr h₀ L s.heap m) (X : (heapK w.params).In h₀) (N : News h₀ L s.heap news) (T : Top p loose mean mg mb h₀) (hcs : cs.kind = .function) (hdp : dp + 5 < recursionLimit) (hun : un + 30 * 5 < cLine)
    (hx : (x, ({ cls := Value.ref 438, dict := some dx, slots := #[some (.int d td), some (.int hh th), some (.int mo tmo), some (.int mi tm), some (.int se ts), some (.int wk twk)] } : Obj)) ∈ news) (hdx : (dx, dictOf [] 0) ∈ news) (hm0 : 1 ≤ mo) (hm1 : mo ≤ 12)
    (hmd : md = (if (d - (wd1 y mo + 1)).fmod 7 + 1 + (wk - 1) * 7 > (nlen (leapB y) (mo - 1).toNat : Int) then (d - (wd1 y mo + 1)).fmod 7 + 1 + (wk - 1) * 7 - 7 else (d - (wd1 y mo + 1)).fmod 7 + 1 + (wk - 1) * 7))
    (hret : ∀ t h' tk', Fr h₀ L h' m → News h₀ L h' news → Q (.int ((gY y - 719163 + dbm (leapB y) mo + md) * 86400 + (hh * 3600 + mi * 60 + se)) t) { s with heap := h', toks := tk' }) :
    wpAny (model PySem.Challenge.rw_dn0012_02.row.prog w) (ktrTop dp un gd cn cs L a ccd cl outer) (call (.ref 434) [.ref x, .int y ty]) Q E s :=
  epoch_call w x dx y mo wk d hh mi se ty tmo twk td th tm ts md hm0 hm1 hmd p loose mean mg mb news dp un gd cn cs a ccd cl outer A₀ base h₀ L m s Q E B F X N T hcs hdp hun ⟨hx, hdx, hret⟩
end Mine
end
section
namespace Mine
local macro_rules | `(tactic| walk_at "call ref cons nil") => `(tactic| (k_here; (with_reducible show wpAny _ _ (call (Value.ref 460) [Value.int _ _]) _ _ _); refine' Mine.is_leap_call _ _ _ _ _ _ _ _ _ _ _ _ _ _ _ _ _ _ _ _ _ _ _ _ _ _ ?kB ?kF ?kX ?kN ?kT ?kc ?kd ?ku ?_; (case kB => k_asm); (case kF => k_asm); (case kX => k_asm); (case kN => k_asm); (case kT => k_asm); (case kc => first | assumption | rfl); (case kd => ktr_room); (case ku => ktr_units); intro h' tk' F' N'; (try dsimp only); (try k_sweep)))
local macro_rules | `(tactic| walk_at "call ref cons nil") => `(tactic| (k_here; (with_reducible show wpAny _ _ (call (Value.ref 474) [Value.int _ _, Value.int _ _]) _ _ _); refine' Mine.dim_call _ _ _ _ _ _ ?h0 ?h1 rfl _ _ _ _ _ _ _ _ _ _ _ _ _ _ _ _ _ _ _ _ _ _ _ ?kB ?kF ?kX ?kN ?kT ?kc ?kd ?ku ?_; (case h0 => omega); (case h1 => omega); (case kB => k_asm); (case kF => k_asm); (case kX => k_asm); (case kN => k_asm); (case kT => k_asm); (case kc => first | assumption | rfl); (case kd => ktr_room); (case ku => ktr_units); intro t' h' tk' F' N'; (try dsimp only); (try k_sweep)))
local macro_rules | `(tactic| walk_at "subscriptTail Name Name ref int") => `(tactic| (k_here; (refine' Mine.topInt ?kF ?kX ?kl ?ki ?kv ?k0 ?k1 ?kf ?_; (case kF => k_asm); (case kX => k_asm); (case kl => k_dflt k_is); (case kv => assumption); (case ki => repeat (first | exact IntsAre.nil | refine IntsAre.cons _ _ ?_)); (case k0 => omega); (case k1 => (simp only [List.length_cons, List.length_nil]; omega)); (case kf => omega); intro t')))
local macro_rules | `(tactic| walk_at "binaryOp Add int bool") => `(tactic| (k_here; (refine Mine.add_bi ?_); intro t' tk'; (try dsimp only)))
local macro_rules | `(tactic| walk_at "eval BoolOp And cons") => `(tactic| (k_here; (fail_if_success (have hM9 : Mine.Inside := by with_reducible assumption)); (refine Mine.Stop.out ?_)))
theorem dby_call : ∀ (w : World) (y : Int) (ty : Tok), Call1 1 w 467 [.int y ty] (fun h₀ L m news s Q => ∀ t h' tk', Fr h₀ L h' m → News h₀ L h' news → Q (.int (gY y) t) { s with heap := h', toks := tk' }) := by
  unfold Call1
  k_fill
  intro w y ty p loose mean mg mb news dp un gd cn cs a ccd cl outer A₀ base h₀ L m s Q E B F X N T hcs hdp hun hret
  refine wpAny_call ?_
  cell_enter
  repeat' (first | (k_unfold; (try dsimp only)) | (k_end; wrow_close) | (dsimp only; walk1) | walk1 | (leave1; walk_say "STEP leave1"; try dsimp only) | fail "no step")
  exact hret _ _ _ (by assumption) (by assumption)
theorem dbm_call : ∀ (w : World) (y mo : Int) (ty tm : Tok), 1 ≤ mo → mo ≤ 12 → Call1 2 w 481 [.int y ty, .int mo tm] (fun h₀ L m news s Q => ∀ t h' tk', Fr h₀ L h' m → News h₀ L h' news → Q (.int (dbm (leapB y) mo) t) { s with heap := h', toks := tk' }) := by
  unfold Call1
  k_fill
  intro w y mo ty tm hm0 hm1 p loose mean mg mb news dp un gd cn cs a ccd cl outer A₀ base h₀ L m s Q E B F X N T hcs hdp hun hret
  obtain ⟨D, hD⟩ : ∃ D, dbmL.getD mo.toNat 0 = D := ⟨_, rfl⟩
  refine wpAny_call ?_
  cell_enter
  repeat' (first | (k_unfold; (try dsimp only)) | (k_end; wrow_close) | (dsimp only; walk1) | walk1 | (leave1; walk_say "STEP leave1"; try dsimp only) | fail "no step")
  refine Stop.into ?_
  rename Fr _ _ _ _ => F9
  rename News _ _ _ _ => N9
  refine bool_valH (decide (2 < mo) && leapB y) F9 N9 ?_ ?_
  · have hInside := Inside.mk
    repeat' (first | (k_unfold; (try dsimp only)) | (k_end; wrow_close) | (dsimp only; walk1) | walk1 | (leave1; walk_say "STEP leave1"; try dsimp only) | fail "no step")
    · refine BoolEndH.mk (by k_asm) (by k_asm) ?_
      have h2 : 2 < mo := by omega
      simp [h2]
    · refine BoolEndH.mk (by k_asm) (by k_asm) ?_
      have h2 : ¬ 2 < mo := by omega
      simp [h2]
  intro h9 tk9 F8 N8
  clear F9 N9
  dsimp only
  repeat' (first | (k_unfold; (try dsimp only)) | (k_end; wrow_close) | (dsimp only; walk1) | walk1 | (leave1; walk_say "STEP leave1"; try dsimp only) | fail "no step")
  rename Fr h₀ L _ m => FZ
  rename News h₀ L _ _ => NZ
  refine q_int (hret _ _ _ FZ NZ) ?_
  unfold dbm
  rw [hD]
local macro_rules | `(tactic| walk_at "call ref cons nil") => `(tactic| (k_here; (with_reducible show wpAny _ _ (call (Value.ref 467) [Value.int _ _]) _ _ _); refine' Mine.dby_call _ _ _ _ _ _ _ _ _ _ _ _ _ _ _ _ _ _ _ _ _ _ _ _ _ _ ?kB ?kF ?kX ?kN ?kT ?kc ?kd ?ku ?_; (case kB => k_asm); (case kF => k_asm); (case kX => k_asm); (case kN => k_asm); (case kT => k_asm); (case kc => first | assumption | rfl); (case kd => ktr_room); (case ku => ktr_units); intro t' h' tk' F' N'; (try dsimp only); (try k_sweep)))
local macro_rules | `(tactic| walk_at "call ref cons nil") => `(tactic| (k_here; (with_reducible show wpAny _ _ (call (Value.ref 481) [Value.int _ _, Value.int _ _]) _ _ _); refine' Mine.dbm_call _ _ _ _ _ ?h0 ?h1 _ _ _ _ _ _ _ _ _ _ _ _ _ _ _ _ _ _ _ _ _ _ _ ?kB ?kF ?kX ?kN ?kT ?kc ?kd ?ku ?_; (case h0 => omega); (case h1 => omega); (case kB => k_asm); (case kF => k_asm); (case kX => k_asm); (case kN => k_asm); (case kT => k_asm); (case kc => first | assumption | rfl); (case kd => ktr_room); (case ku => ktr_units); intro t' h' tk' F' N'; (try dsimp only); (try k_sweep)))
theorem toord_call : ∀ (w : World) (y mo da : Int) (ty tm td : Tok), 1 ≤ mo → mo ≤ 12 → 1 ≤ da → da ≤ (nlen (leapB y) (mo - 1).toNat : Int) → Call1 4 w 488 [.int y ty, .int mo tm, .int da td] (fun h₀ L m news s Q => ∀ t h' tk', Fr h₀ L h' m → News h₀ L h' news → Q (.int (gY y + dbm (leapB y) mo + da) t) { s with heap := h', toks := tk' }) := by
  unfold Call1
  k_fill
  intro w y mo da ty tm td hm0 hm1 hd0 hd1 p loose mean mg mb news dp un gd cn cs a ccd cl outer A₀ base h₀ L m s Q E B F X N T hcs hdp hun hret
  refine wpAny_call ?_
  cell_enter
  repeat' (first | (k_unfold; (try dsimp only)) | (k_end; wrow_close) | (dsimp only; walk1) | walk1 | (leave1; walk_say "STEP leave1"; try dsimp only) | fail "no step")
  exact hret _ _ _ (by assumption) (by assumption)
end Mine
end
theorem Mine.list_item {prog : Program} {w : World} {A : Around} {E : Value → Shared → Prop} {s : Shared} {h₀ : Heap} {L l : Addr} {value slice : PySem.Expr} {news : List (Addr × Obj)} {us : List Value} {n : Nat} {k : Int} {v : Value} {u : Tok} {Q : Value → Shared → Prop} (N : News h₀ L s.heap news) (hm : (l, ({ cls := .type "list", data := .seq us.toArray n } : Obj)) ∈ news)
    (hx : us[k.toNat]? = some v) (h0 : 0 ≤ k) (hfit : k < 2 ^ 63) (h : Q v s)
    (hs : subscripted slice false (.ref l) (.int k u) = operate [.ref l, .int k u] (getItem (.ref l) (.int k u)) := by with_unfolding_all rfl) :
    wpAny (model prog w) A (subscriptTail value slice (.ref l) (.int k u)) Q E s := by
  have hl : s.heap.IsList l us.toArray := ⟨_, (N _ hm).1, rfl, n, rfl⟩
  exact tail_any hl.typeIs slot_list_getitem.lookup (wpAny_getItem_list hl h0 hfit (by simpa using hx) h) hs
theorem Mine.news_cons {h₀ h : Heap} {L : Addr} {l : List (Addr × Obj)} {p : Addr × Obj} (hp : p ∈ l) (N : News h₀ L h l) : News h₀ L h (p :: l) := fun q hq => by
  rcases List.mem_cons.mp hq with rfl | hq
  · exact N _ hp
  · exact N _ hq
local macro_rules | `(tactic| walk_at "subscriptTail BinOp Call Add BinOp Slice ref ref") => `(tactic| (k_here; (refine kba_turn (value' := PySem.Expr.Name (PySem.Str.ofString "_") ⟨0, 0, 0, 0⟩) (fun _ => rfl) ?_)))
local macro_rules | `(tactic| walk_at "compareOp In int ref") => `(tactic| (k_here; (with_reducible show wpAny _ _ (compareOp CmpOp.In (Value.int _ _) (Value.ref _)) _ _ _); (rename IsRange _ _ _ _ _ _ _ _ => hR9); (refine Mine.in_range hR9 ?_); (try clear hR9)))
local macro_rules | `(tactic| walk_at "leaving ref") => `(tactic| (k_here; (refine' leave_raiseK ?k1 (Heap.MadeExc.of (by assumption)) ?k2 ?k3 ?_; (case k1 => assumption); (case k2 => assumption); (case k3 => k_asm); k_whole; intro h' t' R' U'; (try dsimp only [InitBack] at R' U' ⊢))))
local macro_rules | `(tactic| walk_at "call type:range") => `(tactic| (k_here; (with_reducible show wpAny _ _ (call (Value.type "range") [Value.int _ _, Value.int _ _]) _ _ _); (refine' range2_rows ?k1 ?k2 ?_; (case k1 => k_asm); (case k2 => k_asm); k_whole); intro h' tk' t' u' v' R' F' N' G'; (try clear G'); (try k_sweep)))
local macro_rules | `(tactic| walk_at "exec Assign cons ListComp") => `(tactic| (k_here; (refine Mine.Stop.out ?_)))
local macro_rules | `(tactic| walk_at "call ref cons nil") => `(tactic| (k_here; (with_reducible show wpAny _ _ (call (Value.ref 502) [Value.int _ _]) _ _ _); refine' Mine.days_call _ _ _ _ _ _ _ _ _ _ _ _ _ _ _ _ _ _ _ _ _ _ _ _ _ _ ?kB ?kF ?kX ?kN ?kT ?kc ?kd ?ku ?_; (case kB => k_asm); (case kF => k_asm); (case kX => k_asm); (case kN => k_asm); (case kT => k_asm); (case kc => first | rfl | assumption); (case kd => ktr_room); (case ku => ktr_units); intro D' vs' cap' tl' h' tk' F' N' hD' hO' l1; (try dsimp only); (try k_lt l1)))
local macro_rules | `(tactic| walk_at "CompSrcT") => `(tactic| (refine Mine.Stop.out ?_))
local macro_rules | `(tactic| walk_at "KeepEnd") => `(tactic| (fail "stop"))
local macro_rules | `(tactic| walk_at "eval BoolOp And cons") => `(tactic| (k_here; (fail_if_success (have hM9 : Mine.Inside := by with_reducible assumption)); (refine Mine.Stop.out ?_)))
local macro_rules | `(tactic| walk_at "call type:range") => `(tactic| (k_here; (with_reducible show wpAny _ _ (call (Value.type "range") [Value.int _ _]) _ _ _); (refine' range1_rows ?k1 ?k2 ?_; (case k1 => k_asm); (case k2 => k_asm); k_whole); intro h' tk' t' u' v' R' F' N' G'; (try clear G'); (try k_sweep)))
local macro_rules | `(tactic| walk_at "exec Try cons cons nil nil") => `(tactic| (k_here; refine wpAny_Try_except ?_))
local macro_rules | `(tactic| walk_at "noteFrame ref") => `(tactic| (k_here; (rename RaisedK _ _ _ _ _ _ _ _ => rkX); (refine' Mine.caughtE (T' := "ValueError") ?K ?F ?U ?R ?X ?T PyProof.Rows.Boot.«ValueError» ?no ?n PySem.F.isExc_ValueError PySem.F.notTuple_ValueError ?sub ?a ?b ?c ?d ?e ?f ?E ?_; (case K => assumption); (case F => assumption); (case U => assumption); (case R => exact rkX); (case X => k_asm); (case T => k_asm); (case no => k_is); (case n => decide); (case sub => (rw [isSubtype_type]; kernel_rfl)); (case a => rfl); (case b => rfl); (case c => rfl); (case d => rfl); (case e => rfl); (case f => decide); (case E => passes_own)); intro h' F' N'; (try k_sweep)))
local macro_rules | `(tactic| walk_at "subscriptTail Name Constant ref int") => `(tactic| (k_here; (refine' item_tupleT ?t ?a ?b ?c ?d ?_; (case t => exact News.isTup (by k_asm) (by k_mem)); (case a => decide); (case b => decide); (case c => rfl); (case d => rfl); k_whole)))
local macro_rules | `(tactic| walk_at "call ref cons nil") => `(tactic| (k_here; (with_reducible show wpAny _ _ (call (Value.ref 434) [Value.ref _, Value.int _ _]) _ _ _); refine' Mine.epoch_at ?kB ?kF ?kX ?kN ?kT ?kc ?kd ?ku ?hx ?hdx ?h0 ?h1 ?hm ?_; (case kB => k_asm); (case kF => k_asm); (case kX => k_asm); (case kN => k_asm); (case kT => k_asm); (case kc => first | rfl | assumption); (case hx => k_mem); (case hdx => k_mem); (case h0 => omega); (case h1 => omega); (case hm => assumption); (case kd => ktr_room); (case ku => ktr_units); intro t' h' tk' F' N'; (try dsimp only); (try k_sweep)))
local macro_rules | `(tactic| walk_at "call ref cons nil") => `(tactic| (k_here; (with_reducible show wpAny _ _ (call (Value.ref 488) [Value.int _ _, Value.int _ _, Value.int _ _]) _ _ _); refine' Mine.toord_call _ _ _ _ _ _ _ ?h0 ?h1 ?h2 ?h3 _ _ _ _ _ _ _ _ _ _ _ _ _ _ _ _ _ _ _ _ _ _ _ ?kB ?kF ?kX ?kN ?kT ?kc ?kd ?ku ?_; (case h0 => omega); (case h1 => omega); (case h2 => assumption); (case h3 => assumption); (case kB => k_asm); (case kF => k_asm); (case kX => k_asm); (case kN => k_asm); (case kT => k_asm); (case kc => first | rfl | assumption); (case kd => ktr_room); (case ku => ktr_units); intro t' h' tk' F' N'; (try dsimp only); (try k_sweep)))
local macro_rules | `(tactic| walk_at "subscriptTail Name BinOp ref int") => `(tactic| (k_here; (refine' Mine.list_item ?kN ?km ?kx ?k0 ?kf ?_; (case kN => k_asm); (case km => k_mem); (case kx => exact (‹¬ (_ : Int) = 5 → _›) (by assumption)); (case k0 => omega); (case kf => omega); k_whole)))
local macro_rules | `(tactic| walk_at "subscriptTail Name UnaryOp ref int") => `(tactic| (k_here; (refine' Mine.list_last ?kN ?km ?kx ?_; (case kN => k_asm); (case km => k_mem); (case kx => exact (‹(_ : Int) = 5 → _›) (by assumption)); k_whole)))
local macro_rules | `(tactic| walk_at "eval IfExp") => `(tactic| (k_here; (fail_if_success (have hM9 : Mine.Inside := by with_reducible assumption)); (refine Mine.Stop.out ?_)))
local macro_rules | `(tactic| wrow_close) => `(tactic| (w_end; (with_reducible show GoodW _ _ _ _ _ (.ok (.ret (.bool _))) _); refine goodW_bool (by assumption) (by assumption) (Mine.no_raise _) (Mine.post_true _ ?_); first | (with_reducible rfl) | exact decide_eq_true (by omega) | (simp only [Bool.not_eq_true', decide_eq_false_iff_not]; omega) | (exfalso; omega)))
theorem PySem.Challenge.cw_dn0012_02_holds : PySem.Challenge.rw_dn0012_02.Holds := by
  w_on
  o_law
  rename_i hsaid
  refine holds_open (q := Mine.view) (loose := [Str.ofString "EPOCHORDINAL", Str.ofString "IllegalMonthError", Str.ofString "Month", Str.ofString "Day", Str.ofString "JANUARY", Str.ofString "FEBRUARY", Str.ofString "MARCH", Str.ofString "APRIL", Str.ofString "MAY", Str.ofString "JUNE", Str.ofString "JULY", Str.ofString "AUGUST", Str.ofString "SEPTEMBER", Str.ofString "OCTOBER", Str.ofString "NOVEMBER", Str.ofString "DECEMBER", Str.ofString "MONDAY", Str.ofString "TUESDAY", Str.ofString "WEDNESDAY", Str.ofString "THURSDAY", Str.ofString "FRIDAY", Str.ofString "SATURDAY", Str.ofString "SUNDAY", Str.ofString "_days", Str.ofString "mdays", Str.ofString "_CalendarOffset", Str.ofString "_DAYS_IN_MONTH", Str.ofString "_DAYS_BEFORE_MONTH"])
    (Xt := fun s => xlAt Mine.view [(Str.ofString "EPOCHORDINAL", WData.int 719163)] s && recOk (RowW.records PySem.Challenge.rw_dn0012_02.row.toRowW) s)
    (XP := XL Mine.view [(Str.ofString "EPOCHORDINAL", WData.int 719163)])
    (Yf := Hook.obs (kHook Mine.heapK Mine.heapA (fun _ => by kernel_rfl))) (Ya := Hook.val (kHook Mine.heapK Mine.heapA (fun _ => by kernel_rfl))) (YP := Hook.says (kHook Mine.heapK Mine.heapA (fun _ => by kernel_rfl))) (N := 14860)
    ?hl (Hook.of _) (Hook.keeps _) (fun s e => xl_of s (Bool.and_eq_true_iff.mp e).1) XL.keeps (by rfl) (by rfl) (by rfl) (fun s e => recFacts_of (Bool.and_eq_true_iff.mp e).2) (by rfl) (by first | assumption | decide +kernel) (by decide +kernel) ⟨rfl, rfl, rfl, rfl, rfl, by decide +kernel⟩ ?hw ?hc
  case hl => exact Mine.left_of "special-get-raises" Mine.ends_f Mine.ends_t
  case hw => w_witness2
  case' hc => skip
  clear hsaid
  k_go0
  (all_goals try k_fold)
  k_steps
  rename IntsAre _ (List.take 7 _) => hT5
  obtain ⟨year, a, b, c, hour, minute, second, ty, ta, tb, tc, th, tm, ts, rfl⟩ := Mine.ints7 hT5
  clear hT5
  rename Fr _ _ _ _ => F9
  rename News _ _ _ _ => N9
  with_unfolding_all refine' Mine.unpackX (xs := [(Str.ofString "year", _), (Str.ofString "a", _), (Str.ofString "b", _), (Str.ofString "c", _), (Str.ofString "hour", _), (Str.ofString "minute", _), (Str.ofString "second", _)]) F9 N9 ?k3 ?k4 ?k5 ?k6 ?k7 ?k8 ?k9 ?_
  case k3 => exact News.isList N9 (by k_mem)
  case k4 => exact rfl
  case k5 => exact rfl
  case k6 => exact rfl
  case k7 => exact rfl
  case k8 => exact rfl
  case k9 => exact rfl
  intro m9 h' tk' F' N'
  dsimp only [Mine.updN] at F'
  clear F9 N9
  rename CellsAre _ _ _ => hX0
  clear hX0
  rename _ = Data.cell (bindC _ _ _ _) => right
  refine Mine.cell_any right ?_
  clear right
  intro v9 right
  rename _ = Data.cell (bindC _ _ _ _) => left
  refine Mine.cell_any left ?_
  clear left
  intro v8 left
  dsimp only
  repeat' (first | (k_unfold; (try dsimp only)) | (k_end; wrow_close) | (dsimp only; walk1) | walk1 | (leave1; walk_say "STEP leave1"; try dsimp only) | fail "no step")
  refine Mine.Stop.into ?_
  rename Fr _ _ _ _ => F9
  rename News _ _ _ _ => N9
  have N8 := kst_newsOf N9 (l' := [_, _]) (fun p hp => by
    rcases List.mem_cons.mp hp with h | hp
    · exact List.mem_cons.mpr (.inr (List.mem_cons.mpr (.inr (List.mem_cons.mpr (.inr (List.mem_cons.mpr (.inr (List.mem_cons.mpr (.inr (List.mem_cons.mpr (.inr (List.mem_cons.mpr (.inl h)))))))))))))
    rcases List.mem_cons.mp hp with h | hp
    · exact List.mem_cons.mpr (.inr (List.mem_cons.mpr (.inr (List.mem_cons.mpr (.inr (List.mem_cons.mpr (.inr (List.mem_cons.mpr (.inr (List.mem_cons.mpr (.inr (List.mem_cons.mpr (.inr (List.mem_cons.mpr (.inl h)))))))))))))))
    · exact nomatch hp)
  clear N9
  have hm0 := fmod_lo (a + 1) (n := 14) (by decide)
  have hm1 := fmod_hi (a + 1) (n := 14) (by decide)
  have hw0 := fmod_lo (b + 1) (n := 7) (by decide)
  have hw1 := fmod_hi (b + 1) (n := 7) (by decide)
  have hd0 := fmod_lo (c + 1) (n := 9) (by decide)
  have hd1 := fmod_hi (c + 1) (n := 9) (by decide)
  generalize (a + 1).fmod 14 = mo at *
  generalize (b + 1).fmod 7 = wk at *
  generalize (c + 1).fmod 9 = d1 at *
  generalize hdd : d1 - 1 = dd at *
  have hInside := Mine.Inside.mk
  refine Mine.bool_valH (decide ((1 ≤ mo ∧ mo ≤ 12) ∧ (1 ≤ wk ∧ wk ≤ 5) ∧ (0 ≤ dd ∧ dd ≤ 6))) F9 N8 ?_ ?_
  · repeat' (first | (k_unfold; (try dsimp only)) | (k_end; wrow_close) | (dsimp only; walk1) | walk1 | (leave1; walk_say "STEP leave1"; try dsimp only) | fail "no step")
    · refine Mine.BoolEndH.mk (by k_asm) (by k_asm) (decide_eq_decide.mpr ?_)
      omega
    · refine Mine.BoolEndH.mk (by k_asm) (by k_asm) (decide_eq_decide.mpr ?_)
      omega
    · refine Mine.BoolEndH.mk (by k_asm) (by k_asm) (decide_eq_decide.mpr ?_)
      omega
  clear F9 N8
  intro h9 tk9 F9 N9
  clear hInside
  repeat' (first | (k_unfold; (try dsimp only)) | (k_end; wrow_close) | (dsimp only; walk1) | walk1 | (leave1; walk_say "STEP leave1"; try dsimp only) | fail "no step")
  refine Mine.Stop.into ?_
  rename Fr _ _ _ _ => F7
  rename News _ _ _ _ => N7
  refine LCt.Assign_ListComp_T (F₀ := F7) (by rfl) (by with_unfolding_all rfl) (by with_unfolding_all rfl) (by decide) (by rfl) (by decide) (by rfl) (by rfl) (by rfl) ?_
  repeat' (first | (k_unfold; (try dsimp only)) | (k_end; wrow_close) | (dsimp only; walk1) | walk1 | (leave1; walk_say "STEP leave1"; try dsimp only) | fail "no step")
  refine Mine.Stop.into ?_
  clear F7 N7
  rename Fr _ _ _ _ => F6
  rename News _ _ _ _ => N6
  rename DatAll _ _ _ => hDat
  rename OwnOff _ _ => hOff
  have hlen := hDat.length
  rw [Mine.datOf_length] at hlen
  have hl366 := Mine.outer_length (Mine.leapB year) 12 (by decide)
  refine LCt.CompSrcT.ledger (by rfl) F6 N6 (List.mem_cons_self ..) (by rw [List.size_toArray, PySem.sizeLine_eq]; omega) ?_
  intro g'
  refine Mine.keep_rest (Mine.keep2 mo dd) hDat (List.size_toArray ..).symm (.inr ⟨_, List.mem_cons_self .., rfl, _, rfl⟩) ?_ ?_
  · intro i v d I oI C oC DD m₂ ys h tk E' hdi hin hC hx F N off ne
    obtain ⟨p, hp, rfl⟩ := Mine.datOf_get hdi
    obtain ⟨T, t1, t2, t3, t4, nn, rfl, hT⟩ := Mine.dat_tup4 hin
    have N2 := Mine.news_cons (List.mem_cons_of_mem _ (List.mem_cons_of_mem _ (List.mem_cons_of_mem _ (List.mem_cons_of_mem _ (List.mem_append.mpr (.inr hT)))))) N
    clear N N6 F6
    repeat' (first | (k_unfold; (try dsimp only)) | (k_end; wrow_close) | (dsimp only; walk1) | walk1 | (leave1; walk_say "STEP leave1"; try dsimp only) | fail "no step")
    all_goals (rename Fr _ _ _ _ => FZ; rename News _ _ _ _ => NZ)
    · exact Mine.KeepEnd.mk (Mine.keep2_t (by assumption) (by assumption)) FZ NZ (fun q hq => List.mem_cons_of_mem _ hq)
    · exact Mine.KeepEnd.mk (Mine.keep2_g (by assumption)) FZ NZ (fun q hq => List.mem_cons_of_mem _ hq)
    · exact Mine.KeepEnd.mk (Mine.keep2_f (by assumption)) FZ NZ (fun q hq => List.mem_cons_of_mem _ hq)
  · intro ys hys
    unfold LCg.FinA
    intro DD h5 tk5 F5 N5 o5
    clear F6 N6
    dsimp only
    obtain ⟨i, da, c1, hmd, c2, c3, c4⟩ := Mine.fits_at year mo wk dd (by omega) (by omega) ⟨by omega, by omega⟩ (by omega) (by omega)
    have hl5 := Mine.fits_len year mo dd (by omega) (by omega) ⟨by omega, by omega⟩
    change DatAll _ ys (Mine.fitsL year mo dd) at hys
    have hyl : ys.length = (Mine.fitsL year mo dd).length := hys.length
    rw [← hyl] at c1 hl5
    obtain ⟨k, hk, hkk⟩ : ∃ k : Nat, (Mine.fitsL year mo dd)[k]? = some (Mine.dayD (Mine.yearStart year).2 (Mine.yearStart year).1 i (mo, da)) ∧ k = if wk = 5 then ys.length - 1 else (wk - 1).toNat := by
      by_cases h5 : wk = 5
      · rw [if_pos h5] at c1; exact ⟨_, c1, by rw [if_pos h5]⟩
      · rw [if_neg h5] at c1; exact ⟨_, c1, by rw [if_neg h5]⟩
    obtain ⟨hkl, hke⟩ := List.getElem?_eq_some_iff.mp hk
    obtain ⟨v, hv, hin⟩ := hys.get hkl
    rw [hke] at hin
    obtain ⟨T, t1, t2, t3, t4, nn, rfl, hT⟩ := Mine.dat_tup4 hin
    rw [Mine.year_num] at hT
    simp only [List.cons_append, List.nil_append] at N5
    have N6 := Mine.news_cons (List.mem_cons_of_mem _ (List.mem_cons_of_mem _ (List.mem_cons_of_mem _ (List.mem_cons_of_mem _ (List.mem_cons_of_mem _ (List.mem_cons_of_mem _ hT)))))) N5
    have N7 := kst_newsOf N6 (l' := [_, _, _, _]) (fun p hp => by
      rcases List.mem_cons.mp hp with h | hp
      · exact List.mem_cons.mpr (.inl h)
      rcases List.mem_cons.mp hp with h | hp
      · exact List.mem_cons.mpr (.inr (List.mem_cons.mpr (.inl h)))
      rcases List.mem_cons.mp hp with h | hp
      · exact List.mem_cons.mpr (.inr (List.mem_cons.mpr (.inr (List.mem_cons.mpr (.inr (List.mem_cons.mpr (.inl h)))))))
      rcases List.mem_cons.mp hp with h | hp
      · exact List.mem_cons.mpr (.inr (List.mem_cons.mpr (.inr (List.mem_cons.mpr (.inr (List.mem_cons.mpr (.inr (List.mem_cons.mpr (.inl h)))))))))
      · exact nomatch hp)
    clear N5 N6 o5 hDat hOff hys hin hT c1 hkl hke hk hlen hl366
    have hi0 : 0 ≤ (i : Int) := by omega
    unfold Mine.mday at hmd
    repeat' (first | (k_unfold; (try dsimp only)) | (k_end; wrow_close) | (dsimp only; walk1) | walk1 | (leave1; walk_say "STEP leave1"; try dsimp only) | fail "no step")
    refine Mine.Stop.into ?_
    have hInside := Mine.Inside.mk
    have hA : wk = 5 → ys[ys.length - 1]? = some (Value.ref T) := fun h => by rw [hkk, if_pos h] at hv; exact hv
    have hB : ¬ wk = 5 → ys[(wk - 1).toNat]? = some (Value.ref T) := fun h => by rw [hkk, if_neg h] at hv; exact hv
    clear hkk hv
    refine Mine.val_is (.ref T) ?_ ?_
    · repeat' (first | (k_unfold; (try dsimp only)) | (k_end; wrow_close) | (dsimp only; walk1) | walk1 | (leave1; walk_say "STEP leave1"; try dsimp only) | fail "no step")
      all_goals exact Mine.ValEnd.mk
    clear hA hB hInside
    intro tk8
    repeat' (first | (k_unfold; (try dsimp only)) | (k_end; wrow_close) | (dsimp only; walk1) | walk1 | (leave1; walk_say "STEP leave1"; try dsimp only) | fail "no step")
