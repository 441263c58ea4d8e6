import PyProof.Rows.All
import Wide.All
import OpenK.AllK
import Wide.FinOn
import Lean
import PySem.Challenge.RW_az6014_02
open PySem PySem.W PyProof.Rows PySem.Calls
set_option Elab.async false
set_option maxRecDepth 100000
set_option linter.unusedVariables false
section
open PySem PySem.W PyProof.Rows PySem.Calls
namespace Mine

/-- the opening, over trees -/
def impT (tb : String → Option Builtin) (p : Program) (w : World) : Nat → SharedT → Thread → Option SharedT
  | 0, _, _ => none
  | n + 1, s, t => match t.atExitBegin with
    | some l => match l with
      | [] => some s
      | _ :: _ => none
    | none => match stepT (denote tb) p w s t with
      | some (s', t') => impT tb p w n s' t'
      | none => none
theorem impT_of {tb : String → Option Builtin} {p : Program} {w : World} : ∀ {n : Nat} {s r : SharedT} {t : Thread}, impT tb p w n s t = some r → importEnds tb p w n s.abs t = some r.abs
  | 0, _, _, _, h => by cases h
  | n + 1, s, r, t, h => by
    unfold impT at h
    unfold importEnds
    cases he : t.atExitBegin with
    | some l =>
      rw [he] at h
      cases l with
      | nil => cases h; rfl
      | cons _ _ => cases h
    | none =>
      rw [he] at h
      cases hs : stepT (denote tb) p w s t with
      | none => rw [hs] at h; cases h
      | some x => obtain ⟨s₂, t₂⟩ := x; rw [hs] at h; dsimp only; rw [stepT_spec hs]; exact impT_of h

/-- the top's run, over trees -/
def topT (tb : String → Option Builtin) (p : Program) (w : World) (n₀ : Nat) (ann : Option Value) : Nat → SharedT → Thread → Option SharedT
  | 0, _, _ => none
  | n + 1, s, t => match through t with
    | true => some s
    | false => match stepOk n₀ ann t with
      | false => none
      | true => match stepT (denote tb) p w s t with
        | some (s', t') => topT tb p w n₀ ann n s' t'
        | none => none
theorem topT_of {tb : String → Option Builtin} {p : Program} {w : World} {n₀ : Nat} {ann : Option Value} : ∀ {n : Nat} {s r : SharedT} {t : Thread}, topT tb p w n₀ ann n s t = some r → topRun tb p w n₀ ann n s.abs t = some r.abs
  | 0, _, _, _, h => by cases h
  | n + 1, s, r, t, h => by
    unfold topT at h
    unfold topRun
    cases ht : through t with
    | true => rw [ht] at h; cases h; rfl
    | false =>
      rw [ht] at h
      cases hk : stepOk n₀ ann t with
      | false => rw [hk] at h; cases h
      | true =>
        rw [hk] at h
        cases hs : stepT (denote tb) p w s t with
        | none => rw [hs] at h; cases h
        | some x => obtain ⟨s₂, t₂⟩ := x; rw [hs] at h; dsimp only; rw [stepT_spec hs]; exact topT_of h

/-- a list of objects, laid as a tree -/
def laidT : List Obj → Nat → BT → Option BT
  | [], _, T => some T
  | o :: l, n, T => match ((T.ins n o).get n).isSome with
    | true => laidT l (n + 1) (T.ins n o)
    | false => none
theorem laidT_of {life : Life} : ∀ {l : List Obj} {n : Nat} {T T' : BT}, laidT l n T = some T' → absHeap T' (n + l.length) life = ⟨((absHeap T n life).objs.toList ++ l).toArray, life⟩
  | [], n, T, T', h => by
    cases h
    rw [List.append_nil]
    rfl
  | o :: l, n, T, T', h => by
    unfold laidT at h
    cases hs : ((T.ins n o).get n).isSome with
    | false => rw [hs] at h; cases h
    | true =>
      rw [hs] at h
      have z := laidT_of (life := life) h
      rw [absHeap_ins hs] at z
      rw [List.length_cons, show n + (l.length + 1) = n + 1 + l.length by omega, z]
      show Heap.mk (((absHeap T n life).objs.push o).toList ++ l).toArray life = _
      rw [Array.toList_push, List.append_assoc]
      rfl
def toT (s : Shared) : Option SharedT := match laidT s.heap.objs.toList 0 .nil with
  | some T => some ⟨T, s.heap.objs.toList.length, s.heap.life, s.gens, s.drawn, s.toks, s.os⟩
  | none => none
theorem toT_of {s : Shared} {t : SharedT} (h : toT s = some t) : t.abs = s := by
  unfold toT at h
  cases hl : laidT s.heap.objs.toList 0 .nil with
  | none => rw [hl] at h; cases h
  | some T =>
    rw [hl] at h
    cases h
    have z := laidT_of (life := s.heap.life) hl
    rw [Nat.zero_add] at z
    show Shared.mk (absHeap T s.heap.objs.toList.length s.heap.life) _ _ _ _ = s
    rw [z]
    have e : ((absHeap .nil 0 s.heap.life).objs.toList ++ s.heap.objs.toList).toArray = s.heap.objs := by
      have : (absHeap BT.nil 0 s.heap.life).objs.toList = [] := rfl
      rw [this, List.nil_append]
    rw [e]

/-- the whole: the opening, the fence, the top's run -/
def openT (tb : String → Option Builtin) (p : Program) (w : World) (N : Nat) : Option SharedT :=
  match impT tb (opening p) w N ⟨.nil, 0, {}, #[], {}, 1, (start (opening p)).1.os⟩ (start (opening p)).2 with
  | none => none
  | some se => match fenceModules? p se.abs with
    | none => none
    | some s₀ => match s₀.heap.isNs mainGlobals && s₀.gens.size == 0 with
      | false => none
      | true => match toT s₀ with
        | none => none
        | some t₀ => match topT tb p w s₀.heap.objs.size (s₀.heap.nsMap mainGlobals "__annotations__") N t₀ (topStub p) with
          | none => none
          | some s₁ => match staticsOk (importedModules p.main.body) s₀.heap s₁.abs.heap && namesBound p s₁.abs.heap && gensDone s₁.abs && laidKept s₀.heap s₁.abs.heap with
            | true => some s₁
            | false => none
theorem openT_of {tb : String → Option Builtin} {p : Program} {w : World} {N : Nat} {r : SharedT} (h : openT tb p w N = some r) : openEnds tb p w N = some r.abs := by
  unfold openT at h
  unfold openEnds fencedOpening
  cases h1 : impT tb (opening p) w N ⟨.nil, 0, {}, #[], {}, 1, (start (opening p)).1.os⟩ (start (opening p)).2 with
  | none => rw [h1] at h; cases h
  | some se =>
    rw [h1] at h
    dsimp only at h
    have e1 := impT_of h1
    have e0 : (start (opening p)).1 = SharedT.abs ⟨.nil, 0, {}, #[], {}, 1, (start (opening p)).1.os⟩ := rfl
    rw [e0, e1]
    cases h2 : fenceModules? p se.abs with
    | none => rw [h2] at h; cases h
    | some s₀ =>
      rw [h2] at h
      dsimp only at h
      show ((fenceModules? p se.abs).bind (topFrom tb p w N)) = _
      rw [h2]
      show topFrom tb p w N s₀ = _
      unfold topFrom
      cases h3 : s₀.heap.isNs mainGlobals && s₀.gens.size == 0 with
      | false => rw [h3] at h; cases h
      | true =>
        rw [h3] at h
        dsimp only at h ⊢
        cases h4 : toT s₀ with
        | none => rw [h4] at h; cases h
        | some t₀ =>
          rw [h4] at h
          dsimp only at h
          have et := toT_of h4
          cases h5 : topT tb p w s₀.heap.objs.size (s₀.heap.nsMap mainGlobals "__annotations__") N t₀ (topStub p) with
          | none => rw [h5] at h; cases h
          | some s₁ =>
            rw [h5] at h
            dsimp only at h
            have e5 := topT_of h5
            rw [et] at e5
            rw [e5]
            cases h6 : staticsOk (importedModules p.main.body) s₀.heap s₁.abs.heap && namesBound p s₁.abs.heap && gensDone s₁.abs && laidKept s₀.heap s₁.abs.heap with
            | false => rw [h6] at h; cases h
            | true =>
              rw [h6] at h
              obtain rfl : s₁ = r := Option.some.inj h
              show (match staticsOk (importedModules p.main.body) s₀.heap s₁.abs.heap && namesBound p s₁.abs.heap && gensDone s₁.abs && laidKept s₀.heap s₁.abs.heap with | true => some s₁.abs | false => none) = _
              rw [h6]
theorem leftO_of {p q : Program} {loose : List Str} {Xt : Shared → Bool} {α : Type} {Yf : Shared → α} {Ya : World → α} {N : Nat} (tb : String → Option Builtin) (ht : treeTable = tb)
    (h : ∀ w, (match openT tb p w N with | none => none | some s => some (openSeen q loose (importedModules p.main.body) Xt true s.abs, Yf s.abs)) = some (openGood q loose, Ya w)) : LeftO p q loose Xt Yf Ya N := fun w => by
  have z := h w
  rw [← ht] at z
  cases hs : openT treeTable p w N with
  | none => rw [hs] at z; cases z
  | some s =>
    rw [hs] at z
    rw [openT_of hs]
    exact z

/-! the fast stepper -/
abbrev Res : Type := Flow × BT × Nat × Nat × Code × Pos
abbrev Ih : Type := BT → Nat → Nat → Sem PySem.Fin → Code → Pos → List PySem.Frame → Option Res
def loadF (ih : Ih) (T : BT) (n k : Nat) (a : Addr) (c : Obj → Sem PySem.Fin) (code : Code) (pos : Pos) (stack : List PySem.Frame) : Option Res :=
  match Nat.blt a n with
  | true => match T.get a with
    | some o => match alive o with
      | some o' => ih T n k (c o') code pos stack
      | none => none
    | none => none
  | false => none
def aliveF (ih : Ih) (T : BT) (n k : Nat) (a : Addr) (c : Option Obj → Sem PySem.Fin) (code : Code) (pos : Pos) (stack : List PySem.Frame) : Option Res :=
  match Nat.blt a n with
  | true => match T.get a with
    | some o => ih T n k (c (alive o)) code pos stack
    | none => none
  | false => ih T n k (c none) code pos stack
def updF (n₀ : Nat) (ann : Option Value) (ih : Ih) (T : BT) (n k : Nat) (a : Addr) (f : Obj → Obj) (c : Unit → Sem PySem.Fin) (code : Code) (pos : Pos) (stack : List PySem.Frame) : Option Res :=
  match Nat.ble n₀ a || a == mainNs || a == cStatics || ann == some (.ref a) with
  | true => match Nat.blt a n with
    | true => match T.get a with
      | some o => match alive o with
        | some _ => ih (T.set a f) n k (c ()) code pos stack
        | none => none
      | none => none
    | false => none
  | false => none
def allocF (ih : Ih) (T : BT) (n k : Nat) (o : Obj) (c : Addr → Sem PySem.Fin) (code : Code) (pos : Pos) (stack : List PySem.Frame) : Option Res :=
  match ((T.ins n o).get n).isSome with
  | true => ih (T.ins n o) (n + 1) k (c n) code pos stack
  | false => none
def popF (ih : Ih) (T : BT) (n k : Nat) (r : Result) (stack : List PySem.Frame) : Option Res :=
  match stack with
  | [] => none
  | fr :: rest => match fr with
    | .ret c _ _ _ cd p _ => ih T n k (c r) cd p rest
    | .gen .. => none
def doneF₁ (b : Nat) (ih : Ih) (T : BT) (n k : Nat) (f : Flow) (code : Code) (pos : Pos) (stack : List PySem.Frame) : Option Res :=
  match stack.length == b with
  | true => some (f, T, n, k, code, pos)
  | false => popF ih T n k (.ok f) stack
def quietF (c : Code) : Bool := match c with
  | .builtin id _ => !id.startsWith "lifetime."
  | _ => true
def againF (tb : String → Option Builtin) (ih : Ih) (T : BT) (n k : Nat) (c : Code) (code : Code) (pos : Pos) (stack : List PySem.Frame) : Option Res :=
  match quietF c with
  | true => match stack with
    | [] => none
    | fr :: rest => match fr with
      | .ret kk h g l cd p kept => ih T n k (denote tb c) c pos (.ret kk h g l cd p (keptBy code c l kept) :: rest)
      | .gen .. => none
  | false => none
def pureF (b : Nat) (tb : String → Option Builtin) (ih : Ih) (T : BT) (n k : Nat) (fin : PySem.Fin) (code : Code) (pos : Pos) (stack : List PySem.Frame) : Option Res :=
  match fin with
  | .done f => doneF₁ b ih T n k f code pos stack
  | .again c => againF tb ih T n k c code pos stack
def keptOf (c code : Code) (l : List Value) : List Value := match c, code with
  | .builtin _ a, _ => unmarked a.refs
  | .call f a, .builtin .. | .call f a, .call .. => unmarked (if l.contains borrowed then a.refs else f :: a.refs)
  | _, _ => []
def callF (tb : String → Option Builtin) (ih : Ih) (T : BT) (n k : Nat) (c : Code) (h : Option Value) (g : Bool) (l : List Value) (kk : Result → Sem PySem.Fin) (code : Code) (pos : Pos) (stack : List PySem.Frame) : Option Res :=
  ih T n k (denote tb c) c pos (.ret kk h g l code pos (keptOf c code l) :: stack)
def handledF (ih : Ih) (T : BT) (n k : Nat) (own : Bool) (c : Option Value → Sem PySem.Fin) (code : Code) (pos : Pos) (stack : List PySem.Frame) : Option Res :=
  ih T n k (c (topHandled (if own then (match splitAtGen stack with | some (fs, _, _) => fs | none => stack) else stack))) code pos stack
def stackF (ih : Ih) (T : BT) (n k : Nat) (c : List (Code × Pos) → Sem PySem.Fin) (code : Code) (pos : Pos) (stack : List PySem.Frame) : Option Res :=
  ih T n k (c ((code, pos) :: stack.map Frame.where_)) code pos stack
def stepF (b : Nat) (tb : String → Option Builtin) (S : Setting) (n₀ : Nat) (ann : Option Value) (ih : Ih) : Ih := fun T n k cur code pos stack => match cur with
  | .pure fin => pureF b tb ih T n k fin code pos stack
  | .raise e => popF ih T n k (.error e) stack
  | .rule _ c => ih T n k (c ()) code pos stack
  | .at q c => ih T n k (c ()) code q stack
  | .point _ c => ih T n k (c ()) code pos stack
  | .ask c => ih T n k (c S) code pos stack
  | .fresh c => ih T n (k + 1) (c k) code pos stack
  | .load a _ c => loadF ih T n k a c code pos stack
  | .loadIfAlive a c => aliveF ih T n k a c code pos stack
  | .update a _ f c => updF n₀ ann ih T n k a f c code pos stack
  | .alloc o c => allocF ih T n k o c code pos stack
  | .call c h g l kk => callF tb ih T n k c h g l kk code pos stack
  | .handled own c => handledF ih T n k own c code pos stack
  | .stack c => stackF ih T n k c code pos stack
  | _ => none
noncomputable def runF (b : Nat) (tb : String → Option Builtin) (S : Setting) (n₀ : Nat) (ann : Option Value) (N : Nat) : Ih :=
  Nat.rec (motive := fun _ => Ih) (fun _ _ _ _ _ _ _ => none) (fun _ ih => stepF b tb S n₀ ann ih) N

section
variable {b : Nat} {tb : String → Option Builtin} {p : Program} {w : World} {n₀ : Nat} {ann : Option Value} {life : Life} {gens : Array GenState} {drawn : Drawn} {os : OsState}
abbrev shF (life : Life) (gens : Array GenState) (drawn : Drawn) (os : OsState) (T : BT) (n k : Nat) : Shared := ⟨absHeap T n life, gens, drawn, k, os⟩
theorem segRun_succ {N : Nat} {s s' : Shared} {t t' : Thread} (h1 : endAt b t = none) (h2 : stepOk n₀ ann t = true) (h3 : step (denote tb) p w s t = .go s' t') : segRun tb p w n₀ ann b (N + 1) s t = segRun tb p w n₀ ann b N s' t' := by
  show (match endAt b t with | some f => _ | none => _) = _
  rw [h1]
  show (match stepOk n₀ ann t with | false => _ | true => _) = _
  rw [h2]
  show (match step (denote tb) p w s t with | .go s' t' => _ | .halt _ _ => _) = _
  rw [h3]
theorem endAt_not {cur : Sem PySem.Fin} {code : Code} {pos : Pos} {stack : List PySem.Frame} (h : ∀ f, cur ≠ .pure (.done f)) : endAt b ⟨cur, code, pos, stack⟩ = none := by
  unfold endAt
  split
  · rename_i f _ e; exact absurd e (h f)
  · rfl
theorem runF_of : ∀ {N : Nat} {T : BT} {n k : Nat} {cur : Sem PySem.Fin} {code : Code} {pos : Pos} {stack : List PySem.Frame} {f : Flow} {T' : BT} {n' k' : Nat} {c' : Code} {p' : Pos},
    runF b tb ⟨p, w.params⟩ n₀ ann N T n k cur code pos stack = some (f, T', n', k', c', p') →
      segRun tb p w n₀ ann b N (shF life gens drawn os T n k) ⟨cur, code, pos, stack⟩ = some (f, shF life gens drawn os T' n' k', c', p')
  | 0, _, _, _, _, _, _, _, _, _, _, _, _, _, h => by cases h
  | N + 1, T, n, k, cur, code, pos, stack, f, T', n', k', c', p', h => by
    have IH := @runF_of N
    change stepF b tb ⟨p, w.params⟩ n₀ ann (runF b tb ⟨p, w.params⟩ n₀ ann N) T n k cur code pos stack = _ at h
    cases cur with
    | pure fin =>
      cases fin with
      | done fl =>
        change doneF₁ b _ T n k fl code pos stack = _ at h
        unfold doneF₁ at h
        cases hb : stack.length == b with
        | true =>
          rw [hb] at h
          cases h
          show (match endAt b ⟨.pure (.done f), code, pos, stack⟩ with | some f => _ | none => _) = _
          have : endAt b ⟨.pure (.done f), code, pos, stack⟩ = some f := by unfold endAt; rw [hb]
          rw [this]
        | false =>
          rw [hb] at h
          have he : endAt b ⟨.pure (.done fl), code, pos, stack⟩ = none := by unfold endAt; rw [hb]
          cases stack with
          | nil => cases h
          | cons fr rest =>
            cases fr with
            | gen => cases h
            | ret c hd g l cd q kept =>
              rw [segRun_succ he rfl rfl]
              exact IH h
      | again c =>
        change againF tb _ T n k c code pos stack = _ at h
        unfold againF at h
        cases hq : quietF c with
        | false => rw [hq] at h; cases h
        | true =>
          rw [hq] at h
          cases stack with
          | nil => cases h
          | cons fr rest =>
            cases fr with
            | gen => cases h
            | ret kk hd g l cd q kept =>
              have hok : stepOk n₀ ann ⟨.pure (.again c), code, pos, .ret kk hd g l cd q kept :: rest⟩ = true := by
                cases c <;> first | rfl | (simp only [quietF, Bool.not_eq_true'] at hq; simp [stepOk, Thread.calm, Thread.atCollectorCode, Thread.yieldsInsideHandler, hq])
              rw [segRun_succ (endAt_not (by intro f e; cases e)) hok step_again]
              exact IH h
    | raise e =>
      cases stack with
      | nil => cases h
      | cons fr rest =>
        cases fr with
        | gen => cases h
        | ret c hd g l cd q kept =>
          rw [segRun_succ (endAt_not (by intro f e; cases e)) rfl rfl]
          exact IH h
    | rule _ c => rw [segRun_succ (endAt_not (by intro f e; cases e)) rfl rfl]; exact IH h
    | «at» _ c => rw [segRun_succ (endAt_not (by intro f e; cases e)) rfl rfl]; exact IH h
    | point _ c => rw [segRun_succ (endAt_not (by intro f e; cases e)) rfl rfl]; exact IH h
    | ask c => rw [segRun_succ (endAt_not (by intro f e; cases e)) rfl rfl]; exact IH h
    | fresh c => rw [segRun_succ (endAt_not (by intro f e; cases e)) rfl rfl]; exact IH h
    | handled own c => rw [segRun_succ (endAt_not (by intro f e; cases e)) rfl rfl]; exact IH h
    | stack c => rw [segRun_succ (endAt_not (by intro f e; cases e)) rfl rfl]; exact IH h
    | call c hd g l kk => rw [segRun_succ (endAt_not (by intro f e; cases e)) rfl rfl]; exact IH h
    | load a q c =>
      change loadF _ T n k a c code pos stack = _ at h
      unfold loadF at h
      cases e : Nat.blt a n with
      | false => rw [e] at h; cases h
      | true =>
        rw [e] at h
        have lt : a < n := Nat.le_of_ble_eq_true e
        cases g : T.get a with
        | none => rw [g] at h; cases h
        | some o =>
          rw [g] at h
          dsimp only at h
          cases al : alive o with
          | none => rw [al] at h; cases h
          | some o' =>
            rw [al] at h
            have hs : step (denote tb) p w (shF life gens drawn os T n k) ⟨.load a q c, code, pos, stack⟩ = .go (shF life gens drawn os T n k) ⟨c o', code, pos, stack⟩ := by
              show step (denote tb) p w ⟨absHeap T n life, gens, drawn, k, os⟩ _ = _
              simp only [step, abs_get lt g, al]
            rw [segRun_succ (endAt_not (by intro f e; cases e)) rfl hs]
            exact IH h
    | loadIfAlive a c =>
      change aliveF _ T n k a c code pos stack = _ at h
      unfold aliveF at h
      cases e : Nat.blt a n with
      | false =>
        rw [e] at h
        have lt : ¬ a < n := fun q => by rw [show Nat.blt a n = true from Nat.ble_eq_true_of_le q] at e; cases e
        have hs : step (denote tb) p w (shF life gens drawn os T n k) ⟨.loadIfAlive a c, code, pos, stack⟩ = .go (shF life gens drawn os T n k) ⟨c none, code, pos, stack⟩ := by
          show step (denote tb) p w ⟨absHeap T n life, gens, drawn, k, os⟩ _ = _
          simp only [step, abs_get_none lt]
        rw [segRun_succ (endAt_not (by intro f e; cases e)) rfl hs]
        exact IH h
      | true =>
        rw [e] at h
        have lt : a < n := Nat.le_of_ble_eq_true e
        cases g : T.get a with
        | none => rw [g] at h; cases h
        | some o =>
          rw [g] at h
          have hs : step (denote tb) p w (shF life gens drawn os T n k) ⟨.loadIfAlive a c, code, pos, stack⟩ = .go (shF life gens drawn os T n k) ⟨c (alive o), code, pos, stack⟩ := by
            show step (denote tb) p w ⟨absHeap T n life, gens, drawn, k, os⟩ _ = _
            simp only [step, abs_get lt g]
          rw [segRun_succ (endAt_not (by intro f e; cases e)) rfl hs]
          exact IH h
    | update a q fn c =>
      change updF n₀ ann _ T n k a fn c code pos stack = _ at h
      unfold updF at h
      cases hu : (Nat.ble n₀ a || a == mainNs || a == cStatics || ann == some (.ref a)) with
      | false => rw [hu] at h; cases h
      | true =>
        rw [hu] at h
        cases e : Nat.blt a n with
        | false => rw [e] at h; cases h
        | true =>
          rw [e] at h
          have lt : a < n := Nat.le_of_ble_eq_true e
          cases g : T.get a with
          | none => rw [g] at h; cases h
          | some o =>
            rw [g] at h
            dsimp only at h
            cases al : alive o with
            | none => rw [al] at h; cases h
            | some o' =>
              rw [al] at h
              have hs : step (denote tb) p w (shF life gens drawn os T n k) ⟨.update a q fn c, code, pos, stack⟩ = .go (shF life gens drawn os (T.set a fn) n k) ⟨c (), code, pos, stack⟩ := by
                show step (denote tb) p w ⟨absHeap T n life, gens, drawn, k, os⟩ _ = .go ⟨absHeap (T.set a fn) n life, gens, drawn, k, os⟩ _
                rw [absHeap_set g]
                simp only [step, abs_get lt g, al, Option.isSome_some, if_true]
              have hok : stepOk n₀ ann ⟨.update a q fn c, code, pos, stack⟩ = true := by
                show (Thread.calm _ && (Nat.ble n₀ a || a == mainNs || a == cStatics || ann == some (.ref a))) = true
                rw [hu]; rfl
              rw [segRun_succ (endAt_not (by intro f e; cases e)) hok hs]
              exact IH h
    | alloc o c =>
      change allocF _ T n k o c code pos stack = _ at h
      unfold allocF at h
      cases e : ((T.ins n o).get n).isSome with
      | false => rw [e] at h; cases h
      | true =>
        rw [e] at h
        have hs : step (denote tb) p w (shF life gens drawn os T n k) ⟨.alloc o c, code, pos, stack⟩ = .go (shF life gens drawn os (T.ins n o) (n + 1) k) ⟨c n, code, pos, stack⟩ := by
          show step (denote tb) p w ⟨absHeap T n life, gens, drawn, k, os⟩ _ = .go ⟨absHeap (T.ins n o) (n + 1) life, gens, drawn, k, os⟩ _
          rw [absHeap_ins e]
          simp only [step, absHeap_size]
        rw [segRun_succ (endAt_not (by intro f e; cases e)) rfl hs]
        exact IH h
    | _ => cases h
end

/-! the head out of its parts -/
section
variable {p q : Program} {loose : List Str} {Xt : Shared → Bool} {α : Type} {Yf : Shared → α} {Ya : World → α} {N : Nat}
def looksF (p q : Program) (loose : List Str) (Xt : Shared → Bool) {α : Type} (Yf : Shared → α) (h₀ : Heap) (s : Shared) :=
  ((staticsOk (importedModules p.main.body) h₀ s.heap && namesBound p s.heap && gensDone s && laidKept h₀ s.heap), openSeen q loose (importedModules p.main.body) Xt true s, Yf s)
def opF (tb : String → Option Builtin) (p : Program) (w : World) (N0 : Nat) : Option (Heap × Array GenState × Drawn × Nat) := match impT tb (opening p) w N0 ⟨.nil, 0, {}, #[], {}, 1, (start (opening p)).1.os⟩ (start (opening p)).2 with
  | none => none
  | some se => match fenceModules? p se.abs with
    | none => none
    | some s => some (s.heap, s.gens, s.drawn, s.toks)
def szF (h : Heap) : Bool × Nat × Option Value := (h.isNs mainGlobals && (#[] : Array GenState).size == 0, h.objs.size, h.nsMap mainGlobals "__annotations__")
def outF (p q : Program) (loose : List Str) (Xt : Shared → Bool) {α : Type} (Yf : Shared → α) (h₀ : Heap) (lf : Life) (dr : Drawn) (os : OsState) (r : Option Res) := match r with
  | none => none
  | some (f, T, n, k, c, ps) => some (f, c, ps, looksF p q loose Xt Yf h₀ (shF lf #[] dr os T n k))
theorem run_parts {w : World} {tb : String → Option Builtin} {m₀ : Nat} {ann : Option Value} {b : List Stmt} {env : Env} {qp posA posB posC posZ : Pos} {H₀ : Heap} {d₀ dr : Drawn} {k₀ : Nat} {lf : Life} {os : OsState} {Ta Tx Ty Tu Tz : BT} {na nx ny nu nz ka kx ky ku kz : Nat} {Na Nb Nc Nd : Nat} {g₀ : Array GenState}
    (hb : behindTheImports p = b)
    (pr : topGo tb p w m₀ ann 12 ⟨H₀, g₀, d₀, k₀, os⟩ (topStub p) = some (shF lf #[] dr os Ta na ka, ⟨denote tb (.body b env), .body b env, qp, [topFrame qp]⟩))
    (blk : segRun tb p w m₀ ann 1 1 (shF lf #[] dr os Ta na ka) (blockOf b env (.body b env) qp [topFrame qp]) = some (.next, shF lf #[] dr os Ta na ka, .body b env, qp))
    (hA : runF 1 tb ⟨p, w.params⟩ m₀ ann Na Ta na ka ((execs (b.take 4) env).wrap doneF deadEnd id id) (.body b env) qp [topFrame qp] = some (.next, Tx, nx, kx, .body b env, posA))
    (hB : runF 1 tb ⟨p, w.params⟩ m₀ ann Nb Tx nx kx ((execs ((b.drop 4).take 4) env).wrap doneF deadEnd id id) (.body b env) posA [topFrame qp] = some (.next, Ty, ny, ky, .body b env, posB))
    (hC : runF 1 tb ⟨p, w.params⟩ m₀ ann Nc Ty ny ky ((execs (((b.drop 4).drop 4).take 5) env).wrap doneF deadEnd id id) (.body b env) posB [topFrame qp] = some (.next, Tu, nu, ku, .body b env, posC))
    (hD : runF 1 tb ⟨p, w.params⟩ m₀ ann Nd Tu nu ku ((execs (((b.drop 4).drop 4).drop 5) env).wrap doneF deadEnd id id) (.body b env) posC [topFrame qp] = some (.next, Tz, nz, kz, .body b env, posZ)) :
    topRun tb p w m₀ ann (12 + (1 + (Na + (Nb + (Nc + (Nd + 2)))))) ⟨H₀, g₀, d₀, k₀, os⟩ (topStub p) = some (shF lf #[] dr os Tz nz kz) := by
  have fin : topRun tb p w m₀ ann 2 (shF lf #[] dr os Tz nz kz) ⟨doneF .next, .body b env, posZ, [topFrame qp]⟩ = some (shF lf #[] dr os Tz nz kz) := rfl
  have c0 := piece_app (rest := []) (runF_of hD) (piece_nil fin)
  rw [List.append_nil] at c0
  have c1 := piece_app (runF_of hC) c0
  rw [List.take_append_drop] at c1
  have c2 := piece_app (runF_of hB) c1
  rw [List.take_append_drop] at c2
  have c3 := piece_app (runF_of hA) c2
  rw [List.take_append_drop] at c3
  exact go_top pr (piece_block blk c3)
theorem left_parts {tb : String → Option Builtin} (ht : treeTable = tb) {m₀ : Nat} {ann : Option Value} {b : List Stmt} {env : Env} {qp posA posB posC posZ : Pos} {T0 Ta Tx Ty Tu : World → BT} {n0 na nx ny nu k0 ka kx ky ku : Nat} {lf : Life} {dr : Drawn} {N0 Na Nb Nc Nd : Nat}
    (hb : behindTheImports p = b)
    (op : ∀ w : World, opF tb p w N0 = some (absHeap (T0 w) n0 lf, #[], dr, k0))
    (sz : ∀ w : World, szF (absHeap (T0 w) n0 lf) = (true, m₀, ann))
    (pr : ∀ (w : World) (os : OsState), topGo tb p w m₀ ann 12 ⟨absHeap (T0 w) n0 lf, #[], dr, k0, os⟩ (topStub p) = some (shF lf #[] dr os (Ta w) na ka, ⟨denote tb (.body b env), .body b env, qp, [topFrame qp]⟩))
    (blk : ∀ (w : World) (os : OsState), segRun tb p w m₀ ann 1 1 (shF lf #[] dr os (Ta w) na ka) (blockOf b env (.body b env) qp [topFrame qp]) = some (.next, shF lf #[] dr os (Ta w) na ka, .body b env, qp))
    (hA : ∀ w : World, runF 1 tb ⟨p, w.params⟩ m₀ ann Na (Ta w) na ka ((execs (b.take 4) env).wrap doneF deadEnd id id) (.body b env) qp [topFrame qp] = some (.next, Tx w, nx, kx, .body b env, posA))
    (hB : ∀ w : World, runF 1 tb ⟨p, w.params⟩ m₀ ann Nb (Tx w) nx kx ((execs ((b.drop 4).take 4) env).wrap doneF deadEnd id id) (.body b env) posA [topFrame qp] = some (.next, Ty w, ny, ky, .body b env, posB))
    (hC : ∀ w : World, runF 1 tb ⟨p, w.params⟩ m₀ ann Nc (Ty w) ny ky ((execs (((b.drop 4).drop 4).take 5) env).wrap doneF deadEnd id id) (.body b env) posB [topFrame qp] = some (.next, Tu w, nu, ku, .body b env, posC))
    (hD : ∀ (w : World) (os : OsState), outF p q loose Xt Yf (absHeap (T0 w) n0 lf) lf dr os (runF 1 tb ⟨p, w.params⟩ m₀ ann Nd (Tu w) nu ku ((execs (((b.drop 4).drop 4).drop 5) env).wrap doneF deadEnd id id) (.body b env) posC [topFrame qp]) = some (.next, .body b env, posZ, (true, openGood q loose, Ya w)))
    (l1 : Nat.ble N0 N = true) (l2 : Nat.ble (12 + (1 + (Na + (Nb + (Nc + (Nd + 2)))))) N = true) : LeftO p q loose Xt Yf Ya N := fun w => by
  subst ht
  have o := op w
  unfold opF at o
  cases h1 : impT treeTable (opening p) w N0 ⟨.nil, 0, {}, #[], {}, 1, (start (opening p)).1.os⟩ (start (opening p)).2 with
  | none => rw [h1] at o; cases o
  | some se =>
    rw [h1] at o
    dsimp only at o
    cases h2 : fenceModules? p se.abs with
    | none => rw [h2] at o; cases o
    | some s₀ =>
      rw [h2] at o
      dsimp only at o
      obtain ⟨hp, gs, d, k, os⟩ := s₀
      obtain ⟨rfl, rfl, rfl, rfl⟩ : hp = absHeap (T0 w) n0 lf ∧ gs = #[] ∧ d = dr ∧ k = k0 := by simpa using o
      have e1 := importEnds_mono (N - N0) _ _ _ _ (impT_of h1)
      rw [show N0 + (N - N0) = N by have := Nat.le_of_ble_eq_true l1; omega] at e1
      have e0 : (start (opening p)).1 = SharedT.abs ⟨.nil, 0, {}, #[], {}, 1, (start (opening p)).1.os⟩ := rfl
      have ef : fencedOpening treeTable p w N = some ⟨absHeap (T0 w) n0 lf, #[], d, k, os⟩ := by
        unfold fencedOpening
        rw [e0, e1]
        exact h2
      obtain ⟨z1, z2, z3⟩ : _ ∧ _ ∧ _ := by simpa only [szF, Prod.mk.injEq] using sz w
      have c := hD w os
      unfold outF at c
      cases h3 : runF 1 treeTable ⟨p, w.params⟩ m₀ ann Nd (Tu w) nu ku ((execs (((b.drop 4).drop 4).drop 5) env).wrap doneF deadEnd id id) (.body b env) posC [topFrame qp] with
      | none => rw [h3] at c; cases c
      | some r =>
        obtain ⟨f, T, n, kk, cc, ps⟩ := r
        rw [h3] at c
        dsimp only at c
        simp only [Option.some.injEq, Prod.mk.injEq] at c
        obtain ⟨rfl, rfl, rfl, c⟩ := c
        have c1 := congrArg Prod.fst c
        have c2 := congrArg (fun x => x.2.1) c
        have c3 := congrArg (fun x => x.2.2) c
        dsimp only [looksF] at c1 c2 c3
        have r0 := run_parts (p := p) hb (pr w os) (blk w os) (hA w) (hB w) (hC w) h3
        have r := topRun_mono (N - (12 + (1 + (Na + (Nb + (Nc + (Nd + 2))))))) _ _ _ _ r0
        rw [show 12 + (1 + (Na + (Nb + (Nc + (Nd + 2))))) + (N - (12 + (1 + (Na + (Nb + (Nc + (Nd + 2))))))) = N by have := Nat.le_of_ble_eq_true l2; omega] at r
        have t : topFrom treeTable p w N ⟨absHeap (T0 w) n0 lf, #[], d, k, os⟩ = some (shF lf #[] d os T n kk) := by
          unfold topFrom
          dsimp only
          rw [z1, z2, z3, r]
          show (match staticsOk (importedModules p.main.body) (absHeap (T0 w) n0 lf) (shF lf #[] d os T n kk).heap && namesBound p (shF lf #[] d os T n kk).heap && gensDone (shF lf #[] d os T n kk) && laidKept (absHeap (T0 w) n0 lf) (shF lf #[] d os T n kk).heap with | true => _ | false => _) = _
          rw [c1]
        unfold openEnds
        rw [ef]
        show (topFrom treeTable p w N _).map _ = _
        rw [t]
        exact congrArg some (Prod.ext c2 c3)
end

def ktrue {α : Sort u} (_ : α) : Bool := true
end Mine

end
section
open PySem PySem.W PyProof.Rows PySem.Calls
set_option maxHeartbeats 0
namespace Mine
noncomputable abbrev pw : Program := PySem.Challenge.pw_az6014_02
def intOf : PySem.Expr → Nat
  | .Constant (.int i) _ _ => i.toNat
  | _ => 0
def intsOf : PySem.Expr → List Nat
  | .List es _ => es.map intOf
  | _ => []
def codeAt : Stmt → List Nat
  | .Assign _ (.Call _ (_ :: _ :: c :: _) _ _) _ => intsOf c
  | _ => []
noncomputable def codeLit : List Nat := match pw.main.body.drop 4 with
  | s :: _ => codeAt s
  | [] => []
theorem wf_lit : Sre.wellFormed ⟨codeLit⟩ 1 = true := by k_qdec
noncomputable def wfF (code : Array Nat) (groups : Nat) : Bool := match Fast.lEq code.toList codeLit && Nat.beq groups 1 with
  | true => true
  | false => Sre.wellFormed code groups
theorem wfF_eq : Sre.wellFormed = wfF := by
  funext code groups
  unfold wfF
  cases h : Fast.lEq code.toList codeLit && Nat.beq groups 1 with
  | false => rfl
  | true =>
    obtain ⟨h1, h2⟩ := Bool.and_eq_true_iff.mp h
    have e1 := Fast.lEq_iff.mp h1
    have e2 := Nat.eq_of_beq_eq_true h2
    subst e2
    obtain ⟨l⟩ := code
    dsimp only at e1
    subst e1
    exact wf_lit
theorem for_fast {α β : Type} (xs : Array α) (b : β) (f : α → β → Sem (ForInStep β)) : forIn xs b f = PySem.W.R.forLR Sem α β xs.toList b f := by
  show forIn xs b f = _
  rw [← Array.forIn_toList]
  show PySem.W.R.forL Sem α β xs.toList b f = _
  rw [PySem.W.R.forLR_eq]
noncomputable def compileF : PSigma fun b : Builtin => Builtin.«_sre.compile» = b := ⟨_, by unfold Builtin.«_sre.compile»; rewrite [wfF_eq]; conv => lhs; simp only [for_fast]⟩

noncomputable def tbF (id : String) : Option Builtin := if id = "_sre.compile" then some compileF.1 else treeTable id
theorem tree_compile : treeTable "_sre.compile" = some Builtin.«_sre.compile» := by kernel_rfl!
theorem tbF_eq : treeTable = tbF := by
  funext id
  unfold tbF
  by_cases h : id = "_sre.compile"
  · subst h
    rw [if_pos rfl, tree_compile]; exact congrArg some compileF.2
  · rw [if_neg h]
end Mine

end
section
open PySem PySem.W PyProof.Rows PySem.Calls
set_option maxHeartbeats 0
namespace Mine
def eK (P : Params) (x : Str) (t : Tok) (v : Value) : DictEntry := ⟨PyData.keyHash P x, .str x t, v⟩
def rawN (n : Nat) : Value := .int (Int.ofNat n) 0
def toksL : List Nat → Nat → List Value
  | [], _ => []
  | n :: l, t => .int (Int.ofNat n) t :: toksL l (t + 1)
def insAll : List Obj → Nat → BT → BT
  | [], _, T => T
  | o :: l, n, T => insAll l (n + 1) (T.ins n o)
def treeOf (l : List Obj) : BT := insAll l 0 .nil
def nthS : List Stmt → Nat → Stmt
  | s :: _, 0 => s
  | _ :: r, n + 1 => nthS r n
  | [], _ => .Pass ⟨0, 0, 0, 0⟩
def bodyOf : Stmt → List Stmt
  | .ClassDef _ _ _ b _ _ _ _ _ _ _ => b
  | _ => []
noncomputable def sAt (i : Nat) : Stmt := nthS pw.main.body i
noncomputable def mAt (i j : Nat) : Stmt := nthS (bodyOf (sAt i)) j
def patOf : Stmt → Str
  | .Assign _ (.Call _ (.Constant (.str x) _ _ :: _) _ _) _ => x
  | _ => Str.empty
noncomputable def patLit : Str := patOf (sAt 4)
abbrev fX {st : Stmt} {n : Str} {a : Arguments} {b : List Stmt} {ds : List PySem.Expr} {re : Option PySem.Expr} {tp : List TypeParam} {sc : Scope} {ts : Option Scope} {bd : Str} {ps : Pos} (_ : st = .FunctionDef n a b ds re tp sc ts bd ps) (qual : Str) (globals : Addr) (closure : List (Str × Addr)) (dV kV doc pm : Value) (an : Option Addr) (cd ct : Value) (bi : Addr) : FuncData :=
  { name := n, qualname := qual, params := a, body := .stmts b, scope := sc, globals := globals, closure := closure, defaults := dV, kwdefaults := kV, doc := doc, pyModule := pm, annotations := an, code := cd, closureTuple := ct, builtins := bi }
def fD (st : Stmt) (qual : Str) (globals : Addr) (closure : List (Str × Addr)) (dV kV doc pm : Value) (an : Option Addr) (cd ct : Value) (bi : Addr) : FuncData := match st with
  | .FunctionDef n a b _ _ _ sc _ _ _ => { name := n, qualname := qual, params := a, body := .stmts b, scope := sc, globals := globals, closure := closure, defaults := dV, kwdefaults := kV, doc := doc, pyModule := pm, annotations := an, code := cd, closureTuple := ct, builtins := bi }
  | _ => default
noncomputable def B0 (P : Params) : Obj := ⟨(.type "dict"), none, (.dict #[(eK P (Str.ofString "__name__") 1 (.str (Str.ofString "builtins") 160)), (eK P (Str.ofString "__doc__") 2 (.builtin "builtins.__doc__:str#opaque")), (eK P (Str.ofString "__package__") 3 (.builtin "builtins.__package__:str#opaque")), (eK P (Str.ofString "__loader__") 4 (.builtin "builtins.__loader__:shared#opaque")), (eK P (Str.ofString "__spec__") 5 (.builtin "builtins.__spec__#opaque")), (eK P (Str.ofString "__build_class__") 6 (.builtin "__build_class__")), (eK P (Str.ofString "__import__") 7 (.builtin "__import__")), (eK P (Str.ofString "abs") 8 (.builtin "abs")), (eK P (Str.ofString "all") 9 (.builtin "all")), (eK P (Str.ofString "any") 10 (.builtin "any")), (eK P (Str.ofString "ascii") 11 (.builtin "ascii")), (eK P (Str.ofString "bin") 12 (.builtin "bin")), (eK P (Str.ofString "breakpoint") 13 (.builtin "breakpoint")), (eK P (Str.ofString "callable") 14 (.builtin "callable")), (eK P (Str.ofString "chr") 15 (.builtin "chr")), (eK P (Str.ofString "compile") 16 (.builtin "compile")), (eK P (Str.ofString "delattr") 17 (.builtin "delattr")), (eK P (Str.ofString "dir") 18 (.builtin "dir")), (eK P (Str.ofString "divmod") 19 (.builtin "divmod")), (eK P (Str.ofString "eval") 20 (.builtin "eval")), (eK P (Str.ofString "exec") 21 (.builtin "exec")), (eK P (Str.ofString "format") 22 (.builtin "format")), (eK P (Str.ofString "getattr") 23 (.builtin "getattr")), (eK P (Str.ofString "globals") 24 (.builtin "globals")), (eK P (Str.ofString "hasattr") 25 (.builtin "hasattr")), (eK P (Str.ofString "hash") 26 (.builtin "hash")), (eK P (Str.ofString "hex") 27 (.builtin "hex")), (eK P (Str.ofString "id") 28 (.builtin "id")), (eK P (Str.ofString "input") 29 (.builtin "input")), (eK P (Str.ofString "isinstance") 30 (.builtin "isinstance")), (eK P (Str.ofString "issubclass") 31 (.builtin "issubclass")), (eK P (Str.ofString "iter") 32 (.builtin "iter")), (eK P (Str.ofString "aiter") 33 (.builtin "aiter")), (eK P (Str.ofString "len") 34 (.builtin "len")), (eK P (Str.ofString "locals") 35 (.builtin "locals")), (eK P (Str.ofString "max") 36 (.builtin "max")), (eK P (Str.ofString "min") 37 (.builtin "min")), (eK P (Str.ofString "next") 38 (.builtin "next")), (eK P (Str.ofString "anext") 39 (.builtin "anext")), (eK P (Str.ofString "oct") 40 (.builtin "oct")), (eK P (Str.ofString "ord") 41 (.builtin "ord")), (eK P (Str.ofString "pow") 42 (.builtin "pow")), (eK P (Str.ofString "print") 43 (.builtin "print")), (eK P (Str.ofString "repr") 44 (.builtin "repr")), (eK P (Str.ofString "round") 45 (.builtin "round")), (eK P (Str.ofString "setattr") 46 (.builtin "setattr")), (eK P (Str.ofString "sorted") 47 (.builtin "sorted")), (eK P (Str.ofString "sum") 48 (.builtin "sum")), (eK P (Str.ofString "vars") 49 (.builtin "vars")), (eK P (Str.ofString "None") 50 .none), (eK P (Str.ofString "Ellipsis") 51 .ellipsis), (eK P (Str.ofString "NotImplemented") 52 .notImplemented), (eK P (Str.ofString "False") 53 (.bool false)), (eK P (Str.ofString "True") 54 (.bool true)), (eK P (Str.ofString "bool") 55 (.type "bool")), (eK P (Str.ofString "memoryview") 56 (.type "memoryview")), (eK P (Str.ofString "bytearray") 57 (.type "bytearray")), (eK P (Str.ofString "bytes") 58 (.type "bytes")), (eK P (Str.ofString "classmethod") 59 (.type "classmethod")), (eK P (Str.ofString "complex") 60 (.type "complex")), (eK P (Str.ofString "dict") 61 (.type "dict")), (eK P (Str.ofString "enumerate") 62 (.type "enumerate")), (eK P (Str.ofString "filter") 63 (.type "filter")), (eK P (Str.ofString "float") 64 (.type "float")), (eK P (Str.ofString "frozenset") 65 (.type "frozenset")), (eK P (Str.ofString "property") 66 (.type "property")), (eK P (Str.ofString "int") 67 (.type "int")), (eK P (Str.ofString "list") 68 (.type "list")), (eK P (Str.ofString "map") 69 (.type "map")), (eK P (Str.ofString "object") 70 (.type "object")), (eK P (Str.ofString "range") 71 (.type "range")), (eK P (Str.ofString "reversed") 72 (.type "reversed")), (eK P (Str.ofString "set") 73 (.type "set")), (eK P (Str.ofString "slice") 74 (.type "slice")), (eK P (Str.ofString "staticmethod") 75 (.type "staticmethod")), (eK P (Str.ofString "str") 76 (.type "str")), (eK P (Str.ofString "super") 77 (.type "super")), (eK P (Str.ofString "tuple") 78 (.type "tuple")), (eK P (Str.ofString "type") 79 (.type "type")), (eK P (Str.ofString "zip") 80 (.type "zip")), (eK P (Str.ofString "__debug__") 81 (.bool true)), (eK P (Str.ofString "BaseException") 82 (.type "BaseException")), (eK P (Str.ofString "BaseExceptionGroup") 83 (.type "BaseExceptionGroup")), (eK P (Str.ofString "Exception") 84 (.type "Exception")), (eK P (Str.ofString "GeneratorExit") 85 (.type "GeneratorExit")), (eK P (Str.ofString "KeyboardInterrupt") 86 (.type "KeyboardInterrupt")), (eK P (Str.ofString "SystemExit") 87 (.type "SystemExit")), (eK P (Str.ofString "ArithmeticError") 88 (.type "ArithmeticError")), (eK P (Str.ofString "AssertionError") 89 (.type "AssertionError")), (eK P (Str.ofString "AttributeError") 90 (.type "AttributeError")), (eK P (Str.ofString "BufferError") 91 (.type "BufferError")), (eK P (Str.ofString "EOFError") 92 (.type "EOFError")), (eK P (Str.ofString "ImportError") 93 (.type "ImportError")), (eK P (Str.ofString "LookupError") 94 (.type "LookupError")), (eK P (Str.ofString "MemoryError") 95 (.type "MemoryError")), (eK P (Str.ofString "NameError") 96 (.type "NameError")), (eK P (Str.ofString "OSError") 97 (.type "OSError")), (eK P (Str.ofString "ReferenceError") 98 (.type "ReferenceError")), (eK P (Str.ofString "RuntimeError") 99 (.type "RuntimeError")), (eK P (Str.ofString "StopAsyncIteration") 100 (.type "StopAsyncIteration")), (eK P (Str.ofString "StopIteration") 101 (.type "StopIteration")), (eK P (Str.ofString "SyntaxError") 102 (.type "SyntaxError")), (eK P (Str.ofString "SystemError") 103 (.type "SystemError")), (eK P (Str.ofString "TypeError") 104 (.type "TypeError")), (eK P (Str.ofString "ValueError") 105 (.type "ValueError")), (eK P (Str.ofString "Warning") 106 (.type "Warning")), (eK P (Str.ofString "FloatingPointError") 107 (.type "FloatingPointError")), (eK P (Str.ofString "OverflowError") 108 (.type "OverflowError")), (eK P (Str.ofString "ZeroDivisionError") 109 (.type "ZeroDivisionError")), (eK P (Str.ofString "BytesWarning") 110 (.type "BytesWarning")), (eK P (Str.ofString "DeprecationWarning") 111 (.type "DeprecationWarning")), (eK P (Str.ofString "EncodingWarning") 112 (.type "EncodingWarning")), (eK P (Str.ofString "FutureWarning") 113 (.type "FutureWarning")), (eK P (Str.ofString "ImportWarning") 114 (.type "ImportWarning")), (eK P (Str.ofString "PendingDeprecationWarning") 115 (.type "PendingDeprecationWarning")), (eK P (Str.ofString "ResourceWarning") 116 (.type "ResourceWarning")), (eK P (Str.ofString "RuntimeWarning") 117 (.type "RuntimeWarning")), (eK P (Str.ofString "SyntaxWarning") 118 (.type "SyntaxWarning")), (eK P (Str.ofString "UnicodeWarning") 119 (.type "UnicodeWarning")), (eK P (Str.ofString "UserWarning") 120 (.type "UserWarning")), (eK P (Str.ofString "BlockingIOError") 121 (.type "BlockingIOError")), (eK P (Str.ofString "ChildProcessError") 122 (.type "ChildProcessError")), (eK P (Str.ofString "ConnectionError") 123 (.type "ConnectionError")), (eK P (Str.ofString "FileExistsError") 124 (.type "FileExistsError")), (eK P (Str.ofString "FileNotFoundError") 125 (.type "FileNotFoundError")), (eK P (Str.ofString "InterruptedError") 126 (.type "InterruptedError")), (eK P (Str.ofString "IsADirectoryError") 127 (.type "IsADirectoryError")), (eK P (Str.ofString "NotADirectoryError") 128 (.type "NotADirectoryError")), (eK P (Str.ofString "PermissionError") 129 (.type "PermissionError")), (eK P (Str.ofString "ProcessLookupError") 130 (.type "ProcessLookupError")), (eK P (Str.ofString "TimeoutError") 131 (.type "TimeoutError")), (eK P (Str.ofString "IndentationError") 132 (.type "IndentationError")), (eK P (Str.ofString "_IncompleteInputError") 133 (.type "_IncompleteInputError")), (eK P (Str.ofString "IndexError") 134 (.type "IndexError")), (eK P (Str.ofString "KeyError") 135 (.type "KeyError")), (eK P (Str.ofString "ModuleNotFoundError") 136 (.type "ModuleNotFoundError")), (eK P (Str.ofString "NotImplementedError") 137 (.type "NotImplementedError")), (eK P (Str.ofString "PythonFinalizationError") 138 (.type "PythonFinalizationError")), (eK P (Str.ofString "RecursionError") 139 (.type "RecursionError")), (eK P (Str.ofString "UnboundLocalError") 140 (.type "UnboundLocalError")), (eK P (Str.ofString "UnicodeError") 141 (.type "UnicodeError")), (eK P (Str.ofString "BrokenPipeError") 142 (.type "BrokenPipeError")), (eK P (Str.ofString "ConnectionAbortedError") 143 (.type "ConnectionAbortedError")), (eK P (Str.ofString "ConnectionRefusedError") 144 (.type "ConnectionRefusedError")), (eK P (Str.ofString "ConnectionResetError") 145 (.type "ConnectionResetError")), (eK P (Str.ofString "TabError") 146 (.type "TabError")), (eK P (Str.ofString "UnicodeDecodeError") 147 (.type "UnicodeDecodeError")), (eK P (Str.ofString "UnicodeEncodeError") 148 (.type "UnicodeEncodeError")), (eK P (Str.ofString "UnicodeTranslateError") 149 (.type "UnicodeTranslateError")), (eK P (Str.ofString "ExceptionGroup") 150 (.type "ExceptionGroup")), (eK P (Str.ofString "EnvironmentError") 151 (.type "OSError")), (eK P (Str.ofString "IOError") 152 (.type "OSError")), (eK P (Str.ofString "open") 153 (.builtin "open")), (eK P (Str.ofString "quit") 154 (.builtin "builtins.quit#opaque")), (eK P (Str.ofString "exit") 155 (.builtin "builtins.exit#opaque")), (eK P (Str.ofString "copyright") 156 (.builtin "builtins.copyright#opaque")), (eK P (Str.ofString "credits") 157 (.builtin "builtins.credits#opaque")), (eK P (Str.ofString "license") 158 (.builtin "builtins.license#opaque")), (eK P (Str.ofString "help") 159 (.builtin "builtins.help#opaque"))] 159), #[]⟩
noncomputable def B1 (P : Params) : Obj := ⟨(.type "dict"), none, (.dict #[(eK P (Str.ofString "builtins") 162 (.ref 4)), (eK P (Str.ofString "__main__") 163 (.ref 5)), (eK P (Str.ofString "_sre") 244 (.ref 12)), (eK P (Str.ofString "math") 351 (.ref 30)), (eK P (Str.ofString "unicodedata") 455 (.ref 51))] 5), #[]⟩
noncomputable def B2 (P : Params) : Obj := ⟨.none, none, (.dict #[(eK P (Str.ofString "\x69mport.loaded._sre") 183 (.bool true)), (eK P (Str.ofString "class._frozen_importlib.BuiltinImporter") 185 (.ref 14)), (eK P (Str.ofString "watched.\x69mport") 206 (.ref 18)), (eK P (Str.ofString "class._frozen_importlib.ModuleSpec") 216 (.ref 22)), (eK P (Str.ofString "sys.modules.booked-epoch") 245 (.int (Int.ofNat 5) 0)), (eK P (Str.ofString "\x69mport.later-laid._sre") 270 (.bool true)), (eK P (Str.ofString "watched.library") 272 (.ref 27)), (eK P (Str.ofString "watched.library-objects") 0 (.str (Str.ofString "\u000c\u001e3") 0)), (eK P (Str.ofString "watched.library-deep._sre") 273 (.str (Str.ofString "\u0004\u0000\u0000\u000b\u0004\u0000\u0000\u000b\u0004\u0000\u0000\u0003\u0004\u0000\u0000\u000b\u0008\u0004dict\u0002") 0)), (eK P (Str.ofString "\x69mport.loaded.math") 280 (.bool true)), (eK P (Str.ofString "class._frozen_importlib_external._LoaderBasics") 285 (.ref 33)), (eK P (Str.ofString "class._frozen_importlib_external.FileLoader") 301 (.ref 38)), (eK P (Str.ofString "class._frozen_importlib_external.ExtensionFileLoader") 322 (.ref 43)), (eK P (Str.ofString "\x69mport.later-laid.math") 428 (.bool true)), (eK P (Str.ofString "\x69mport.loaded.unicodedata") 440 (.bool true)), (eK P (Str.ofString "\x69mport.later-laid.unicodedata") 483 (.bool true)), (eK P (Str.ofString "watched.library-deep.unicodedata") 485 (.str (Str.ofString "\u0004\u0000\u00002\u0004\u0000\u00009\u0004\u0000\u0000\u0006\u0004\u0000\u00002\u0008\u0004dict\u0002\u0004\u0000\u00009\u0008\u000funicodedata.UCD\u0002") 0))] 17), #[]⟩
noncomputable def B3 (P : Params) : Obj := ⟨(.type "dict"), none, (.dict #[(eK P (Str.ofString "__name__") 165 (.str (Str.ofString "__main__") 164)), (eK P (Str.ofString "__doc__") 166 .none), (eK P (Str.ofString "__package__") 167 .none), (eK P (Str.ofString "__loader__") 168 (.builtin "__main__.__loader__#opaque")), (eK P (Str.ofString "__spec__") 169 .none), (eK P (Str.ofString "__annotations__") 170 (.ref 6)), (eK P (Str.ofString "__builtins__") 171 (.ref 4)), (eK P (Str.ofString "__file__") 173 (.str (Str.ofString "/claim/cut.py") 172)), (eK P (Str.ofString "__cached__") 174 .none), (eK P (Str.ofString "_sre") 275 (.ref 12)), (eK P (Str.ofString "isnan") 435 (.builtin "math.isnan")), (eK P (Str.ofString "category") 491 (.builtin "unicodedata.category"))] 12), #[]⟩
noncomputable def B4 (P : Params) : Obj := ⟨(.type "code"), none, (.fields #[(.str (Str.ofString "<module>") 176), (.str (Str.ofString "<module>") 177), (.str (Str.ofString "/claim/cut.py") 178), (.int (Int.ofNat 1) 0), (.int (Int.ofNat 0) 0), (.int (Int.ofNat 0) 0), (.int (Int.ofNat 0) 0), (.int (Int.ofNat 0) 0), (.ref 7), (.bool false), (.int (Int.ofNat 175) 0), (.ref 8), .none, .none, .none, .none, (.int (Int.ofNat 179) 0), (.int (Int.ofNat 1) 0), (.str (Str.ofString "/claim/cut.py") 180)]), #[]⟩
noncomputable def B5 (P : Params) : Obj := ⟨(.type "dict"), none, (.dict #[(eK P (Str.ofString "__name__") 247 (.str (Str.ofString "_sre") 246)), (eK P (Str.ofString "__doc__") 248 .none), (eK P (Str.ofString "__package__") 250 (.str (Str.ofString "") 249)), (eK P (Str.ofString "__loader__") 251 (.builtin "off-the-table:_sre.__loader__:shared#opaque")), (eK P (Str.ofString "__spec__") 252 (.builtin "off-the-table:_sre.__spec__:shared#opaque")), (eK P (Str.ofString "compile") 253 (.builtin "_sre.compile")), (eK P (Str.ofString "template") 254 (.builtin "off-the-table:_sre.template:shared#opaque")), (eK P (Str.ofString "getcodesize") 255 (.builtin "off-the-table:_sre.getcodesize:shared#opaque")), (eK P (Str.ofString "ascii_iscased") 256 (.builtin "off-the-table:_sre.ascii_iscased:shared#opaque")), (eK P (Str.ofString "unicode_iscased") 257 (.builtin "off-the-table:_sre.unicode_iscased:shared#opaque")), (eK P (Str.ofString "ascii_tolower") 258 (.builtin "off-the-table:_sre.ascii_tolower:shared#opaque")), (eK P (Str.ofString "unicode_tolower") 259 (.builtin "off-the-table:_sre.unicode_tolower:shared#opaque")), (eK P (Str.ofString "MAGIC") 261 (.int (Int.ofNat 20230612) 260)), (eK P (Str.ofString "CODESIZE") 263 (.int (Int.ofNat 4) 262)), (eK P (Str.ofString "MAXREPEAT") 265 (.int (Int.ofNat 4294967295) 264)), (eK P (Str.ofString "MAXGROUPS") 267 (.int (Int.ofNat 1073741823) 266)), (eK P (Str.ofString "copyright") 269 (.str (Str.ofString " SRE 2.2.2 Copyright (c) 1997-2002 by Secret Labs AB ") 268))] 17), #[]⟩
noncomputable def B6 (P : Params) : Obj := ⟨(.type "dict"), none, (.dict #[(eK P (Str.ofString "__module__") 189 (.str (Str.ofString "_frozen_importlib") 186)), (eK P (Str.ofString "__firstlineno__") 190 (.int (Int.ofNat 971) 187)), (eK P (Str.ofString "__doc__") 191 (.builtin "_frozen_importlib.BuiltinImporter.__doc__:str#opaque")), (eK P (Str.ofString "_ORIGIN") 192 (.str (Str.ofString "built-in") 188)), (eK P (Str.ofString "find_spec") 193 (.builtin "_frozen_importlib.BuiltinImporter.find_spec#opaque")), (eK P (Str.ofString "create_module") 194 (.builtin "_frozen_importlib.BuiltinImporter.create_module#opaque")), (eK P (Str.ofString "exec_module") 195 (.builtin "_frozen_importlib.BuiltinImporter.exec_module#opaque")), (eK P (Str.ofString "get_code") 196 (.builtin "_frozen_importlib.BuiltinImporter.get_code#opaque")), (eK P (Str.ofString "get_source") 197 (.builtin "_frozen_importlib.BuiltinImporter.get_source#opaque")), (eK P (Str.ofString "is_package") 198 (.builtin "_frozen_importlib.BuiltinImporter.is_package#opaque")), (eK P (Str.ofString "load_module") 199 (.builtin "_frozen_importlib.BuiltinImporter.load_module#opaque")), (eK P (Str.ofString "__static_attributes__") 200 (.ref 15)), (eK P (Str.ofString "__dict__") 202 (.ref 16)), (eK P (Str.ofString "__weakref__") 204 (.ref 17))] 14), #[]⟩
noncomputable def B7 (P : Params) : Obj := ⟨.none, none, (.seq #[(.int (Int.ofNat 13) 0), (.str (Str.ofString "\u0006\u00bd\n__module__\u0006\u00ba\u0011_frozen_importlib\u0006\u00be\u000f__firstlineno__\u0004\u00bb\u0000\u03cb\u0006\u00bf\u0007__doc__\t4_frozen_importlib.BuiltinImporter.__doc__:str#opaque\u0006\u00c0\u0007_ORIGIN\u0006\u00bc\u0008built-in\u0006\u00c1\tfind_spec\t2_frozen_importlib.BuiltinImporter.find_spec#opaque\u0006\u00c2\u000dcreate_module\t6_frozen_importlib.BuiltinImporter.create_module#opaque\u0006\u00c3\u000bexec_module\t4_frozen_importlib.BuiltinImporter.exec_module#opaque\u0006\u00c4\u0008get_code\t1_frozen_importlib.BuiltinImporter.get_code#opaque\u0006\u00c5\nget_source\t3_frozen_importlib.BuiltinImporter.get_source#opaque\u0006\u00c6\nis_package\t3_frozen_importlib.BuiltinImporter.is_package#opaque\u0006\u00c7\u000bload_module\t4_frozen_importlib.BuiltinImporter.load_module#opaque\u0006\u00c8\u0015__static_attributes__\u0004\u0000\u0000\u000f\u0006\u00ca\u0008__dict__\u0004\u0000\u0000\u0010\u0006\u00cc\u000b__weakref__\u0004\u0000\u0000\u0011") 0), (.bool true), (.bool true), (.str (Str.ofString "") 205), (.int (Int.ofNat 21) 0), (.str (Str.ofString "\u0006\u00e3\n__module__\u0006\u00d9\u0011_frozen_importlib\u0006\u00e4\u000f__firstlineno__\u0004\u00da\u0000\u0232\u0006\u00e5\u0007__doc__\t/_frozen_importlib.ModuleSpec.__doc__:str#opaque\u0006\u00e6\u0008__init__\t,_frozen_importlib.ModuleSpec.__init__#opaque\u0006\u00e7\u0008__repr__\t,_frozen_importlib.ModuleSpec.__repr__#opaque\u0006\u00e8\u0006__eq__\t*_frozen_importlib.ModuleSpec.__eq__#opaque\u0006\u00e9\u0006cached\t*_frozen_importlib.ModuleSpec.cached#opaque\u0006\u00ea\u0006parent\t*_frozen_importlib.ModuleSpec.parent#opaque\u0006\u00eb\u000chas_location\t0_frozen_importlib.ModuleSpec.has_location#opaque\u0006\u00ec\u0015__static_attributes__\u0004\u0000\u0000\u0017\u0006\u00ee\u0008__dict__\u0004\u0000\u0000\u0018\u0006\u00f0\u000b__weakref__\u0004\u0000\u0000\u0019\u0006\u00f1\u0008__hash__\u0000") 0), (.bool true), (.bool true), (.str (Str.ofString "") 242), (.int (Int.ofNat 32) 0), (.str (Str.ofString "\u0006\u0120\n__module__\u0006\u011e\u001a_frozen_importlib_external\u0006\u0121\u000f__firstlineno__\u0004\u011f\u0000\u03e9\u0006\u0122\u0007__doc__\t;_frozen_importlib_external._LoaderBasics.__doc__:str#opaque\u0006\u0123\nis_package\t:_frozen_importlib_external._LoaderBasics.is_package#opaque\u0006\u0124\u000dcreate_module\t=_frozen_importlib_external._LoaderBasics.create_module#opaque\u0006\u0125\u000bexec_module\t;_frozen_importlib_external._LoaderBasics.exec_module#opaque\u0006\u0126\u000bload_module\t;_frozen_importlib_external._LoaderBasics.load_module#opaque\u0006\u0127\u0015__static_attributes__\u0004\u0000\u0000\"\u0006\u0129\u0008__dict__\u0004\u0000\u0000#\u0006\u012b\u000b__weakref__\u0004\u0000\u0000$") 0), (.bool true), (.bool true), (.str (Str.ofString "") 300), (.int (Int.ofNat 37) 0), (.str (Str.ofString "\u0006\u0132\n__module__\u0006\u012e\u001a_frozen_importlib_external\u0006\u0133\u000f__firstlineno__\u0004\u012f\u0000\u0498\u0006\u0134\u0007__doc__\t8_frozen_importlib_external.FileLoader.__doc__:str#opaque\u0006\u0135\u0008__init__\t5_frozen_importlib_external.FileLoader.__init__#opaque\u0006\u0136\u0006__eq__\t3_frozen_importlib_external.FileLoader.__eq__#opaque\u0006\u0137\u0008__hash__\t5_frozen_importlib_external.FileLoader.__hash__#opaque\u0006\u0138\u000bload_module\t8_frozen_importlib_external.FileLoader.load_module#opaque\u0006\u0139\u000cget_filename\t9_frozen_importlib_external.FileLoader.get_filename#opaque\u0006\u013a\u0008get_data\t5_frozen_importlib_external.FileLoader.get_data#opaque\u0006\u013b\u0013get_resource_reader\t@_frozen_importlib_external.FileLoader.get_resource_reader#opaque\u0006\u013c\u0015__static_attributes__\u0004\u0000\u0000'\u0006\u013e\u0008__dict__\u0004\u0000\u0000(\u0006\u0140\u000b__weakref__\u0004\u0000\u0000)") 0), (.bool true), (.bool true), (.str (Str.ofString "") 321), (.int (Int.ofNat 42) 0), (.str (Str.ofString "\u0006\u0147\n__module__\u0006\u0143\u001a_frozen_importlib_external\u0006\u0148\u000f__firstlineno__\u0004\u0144\u0000\u0510\u0006\u0149\u0007__doc__\tA_frozen_importlib_external.ExtensionFileLoader.__doc__:str#opaque\u0006\u014a\u0008__init__\t>_frozen_importlib_external.ExtensionFileLoader.__init__#opaque\u0006\u014b\u0006__eq__\t<_frozen_importlib_external.ExtensionFileLoader.__eq__#opaque\u0006\u014c\u0008__hash__\t>_frozen_importlib_external.ExtensionFileLoader.__hash__#opaque\u0006\u014d\u000dcreate_module\tC_frozen_importlib_external.ExtensionFileLoader.create_module#opaque\u0006\u014e\u000bexec_module\tA_frozen_importlib_external.ExtensionFileLoader.exec_module#opaque\u0006\u014f\nis_package\t@_frozen_importlib_external.ExtensionFileLoader.is_package#opaque\u0006\u0150\u0008get_code\t>_frozen_importlib_external.ExtensionFileLoader.get_code#opaque\u0006\u0151\nget_source\t@_frozen_importlib_external.ExtensionFileLoader.get_source#opaque\u0006\u0152\u000cget_filename\tB_frozen_importlib_external.ExtensionFileLoader.get_filename#opaque\u0006\u0153\u0015__static_attributes__\u0004\u0000\u0000,") 0), (.bool true), (.bool true), (.str (Str.ofString "") 340)] 4), #[]⟩
noncomputable def B8 (P : Params) : Obj := ⟨(.type "dict"), none, (.dict #[(eK P (Str.ofString "name") 208 (.str (Str.ofString "_sre") 207)), (eK P (Str.ofString "loader") 209 (.ref 14)), (eK P (Str.ofString "origin") 210 (.str (Str.ofString "built-in") 184)), (eK P (Str.ofString "loader_state") 211 .none), (eK P (Str.ofString "submodule_search_locations") 212 .none), (eK P (Str.ofString "_uninitialized_submodules") 213 (.ref 19)), (eK P (Str.ofString "_set_fileattr") 214 (.bool false)), (eK P (Str.ofString "_cached") 215 .none), (eK P (Str.ofString "_initializing") 243 (.bool false))] 9), #[]⟩
noncomputable def B9 (P : Params) : Obj := ⟨(.type "dict"), none, (.dict #[(eK P (Str.ofString "__module__") 227 (.str (Str.ofString "_frozen_importlib") 217)), (eK P (Str.ofString "__firstlineno__") 228 (.int (Int.ofNat 562) 218)), (eK P (Str.ofString "__doc__") 229 (.builtin "_frozen_importlib.ModuleSpec.__doc__:str#opaque")), (eK P (Str.ofString "__init__") 230 (.builtin "_frozen_importlib.ModuleSpec.__init__#opaque")), (eK P (Str.ofString "__repr__") 231 (.builtin "_frozen_importlib.ModuleSpec.__repr__#opaque")), (eK P (Str.ofString "__eq__") 232 (.builtin "_frozen_importlib.ModuleSpec.__eq__#opaque")), (eK P (Str.ofString "cached") 233 (.builtin "_frozen_importlib.ModuleSpec.cached#opaque")), (eK P (Str.ofString "parent") 234 (.builtin "_frozen_importlib.ModuleSpec.parent#opaque")), (eK P (Str.ofString "has_location") 235 (.builtin "_frozen_importlib.ModuleSpec.has_location#opaque")), (eK P (Str.ofString "__static_attributes__") 236 (.ref 23)), (eK P (Str.ofString "__dict__") 238 (.ref 24)), (eK P (Str.ofString "__weakref__") 240 (.ref 25)), (eK P (Str.ofString "__hash__") 241 .none)] 13), #[]⟩
noncomputable def B10 (P : Params) : Obj := ⟨(.type "tuple"), none, (.seq #[(.str (Str.ofString "_cached") 219), (.str (Str.ofString "_set_fileattr") 220), (.str (Str.ofString "_uninitialized_submodules") 221), (.str (Str.ofString "loader") 222), (.str (Str.ofString "loader_state") 223), (.str (Str.ofString "name") 224), (.str (Str.ofString "origin") 225), (.str (Str.ofString "submodule_search_locations") 226)] 0), #[]⟩
noncomputable def B11 (P : Params) : Obj := ⟨.none, none, (.seq #[(.int (Int.ofNat 11) 0), (.str (Str.mk #[6, 247, 8, 95, 95, 110, 97, 109, 101, 95, 95, 6, 246, 4, 95, 115, 114, 101, 6, 248, 7, 95, 95, 100, 111, 99, 95, 95, 0, 6, 250, 11, 95, 95, 112, 97, 99, 107, 97, 103, 101, 95, 95, 6, 249, 0, 6, 251, 10, 95, 95, 108, 111, 97, 100, 101, 114, 95, 95, 4, 0, 0, 14, 6, 252, 8, 95, 95, 115, 112, 101, 99, 95, 95, 4, 0, 0, 26, 6, 253, 7, 99, 111, 109, 112, 105, 108, 101, 9, 12, 95, 115, 114, 101, 46, 99, 111, 109, 112, 105, 108, 101, 6, 254, 8, 116, 101, 109, 112, 108, 97, 116, 101, 9, 13, 95, 115, 114, 101, 46, 116, 101, 109, 112, 108, 97, 116, 101, 6, 255, 11, 103, 101, 116, 99, 111, 100, 101, 115, 105, 122, 101, 9, 16, 95, 115, 114, 101, 46, 103, 101, 116, 99, 111, 100, 101, 115, 105, 122, 101, 6, 256, 13, 97, 115, 99, 105, 105, 95, 105, 115, 99, 97, 115, 101, 100, 9, 18, 95, 115, 114, 101, 46, 97, 115, 99, 105, 105, 95, 105, 115, 99, 97, 115, 101, 100, 6, 257, 15, 117, 110, 105, 99, 111, 100, 101, 95, 105, 115, 99, 97, 115, 101, 100, 9, 20, 95, 115, 114, 101, 46, 117, 110, 105, 99, 111, 100, 101, 95, 105, 115, 99, 97, 115, 101, 100, 6, 258, 13, 97, 115, 99, 105, 105, 95, 116, 111, 108, 111, 119, 101, 114, 9, 18, 95, 115, 114, 101, 46, 97, 115, 99, 105, 105, 95, 116, 111, 108, 111, 119, 101, 114, 6, 259, 15, 117, 110, 105, 99, 111, 100, 101, 95, 116, 111, 108, 111, 119, 101, 114, 9, 20, 95, 115, 114, 101, 46, 117, 110, 105, 99, 111, 100, 101, 95, 116, 111, 108, 111, 119, 101, 114, 6, 261, 5, 77, 65, 71, 73, 67, 4, 260, 0, 20230612, 6, 263, 8, 67, 79, 68, 69, 83, 73, 90, 69, 4, 262, 0, 4, 6, 265, 9, 77, 65, 88, 82, 69, 80, 69, 65, 84, 4, 264, 0, 4294967295, 6, 267, 9, 77, 65, 88, 71, 82, 79, 85, 80, 83, 4, 266, 0, 1073741823, 6, 269, 9, 99, 111, 112, 121, 114, 105, 103, 104, 116, 6, 268, 53, 32, 83, 82, 69, 32, 50, 46, 50, 46, 50, 32, 67, 111, 112, 121, 114, 105, 103, 104, 116, 32, 40, 99, 41, 32, 49, 57, 57, 55, 45, 50, 48, 48, 50, 32, 98, 121, 32, 83, 101, 99, 114, 101, 116, 32, 76, 97, 98, 115, 32, 65, 66, 32]) 0), (.bool true), (.bool false), (.str (Str.ofString "_sre") 271), (.int (Int.ofNat 29) 0), (.str (Str.mk #[6, 354, 8, 95, 95, 110, 97, 109, 101, 95, 95, 6, 353, 4, 109, 97, 116, 104, 6, 355, 7, 95, 95, 100, 111, 99, 95, 95, 9, 23, 109, 97, 116, 104, 46, 95, 95, 100, 111, 99, 95, 95, 58, 115, 116, 114, 35, 111, 112, 97, 113, 117, 101, 6, 357, 11, 95, 95, 112, 97, 99, 107, 97, 103, 101, 95, 95, 6, 356, 0, 6, 358, 10, 95, 95, 108, 111, 97, 100, 101, 114, 95, 95, 4, 0, 0, 45, 6, 359, 8, 95, 95, 115, 112, 101, 99, 95, 95, 4, 0, 0, 48, 6, 360, 4, 97, 99, 111, 115, 9, 9, 109, 97, 116, 104, 46, 97, 99, 111, 115, 6, 361, 5, 97, 99, 111, 115, 104, 9, 10, 109, 97, 116, 104, 46, 97, 99, 111, 115, 104, 6, 362, 4, 97, 115, 105, 110, 9, 9, 109, 97, 116, 104, 46, 97, 115, 105, 110, 6, 363, 5, 97, 115, 105, 110, 104, 9, 10, 109, 97, 116, 104, 46, 97, 115, 105, 110, 104, 6, 364, 4, 97, 116, 97, 110, 9, 9, 109, 97, 116, 104, 46, 97, 116, 97, 110, 6, 365, 5, 97, 116, 97, 110, 50, 9, 10, 109, 97, 116, 104, 46, 97, 116, 97, 110, 50, 6, 366, 5, 97, 116, 97, 110, 104, 9, 10, 109, 97, 116, 104, 46, 97, 116, 97, 110, 104, 6, 367, 4, 99, 98, 114, 116, 9, 9, 109, 97, 116, 104, 46, 99, 98, 114, 116, 6, 368, 4, 99, 101, 105, 108, 9, 9, 109, 97, 116, 104, 46, 99, 101, 105, 108, 6, 369, 8, 99, 111, 112, 121, 115, 105, 103, 110, 9, 13, 109, 97, 116, 104, 46, 99, 111, 112, 121, 115, 105, 103, 110, 6, 370, 3, 99, 111, 115, 9, 8, 109, 97, 116, 104, 46, 99, 111, 115, 6, 371, 4, 99, 111, 115, 104, 9, 9, 109, 97, 116, 104, 46, 99, 111, 115, 104, 6, 372, 7, 100, 101, 103, 114, 101, 101, 115, 9, 12, 109, 97, 116, 104, 46, 100, 101, 103, 114, 101, 101, 115, 6, 373, 4, 100, 105, 115, 116, 9, 9, 109, 97, 116, 104, 46, 100, 105, 115, 116, 6, 374, 3, 101, 114, 102, 9, 8, 109, 97, 116, 104, 46, 101, 114, 102, 6, 375, 4, 101, 114, 102, 99, 9, 9, 109, 97, 116, 104, 46, 101, 114, 102, 99, 6, 376, 3, 101, 120, 112, 9, 8, 109, 97, 116, 104, 46, 101, 120, 112, 6, 377, 4, 101, 120, 112, 50, 9, 9, 109, 97, 116, 104, 46, 101, 120, 112, 50, 6, 378, 5, 101, 120, 112, 109, 49, 9, 10, 109, 97, 116, 104, 46, 101, 120, 112, 109, 49, 6, 379, 4, 102, 97, 98, 115, 9, 9, 109, 97, 116, 104, 46, 102, 97, 98, 115, 6, 380, 9, 102, 97, 99, 116, 111, 114, 105, 97, 108, 9, 14, 109, 97, 116, 104, 46, 102, 97, 99, 116, 111, 114, 105, 97, 108, 6, 381, 5, 102, 108, 111, 111, 114, 9, 10, 109, 97, 116, 104, 46, 102, 108, 111, 111, 114, 6, 382, 3, 102, 109, 97, 9, 8, 109, 97, 116, 104, 46, 102, 109, 97, 6, 383, 4, 102, 109, 111, 100, 9, 9, 109, 97, 116, 104, 46, 102, 109, 111, 100, 6, 384, 5, 102, 114, 101, 120, 112, 9, 10, 109, 97, 116, 104, 46, 102, 114, 101, 120, 112, 6, 385, 4, 102, 115, 117, 109, 9, 9, 109, 97, 116, 104, 46, 102, 115, 117, 109, 6, 386, 5, 103, 97, 109, 109, 97, 9, 10, 109, 97, 116, 104, 46, 103, 97, 109, 109, 97, 6, 387, 3, 103, 99, 100, 9, 8, 109, 97, 116, 104, 46, 103, 99, 100, 6, 388, 5, 104, 121, 112, 111, 116, 9, 10, 109, 97, 116, 104, 46, 104, 121, 112, 111, 116, 6, 389, 7, 105, 115, 99, 108, 111, 115, 101, 9, 12, 109, 97, 116, 104, 46, 105, 115, 99, 108, 111, 115, 101, 6, 390, 8, 105, 115, 102, 105, 110, 105, 116, 101, 9, 13, 109, 97, 116, 104, 46, 105, 115, 102, 105, 110, 105, 116, 101, 6, 391, 5, 105, 115, 105, 110, 102, 9, 10, 109, 97, 116, 104, 46, 105, 115, 105, 110, 102, 6, 392, 5, 105, 115, 110, 97, 110, 9, 10, 109, 97, 116, 104, 46, 105, 115, 110, 97, 110, 6, 393, 5, 105, 115, 113, 114, 116, 9, 10, 109, 97, 116, 104, 46, 105, 115, 113, 114, 116, 6, 394, 3, 108, 99, 109, 9, 8, 109, 97, 116, 104, 46, 108, 99, 109, 6, 395, 5, 108, 100, 101, 120, 112, 9, 10, 109, 97, 116, 104, 46, 108, 100, 101, 120, 112, 6, 396, 6, 108, 103, 97, 109, 109, 97, 9, 11, 109, 97, 116, 104, 46, 108, 103, 97, 109, 109, 97, 6, 397, 3, 108, 111, 103, 9, 8, 109, 97, 116, 104, 46, 108, 111, 103, 6, 398, 5, 108, 111, 103, 49, 112, 9, 10, 109, 97, 116, 104, 46, 108, 111, 103, 49, 112, 6, 399, 5, 108, 111, 103, 49, 48, 9, 10, 109, 97, 116, 104, 46, 108, 111, 103, 49, 48, 6, 400, 4, 108, 111, 103, 50, 9, 9, 109, 97, 116, 104, 46, 108, 111, 103, 50, 6, 401, 4, 109, 111, 100, 102, 9, 9, 109, 97, 116, 104, 46, 109, 111, 100, 102, 6, 402, 3, 112, 111, 119, 9, 8, 109, 97, 116, 104, 46, 112, 111, 119, 6, 403, 7, 114, 97, 100, 105, 97, 110, 115, 9, 12, 109, 97, 116, 104, 46, 114, 97, 100, 105, 97, 110, 115, 6, 404, 9, 114, 101, 109, 97, 105, 110, 100, 101, 114, 9, 14, 109, 97, 116, 104, 46, 114, 101, 109, 97, 105, 110, 100, 101, 114, 6, 405, 3, 115, 105, 110, 9, 8, 109, 97, 116, 104, 46, 115, 105, 110, 6, 406, 4, 115, 105, 110, 104, 9, 9, 109, 97, 116, 104, 46, 115, 105, 110, 104, 6, 407, 4, 115, 113, 114, 116, 9, 9, 109, 97, 116, 104, 46, 115, 113, 114, 116, 6, 408, 3, 116, 97, 110, 9, 8, 109, 97, 116, 104, 46, 116, 97, 110, 6, 409, 4, 116, 97, 110, 104, 9, 9, 109, 97, 116, 104, 46, 116, 97, 110, 104, 6, 410, 7, 115, 117, 109, 112, 114, 111, 100, 9, 12, 109, 97, 116, 104, 46, 115, 117, 109, 112, 114, 111, 100, 6, 411, 5, 116, 114, 117, 110, 99, 9, 10, 109, 97, 116, 104, 46, 116, 114, 117, 110, 99, 6, 412, 4, 112, 114, 111, 100, 9, 9, 109, 97, 116, 104, 46, 112, 114, 111, 100, 6, 413, 4, 112, 101, 114, 109, 9, 9, 109, 97, 116, 104, 46, 112, 101, 114, 109, 6, 414, 4, 99, 111, 109, 98, 9, 9, 109, 97, 116, 104, 46, 99, 111, 109, 98, 6, 415, 9, 110, 101, 120, 116, 97, 102, 116, 101, 114, 9, 14, 109, 97, 116, 104, 46, 110, 101, 120, 116, 97, 102, 116, 101, 114, 6, 416, 3, 117, 108, 112, 9, 8, 109, 97, 116, 104, 46, 117, 108, 112, 6, 417, 8, 95, 95, 102, 105, 108, 101, 95, 95, 6, 281, 123, 47, 110, 105, 120, 47, 115, 116, 111, 114, 101, 47, 119, 106, 49, 102, 53, 54, 113, 107, 121, 52, 112, 109, 106, 99, 55, 108, 48, 114, 54, 98, 54, 108, 55, 119, 104, 110, 110, 119, 55, 104, 112, 54, 45, 112, 121, 116, 104, 111, 110, 51, 45, 51, 46, 49, 51, 46, 49, 53, 47, 108, 105, 98, 47, 112, 121, 116, 104, 111, 110, 51, 46, 49, 51, 47, 108, 105, 98, 45, 100, 121, 110, 108, 111, 97, 100, 47, 109, 97, 116, 104, 46, 99, 112, 121, 116, 104, 111, 110, 45, 51, 49, 51, 45, 120, 56, 54, 95, 54, 52, 45, 108, 105, 110, 117, 120, 45, 103, 110, 117, 46, 115, 111, 6, 419, 2, 112, 105, 5, 418, 4614256656552045848, 6, 421, 1, 101, 5, 420, 4613303445314885481, 6, 423, 3, 116, 97, 117, 5, 422, 4618760256179416344, 6, 425, 3, 105, 110, 102, 5, 424, 9218868437227405312, 6, 427, 3, 110, 97, 110, 5, 426, 9221120237041090560]) 0), (.bool true), (.bool false), (.str (Str.ofString "math") 429), (.int (Int.ofNat 50) 0), (.str (Str.ofString "\u0006\u01ca\u0008__name__\u0006\u01c9\u000bunicodedata\u0006\u01cb\u0007__doc__\t\u001eunicodedata.__doc__:str#opaque\u0006\u01cd\u000b__package__\u0006\u01cc\u0000\u0006\u01ce\n__loader__\u0004\u0000\u00005\u0006\u01cf\u0008__spec__\u0004\u0000\u00008\u0006\u01d0\u0007decimal\t\u0013unicodedata.decimal\u0006\u01d1\u0005digit\t\u0011unicodedata.digit\u0006\u01d2\u0007numeric\t\u0013unicodedata.numeric\u0006\u01d3\u0008category\t\u0014unicodedata.category\u0006\u01d4\u000dbidirectional\t\u0019unicodedata.bidirectional\u0006\u01d5\tcombining\t\u0015unicodedata.combining\u0006\u01d6\u0008mirrored\t\u0014unicodedata.mirrored\u0006\u01d7\u0010east_asian_width\t\u001cunicodedata.east_asian_width\u0006\u01d8\u000ddecomposition\t\u0019unicodedata.decomposition\u0006\u01d9\u0004name\t\u0010unicodedata.name\u0006\u01da\u0006lookup\t\u0012unicodedata.lookup\u0006\u01db\u000dis_normalized\t\u0019unicodedata.is_normalized\u0006\u01dc\tnormalize\t\u0015unicodedata.normalize\u0006\u01dd\u0008__file__\u0006\u01b9\u0082/nix/store/wj1f56qky4pmjc7l0r6b6l7whnnw7hp6-python3-3.13.15/lib/python3.13/lib-dynload/unicodedata.cpython-313-x86_64-linux-gnu.so\u0006\u01df\u000funidata_version\u0006\u01de\u000615.1.0\u0006\u01e0\u0003UCD\u0008\u000funicodedata.UCD\u0006\u01e1\tucd_3_2_0\u0004\u0000\u00009\u0006\u01e2\u000d_ucnhash_CAPI\t unicodedata._ucnhash_CAPI#opaque") 0), (.bool true), (.bool false), (.str (Str.ofString "unicodedata") 484)] 2), #[]⟩
noncomputable def B12 (P : Params) : Obj := ⟨(.type "dict"), none, (.dict #[(eK P (Str.ofString "__name__") 354 (.str (Str.ofString "math") 353)), (eK P (Str.ofString "__doc__") 355 (.builtin "off-the-table:math.__doc__:shared#opaque")), (eK P (Str.ofString "__package__") 357 (.str (Str.ofString "") 356)), (eK P (Str.ofString "__loader__") 358 (.builtin "off-the-table:math.__loader__:shared#opaque")), (eK P (Str.ofString "__spec__") 359 (.builtin "off-the-table:math.__spec__:shared#opaque")), (eK P (Str.ofString "acos") 360 (.builtin "off-the-table:math.acos:shared#opaque")), (eK P (Str.ofString "acosh") 361 (.builtin "off-the-table:math.acosh:shared#opaque")), (eK P (Str.ofString "asin") 362 (.builtin "off-the-table:math.asin:shared#opaque")), (eK P (Str.ofString "asinh") 363 (.builtin "off-the-table:math.asinh:shared#opaque")), (eK P (Str.ofString "atan") 364 (.builtin "off-the-table:math.atan:shared#opaque")), (eK P (Str.ofString "atan2") 365 (.builtin "off-the-table:math.atan2:shared#opaque")), (eK P (Str.ofString "atanh") 366 (.builtin "off-the-table:math.atanh:shared#opaque")), (eK P (Str.ofString "cbrt") 367 (.builtin "off-the-table:math.cbrt:shared#opaque")), (eK P (Str.ofString "ceil") 368 (.builtin "math.ceil")), (eK P (Str.ofString "copysign") 369 (.builtin "math.copysign")), (eK P (Str.ofString "cos") 370 (.builtin "off-the-table:math.cos:shared#opaque")), (eK P (Str.ofString "cosh") 371 (.builtin "off-the-table:math.cosh:shared#opaque")), (eK P (Str.ofString "degrees") 372 (.builtin "math.degrees")), (eK P (Str.ofString "dist") 373 (.builtin "math.dist")), (eK P (Str.ofString "erf") 374 (.builtin "off-the-table:math.erf:shared#opaque")), (eK P (Str.ofString "erfc") 375 (.builtin "off-the-table:math.erfc:shared#opaque")), (eK P (Str.ofString "exp") 376 (.builtin "off-the-table:math.exp:shared#opaque")), (eK P (Str.ofString "exp2") 377 (.builtin "off-the-table:math.exp2:shared#opaque")), (eK P (Str.ofString "expm1") 378 (.builtin "off-the-table:math.expm1:shared#opaque")), (eK P (Str.ofString "fabs") 379 (.builtin "math.fabs")), (eK P (Str.ofString "factorial") 380 (.builtin "math.factorial")), (eK P (Str.ofString "floor") 381 (.builtin "math.floor")), (eK P (Str.ofString "fma") 382 (.builtin "math.fma")), (eK P (Str.ofString "fmod") 383 (.builtin "math.fmod")), (eK P (Str.ofString "frexp") 384 (.builtin "math.frexp")), (eK P (Str.ofString "fsum") 385 (.builtin "math.fsum")), (eK P (Str.ofString "gamma") 386 (.builtin "off-the-table:math.gamma:shared#opaque")), (eK P (Str.ofString "gcd") 387 (.builtin "math.gcd")), (eK P (Str.ofString "hypot") 388 (.builtin "math.hypot")), (eK P (Str.ofString "isclose") 389 (.builtin "math.isclose")), (eK P (Str.ofString "isfinite") 390 (.builtin "math.isfinite")), (eK P (Str.ofString "isinf") 391 (.builtin "math.isinf")), (eK P (Str.ofString "isnan") 392 (.builtin "math.isnan")), (eK P (Str.ofString "isqrt") 393 (.builtin "math.isqrt")), (eK P (Str.ofString "lcm") 394 (.builtin "math.lcm")), (eK P (Str.ofString "ldexp") 395 (.builtin "math.ldexp")), (eK P (Str.ofString "lgamma") 396 (.builtin "off-the-table:math.lgamma:shared#opaque")), (eK P (Str.ofString "log") 397 (.builtin "off-the-table:math.log:shared#opaque")), (eK P (Str.ofString "log1p") 398 (.builtin "off-the-table:math.log1p:shared#opaque")), (eK P (Str.ofString "log10") 399 (.builtin "off-the-table:math.log10:shared#opaque")), (eK P (Str.ofString "log2") 400 (.builtin "off-the-table:math.log2:shared#opaque")), (eK P (Str.ofString "modf") 401 (.builtin "math.modf")), (eK P (Str.ofString "pow") 402 (.builtin "off-the-table:math.pow:shared#opaque")), (eK P (Str.ofString "radians") 403 (.builtin "math.radians")), (eK P (Str.ofString "remainder") 404 (.builtin "math.remainder")), (eK P (Str.ofString "sin") 405 (.builtin "off-the-table:math.sin:shared#opaque")), (eK P (Str.ofString "sinh") 406 (.builtin "off-the-table:math.sinh:shared#opaque")), (eK P (Str.ofString "sqrt") 407 (.builtin "math.sqrt")), (eK P (Str.ofString "tan") 408 (.builtin "off-the-table:math.tan:shared#opaque")), (eK P (Str.ofString "tanh") 409 (.builtin "off-the-table:math.tanh:shared#opaque")), (eK P (Str.ofString "sumprod") 410 (.builtin "math.sumprod")), (eK P (Str.ofString "trunc") 411 (.builtin "math.trunc")), (eK P (Str.ofString "prod") 412 (.builtin "math.prod")), (eK P (Str.ofString "perm") 413 (.builtin "math.perm")), (eK P (Str.ofString "comb") 414 (.builtin "math.comb")), (eK P (Str.ofString "nextafter") 415 (.builtin "math.nextafter")), (eK P (Str.ofString "ulp") 416 (.builtin "math.ulp")), (eK P (Str.ofString "__file__") 417 (.str (Str.ofString "/nix/store/wj1f56qky4pmjc7l0r6b6l7whnnw7hp6-python3-3.13.15/lib/python3.13/lib-dynload/math.cpython-313-x86_64-linux-gnu.so") 281)), (eK P (Str.ofString "pi") 419 (.float 4614256656552045848 418)), (eK P (Str.ofString "e") 421 (.float 4613303445314885481 420)), (eK P (Str.ofString "tau") 423 (.float 4618760256179416344 422)), (eK P (Str.ofString "inf") 425 (.float 9218868437227405312 424)), (eK P (Str.ofString "nan") 427 (.float 9221120237041090560 426))] 68), #[]⟩
noncomputable def B13 (P : Params) : Obj := ⟨(.type "dict"), none, (.dict #[(eK P (Str.ofString "name") 283 (.str (Str.ofString "math") 282)), (eK P (Str.ofString "path") 284 (.str (Str.ofString "/nix/store/wj1f56qky4pmjc7l0r6b6l7whnnw7hp6-python3-3.13.15/lib/python3.13/lib-dynload/math.cpython-313-x86_64-linux-gnu.so") 281))] 2), #[]⟩
noncomputable def B14 (P : Params) : Obj := ⟨(.type "dict"), none, (.dict #[(eK P (Str.ofString "__module__") 288 (.str (Str.ofString "_frozen_importlib_external") 286)), (eK P (Str.ofString "__firstlineno__") 289 (.int (Int.ofNat 1001) 287)), (eK P (Str.ofString "__doc__") 290 (.builtin "_frozen_importlib_external._LoaderBasics.__doc__:str#opaque")), (eK P (Str.ofString "is_package") 291 (.builtin "_frozen_importlib_external._LoaderBasics.is_package#opaque")), (eK P (Str.ofString "create_module") 292 (.builtin "_frozen_importlib_external._LoaderBasics.create_module#opaque")), (eK P (Str.ofString "exec_module") 293 (.builtin "_frozen_importlib_external._LoaderBasics.exec_module#opaque")), (eK P (Str.ofString "load_module") 294 (.builtin "_frozen_importlib_external._LoaderBasics.load_module#opaque")), (eK P (Str.ofString "__static_attributes__") 295 (.ref 34)), (eK P (Str.ofString "__dict__") 297 (.ref 35)), (eK P (Str.ofString "__weakref__") 299 (.ref 36))] 10), #[]⟩
noncomputable def B15 (P : Params) : Obj := ⟨(.type "dict"), none, (.dict #[(eK P (Str.ofString "__module__") 306 (.str (Str.ofString "_frozen_importlib_external") 302)), (eK P (Str.ofString "__firstlineno__") 307 (.int (Int.ofNat 1176) 303)), (eK P (Str.ofString "__doc__") 308 (.builtin "_frozen_importlib_external.FileLoader.__doc__:str#opaque")), (eK P (Str.ofString "__init__") 309 (.builtin "_frozen_importlib_external.FileLoader.__init__#opaque")), (eK P (Str.ofString "__eq__") 310 (.builtin "_frozen_importlib_external.FileLoader.__eq__#opaque")), (eK P (Str.ofString "__hash__") 311 (.builtin "_frozen_importlib_external.FileLoader.__hash__#opaque")), (eK P (Str.ofString "load_module") 312 (.builtin "_frozen_importlib_external.FileLoader.load_module#opaque")), (eK P (Str.ofString "get_filename") 313 (.builtin "_frozen_importlib_external.FileLoader.get_filename#opaque")), (eK P (Str.ofString "get_data") 314 (.builtin "_frozen_importlib_external.FileLoader.get_data#opaque")), (eK P (Str.ofString "get_resource_reader") 315 (.builtin "_frozen_importlib_external.FileLoader.get_resource_reader#opaque")), (eK P (Str.ofString "__static_attributes__") 316 (.ref 39)), (eK P (Str.ofString "__dict__") 318 (.ref 40)), (eK P (Str.ofString "__weakref__") 320 (.ref 41))] 13), #[]⟩
noncomputable def B16 (P : Params) : Obj := ⟨(.type "dict"), none, (.dict #[(eK P (Str.ofString "__module__") 327 (.str (Str.ofString "_frozen_importlib_external") 323)), (eK P (Str.ofString "__firstlineno__") 328 (.int (Int.ofNat 1296) 324)), (eK P (Str.ofString "__doc__") 329 (.builtin "_frozen_importlib_external.ExtensionFileLoader.__doc__:str#opaque")), (eK P (Str.ofString "__init__") 330 (.builtin "_frozen_importlib_external.ExtensionFileLoader.__init__#opaque")), (eK P (Str.ofString "__eq__") 331 (.builtin "_frozen_importlib_external.ExtensionFileLoader.__eq__#opaque")), (eK P (Str.ofString "__hash__") 332 (.builtin "_frozen_importlib_external.ExtensionFileLoader.__hash__#opaque")), (eK P (Str.ofString "create_module") 333 (.builtin "_frozen_importlib_external.ExtensionFileLoader.create_module#opaque")), (eK P (Str.ofString "exec_module") 334 (.builtin "_frozen_importlib_external.ExtensionFileLoader.exec_module#opaque")), (eK P (Str.ofString "is_package") 335 (.builtin "_frozen_importlib_external.ExtensionFileLoader.is_package#opaque")), (eK P (Str.ofString "get_code") 336 (.builtin "_frozen_importlib_external.ExtensionFileLoader.get_code#opaque")), (eK P (Str.ofString "get_source") 337 (.builtin "_frozen_importlib_external.ExtensionFileLoader.get_source#opaque")), (eK P (Str.ofString "get_filename") 338 (.builtin "_frozen_importlib_external.ExtensionFileLoader.get_filename#opaque")), (eK P (Str.ofString "__static_attributes__") 339 (.ref 44))] 13), #[]⟩
noncomputable def B17 (P : Params) : Obj := ⟨(.type "dict"), none, (.dict #[(eK P (Str.ofString "name") 342 (.str (Str.ofString "math") 341)), (eK P (Str.ofString "loader") 343 (.ref 45)), (eK P (Str.ofString "origin") 344 (.str (Str.ofString "/nix/store/wj1f56qky4pmjc7l0r6b6l7whnnw7hp6-python3-3.13.15/lib/python3.13/lib-dynload/math.cpython-313-x86_64-linux-gnu.so") 281)), (eK P (Str.ofString "loader_state") 345 .none), (eK P (Str.ofString "submodule_search_locations") 346 .none), (eK P (Str.ofString "_uninitialized_submodules") 347 (.ref 46)), (eK P (Str.ofString "_set_fileattr") 348 (.bool true)), (eK P (Str.ofString "_cached") 349 .none), (eK P (Str.ofString "_initializing") 350 (.bool false))] 9), #[]⟩
noncomputable def B18 (P : Params) : Obj := ⟨(.type "dict"), none, (.dict #[(eK P (Str.ofString "__name__") 458 (.str (Str.ofString "unicodedata") 457)), (eK P (Str.ofString "__doc__") 459 (.builtin "off-the-table:unicodedata.__doc__:shared#opaque")), (eK P (Str.ofString "__package__") 461 (.str (Str.ofString "") 460)), (eK P (Str.ofString "__loader__") 462 (.builtin "off-the-table:unicodedata.__loader__:shared#opaque")), (eK P (Str.ofString "__spec__") 463 (.builtin "off-the-table:unicodedata.__spec__:shared#opaque")), (eK P (Str.ofString "decimal") 464 (.builtin "unicodedata.decimal")), (eK P (Str.ofString "digit") 465 (.builtin "unicodedata.digit")), (eK P (Str.ofString "numeric") 466 (.builtin "unicodedata.numeric")), (eK P (Str.ofString "category") 467 (.builtin "unicodedata.category")), (eK P (Str.ofString "bidirectional") 468 (.builtin "unicodedata.bidirectional")), (eK P (Str.ofString "combining") 469 (.builtin "unicodedata.combining")), (eK P (Str.ofString "mirrored") 470 (.builtin "unicodedata.mirrored")), (eK P (Str.ofString "east_asian_width") 471 (.builtin "unicodedata.east_asian_width")), (eK P (Str.ofString "decomposition") 472 (.builtin "unicodedata.decomposition")), (eK P (Str.ofString "name") 473 (.builtin "unicodedata.name")), (eK P (Str.ofString "lookup") 474 (.builtin "unicodedata.lookup")), (eK P (Str.ofString "is_normalized") 475 (.builtin "unicodedata.is_normalized")), (eK P (Str.ofString "normalize") 476 (.builtin "unicodedata.normalize")), (eK P (Str.ofString "__file__") 477 (.str (Str.ofString "/nix/store/wj1f56qky4pmjc7l0r6b6l7whnnw7hp6-python3-3.13.15/lib/python3.13/lib-dynload/unicodedata.cpython-313-x86_64-linux-gnu.so") 441)), (eK P (Str.ofString "unidata_version") 479 (.str (Str.ofString "15.1.0") 478)), (eK P (Str.ofString "UCD") 480 (.builtin "off-the-table:unicodedata.UCD:shared#opaque")), (eK P (Str.ofString "ucd_3_2_0") 481 (.builtin "off-the-table:unicodedata.ucd_3_2_0:shared#opaque")), (eK P (Str.ofString "_ucnhash_CAPI") 482 (.builtin "off-the-table:unicodedata._ucnhash_CAPI:shared#opaque"))] 23), #[]⟩
noncomputable def B19 (P : Params) : Obj := ⟨(.type "dict"), none, (.dict #[(eK P (Str.ofString "name") 443 (.str (Str.ofString "unicodedata") 442)), (eK P (Str.ofString "path") 444 (.str (Str.ofString "/nix/store/wj1f56qky4pmjc7l0r6b6l7whnnw7hp6-python3-3.13.15/lib/python3.13/lib-dynload/unicodedata.cpython-313-x86_64-linux-gnu.so") 441))] 2), #[]⟩
noncomputable def B20 (P : Params) : Obj := ⟨(.type "dict"), none, (.dict #[(eK P (Str.ofString "name") 446 (.str (Str.ofString "unicodedata") 445)), (eK P (Str.ofString "loader") 447 (.ref 53)), (eK P (Str.ofString "origin") 448 (.str (Str.ofString "/nix/store/wj1f56qky4pmjc7l0r6b6l7whnnw7hp6-python3-3.13.15/lib/python3.13/lib-dynload/unicodedata.cpython-313-x86_64-linux-gnu.so") 441)), (eK P (Str.ofString "loader_state") 449 .none), (eK P (Str.ofString "submodule_search_locations") 450 .none), (eK P (Str.ofString "_uninitialized_submodules") 451 (.ref 54)), (eK P (Str.ofString "_set_fileattr") 452 (.bool true)), (eK P (Str.ofString "_cached") 453 .none), (eK P (Str.ofString "_initializing") 454 (.bool false))] 9), #[]⟩
noncomputable def B21 (P : Params) : Obj := ⟨(.type "code"), none, (.fields #[(.str (Str.ofString "<module>") 493), (.str (Str.ofString "<module>") 494), (.str (Str.ofString "/claim/cut.py") 495), (.int (Int.ofNat 1) 0), (.int (Int.ofNat 0) 0), (.int (Int.ofNat 0) 0), (.int (Int.ofNat 0) 0), (.int (Int.ofNat 0) 0), (.ref 58), (.bool false), (.int (Int.ofNat 492) 0), (.ref 59), .none, .none, .none, .none, (.int (Int.ofNat 496) 0), (.int (Int.ofNat 1) 0), (.str (Str.ofString "/claim/cut.py") 497)]), #[]⟩
noncomputable def B22 (P : Params) : Obj := ⟨(.type "code"), none, (.fields #[(.str (Str.ofString "_wall") 498), (.str (Str.ofString "_wall") 499), (.str (Str.ofString "/claim/cut.py") 500), (.int (Int.ofNat 4) 0), (.int (Int.ofNat 1) 0), (.int (Int.ofNat 0) 0), (.int (Int.ofNat 0) 0), (.int (Int.ofNat 3) 0), (.ref 62), (.bool true), (.int (Int.ofNat 492) 0), (.ref 63), .none, (.ref 64), (.ref 65), (.ref 66), (.int (Int.ofNat 502) 0), (.int (Int.ofNat 4) 0), (.str (Str.ofString "/claim/cut.py") 503)]), #[]⟩
noncomputable def B23 (P : Params) : Obj := ⟨(.type "dict"), none, (.dict #[(eK P (Str.ofString "__module__") 1171 (.str (Str.ofString "builtins") 1176)), (eK P (Str.ofString "__qualname__") 1173 (.str (Str.ofString "mappingproxy") 1172)), (eK P (Str.ofString "__firstlineno__") 1175 (.int (Int.ofNat 10) 1174)), (eK P (Str.ofString "__slots__") 1179 (.ref 82)), (eK P (Str.ofString "__new__") 1188 (.ref 89)), (eK P (Str.ofString "__reduce_ex__") 1196 (.ref 96)), (eK P (Str.ofString "__getitem__") 1204 (.ref 103)), (eK P (Str.ofString "__len__") 1211 (.ref 110)), (eK P (Str.ofString "__iter__") 1218 (.ref 117)), (eK P (Str.ofString "__reversed__") 1225 (.ref 124)), (eK P (Str.ofString "__contains__") 1233 (.ref 131)), (eK P (Str.ofString "__repr__") 1240 (.ref 138)), (eK P (Str.ofString "__str__") 1247 (.ref 145)), (eK P (Str.ofString "__eq__") 1255 (.ref 152)), (eK P (Str.ofString "__ne__") 1263 (.ref 159)), (eK P (Str.ofString "__lt__") 1271 (.ref 166)), (eK P (Str.ofString "__le__") 1279 (.ref 173)), (eK P (Str.ofString "__gt__") 1287 (.ref 180)), (eK P (Str.ofString "__ge__") 1295 (.ref 187)), (eK P (Str.ofString "__hash__") 1302 (.ref 194)), (eK P (Str.ofString "__or__") 1310 (.ref 201)), (eK P (Str.ofString "__ror__") 1318 (.ref 208)), (eK P (Str.ofString "__ior__") 1326 (.ref 215)), (eK P (Str.ofString "get") 1335 (.ref 223)), (eK P (Str.ofString "keys") 1342 (.ref 230)), (eK P (Str.ofString "values") 1349 (.ref 237)), (eK P (Str.ofString "items") 1356 (.ref 244)), (eK P (Str.ofString "copy") 1363 (.ref 251)), (eK P (Str.ofString "__static_attributes__") 1365 (.ref 252))] 29), #[]⟩
noncomputable def B24 (P : Params) : Obj := ⟨.none, none, (.fields #[(.int (Int.ofNat 14) 0), (.int (Int.ofNat 4) 0), (.ref 88), (.int (Int.ofNat 21) 0), (.int (Int.ofNat 4) 0), (.ref 95), (.int (Int.ofNat 24) 0), (.int (Int.ofNat 4) 0), (.ref 102), (.int (Int.ofNat 27) 0), (.int (Int.ofNat 4) 0), (.ref 109), (.int (Int.ofNat 30) 0), (.int (Int.ofNat 4) 0), (.ref 116), (.int (Int.ofNat 33) 0), (.int (Int.ofNat 4) 0), (.ref 123), (.int (Int.ofNat 36) 0), (.int (Int.ofNat 4) 0), (.ref 130), (.int (Int.ofNat 39) 0), (.int (Int.ofNat 4) 0), (.ref 137), (.int (Int.ofNat 42) 0), (.int (Int.ofNat 4) 0), (.ref 144), (.int (Int.ofNat 45) 0), (.int (Int.ofNat 4) 0), (.ref 151), (.int (Int.ofNat 48) 0), (.int (Int.ofNat 4) 0), (.ref 158), (.int (Int.ofNat 51) 0), (.int (Int.ofNat 4) 0), (.ref 165), (.int (Int.ofNat 54) 0), (.int (Int.ofNat 4) 0), (.ref 172), (.int (Int.ofNat 57) 0), (.int (Int.ofNat 4) 0), (.ref 179), (.int (Int.ofNat 60) 0), (.int (Int.ofNat 4) 0), (.ref 186), (.int (Int.ofNat 63) 0), (.int (Int.ofNat 4) 0), (.ref 193), (.int (Int.ofNat 66) 0), (.int (Int.ofNat 4) 0), (.ref 200), (.int (Int.ofNat 71) 0), (.int (Int.ofNat 4) 0), (.ref 207), (.int (Int.ofNat 74) 0), (.int (Int.ofNat 4) 0), (.ref 214), (.int (Int.ofNat 77) 0), (.int (Int.ofNat 4) 0), (.ref 222), (.int (Int.ofNat 80) 0), (.int (Int.ofNat 4) 0), (.ref 229), (.int (Int.ofNat 83) 0), (.int (Int.ofNat 4) 0), (.ref 236), (.int (Int.ofNat 86) 0), (.int (Int.ofNat 4) 0), (.ref 243), (.int (Int.ofNat 89) 0), (.int (Int.ofNat 4) 0), (.ref 250)]), #[]⟩
noncomputable def B25 (P : Params) : Obj := ⟨(.type "code"), none, (.fields #[(.str (Str.ofString "mappingproxy") 1166), (.str (Str.ofString "mappingproxy") 1167), (.str (Str.ofString "/claim/cut.py") 1168), (.int (Int.ofNat 10) 0), (.int (Int.ofNat 0) 0), (.int (Int.ofNat 0) 0), (.int (Int.ofNat 0) 0), (.int (Int.ofNat 0) 0), (.ref 78), (.bool false), (.int (Int.ofNat 492) 0), (.ref 79), .none, .none, .none, .none, (.int (Int.ofNat 1169) 0), (.int (Int.ofNat 10) 0), (.str (Str.ofString "/claim/cut.py") 1170)]), #[]⟩
noncomputable def B26 (P : Params) : Obj := ⟨(.type "code"), none, (.fields #[(.str (Str.ofString "__new__") 1180), (.str (Str.ofString "mappingproxy.__new__") 1181), (.str (Str.ofString "/claim/cut.py") 1182), (.int (Int.ofNat 14) 0), (.int (Int.ofNat 2) 0), (.int (Int.ofNat 0) 0), (.int (Int.ofNat 0) 0), (.int (Int.ofNat 3) 0), (.ref 83), (.bool true), (.int (Int.ofNat 492) 0), (.ref 84), .none, (.ref 85), (.ref 86), (.ref 87), (.int (Int.ofNat 1186) 0), (.int (Int.ofNat 14) 0), (.str (Str.ofString "/claim/cut.py") 1187)]), #[]⟩
noncomputable def B27 (P : Params) : Obj := ⟨(.type "code"), none, (.fields #[(.str (Str.ofString "__reduce_ex__") 1189), (.str (Str.ofString "mappingproxy.__reduce_ex__") 1190), (.str (Str.ofString "/claim/cut.py") 1191), (.int (Int.ofNat 21) 0), (.int (Int.ofNat 2) 0), (.int (Int.ofNat 0) 0), (.int (Int.ofNat 0) 0), (.int (Int.ofNat 3) 0), (.ref 90), (.bool true), (.int (Int.ofNat 492) 0), (.ref 91), .none, (.ref 92), (.ref 93), (.ref 94), (.int (Int.ofNat 1194) 0), (.int (Int.ofNat 21) 0), (.str (Str.ofString "/claim/cut.py") 1195)]), #[]⟩
noncomputable def B28 (P : Params) : Obj := ⟨(.type "code"), none, (.fields #[(.str (Str.ofString "__getitem__") 1197), (.str (Str.ofString "mappingproxy.__getitem__") 1198), (.str (Str.ofString "/claim/cut.py") 1199), (.int (Int.ofNat 24) 0), (.int (Int.ofNat 2) 0), (.int (Int.ofNat 0) 0), (.int (Int.ofNat 0) 0), (.int (Int.ofNat 3) 0), (.ref 97), (.bool true), (.int (Int.ofNat 492) 0), (.ref 98), .none, (.ref 99), (.ref 100), (.ref 101), (.int (Int.ofNat 1202) 0), (.int (Int.ofNat 24) 0), (.str (Str.ofString "/claim/cut.py") 1203)]), #[]⟩
noncomputable def B29 (P : Params) : Obj := ⟨(.type "code"), none, (.fields #[(.str (Str.ofString "__len__") 1205), (.str (Str.ofString "mappingproxy.__len__") 1206), (.str (Str.ofString "/claim/cut.py") 1207), (.int (Int.ofNat 27) 0), (.int (Int.ofNat 1) 0), (.int (Int.ofNat 0) 0), (.int (Int.ofNat 0) 0), (.int (Int.ofNat 3) 0), (.ref 104), (.bool true), (.int (Int.ofNat 492) 0), (.ref 105), .none, (.ref 106), (.ref 107), (.ref 108), (.int (Int.ofNat 1209) 0), (.int (Int.ofNat 27) 0), (.str (Str.ofString "/claim/cut.py") 1210)]), #[]⟩
noncomputable def B30 (P : Params) : Obj := ⟨(.type "code"), none, (.fields #[(.str (Str.ofString "__iter__") 1212), (.str (Str.ofString "mappingproxy.__iter__") 1213), (.str (Str.ofString "/claim/cut.py") 1214), (.int (Int.ofNat 30) 0), (.int (Int.ofNat 1) 0), (.int (Int.ofNat 0) 0), (.int (Int.ofNat 0) 0), (.int (Int.ofNat 3) 0), (.ref 111), (.bool true), (.int (Int.ofNat 492) 0), (.ref 112), .none, (.ref 113), (.ref 114), (.ref 115), (.int (Int.ofNat 1216) 0), (.int (Int.ofNat 30) 0), (.str (Str.ofString "/claim/cut.py") 1217)]), #[]⟩
noncomputable def B31 (P : Params) : Obj := ⟨(.type "code"), none, (.fields #[(.str (Str.ofString "__reversed__") 1219), (.str (Str.ofString "mappingproxy.__reversed__") 1220), (.str (Str.ofString "/claim/cut.py") 1221), (.int (Int.ofNat 33) 0), (.int (Int.ofNat 1) 0), (.int (Int.ofNat 0) 0), (.int (Int.ofNat 0) 0), (.int (Int.ofNat 3) 0), (.ref 118), (.bool true), (.int (Int.ofNat 492) 0), (.ref 119), .none, (.ref 120), (.ref 121), (.ref 122), (.int (Int.ofNat 1223) 0), (.int (Int.ofNat 33) 0), (.str (Str.ofString "/claim/cut.py") 1224)]), #[]⟩
noncomputable def B32 (P : Params) : Obj := ⟨(.type "code"), none, (.fields #[(.str (Str.ofString "__contains__") 1226), (.str (Str.ofString "mappingproxy.__contains__") 1227), (.str (Str.ofString "/claim/cut.py") 1228), (.int (Int.ofNat 36) 0), (.int (Int.ofNat 2) 0), (.int (Int.ofNat 0) 0), (.int (Int.ofNat 0) 0), (.int (Int.ofNat 3) 0), (.ref 125), (.bool true), (.int (Int.ofNat 492) 0), (.ref 126), .none, (.ref 127), (.ref 128), (.ref 129), (.int (Int.ofNat 1231) 0), (.int (Int.ofNat 36) 0), (.str (Str.ofString "/claim/cut.py") 1232)]), #[]⟩
noncomputable def B33 (P : Params) : Obj := ⟨(.type "code"), none, (.fields #[(.str (Str.ofString "__repr__") 1234), (.str (Str.ofString "mappingproxy.__repr__") 1235), (.str (Str.ofString "/claim/cut.py") 1236), (.int (Int.ofNat 39) 0), (.int (Int.ofNat 1) 0), (.int (Int.ofNat 0) 0), (.int (Int.ofNat 0) 0), (.int (Int.ofNat 3) 0), (.ref 132), (.bool true), (.int (Int.ofNat 492) 0), (.ref 133), .none, (.ref 134), (.ref 135), (.ref 136), (.int (Int.ofNat 1238) 0), (.int (Int.ofNat 39) 0), (.str (Str.ofString "/claim/cut.py") 1239)]), #[]⟩
noncomputable def B34 (P : Params) : Obj := ⟨(.type "code"), none, (.fields #[(.str (Str.ofString "__str__") 1241), (.str (Str.ofString "mappingproxy.__str__") 1242), (.str (Str.ofString "/claim/cut.py") 1243), (.int (Int.ofNat 42) 0), (.int (Int.ofNat 1) 0), (.int (Int.ofNat 0) 0), (.int (Int.ofNat 0) 0), (.int (Int.ofNat 3) 0), (.ref 139), (.bool true), (.int (Int.ofNat 492) 0), (.ref 140), .none, (.ref 141), (.ref 142), (.ref 143), (.int (Int.ofNat 1245) 0), (.int (Int.ofNat 42) 0), (.str (Str.ofString "/claim/cut.py") 1246)]), #[]⟩
noncomputable def B35 (P : Params) : Obj := ⟨(.type "code"), none, (.fields #[(.str (Str.ofString "__eq__") 1248), (.str (Str.ofString "mappingproxy.__eq__") 1249), (.str (Str.ofString "/claim/cut.py") 1250), (.int (Int.ofNat 45) 0), (.int (Int.ofNat 2) 0), (.int (Int.ofNat 0) 0), (.int (Int.ofNat 0) 0), (.int (Int.ofNat 3) 0), (.ref 146), (.bool true), (.int (Int.ofNat 492) 0), (.ref 147), .none, (.ref 148), (.ref 149), (.ref 150), (.int (Int.ofNat 1253) 0), (.int (Int.ofNat 45) 0), (.str (Str.ofString "/claim/cut.py") 1254)]), #[]⟩
noncomputable def B36 (P : Params) : Obj := ⟨(.type "code"), none, (.fields #[(.str (Str.ofString "__ne__") 1256), (.str (Str.ofString "mappingproxy.__ne__") 1257), (.str (Str.ofString "/claim/cut.py") 1258), (.int (Int.ofNat 48) 0), (.int (Int.ofNat 2) 0), (.int (Int.ofNat 0) 0), (.int (Int.ofNat 0) 0), (.int (Int.ofNat 3) 0), (.ref 153), (.bool true), (.int (Int.ofNat 492) 0), (.ref 154), .none, (.ref 155), (.ref 156), (.ref 157), (.int (Int.ofNat 1261) 0), (.int (Int.ofNat 48) 0), (.str (Str.ofString "/claim/cut.py") 1262)]), #[]⟩
noncomputable def B37 (P : Params) : Obj := ⟨(.type "code"), none, (.fields #[(.str (Str.ofString "__lt__") 1264), (.str (Str.ofString "mappingproxy.__lt__") 1265), (.str (Str.ofString "/claim/cut.py") 1266), (.int (Int.ofNat 51) 0), (.int (Int.ofNat 2) 0), (.int (Int.ofNat 0) 0), (.int (Int.ofNat 0) 0), (.int (Int.ofNat 3) 0), (.ref 160), (.bool true), (.int (Int.ofNat 492) 0), (.ref 161), .none, (.ref 162), (.ref 163), (.ref 164), (.int (Int.ofNat 1269) 0), (.int (Int.ofNat 51) 0), (.str (Str.ofString "/claim/cut.py") 1270)]), #[]⟩
noncomputable def B38 (P : Params) : Obj := ⟨(.type "code"), none, (.fields #[(.str (Str.ofString "__le__") 1272), (.str (Str.ofString "mappingproxy.__le__") 1273), (.str (Str.ofString "/claim/cut.py") 1274), (.int (Int.ofNat 54) 0), (.int (Int.ofNat 2) 0), (.int (Int.ofNat 0) 0), (.int (Int.ofNat 0) 0), (.int (Int.ofNat 3) 0), (.ref 167), (.bool true), (.int (Int.ofNat 492) 0), (.ref 168), .none, (.ref 169), (.ref 170), (.ref 171), (.int (Int.ofNat 1277) 0), (.int (Int.ofNat 54) 0), (.str (Str.ofString "/claim/cut.py") 1278)]), #[]⟩
noncomputable def B39 (P : Params) : Obj := ⟨(.type "code"), none, (.fields #[(.str (Str.ofString "__gt__") 1280), (.str (Str.ofString "mappingproxy.__gt__") 1281), (.str (Str.ofString "/claim/cut.py") 1282), (.int (Int.ofNat 57) 0), (.int (Int.ofNat 2) 0), (.int (Int.ofNat 0) 0), (.int (Int.ofNat 0) 0), (.int (Int.ofNat 3) 0), (.ref 174), (.bool true), (.int (Int.ofNat 492) 0), (.ref 175), .none, (.ref 176), (.ref 177), (.ref 178), (.int (Int.ofNat 1285) 0), (.int (Int.ofNat 57) 0), (.str (Str.ofString "/claim/cut.py") 1286)]), #[]⟩
noncomputable def B40 (P : Params) : Obj := ⟨(.type "code"), none, (.fields #[(.str (Str.ofString "__ge__") 1288), (.str (Str.ofString "mappingproxy.__ge__") 1289), (.str (Str.ofString "/claim/cut.py") 1290), (.int (Int.ofNat 60) 0), (.int (Int.ofNat 2) 0), (.int (Int.ofNat 0) 0), (.int (Int.ofNat 0) 0), (.int (Int.ofNat 3) 0), (.ref 181), (.bool true), (.int (Int.ofNat 492) 0), (.ref 182), .none, (.ref 183), (.ref 184), (.ref 185), (.int (Int.ofNat 1293) 0), (.int (Int.ofNat 60) 0), (.str (Str.ofString "/claim/cut.py") 1294)]), #[]⟩
noncomputable def B41 (P : Params) : Obj := ⟨(.type "code"), none, (.fields #[(.str (Str.ofString "__hash__") 1296), (.str (Str.ofString "mappingproxy.__hash__") 1297), (.str (Str.ofString "/claim/cut.py") 1298), (.int (Int.ofNat 63) 0), (.int (Int.ofNat 1) 0), (.int (Int.ofNat 0) 0), (.int (Int.ofNat 0) 0), (.int (Int.ofNat 3) 0), (.ref 188), (.bool true), (.int (Int.ofNat 492) 0), (.ref 189), .none, (.ref 190), (.ref 191), (.ref 192), (.int (Int.ofNat 1300) 0), (.int (Int.ofNat 63) 0), (.str (Str.ofString "/claim/cut.py") 1301)]), #[]⟩
noncomputable def B42 (P : Params) : Obj := ⟨(.type "code"), none, (.fields #[(.str (Str.ofString "__or__") 1303), (.str (Str.ofString "mappingproxy.__or__") 1304), (.str (Str.ofString "/claim/cut.py") 1305), (.int (Int.ofNat 66) 0), (.int (Int.ofNat 2) 0), (.int (Int.ofNat 0) 0), (.int (Int.ofNat 0) 0), (.int (Int.ofNat 3) 0), (.ref 195), (.bool true), (.int (Int.ofNat 492) 0), (.ref 196), .none, (.ref 197), (.ref 198), (.ref 199), (.int (Int.ofNat 1308) 0), (.int (Int.ofNat 66) 0), (.str (Str.ofString "/claim/cut.py") 1309)]), #[]⟩
noncomputable def B43 (P : Params) : Obj := ⟨(.type "code"), none, (.fields #[(.str (Str.ofString "__ror__") 1311), (.str (Str.ofString "mappingproxy.__ror__") 1312), (.str (Str.ofString "/claim/cut.py") 1313), (.int (Int.ofNat 71) 0), (.int (Int.ofNat 2) 0), (.int (Int.ofNat 0) 0), (.int (Int.ofNat 0) 0), (.int (Int.ofNat 3) 0), (.ref 202), (.bool true), (.int (Int.ofNat 492) 0), (.ref 203), .none, (.ref 204), (.ref 205), (.ref 206), (.int (Int.ofNat 1316) 0), (.int (Int.ofNat 71) 0), (.str (Str.ofString "/claim/cut.py") 1317)]), #[]⟩
noncomputable def B44 (P : Params) : Obj := ⟨(.type "code"), none, (.fields #[(.str (Str.ofString "__ior__") 1319), (.str (Str.ofString "mappingproxy.__ior__") 1320), (.str (Str.ofString "/claim/cut.py") 1321), (.int (Int.ofNat 74) 0), (.int (Int.ofNat 2) 0), (.int (Int.ofNat 0) 0), (.int (Int.ofNat 0) 0), (.int (Int.ofNat 3) 0), (.ref 209), (.bool true), (.int (Int.ofNat 492) 0), (.ref 210), .none, (.ref 211), (.ref 212), (.ref 213), (.int (Int.ofNat 1324) 0), (.int (Int.ofNat 74) 0), (.str (Str.ofString "/claim/cut.py") 1325)]), #[]⟩
noncomputable def B45 (P : Params) : Obj := ⟨(.type "code"), none, (.fields #[(.str (Str.ofString "get") 1327), (.str (Str.ofString "mappingproxy.get") 1328), (.str (Str.ofString "/claim/cut.py") 1329), (.int (Int.ofNat 77) 0), (.int (Int.ofNat 3) 0), (.int (Int.ofNat 3) 0), (.int (Int.ofNat 0) 0), (.int (Int.ofNat 3) 0), (.ref 217), (.bool true), (.int (Int.ofNat 492) 0), (.ref 218), .none, (.ref 219), (.ref 220), (.ref 221), (.int (Int.ofNat 1333) 0), (.int (Int.ofNat 77) 0), (.str (Str.ofString "/claim/cut.py") 1334)]), #[]⟩
noncomputable def B46 (P : Params) : Obj := ⟨(.type "code"), none, (.fields #[(.str (Str.ofString "keys") 1336), (.str (Str.ofString "mappingproxy.keys") 1337), (.str (Str.ofString "/claim/cut.py") 1338), (.int (Int.ofNat 80) 0), (.int (Int.ofNat 1) 0), (.int (Int.ofNat 0) 0), (.int (Int.ofNat 0) 0), (.int (Int.ofNat 3) 0), (.ref 224), (.bool true), (.int (Int.ofNat 492) 0), (.ref 225), .none, (.ref 226), (.ref 227), (.ref 228), (.int (Int.ofNat 1340) 0), (.int (Int.ofNat 80) 0), (.str (Str.ofString "/claim/cut.py") 1341)]), #[]⟩
noncomputable def B47 (P : Params) : Obj := ⟨(.type "code"), none, (.fields #[(.str (Str.ofString "values") 1343), (.str (Str.ofString "mappingproxy.values") 1344), (.str (Str.ofString "/claim/cut.py") 1345), (.int (Int.ofNat 83) 0), (.int (Int.ofNat 1) 0), (.int (Int.ofNat 0) 0), (.int (Int.ofNat 0) 0), (.int (Int.ofNat 3) 0), (.ref 231), (.bool true), (.int (Int.ofNat 492) 0), (.ref 232), .none, (.ref 233), (.ref 234), (.ref 235), (.int (Int.ofNat 1347) 0), (.int (Int.ofNat 83) 0), (.str (Str.ofString "/claim/cut.py") 1348)]), #[]⟩
noncomputable def B48 (P : Params) : Obj := ⟨(.type "code"), none, (.fields #[(.str (Str.ofString "items") 1350), (.str (Str.ofString "mappingproxy.items") 1351), (.str (Str.ofString "/claim/cut.py") 1352), (.int (Int.ofNat 86) 0), (.int (Int.ofNat 1) 0), (.int (Int.ofNat 0) 0), (.int (Int.ofNat 0) 0), (.int (Int.ofNat 3) 0), (.ref 238), (.bool true), (.int (Int.ofNat 492) 0), (.ref 239), .none, (.ref 240), (.ref 241), (.ref 242), (.int (Int.ofNat 1354) 0), (.int (Int.ofNat 86) 0), (.str (Str.ofString "/claim/cut.py") 1355)]), #[]⟩
noncomputable def B49 (P : Params) : Obj := ⟨(.type "code"), none, (.fields #[(.str (Str.ofString "copy") 1357), (.str (Str.ofString "mappingproxy.copy") 1358), (.str (Str.ofString "/claim/cut.py") 1359), (.int (Int.ofNat 89) 0), (.int (Int.ofNat 1) 0), (.int (Int.ofNat 0) 0), (.int (Int.ofNat 0) 0), (.int (Int.ofNat 3) 0), (.ref 245), (.bool true), (.int (Int.ofNat 492) 0), (.ref 246), .none, (.ref 247), (.ref 248), (.ref 249), (.int (Int.ofNat 1361) 0), (.int (Int.ofNat 89) 0), (.str (Str.ofString "/claim/cut.py") 1362)]), #[]⟩
noncomputable def B50 (P : Params) : Obj := ⟨(.type "dict"), none, (.dict #[(eK P (Str.ofString "__module__") 1171 (.str (Str.ofString "builtins") 1176)), (eK P (Str.ofString "__firstlineno__") 1175 (.int (Int.ofNat 10) 1174)), (eK P (Str.ofString "__slots__") 1179 (.ref 82)), (eK P (Str.ofString "__new__") 1188 (.ref 256)), (eK P (Str.ofString "__reduce_ex__") 1196 (.ref 96)), (eK P (Str.ofString "__getitem__") 1204 (.ref 103)), (eK P (Str.ofString "__len__") 1211 (.ref 110)), (eK P (Str.ofString "__iter__") 1218 (.ref 117)), (eK P (Str.ofString "__reversed__") 1225 (.ref 124)), (eK P (Str.ofString "__contains__") 1233 (.ref 131)), (eK P (Str.ofString "__repr__") 1240 (.ref 138)), (eK P (Str.ofString "__str__") 1247 (.ref 145)), (eK P (Str.ofString "__eq__") 1255 (.ref 152)), (eK P (Str.ofString "__ne__") 1263 (.ref 159)), (eK P (Str.ofString "__lt__") 1271 (.ref 166)), (eK P (Str.ofString "__le__") 1279 (.ref 173)), (eK P (Str.ofString "__gt__") 1287 (.ref 180)), (eK P (Str.ofString "__ge__") 1295 (.ref 187)), (eK P (Str.ofString "__hash__") 1302 (.ref 194)), (eK P (Str.ofString "__or__") 1310 (.ref 201)), (eK P (Str.ofString "__ror__") 1318 (.ref 208)), (eK P (Str.ofString "__ior__") 1326 (.ref 215)), (eK P (Str.ofString "get") 1335 (.ref 223)), (eK P (Str.ofString "keys") 1342 (.ref 230)), (eK P (Str.ofString "values") 1349 (.ref 237)), (eK P (Str.ofString "items") 1356 (.ref 244)), (eK P (Str.ofString "copy") 1363 (.ref 251)), (eK P (Str.ofString "__static_attributes__") 1365 (.ref 252)), (eK P (Str.ofString "_mapping") 1368 (.ref 257)), (eK P (Str.ofString "__doc__") 1369 .none)] 3), #[]⟩
noncomputable def B51 (P : Params) : Obj := ⟨(.type "type"), none, (.cls ⟨(Str.ofString "mappingproxy"), [(.type "object")], [(.ref 255), (.type "object")], 254, (Str.ofString "mappingproxy"), false, [(Str.ofString "_mapping")], [], false, none, false⟩), #[none, none, (some (.str (Str.ofString "mappingproxy") 1164)), (some (.str (Str.ofString "mappingproxy") 1172)), (some .none), (some (.bool false))]⟩
noncomputable def B52 (P : Params) : Obj := ⟨(.type "dict"), none, (.dict #[(eK P (Str.ofString "__module__") 1380 (.str (Str.ofString "enum") 1385)), (eK P (Str.ofString "__qualname__") 1382 (.str (Str.ofString "EnumType") 1381)), (eK P (Str.ofString "__firstlineno__") 1384 (.int (Int.ofNat 92) 1383)), (eK P (Str.ofString "_written_out_") 1388 (.int (Int.ofNat 0) 1387)), (eK P (Str.ofString "__new__") 1401 (.ref 275)), (eK P (Str.ofString "_planted_") 1410 (.ref 282)), (eK P (Str.ofString "_planted_at_") 1417 (.ref 289)), (eK P (Str.ofString "_held_value_") 1427 (.ref 296)), (eK P (Str.ofString "_canonical_") 1437 (.ref 303)), (eK P (Str.ofString "_book_value_") 1447 (.ref 310)), (eK P (Str.ofString "_mixed_") 1455 (.ref 317)), (eK P (Str.ofString "_held_def_") 1464 (.ref 324)), (eK P (Str.ofString "_closed_") 1471 (.ref 331)), (eK P (Str.ofString "_held_auto_") 1480 (.ref 338)), (eK P (Str.ofString "_unique_") 1487 (.ref 345)), (eK P (Str.ofString "_close_") 1494 (.ref 352)), (eK P (Str.ofString "_expect_") 1502 (.ref 359)), (eK P (Str.ofString "_value_of_") 1511 (.ref 366)), (eK P (Str.ofString "_args_of_") 1519 (.ref 373)), (eK P (Str.ofString "__bool__") 1526 (.ref 380)), (eK P (Str.ofString "__call__") 1535 (.ref 387)), (eK P (Str.ofString "__contains__") 1544 (.ref 394)), (eK P (Str.ofString "__getitem__") 1552 (.ref 401)), (eK P (Str.ofString "__iter__") 1560 (.ref 408)), (eK P (Str.ofString "__len__") 1567 (.ref 415)), (eK P (Str.ofString "__members__") 1575 (.ref 423)), (eK P (Str.ofString "__repr__") 1582 (.ref 430)), (eK P (Str.ofString "__reversed__") 1590 (.ref 437)), (eK P (Str.ofString "__setattr__") 1600 (.ref 445)), (eK P (Str.ofString "__delattr__") 1609 (.ref 453)), (eK P (Str.ofString "_store_") 1619 (.ref 461)), (eK P (Str.ofString "__dir__") 1626 (.ref 468)), (eK P (Str.ofString "__static_attributes__") 1627 (.ref 469)), (eK P (Str.ofString "__classcell__") 1628 (.ref 263))] 34), #[]⟩
noncomputable def B53 (P : Params) : Obj := ⟨.none, none, (.fields #[(.int (Int.ofNat 96) 0), (.int (Int.ofNat 4) 0), (.ref 274), (.int (Int.ofNat 105) 0), (.int (Int.ofNat 4) 0), (.ref 281), (.int (Int.ofNat 117) 0), (.int (Int.ofNat 4) 0), (.ref 288), (.int (Int.ofNat 120) 0), (.int (Int.ofNat 4) 0), (.ref 295), (.int (Int.ofNat 123) 0), (.int (Int.ofNat 4) 0), (.ref 302), (.int (Int.ofNat 126) 0), (.int (Int.ofNat 4) 0), (.ref 309), (.int (Int.ofNat 129) 0), (.int (Int.ofNat 4) 0), (.ref 316), (.int (Int.ofNat 132) 0), (.int (Int.ofNat 4) 0), (.ref 323), (.int (Int.ofNat 135) 0), (.int (Int.ofNat 4) 0), (.ref 330), (.int (Int.ofNat 138) 0), (.int (Int.ofNat 4) 0), (.ref 337), (.int (Int.ofNat 141) 0), (.int (Int.ofNat 4) 0), (.ref 344), (.int (Int.ofNat 144) 0), (.int (Int.ofNat 4) 0), (.ref 351), (.int (Int.ofNat 147) 0), (.int (Int.ofNat 4) 0), (.ref 358), (.int (Int.ofNat 150) 0), (.int (Int.ofNat 4) 0), (.ref 365), (.int (Int.ofNat 153) 0), (.int (Int.ofNat 4) 0), (.ref 372), (.int (Int.ofNat 156) 0), (.int (Int.ofNat 4) 0), (.ref 379), (.int (Int.ofNat 159) 0), (.int (Int.ofNat 4) 0), (.ref 386), (.int (Int.ofNat 172) 0), (.int (Int.ofNat 4) 0), (.ref 393), (.int (Int.ofNat 183) 0), (.int (Int.ofNat 4) 0), (.ref 400), (.int (Int.ofNat 186) 0), (.int (Int.ofNat 4) 0), (.ref 407), (.int (Int.ofNat 189) 0), (.int (Int.ofNat 4) 0), (.ref 414), (.int (Int.ofNat 193) 0), (.int (Int.ofNat 4) 0), (.ref 421), (.int (Int.ofNat 196) 0), (.int (Int.ofNat 4) 0), (.ref 429), (.int (Int.ofNat 202) 0), (.int (Int.ofNat 4) 0), (.ref 436), (.int (Int.ofNat 205) 0), (.int (Int.ofNat 4) 0), (.ref 444), (.int (Int.ofNat 212) 0), (.int (Int.ofNat 4) 0), (.ref 452), (.int (Int.ofNat 217) 0), (.int (Int.ofNat 4) 0), (.ref 460), (.int (Int.ofNat 220) 0), (.int (Int.ofNat 4) 0), (.ref 467)]), #[]⟩
noncomputable def B54 (P : Params) : Obj := ⟨(.type "code"), none, (.fields #[(.str (Str.ofString "EnumType") 1375), (.str (Str.ofString "EnumType") 1376), (.str (Str.ofString "/claim/cut.py") 1377), (.int (Int.ofNat 92) 0), (.int (Int.ofNat 0) 0), (.int (Int.ofNat 0) 0), (.int (Int.ofNat 0) 0), (.int (Int.ofNat 0) 0), (.ref 264), (.bool false), (.int (Int.ofNat 492) 0), (.ref 265), .none, .none, .none, .none, (.int (Int.ofNat 1378) 0), (.int (Int.ofNat 92) 0), (.str (Str.ofString "/claim/cut.py") 1379)]), #[]⟩
noncomputable def B55 (P : Params) : Obj := ⟨(.type "tuple"), none, (.seq #[(.str (Str.ofString "metacls") 1393), (.str (Str.ofString "cls") 1394), (.str (Str.ofString "bases") 1395), (.str (Str.ofString "classdict") 1396), (.str (Str.ofString "kwds") 1397), (.str (Str.ofString "made") 1398)] 0), #[]⟩
noncomputable def B56 (P : Params) : Obj := ⟨(.type "code"), none, (.fields #[(.str (Str.ofString "__new__") 1389), (.str (Str.ofString "EnumType.__new__") 1390), (.str (Str.ofString "/claim/cut.py") 1391), (.int (Int.ofNat 96) 0), (.int (Int.ofNat 4) 0), (.int (Int.ofNat 0) 0), (.int (Int.ofNat 0) 0), (.int (Int.ofNat 11) 0), (.ref 269), (.bool true), (.int (Int.ofNat 492) 0), (.ref 270), .none, (.ref 271), (.ref 272), (.ref 273), (.int (Int.ofNat 1399) 0), (.int (Int.ofNat 96) 0), (.str (Str.ofString "/claim/cut.py") 1400)]), #[]⟩
noncomputable def B57 (P : Params) : Obj := ⟨(.type "code"), none, (.fields #[(.str (Str.ofString "_planted_") 1402), (.str (Str.ofString "EnumType._planted_") 1403), (.str (Str.ofString "/claim/cut.py") 1404), (.int (Int.ofNat 105) 0), (.int (Int.ofNat 3) 0), (.int (Int.ofNat 0) 0), (.int (Int.ofNat 0) 0), (.int (Int.ofNat 3) 0), (.ref 276), (.bool true), (.int (Int.ofNat 492) 0), (.ref 277), .none, (.ref 278), (.ref 279), (.ref 280), (.int (Int.ofNat 1408) 0), (.int (Int.ofNat 105) 0), (.str (Str.ofString "/claim/cut.py") 1409)]), #[]⟩
noncomputable def B58 (P : Params) : Obj := ⟨(.type "code"), none, (.fields #[(.str (Str.ofString "_planted_at_") 1411), (.str (Str.ofString "EnumType._planted_at_") 1412), (.str (Str.ofString "/claim/cut.py") 1413), (.int (Int.ofNat 117) 0), (.int (Int.ofNat 1) 0), (.int (Int.ofNat 0) 0), (.int (Int.ofNat 0) 0), (.int (Int.ofNat 3) 0), (.ref 283), (.bool true), (.int (Int.ofNat 492) 0), (.ref 284), .none, (.ref 285), (.ref 286), (.ref 287), (.int (Int.ofNat 1415) 0), (.int (Int.ofNat 117) 0), (.str (Str.ofString "/claim/cut.py") 1416)]), #[]⟩
noncomputable def B59 (P : Params) : Obj := ⟨(.type "code"), none, (.fields #[(.str (Str.ofString "_held_value_") 1418), (.str (Str.ofString "EnumType._held_value_") 1419), (.str (Str.ofString "/claim/cut.py") 1420), (.int (Int.ofNat 120) 0), (.int (Int.ofNat 4) 0), (.int (Int.ofNat 0) 0), (.int (Int.ofNat 0) 0), (.int (Int.ofNat 3) 0), (.ref 290), (.bool true), (.int (Int.ofNat 492) 0), (.ref 291), .none, (.ref 292), (.ref 293), (.ref 294), (.int (Int.ofNat 1425) 0), (.int (Int.ofNat 120) 0), (.str (Str.ofString "/claim/cut.py") 1426)]), #[]⟩
noncomputable def B60 (P : Params) : Obj := ⟨(.type "code"), none, (.fields #[(.str (Str.ofString "_canonical_") 1428), (.str (Str.ofString "EnumType._canonical_") 1429), (.str (Str.ofString "/claim/cut.py") 1430), (.int (Int.ofNat 123) 0), (.int (Int.ofNat 4) 0), (.int (Int.ofNat 0) 0), (.int (Int.ofNat 0) 0), (.int (Int.ofNat 3) 0), (.ref 297), (.bool true), (.int (Int.ofNat 492) 0), (.ref 298), .none, (.ref 299), (.ref 300), (.ref 301), (.int (Int.ofNat 1435) 0), (.int (Int.ofNat 123) 0), (.str (Str.ofString "/claim/cut.py") 1436)]), #[]⟩
noncomputable def B61 (P : Params) : Obj := ⟨(.type "code"), none, (.fields #[(.str (Str.ofString "_book_value_") 1438), (.str (Str.ofString "EnumType._book_value_") 1439), (.str (Str.ofString "/claim/cut.py") 1440), (.int (Int.ofNat 126) 0), (.int (Int.ofNat 4) 0), (.int (Int.ofNat 0) 0), (.int (Int.ofNat 0) 0), (.int (Int.ofNat 3) 0), (.ref 304), (.bool true), (.int (Int.ofNat 492) 0), (.ref 305), .none, (.ref 306), (.ref 307), (.ref 308), (.int (Int.ofNat 1445) 0), (.int (Int.ofNat 126) 0), (.str (Str.ofString "/claim/cut.py") 1446)]), #[]⟩
noncomputable def B62 (P : Params) : Obj := ⟨(.type "code"), none, (.fields #[(.str (Str.ofString "_mixed_") 1448), (.str (Str.ofString "EnumType._mixed_") 1449), (.str (Str.ofString "/claim/cut.py") 1450), (.int (Int.ofNat 129) 0), (.int (Int.ofNat 2) 0), (.int (Int.ofNat 0) 0), (.int (Int.ofNat 0) 0), (.int (Int.ofNat 3) 0), (.ref 311), (.bool true), (.int (Int.ofNat 492) 0), (.ref 312), .none, (.ref 313), (.ref 314), (.ref 315), (.int (Int.ofNat 1453) 0), (.int (Int.ofNat 129) 0), (.str (Str.ofString "/claim/cut.py") 1454)]), #[]⟩
noncomputable def B63 (P : Params) : Obj := ⟨(.type "code"), none, (.fields #[(.str (Str.ofString "_held_def_") 1456), (.str (Str.ofString "EnumType._held_def_") 1457), (.str (Str.ofString "/claim/cut.py") 1458), (.int (Int.ofNat 132) 0), (.int (Int.ofNat 3) 0), (.int (Int.ofNat 0) 0), (.int (Int.ofNat 0) 0), (.int (Int.ofNat 3) 0), (.ref 318), (.bool true), (.int (Int.ofNat 492) 0), (.ref 319), .none, (.ref 320), (.ref 321), (.ref 322), (.int (Int.ofNat 1462) 0), (.int (Int.ofNat 132) 0), (.str (Str.ofString "/claim/cut.py") 1463)]), #[]⟩
noncomputable def B64 (P : Params) : Obj := ⟨(.type "code"), none, (.fields #[(.str (Str.ofString "_closed_") 1465), (.str (Str.ofString "EnumType._closed_") 1466), (.str (Str.ofString "/claim/cut.py") 1467), (.int (Int.ofNat 135) 0), (.int (Int.ofNat 1) 0), (.int (Int.ofNat 0) 0), (.int (Int.ofNat 0) 0), (.int (Int.ofNat 3) 0), (.ref 325), (.bool true), (.int (Int.ofNat 492) 0), (.ref 326), .none, (.ref 327), (.ref 328), (.ref 329), (.int (Int.ofNat 1469) 0), (.int (Int.ofNat 135) 0), (.str (Str.ofString "/claim/cut.py") 1470)]), #[]⟩
noncomputable def B65 (P : Params) : Obj := ⟨(.type "code"), none, (.fields #[(.str (Str.ofString "_held_auto_") 1472), (.str (Str.ofString "EnumType._held_auto_") 1473), (.str (Str.ofString "/claim/cut.py") 1474), (.int (Int.ofNat 138) 0), (.int (Int.ofNat 3) 0), (.int (Int.ofNat 0) 0), (.int (Int.ofNat 0) 0), (.int (Int.ofNat 3) 0), (.ref 332), (.bool true), (.int (Int.ofNat 492) 0), (.ref 333), .none, (.ref 334), (.ref 335), (.ref 336), (.int (Int.ofNat 1478) 0), (.int (Int.ofNat 138) 0), (.str (Str.ofString "/claim/cut.py") 1479)]), #[]⟩
noncomputable def B66 (P : Params) : Obj := ⟨(.type "code"), none, (.fields #[(.str (Str.ofString "_unique_") 1481), (.str (Str.ofString "EnumType._unique_") 1482), (.str (Str.ofString "/claim/cut.py") 1483), (.int (Int.ofNat 141) 0), (.int (Int.ofNat 1) 0), (.int (Int.ofNat 0) 0), (.int (Int.ofNat 0) 0), (.int (Int.ofNat 3) 0), (.ref 339), (.bool true), (.int (Int.ofNat 492) 0), (.ref 340), .none, (.ref 341), (.ref 342), (.ref 343), (.int (Int.ofNat 1485) 0), (.int (Int.ofNat 141) 0), (.str (Str.ofString "/claim/cut.py") 1486)]), #[]⟩
noncomputable def B67 (P : Params) : Obj := ⟨(.type "code"), none, (.fields #[(.str (Str.ofString "_close_") 1488), (.str (Str.ofString "EnumType._close_") 1489), (.str (Str.ofString "/claim/cut.py") 1490), (.int (Int.ofNat 144) 0), (.int (Int.ofNat 1) 0), (.int (Int.ofNat 0) 0), (.int (Int.ofNat 0) 0), (.int (Int.ofNat 3) 0), (.ref 346), (.bool true), (.int (Int.ofNat 492) 0), (.ref 347), .none, (.ref 348), (.ref 349), (.ref 350), (.int (Int.ofNat 1492) 0), (.int (Int.ofNat 144) 0), (.str (Str.ofString "/claim/cut.py") 1493)]), #[]⟩
noncomputable def B68 (P : Params) : Obj := ⟨(.type "code"), none, (.fields #[(.str (Str.ofString "_expect_") 1495), (.str (Str.ofString "EnumType._expect_") 1496), (.str (Str.ofString "/claim/cut.py") 1497), (.int (Int.ofNat 147) 0), (.int (Int.ofNat 2) 0), (.int (Int.ofNat 0) 0), (.int (Int.ofNat 0) 0), (.int (Int.ofNat 3) 0), (.ref 353), (.bool true), (.int (Int.ofNat 492) 0), (.ref 354), .none, (.ref 355), (.ref 356), (.ref 357), (.int (Int.ofNat 1500) 0), (.int (Int.ofNat 147) 0), (.str (Str.ofString "/claim/cut.py") 1501)]), #[]⟩
noncomputable def B69 (P : Params) : Obj := ⟨(.type "code"), none, (.fields #[(.str (Str.ofString "_value_of_") 1503), (.str (Str.ofString "EnumType._value_of_") 1504), (.str (Str.ofString "/claim/cut.py") 1505), (.int (Int.ofNat 150) 0), (.int (Int.ofNat 3) 0), (.int (Int.ofNat 0) 0), (.int (Int.ofNat 0) 0), (.int (Int.ofNat 3) 0), (.ref 360), (.bool true), (.int (Int.ofNat 492) 0), (.ref 361), .none, (.ref 362), (.ref 363), (.ref 364), (.int (Int.ofNat 1509) 0), (.int (Int.ofNat 150) 0), (.str (Str.ofString "/claim/cut.py") 1510)]), #[]⟩
noncomputable def B70 (P : Params) : Obj := ⟨(.type "code"), none, (.fields #[(.str (Str.ofString "_args_of_") 1512), (.str (Str.ofString "EnumType._args_of_") 1513), (.str (Str.ofString "/claim/cut.py") 1514), (.int (Int.ofNat 153) 0), (.int (Int.ofNat 2) 0), (.int (Int.ofNat 0) 0), (.int (Int.ofNat 0) 0), (.int (Int.ofNat 3) 0), (.ref 367), (.bool true), (.int (Int.ofNat 492) 0), (.ref 368), .none, (.ref 369), (.ref 370), (.ref 371), (.int (Int.ofNat 1517) 0), (.int (Int.ofNat 153) 0), (.str (Str.ofString "/claim/cut.py") 1518)]), #[]⟩
noncomputable def B71 (P : Params) : Obj := ⟨(.type "code"), none, (.fields #[(.str (Str.ofString "__bool__") 1520), (.str (Str.ofString "EnumType.__bool__") 1521), (.str (Str.ofString "/claim/cut.py") 1522), (.int (Int.ofNat 156) 0), (.int (Int.ofNat 1) 0), (.int (Int.ofNat 0) 0), (.int (Int.ofNat 0) 0), (.int (Int.ofNat 3) 0), (.ref 374), (.bool true), (.int (Int.ofNat 492) 0), (.ref 375), .none, (.ref 376), (.ref 377), (.ref 378), (.int (Int.ofNat 1524) 0), (.int (Int.ofNat 156) 0), (.str (Str.ofString "/claim/cut.py") 1525)]), #[]⟩
noncomputable def B72 (P : Params) : Obj := ⟨(.type "code"), none, (.fields #[(.str (Str.ofString "__call__") 1527), (.str (Str.ofString "EnumType.__call__") 1528), (.str (Str.ofString "/claim/cut.py") 1529), (.int (Int.ofNat 159) 0), (.int (Int.ofNat 1) 0), (.int (Int.ofNat 0) 0), (.int (Int.ofNat 0) 0), (.int (Int.ofNat 15) 0), (.ref 381), (.bool true), (.int (Int.ofNat 492) 0), (.ref 382), .none, (.ref 383), (.ref 384), (.ref 385), (.int (Int.ofNat 1533) 0), (.int (Int.ofNat 159) 0), (.str (Str.ofString "/claim/cut.py") 1534)]), #[]⟩
noncomputable def B73 (P : Params) : Obj := ⟨(.type "code"), none, (.fields #[(.str (Str.ofString "__contains__") 1536), (.str (Str.ofString "EnumType.__contains__") 1537), (.str (Str.ofString "/claim/cut.py") 1538), (.int (Int.ofNat 172) 0), (.int (Int.ofNat 2) 0), (.int (Int.ofNat 0) 0), (.int (Int.ofNat 0) 0), (.int (Int.ofNat 3) 0), (.ref 388), (.bool true), (.int (Int.ofNat 492) 0), (.ref 389), .none, (.ref 390), (.ref 391), (.ref 392), (.int (Int.ofNat 1542) 0), (.int (Int.ofNat 172) 0), (.str (Str.ofString "/claim/cut.py") 1543)]), #[]⟩
noncomputable def B74 (P : Params) : Obj := ⟨(.type "code"), none, (.fields #[(.str (Str.ofString "__getitem__") 1545), (.str (Str.ofString "EnumType.__getitem__") 1546), (.str (Str.ofString "/claim/cut.py") 1547), (.int (Int.ofNat 183) 0), (.int (Int.ofNat 2) 0), (.int (Int.ofNat 0) 0), (.int (Int.ofNat 0) 0), (.int (Int.ofNat 3) 0), (.ref 395), (.bool true), (.int (Int.ofNat 492) 0), (.ref 396), .none, (.ref 397), (.ref 398), (.ref 399), (.int (Int.ofNat 1550) 0), (.int (Int.ofNat 183) 0), (.str (Str.ofString "/claim/cut.py") 1551)]), #[]⟩
noncomputable def B75 (P : Params) : Obj := ⟨(.type "code"), none, (.fields #[(.str (Str.ofString "__iter__") 1553), (.str (Str.ofString "EnumType.__iter__") 1554), (.str (Str.ofString "/claim/cut.py") 1555), (.int (Int.ofNat 186) 0), (.int (Int.ofNat 1) 0), (.int (Int.ofNat 0) 0), (.int (Int.ofNat 0) 0), (.int (Int.ofNat 3) 0), (.ref 402), (.bool true), (.int (Int.ofNat 492) 0), (.ref 403), .none, (.ref 404), (.ref 405), (.ref 406), (.int (Int.ofNat 1558) 0), (.int (Int.ofNat 186) 0), (.str (Str.ofString "/claim/cut.py") 1559)]), #[]⟩
noncomputable def B76 (P : Params) : Obj := ⟨(.type "code"), none, (.fields #[(.str (Str.ofString "__len__") 1561), (.str (Str.ofString "EnumType.__len__") 1562), (.str (Str.ofString "/claim/cut.py") 1563), (.int (Int.ofNat 189) 0), (.int (Int.ofNat 1) 0), (.int (Int.ofNat 0) 0), (.int (Int.ofNat 0) 0), (.int (Int.ofNat 3) 0), (.ref 409), (.bool true), (.int (Int.ofNat 492) 0), (.ref 410), .none, (.ref 411), (.ref 412), (.ref 413), (.int (Int.ofNat 1565) 0), (.int (Int.ofNat 189) 0), (.str (Str.ofString "/claim/cut.py") 1566)]), #[]⟩
noncomputable def B77 (P : Params) : Obj := ⟨(.type "code"), none, (.fields #[(.str (Str.ofString "__members__") 1568), (.str (Str.ofString "EnumType.__members__") 1569), (.str (Str.ofString "/claim/cut.py") 1570), (.int (Int.ofNat 192) 0), (.int (Int.ofNat 1) 0), (.int (Int.ofNat 0) 0), (.int (Int.ofNat 0) 0), (.int (Int.ofNat 3) 0), (.ref 416), (.bool true), (.int (Int.ofNat 492) 0), (.ref 417), .none, (.ref 418), (.ref 419), (.ref 420), (.int (Int.ofNat 1572) 0), (.int (Int.ofNat 192) 0), (.str (Str.ofString "/claim/cut.py") 1573)]), #[]⟩
noncomputable def B78 (P : Params) : Obj := ⟨(.type "code"), none, (.fields #[(.str (Str.ofString "__repr__") 1576), (.str (Str.ofString "EnumType.__repr__") 1577), (.str (Str.ofString "/claim/cut.py") 1578), (.int (Int.ofNat 196) 0), (.int (Int.ofNat 1) 0), (.int (Int.ofNat 0) 0), (.int (Int.ofNat 0) 0), (.int (Int.ofNat 3) 0), (.ref 424), (.bool true), (.int (Int.ofNat 492) 0), (.ref 425), .none, (.ref 426), (.ref 427), (.ref 428), (.int (Int.ofNat 1580) 0), (.int (Int.ofNat 196) 0), (.str (Str.ofString "/claim/cut.py") 1581)]), #[]⟩
noncomputable def B79 (P : Params) : Obj := ⟨(.type "code"), none, (.fields #[(.str (Str.ofString "__reversed__") 1583), (.str (Str.ofString "EnumType.__reversed__") 1584), (.str (Str.ofString "/claim/cut.py") 1585), (.int (Int.ofNat 202) 0), (.int (Int.ofNat 1) 0), (.int (Int.ofNat 0) 0), (.int (Int.ofNat 0) 0), (.int (Int.ofNat 3) 0), (.ref 431), (.bool true), (.int (Int.ofNat 492) 0), (.ref 432), .none, (.ref 433), (.ref 434), (.ref 435), (.int (Int.ofNat 1588) 0), (.int (Int.ofNat 202) 0), (.str (Str.ofString "/claim/cut.py") 1589)]), #[]⟩
noncomputable def B80 (P : Params) : Obj := ⟨(.type "code"), none, (.fields #[(.str (Str.ofString "__setattr__") 1591), (.str (Str.ofString "EnumType.__setattr__") 1592), (.str (Str.ofString "/claim/cut.py") 1593), (.int (Int.ofNat 205) 0), (.int (Int.ofNat 3) 0), (.int (Int.ofNat 0) 0), (.int (Int.ofNat 0) 0), (.int (Int.ofNat 3) 0), (.ref 439), (.bool true), (.int (Int.ofNat 492) 0), (.ref 440), .none, (.ref 441), (.ref 442), (.ref 443), (.int (Int.ofNat 1598) 0), (.int (Int.ofNat 205) 0), (.str (Str.ofString "/claim/cut.py") 1599)]), #[]⟩
noncomputable def B81 (P : Params) : Obj := ⟨(.type "code"), none, (.fields #[(.str (Str.ofString "__delattr__") 1601), (.str (Str.ofString "EnumType.__delattr__") 1602), (.str (Str.ofString "/claim/cut.py") 1603), (.int (Int.ofNat 212) 0), (.int (Int.ofNat 2) 0), (.int (Int.ofNat 0) 0), (.int (Int.ofNat 0) 0), (.int (Int.ofNat 3) 0), (.ref 447), (.bool true), (.int (Int.ofNat 492) 0), (.ref 448), .none, (.ref 449), (.ref 450), (.ref 451), (.int (Int.ofNat 1607) 0), (.int (Int.ofNat 212) 0), (.str (Str.ofString "/claim/cut.py") 1608)]), #[]⟩
noncomputable def B82 (P : Params) : Obj := ⟨(.type "code"), none, (.fields #[(.str (Str.ofString "_store_") 1610), (.str (Str.ofString "EnumType._store_") 1611), (.str (Str.ofString "/claim/cut.py") 1612), (.int (Int.ofNat 217) 0), (.int (Int.ofNat 3) 0), (.int (Int.ofNat 0) 0), (.int (Int.ofNat 0) 0), (.int (Int.ofNat 3) 0), (.ref 455), (.bool true), (.int (Int.ofNat 492) 0), (.ref 456), .none, (.ref 457), (.ref 458), (.ref 459), (.int (Int.ofNat 1617) 0), (.int (Int.ofNat 217) 0), (.str (Str.ofString "/claim/cut.py") 1618)]), #[]⟩
noncomputable def B83 (P : Params) : Obj := ⟨(.type "code"), none, (.fields #[(.str (Str.ofString "__dir__") 1620), (.str (Str.ofString "EnumType.__dir__") 1621), (.str (Str.ofString "/claim/cut.py") 1622), (.int (Int.ofNat 220) 0), (.int (Int.ofNat 1) 0), (.int (Int.ofNat 0) 0), (.int (Int.ofNat 0) 0), (.int (Int.ofNat 3) 0), (.ref 462), (.bool true), (.int (Int.ofNat 492) 0), (.ref 463), .none, (.ref 464), (.ref 465), (.ref 466), (.int (Int.ofNat 1624) 0), (.int (Int.ofNat 220) 0), (.str (Str.ofString "/claim/cut.py") 1625)]), #[]⟩
noncomputable def B84 (P : Params) : Obj := ⟨(.type "dict"), none, (.dict #[(eK P (Str.ofString "__module__") 1380 (.str (Str.ofString "enum") 1385)), (eK P (Str.ofString "__firstlineno__") 1384 (.int (Int.ofNat 92) 1383)), (eK P (Str.ofString "_written_out_") 1388 (.int (Int.ofNat 0) 1387)), (eK P (Str.ofString "__new__") 1401 (.ref 472)), (eK P (Str.ofString "_planted_") 1410 (.ref 282)), (eK P (Str.ofString "_planted_at_") 1417 (.ref 289)), (eK P (Str.ofString "_held_value_") 1427 (.ref 296)), (eK P (Str.ofString "_canonical_") 1437 (.ref 303)), (eK P (Str.ofString "_book_value_") 1447 (.ref 310)), (eK P (Str.ofString "_mixed_") 1455 (.ref 317)), (eK P (Str.ofString "_held_def_") 1464 (.ref 324)), (eK P (Str.ofString "_closed_") 1471 (.ref 331)), (eK P (Str.ofString "_held_auto_") 1480 (.ref 338)), (eK P (Str.ofString "_unique_") 1487 (.ref 345)), (eK P (Str.ofString "_close_") 1494 (.ref 352)), (eK P (Str.ofString "_expect_") 1502 (.ref 359)), (eK P (Str.ofString "_value_of_") 1511 (.ref 366)), (eK P (Str.ofString "_args_of_") 1519 (.ref 373)), (eK P (Str.ofString "__bool__") 1526 (.ref 380)), (eK P (Str.ofString "__call__") 1535 (.ref 387)), (eK P (Str.ofString "__contains__") 1544 (.ref 394)), (eK P (Str.ofString "__getitem__") 1552 (.ref 401)), (eK P (Str.ofString "__iter__") 1560 (.ref 408)), (eK P (Str.ofString "__len__") 1567 (.ref 415)), (eK P (Str.ofString "__members__") 1575 (.ref 423)), (eK P (Str.ofString "__repr__") 1582 (.ref 430)), (eK P (Str.ofString "__reversed__") 1590 (.ref 437)), (eK P (Str.ofString "__setattr__") 1600 (.ref 445)), (eK P (Str.ofString "__delattr__") 1609 (.ref 453)), (eK P (Str.ofString "_store_") 1619 (.ref 461)), (eK P (Str.ofString "__dir__") 1626 (.ref 468)), (eK P (Str.ofString "__static_attributes__") 1627 (.ref 469)), (eK P (Str.ofString "__doc__") 1630 .none)] 3), #[]⟩
noncomputable def B85 (P : Params) : Obj := ⟨(.type "type"), none, (.cls ⟨(Str.ofString "EnumType"), [(.type "type")], [(.ref 471), (.type "type"), (.type "object")], 470, (Str.ofString "EnumType"), true, [], [], false, none, false⟩), #[(some (.ref 260)), none, (some (.str (Str.ofString "EnumType") 1373)), (some (.str (Str.ofString "EnumType") 1381)), (some .none), (some (.bool true))]⟩
noncomputable def B86 (P : Params) : Obj := ⟨(.type "dict"), none, (.dict #[(eK P (Str.ofString "__module__") 1640 (.str (Str.ofString "enum") 1156)), (eK P (Str.ofString "__qualname__") 1642 (.str (Str.ofString "_EnumField") 1641)), (eK P (Str.ofString "__firstlineno__") 1644 (.int (Int.ofNat 222) 1643)), (eK P (Str.ofString "__init__") 1652 (.ref 488)), (eK P (Str.ofString "__get__") 1661 (.ref 496)), (eK P (Str.ofString "__set__") 1670 (.ref 503)), (eK P (Str.ofString "__delete__") 1678 (.ref 510)), (eK P (Str.ofString "__static_attributes__") 1680 (.ref 511))] 8), #[]⟩
noncomputable def B87 (P : Params) : Obj := ⟨.none, none, (.fields #[(.int (Int.ofNat 224) 0), (.int (Int.ofNat 4) 0), (.ref 487), (.int (Int.ofNat 227) 0), (.int (Int.ofNat 4) 0), (.ref 495), (.int (Int.ofNat 234) 0), (.int (Int.ofNat 4) 0), (.ref 502), (.int (Int.ofNat 237) 0), (.int (Int.ofNat 4) 0), (.ref 509)]), #[]⟩
noncomputable def B88 (P : Params) : Obj := ⟨(.type "code"), none, (.fields #[(.str (Str.ofString "_EnumField") 1635), (.str (Str.ofString "_EnumField") 1636), (.str (Str.ofString "/claim/cut.py") 1637), (.int (Int.ofNat 222) 0), (.int (Int.ofNat 0) 0), (.int (Int.ofNat 0) 0), (.int (Int.ofNat 0) 0), (.int (Int.ofNat 0) 0), (.ref 478), (.bool false), (.int (Int.ofNat 492) 0), (.ref 479), .none, .none, .none, .none, (.int (Int.ofNat 1638) 0), (.int (Int.ofNat 222) 0), (.str (Str.ofString "/claim/cut.py") 1639)]), #[]⟩
noncomputable def B89 (P : Params) : Obj := ⟨(.type "code"), none, (.fields #[(.str (Str.ofString "__init__") 1645), (.str (Str.ofString "_EnumField.__init__") 1646), (.str (Str.ofString "/claim/cut.py") 1647), (.int (Int.ofNat 224) 0), (.int (Int.ofNat 2) 0), (.int (Int.ofNat 0) 0), (.int (Int.ofNat 0) 0), (.int (Int.ofNat 3) 0), (.ref 482), (.bool true), (.int (Int.ofNat 492) 0), (.ref 483), .none, (.ref 484), (.ref 485), (.ref 486), (.int (Int.ofNat 1650) 0), (.int (Int.ofNat 224) 0), (.str (Str.ofString "/claim/cut.py") 1651)]), #[]⟩
noncomputable def B90 (P : Params) : Obj := ⟨(.type "code"), none, (.fields #[(.str (Str.ofString "__get__") 1653), (.str (Str.ofString "_EnumField.__get__") 1654), (.str (Str.ofString "/claim/cut.py") 1655), (.int (Int.ofNat 227) 0), (.int (Int.ofNat 3) 0), (.int (Int.ofNat 0) 0), (.int (Int.ofNat 0) 0), (.int (Int.ofNat 3) 0), (.ref 490), (.bool true), (.int (Int.ofNat 492) 0), (.ref 491), .none, (.ref 492), (.ref 493), (.ref 494), (.int (Int.ofNat 1659) 0), (.int (Int.ofNat 227) 0), (.str (Str.ofString "/claim/cut.py") 1660)]), #[]⟩
noncomputable def B91 (P : Params) : Obj := ⟨(.type "code"), none, (.fields #[(.str (Str.ofString "__set__") 1662), (.str (Str.ofString "_EnumField.__set__") 1663), (.str (Str.ofString "/claim/cut.py") 1664), (.int (Int.ofNat 234) 0), (.int (Int.ofNat 3) 0), (.int (Int.ofNat 0) 0), (.int (Int.ofNat 0) 0), (.int (Int.ofNat 3) 0), (.ref 497), (.bool true), (.int (Int.ofNat 492) 0), (.ref 498), .none, (.ref 499), (.ref 500), (.ref 501), (.int (Int.ofNat 1668) 0), (.int (Int.ofNat 234) 0), (.str (Str.ofString "/claim/cut.py") 1669)]), #[]⟩
noncomputable def B92 (P : Params) : Obj := ⟨(.type "code"), none, (.fields #[(.str (Str.ofString "__delete__") 1671), (.str (Str.ofString "_EnumField.__delete__") 1672), (.str (Str.ofString "/claim/cut.py") 1673), (.int (Int.ofNat 237) 0), (.int (Int.ofNat 2) 0), (.int (Int.ofNat 0) 0), (.int (Int.ofNat 0) 0), (.int (Int.ofNat 3) 0), (.ref 504), (.bool true), (.int (Int.ofNat 492) 0), (.ref 505), .none, (.ref 506), (.ref 507), (.ref 508), (.int (Int.ofNat 1676) 0), (.int (Int.ofNat 237) 0), (.str (Str.ofString "/claim/cut.py") 1677)]), #[]⟩
noncomputable def B93 (P : Params) : Obj := ⟨(.type "dict"), none, (.dict #[(eK P (Str.ofString "__module__") 1640 (.str (Str.ofString "enum") 1156)), (eK P (Str.ofString "__firstlineno__") 1644 (.int (Int.ofNat 222) 1643)), (eK P (Str.ofString "__init__") 1652 (.ref 488)), (eK P (Str.ofString "__get__") 1661 (.ref 496)), (eK P (Str.ofString "__set__") 1670 (.ref 503)), (eK P (Str.ofString "__delete__") 1678 (.ref 510)), (eK P (Str.ofString "__static_attributes__") 1680 (.ref 511)), (eK P (Str.ofString "__dict__") 1682 (.ref 514)), (eK P (Str.ofString "__weakref__") 1684 (.ref 515)), (eK P (Str.ofString "__doc__") 1685 .none)] 4), #[]⟩
noncomputable def B94 (P : Params) : Obj := ⟨(.type "type"), none, (.cls ⟨(Str.ofString "_EnumField"), [(.type "object")], [(.ref 513), (.type "object")], 512, (Str.ofString "_EnumField"), true, [], [], false, none, false⟩), #[none, none, (some (.str (Str.ofString "_EnumField") 1633)), (some (.str (Str.ofString "_EnumField") 1641)), (some (.builtin "object.__new__")), (some (.bool true))]⟩
noncomputable def So0 (P : Params) : List Obj := [B0 P,
  B1 P,
  B2 P,
  B3 P,
  ⟨(.type "module"), (some 0), .plain, #[]⟩,
  ⟨(.type "module"), (some 3), .plain, #[]⟩,
  ⟨(.type "dict"), none, (.dict #[] 0), #[]⟩,
  ⟨(.type "tuple"), none, (.seq #[] 0), #[]⟩,
  ⟨.none, none, (.fields #[]), #[]⟩,
  B4 P,
  ⟨(.type "frame"), none, .plain, #[(some (.ref 9)), (some (.ref 3)), (some (.ref 3)), none, (some (.str (Str.ofString "__main__") 164)), none, (some (.ref 0))]⟩,
  B5 P,
  ⟨(.type "module"), (some 11), .plain, #[]⟩,
  B6 P,
  ⟨(.type "type"), none, (.cls ⟨(Str.ofString "BuiltinImporter"), [(.type "object")], [(.ref 14), (.type "object")], 13, (Str.ofString "BuiltinImporter"), true, [], [], false, none, false⟩), #[]⟩,
  ⟨(.type "tuple"), none, (.seq #[] 0), #[]⟩,
  ⟨(.type "getset_descriptor"), none, (.fields #[(.str (Str.ofString "__dict__") 201), (.ref 14), (.builtin "function.__dict__"), (.builtin "function.__dict__#set")]), #[]⟩,
  ⟨(.type "getset_descriptor"), none, (.fields #[(.str (Str.ofString "__weakref__") 203), (.ref 14), (.builtin "ExceptionGroup.__weakref__"), .none]), #[]⟩,
  B7 P,
  ⟨(.type "list"), none, (.seq #[] 0), #[]⟩,
  B8 P,
  B9 P,
  ⟨(.type "type"), none, (.cls ⟨(Str.ofString "ModuleSpec"), [(.type "object")], [(.ref 22), (.type "object")], 21, (Str.ofString "ModuleSpec"), true, [], [], false, none, false⟩), #[]⟩,
  B10 P,
  ⟨(.type "getset_descriptor"), none, (.fields #[(.str (Str.ofString "__dict__") 237), (.ref 22), (.builtin "function.__dict__"), (.builtin "function.__dict__#set")]), #[]⟩,
  ⟨(.type "getset_descriptor"), none, (.fields #[(.str (Str.ofString "__weakref__") 239), (.ref 22), (.builtin "ExceptionGroup.__weakref__"), .none]), #[]⟩,
  ⟨(.ref 22), (some 20), .plain, #[]⟩,
  B11 P,
  ⟨(.type "tuple"), none, (.seq #[(.str (Str.ofString "isnan") 277)] 0), #[]⟩,
  B12 P]
noncomputable def So1 (P : Params) : List Obj := [⟨(.type "module"), (some 29), .plain, #[]⟩,
  B13 P,
  B14 P,
  ⟨(.type "type"), none, (.cls ⟨(Str.ofString "_LoaderBasics"), [(.type "object")], [(.ref 33), (.type "object")], 32, (Str.ofString "_LoaderBasics"), true, [], [(.ref 43)], false, none, false⟩), #[]⟩,
  ⟨(.type "tuple"), none, (.seq #[] 0), #[]⟩,
  ⟨(.type "getset_descriptor"), none, (.fields #[(.str (Str.ofString "__dict__") 296), (.ref 33), (.builtin "function.__dict__"), (.builtin "function.__dict__#set")]), #[]⟩,
  ⟨(.type "getset_descriptor"), none, (.fields #[(.str (Str.ofString "__weakref__") 298), (.ref 33), (.builtin "ExceptionGroup.__weakref__"), .none]), #[]⟩,
  B15 P,
  ⟨(.type "type"), none, (.cls ⟨(Str.ofString "FileLoader"), [(.type "object")], [(.ref 38), (.type "object")], 37, (Str.ofString "FileLoader"), true, [], [(.ref 43)], false, none, false⟩), #[]⟩,
  ⟨(.type "tuple"), none, (.seq #[(.str (Str.ofString "name") 304), (.str (Str.ofString "path") 305)] 0), #[]⟩,
  ⟨(.type "getset_descriptor"), none, (.fields #[(.str (Str.ofString "__dict__") 317), (.ref 38), (.builtin "function.__dict__"), (.builtin "function.__dict__#set")]), #[]⟩,
  ⟨(.type "getset_descriptor"), none, (.fields #[(.str (Str.ofString "__weakref__") 319), (.ref 38), (.builtin "ExceptionGroup.__weakref__"), .none]), #[]⟩,
  B16 P,
  ⟨(.type "type"), none, (.cls ⟨(Str.ofString "ExtensionFileLoader"), [(.ref 38), (.ref 33)], [(.ref 43), (.ref 38), (.ref 33), (.type "object")], 42, (Str.ofString "ExtensionFileLoader"), true, [], [], false, none, false⟩), #[]⟩,
  ⟨(.type "tuple"), none, (.seq #[(.str (Str.ofString "name") 325), (.str (Str.ofString "path") 326)] 0), #[]⟩,
  ⟨(.ref 43), (some 31), .plain, #[]⟩,
  ⟨(.type "list"), none, (.seq #[] 0), #[]⟩,
  B17 P,
  ⟨(.ref 22), (some 47), .plain, #[]⟩,
  ⟨(.type "tuple"), none, (.seq #[(.str (Str.ofString "category") 437)] 0), #[]⟩,
  B18 P,
  ⟨(.type "module"), (some 50), .plain, #[]⟩,
  B19 P,
  ⟨(.ref 43), (some 52), .plain, #[]⟩,
  ⟨(.type "list"), none, (.seq #[] 0), #[]⟩,
  B20 P,
  ⟨(.ref 22), (some 55), .plain, #[]⟩,
  ⟨(.type "unicodedata.UCD"), none, (.fields #[]), #[]⟩]
noncomputable def To (P : Params) : BT := treeOf (So0 P ++ So1 P)
noncomputable def Sa1 (P : Params) : List Obj := [⟨(.type "module"), (some 29), .plain, #[]⟩,
  B13 P,
  B14 P,
  ⟨(.type "type"), none, (.cls ⟨(Str.ofString "_LoaderBasics"), [(.type "object")], [(.ref 33), (.type "object")], 32, (Str.ofString "_LoaderBasics"), true, [], [(.ref 43)], false, none, false⟩), #[]⟩,
  ⟨(.type "tuple"), none, (.seq #[] 0), #[]⟩,
  ⟨(.type "getset_descriptor"), none, (.fields #[(.str (Str.ofString "__dict__") 296), (.ref 33), (.builtin "function.__dict__"), (.builtin "function.__dict__#set")]), #[]⟩,
  ⟨(.type "getset_descriptor"), none, (.fields #[(.str (Str.ofString "__weakref__") 298), (.ref 33), (.builtin "ExceptionGroup.__weakref__"), .none]), #[]⟩,
  B15 P,
  ⟨(.type "type"), none, (.cls ⟨(Str.ofString "FileLoader"), [(.type "object")], [(.ref 38), (.type "object")], 37, (Str.ofString "FileLoader"), true, [], [(.ref 43)], false, none, false⟩), #[]⟩,
  ⟨(.type "tuple"), none, (.seq #[(.str (Str.ofString "name") 304), (.str (Str.ofString "path") 305)] 0), #[]⟩,
  ⟨(.type "getset_descriptor"), none, (.fields #[(.str (Str.ofString "__dict__") 317), (.ref 38), (.builtin "function.__dict__"), (.builtin "function.__dict__#set")]), #[]⟩,
  ⟨(.type "getset_descriptor"), none, (.fields #[(.str (Str.ofString "__weakref__") 319), (.ref 38), (.builtin "ExceptionGroup.__weakref__"), .none]), #[]⟩,
  B16 P,
  ⟨(.type "type"), none, (.cls ⟨(Str.ofString "ExtensionFileLoader"), [(.ref 38), (.ref 33)], [(.ref 43), (.ref 38), (.ref 33), (.type "object")], 42, (Str.ofString "ExtensionFileLoader"), true, [], [], false, none, false⟩), #[]⟩,
  ⟨(.type "tuple"), none, (.seq #[(.str (Str.ofString "name") 325), (.str (Str.ofString "path") 326)] 0), #[]⟩,
  ⟨(.ref 43), (some 31), .plain, #[]⟩,
  ⟨(.type "list"), none, (.seq #[] 0), #[]⟩,
  B17 P,
  ⟨(.ref 22), (some 47), .plain, #[]⟩,
  ⟨(.type "tuple"), none, (.seq #[(.str (Str.ofString "category") 437)] 0), #[]⟩,
  B18 P,
  ⟨(.type "module"), (some 50), .plain, #[]⟩,
  B19 P,
  ⟨(.ref 43), (some 52), .plain, #[]⟩,
  ⟨(.type "list"), none, (.seq #[] 0), #[]⟩,
  B20 P,
  ⟨(.ref 22), (some 55), .plain, #[]⟩,
  ⟨(.type "unicodedata.UCD"), none, (.fields #[]), #[]⟩,
  ⟨(.type "tuple"), none, (.seq #[] 0), #[]⟩,
  ⟨.none, none, (.fields #[]), #[]⟩]
noncomputable def Sa2 (P : Params) : List Obj := [B21 P,
  ⟨(.type "frame"), none, .plain, #[(some (.ref 60)), (some (.ref 3)), (some (.ref 3)), none, (some (.str (Str.ofString "__main__") 164)), none, (some (.ref 0))]⟩]
noncomputable def Ta (P : Params) : BT := treeOf (So0 P ++ Sa1 P ++ Sa2 P)
noncomputable def Sx0 (P : Params) : List Obj := [B0 P,
  B1 P,
  B2 P,
  ⟨(.type "dict"), none, (.dict #[(eK P (Str.ofString "__name__") 165 (.str (Str.ofString "enum") 1156)), (eK P (Str.ofString "__doc__") 166 .none), (eK P (Str.ofString "__package__") 167 .none), (eK P (Str.ofString "__loader__") 168 (.builtin "__main__.__loader__#opaque")), (eK P (Str.ofString "__spec__") 169 .none), (eK P (Str.ofString "__annotations__") 170 (.ref 6)), (eK P (Str.ofString "__builtins__") 171 (.ref 4)), (eK P (Str.ofString "__file__") 173 (.str (Str.ofString "/claim/cut.py") 172)), (eK P (Str.ofString "__cached__") 174 .none), (eK P (Str.ofString "_sre") 275 (.ref 12)), (eK P (Str.ofString "isnan") 435 (.builtin "math.isnan")), (eK P (Str.ofString "category") 491 (.builtin "unicodedata.category")), (eK P (Str.ofString "_wall") 504 (.ref 68)), (eK P (Str.ofString "_reserved_word_re") 1155 (.ref 73)), (eK P (Str.ofString "_OWN_NAMES") 1163 (.ref 74))] 15), #[]⟩,
  ⟨(.type "module"), (some 0), .plain, #[]⟩,
  ⟨(.type "module"), (some 3), .plain, #[]⟩,
  ⟨(.type "dict"), none, (.dict #[] 0), #[]⟩,
  ⟨(.type "tuple"), none, (.seq #[] 0), #[]⟩,
  ⟨.none, none, (.fields #[]), #[]⟩,
  B4 P,
  ⟨(.type "frame"), none, .plain, #[(some (.ref 9)), (some (.ref 3)), (some (.ref 3)), none, (some (.str (Str.ofString "__main__") 164)), none, (some (.ref 0))]⟩,
  B5 P,
  ⟨(.type "module"), (some 11), .plain, #[]⟩,
  B6 P,
  ⟨(.type "type"), none, (.cls ⟨(Str.ofString "BuiltinImporter"), [(.type "object")], [(.ref 14), (.type "object")], 13, (Str.ofString "BuiltinImporter"), true, [], [], false, none, false⟩), #[]⟩,
  ⟨(.type "tuple"), none, (.seq #[] 0), #[]⟩,
  ⟨(.type "getset_descriptor"), none, (.fields #[(.str (Str.ofString "__dict__") 201), (.ref 14), (.builtin "function.__dict__"), (.builtin "function.__dict__#set")]), #[]⟩,
  ⟨(.type "getset_descriptor"), none, (.fields #[(.str (Str.ofString "__weakref__") 203), (.ref 14), (.builtin "ExceptionGroup.__weakref__"), .none]), #[]⟩,
  B7 P,
  ⟨(.type "list"), none, (.seq #[] 0), #[]⟩,
  B8 P,
  B9 P,
  ⟨(.type "type"), none, (.cls ⟨(Str.ofString "ModuleSpec"), [(.type "object")], [(.ref 22), (.type "object")], 21, (Str.ofString "ModuleSpec"), true, [], [], false, none, false⟩), #[]⟩,
  B10 P,
  ⟨(.type "getset_descriptor"), none, (.fields #[(.str (Str.ofString "__dict__") 237), (.ref 22), (.builtin "function.__dict__"), (.builtin "function.__dict__#set")]), #[]⟩,
  ⟨(.type "getset_descriptor"), none, (.fields #[(.str (Str.ofString "__weakref__") 239), (.ref 22), (.builtin "ExceptionGroup.__weakref__"), .none]), #[]⟩,
  ⟨(.ref 22), (some 20), .plain, #[]⟩,
  B11 P,
  ⟨(.type "tuple"), none, (.seq #[(.str (Str.ofString "isnan") 277)] 0), #[]⟩,
  B12 P]
noncomputable def Sx1 (P : Params) : List Obj := [⟨(.type "module"), (some 29), .plain, #[]⟩,
  B13 P,
  B14 P,
  ⟨(.type "type"), none, (.cls ⟨(Str.ofString "_LoaderBasics"), [(.type "object")], [(.ref 33), (.type "object")], 32, (Str.ofString "_LoaderBasics"), true, [], [(.ref 43)], false, none, false⟩), #[]⟩,
  ⟨(.type "tuple"), none, (.seq #[] 0), #[]⟩,
  ⟨(.type "getset_descriptor"), none, (.fields #[(.str (Str.ofString "__dict__") 296), (.ref 33), (.builtin "function.__dict__"), (.builtin "function.__dict__#set")]), #[]⟩,
  ⟨(.type "getset_descriptor"), none, (.fields #[(.str (Str.ofString "__weakref__") 298), (.ref 33), (.builtin "ExceptionGroup.__weakref__"), .none]), #[]⟩,
  B15 P,
  ⟨(.type "type"), none, (.cls ⟨(Str.ofString "FileLoader"), [(.type "object")], [(.ref 38), (.type "object")], 37, (Str.ofString "FileLoader"), true, [], [(.ref 43)], false, none, false⟩), #[]⟩,
  ⟨(.type "tuple"), none, (.seq #[(.str (Str.ofString "name") 304), (.str (Str.ofString "path") 305)] 0), #[]⟩,
  ⟨(.type "getset_descriptor"), none, (.fields #[(.str (Str.ofString "__dict__") 317), (.ref 38), (.builtin "function.__dict__"), (.builtin "function.__dict__#set")]), #[]⟩,
  ⟨(.type "getset_descriptor"), none, (.fields #[(.str (Str.ofString "__weakref__") 319), (.ref 38), (.builtin "ExceptionGroup.__weakref__"), .none]), #[]⟩,
  B16 P,
  ⟨(.type "type"), none, (.cls ⟨(Str.ofString "ExtensionFileLoader"), [(.ref 38), (.ref 33)], [(.ref 43), (.ref 38), (.ref 33), (.type "object")], 42, (Str.ofString "ExtensionFileLoader"), true, [], [], false, none, false⟩), #[]⟩,
  ⟨(.type "tuple"), none, (.seq #[(.str (Str.ofString "name") 325), (.str (Str.ofString "path") 326)] 0), #[]⟩,
  ⟨(.ref 43), (some 31), .plain, #[]⟩,
  ⟨(.type "list"), none, (.seq #[] 0), #[]⟩,
  B17 P,
  ⟨(.ref 22), (some 47), .plain, #[]⟩,
  ⟨(.type "tuple"), none, (.seq #[(.str (Str.ofString "category") 437)] 0), #[]⟩,
  B18 P,
  ⟨(.type "module"), (some 50), .plain, #[]⟩,
  B19 P,
  ⟨(.ref 43), (some 52), .plain, #[]⟩,
  ⟨(.type "list"), none, (.seq #[] 0), #[]⟩,
  B20 P,
  ⟨(.ref 22), (some 55), .plain, #[]⟩,
  ⟨(.type "unicodedata.UCD"), none, (.fields #[]), #[]⟩,
  ⟨(.type "tuple"), none, (.seq #[] 0), #[]⟩,
  ⟨.none, none, (.fields #[(.int (Int.ofNat 4) 0), (.int (Int.ofNat 0) 0), (.ref 67)]), #[]⟩]
noncomputable def Sx2 (P : Params) : List Obj := [B21 P,
  ⟨(.type "frame"), none, .plain, #[(some (.ref 60)), (some (.ref 3)), (some (.ref 3)), none, (some (.str (Str.ofString "__main__") 164)), none, (some (.ref 0))]⟩,
  ⟨(.type "tuple"), none, (.seq #[] 0), #[]⟩,
  ⟨.none, none, (.fields #[]), #[]⟩,
  ⟨(.type "tuple"), none, (.seq #[(.str (Str.ofString "k") 501)] 0), #[]⟩,
  ⟨(.type "tuple"), none, (.seq #[] 0), #[]⟩,
  ⟨.none, none, (.func (fD (sAt 3) (Str.ofString "_wall") 0 [] .none .none .none .none none .none .none 0)), #[]⟩,
  B22 P,
  ⟨(.type "function"), none, (.func (fD (sAt 3) (Str.ofString "_wall") 3 [] .none .none .none (.str (Str.ofString "__main__") 164) none (.ref 67) .none 0)), #[]⟩,
  ⟨(.type "list"), none, (.seq (toksL codeLit 508).toArray 0), #[]⟩,
  ⟨(.type "dict"), none, (.dict #[] 0), #[]⟩,
  ⟨(.type "tuple"), none, (.seq #[.none, .none] 0), #[]⟩,
  ⟨(.type "tuple"), none, (.seq (codeLit.map rawN).toArray 0), #[]⟩,
  ⟨(.type "re.Pattern"), none, (.fields #[(.str patLit 506), (.int (Int.ofNat 32) 1154), (.int (Int.ofNat 1) 0), .none, .none, (.ref 72), (.int (Int.ofNat 0) 0)]), #[]⟩,
  ⟨(.type "tuple"), none, (.seq #[(.str (Str.ofString "_written_out_") 1158), (.str (Str.ofString "_is_flag_") 1159), (.str (Str.ofString "_given_values_") 1160), (.str (Str.ofString "_held_init_") 1161), (.str (Str.ofString "_making_") 1162)] 0), #[]⟩]
noncomputable def Tx (P : Params) : BT := treeOf (Sx0 P ++ Sx1 P ++ Sx2 P)
noncomputable def Sy0 (P : Params) : List Obj := [B0 P,
  B1 P,
  B2 P,
  ⟨(.type "dict"), none, (.dict #[(eK P (Str.ofString "__name__") 165 (.str (Str.ofString "enum") 1156)), (eK P (Str.ofString "__doc__") 166 .none), (eK P (Str.ofString "__package__") 167 .none), (eK P (Str.ofString "__loader__") 168 (.builtin "__main__.__loader__#opaque")), (eK P (Str.ofString "__spec__") 169 .none), (eK P (Str.ofString "__annotations__") 170 (.ref 6)), (eK P (Str.ofString "__builtins__") 171 (.ref 4)), (eK P (Str.ofString "__file__") 173 (.str (Str.ofString "/claim/cut.py") 172)), (eK P (Str.ofString "__cached__") 174 .none), (eK P (Str.ofString "_sre") 275 (.ref 12)), (eK P (Str.ofString "isnan") 435 (.builtin "math.isnan")), (eK P (Str.ofString "category") 491 (.builtin "unicodedata.category")), (eK P (Str.ofString "_wall") 504 (.ref 68)), (eK P (Str.ofString "_reserved_word_re") 1155 (.ref 73)), (eK P (Str.ofString "_OWN_NAMES") 1163 (.ref 74)), (eK P (Str.ofString "mappingproxy") 1371 (.ref 255)), (eK P (Str.ofString "_MEMBERS_VIEW") 1372 (.ref 255)), (eK P (Str.ofString "EnumType") 1632 (.ref 471)), (eK P (Str.ofString "_EnumField") 1687 (.ref 513))] 19), #[]⟩,
  ⟨(.type "module"), (some 0), .plain, #[]⟩,
  ⟨(.type "module"), (some 3), .plain, #[]⟩,
  ⟨(.type "dict"), none, (.dict #[] 0), #[]⟩,
  ⟨(.type "tuple"), none, (.seq #[] 0), #[]⟩,
  ⟨.none, none, (.fields #[]), #[]⟩,
  B4 P,
  ⟨(.type "frame"), none, .plain, #[(some (.ref 9)), (some (.ref 3)), (some (.ref 3)), none, (some (.str (Str.ofString "__main__") 164)), none, (some (.ref 0))]⟩,
  B5 P,
  ⟨(.type "module"), (some 11), .plain, #[]⟩,
  B6 P,
  ⟨(.type "type"), none, (.cls ⟨(Str.ofString "BuiltinImporter"), [(.type "object")], [(.ref 14), (.type "object")], 13, (Str.ofString "BuiltinImporter"), true, [], [], false, none, false⟩), #[]⟩,
  ⟨(.type "tuple"), none, (.seq #[] 0), #[]⟩,
  ⟨(.type "getset_descriptor"), none, (.fields #[(.str (Str.ofString "__dict__") 201), (.ref 14), (.builtin "function.__dict__"), (.builtin "function.__dict__#set")]), #[]⟩,
  ⟨(.type "getset_descriptor"), none, (.fields #[(.str (Str.ofString "__weakref__") 203), (.ref 14), (.builtin "ExceptionGroup.__weakref__"), .none]), #[]⟩,
  B7 P,
  ⟨(.type "list"), none, (.seq #[] 0), #[]⟩,
  B8 P,
  B9 P,
  ⟨(.type "type"), none, (.cls ⟨(Str.ofString "ModuleSpec"), [(.type "object")], [(.ref 22), (.type "object")], 21, (Str.ofString "ModuleSpec"), true, [], [], false, none, false⟩), #[]⟩,
  B10 P,
  ⟨(.type "getset_descriptor"), none, (.fields #[(.str (Str.ofString "__dict__") 237), (.ref 22), (.builtin "function.__dict__"), (.builtin "function.__dict__#set")]), #[]⟩,
  ⟨(.type "getset_descriptor"), none, (.fields #[(.str (Str.ofString "__weakref__") 239), (.ref 22), (.builtin "ExceptionGroup.__weakref__"), .none]), #[]⟩,
  ⟨(.ref 22), (some 20), .plain, #[]⟩,
  B11 P,
  ⟨(.type "tuple"), none, (.seq #[(.str (Str.ofString "isnan") 277)] 0), #[]⟩,
  B12 P]
noncomputable def Sy1 (P : Params) : List Obj := [⟨(.type "module"), (some 29), .plain, #[]⟩,
  B13 P,
  B14 P,
  ⟨(.type "type"), none, (.cls ⟨(Str.ofString "_LoaderBasics"), [(.type "object")], [(.ref 33), (.type "object")], 32, (Str.ofString "_LoaderBasics"), true, [], [(.ref 43)], false, none, false⟩), #[]⟩,
  ⟨(.type "tuple"), none, (.seq #[] 0), #[]⟩,
  ⟨(.type "getset_descriptor"), none, (.fields #[(.str (Str.ofString "__dict__") 296), (.ref 33), (.builtin "function.__dict__"), (.builtin "function.__dict__#set")]), #[]⟩,
  ⟨(.type "getset_descriptor"), none, (.fields #[(.str (Str.ofString "__weakref__") 298), (.ref 33), (.builtin "ExceptionGroup.__weakref__"), .none]), #[]⟩,
  B15 P,
  ⟨(.type "type"), none, (.cls ⟨(Str.ofString "FileLoader"), [(.type "object")], [(.ref 38), (.type "object")], 37, (Str.ofString "FileLoader"), true, [], [(.ref 43)], false, none, false⟩), #[]⟩,
  ⟨(.type "tuple"), none, (.seq #[(.str (Str.ofString "name") 304), (.str (Str.ofString "path") 305)] 0), #[]⟩,
  ⟨(.type "getset_descriptor"), none, (.fields #[(.str (Str.ofString "__dict__") 317), (.ref 38), (.builtin "function.__dict__"), (.builtin "function.__dict__#set")]), #[]⟩,
  ⟨(.type "getset_descriptor"), none, (.fields #[(.str (Str.ofString "__weakref__") 319), (.ref 38), (.builtin "ExceptionGroup.__weakref__"), .none]), #[]⟩,
  B16 P,
  ⟨(.type "type"), none, (.cls ⟨(Str.ofString "ExtensionFileLoader"), [(.ref 38), (.ref 33)], [(.ref 43), (.ref 38), (.ref 33), (.type "object")], 42, (Str.ofString "ExtensionFileLoader"), true, [], [], false, none, false⟩), #[]⟩,
  ⟨(.type "tuple"), none, (.seq #[(.str (Str.ofString "name") 325), (.str (Str.ofString "path") 326)] 0), #[]⟩,
  ⟨(.ref 43), (some 31), .plain, #[]⟩,
  ⟨(.type "list"), none, (.seq #[] 0), #[]⟩,
  B17 P,
  ⟨(.ref 22), (some 47), .plain, #[]⟩,
  ⟨(.type "tuple"), none, (.seq #[(.str (Str.ofString "category") 437)] 0), #[]⟩,
  B18 P,
  ⟨(.type "module"), (some 50), .plain, #[]⟩,
  B19 P,
  ⟨(.ref 43), (some 52), .plain, #[]⟩,
  ⟨(.type "list"), none, (.seq #[] 0), #[]⟩,
  B20 P,
  ⟨(.ref 22), (some 55), .plain, #[]⟩,
  ⟨(.type "unicodedata.UCD"), none, (.fields #[]), #[]⟩,
  ⟨(.type "tuple"), none, (.seq #[] 0), #[]⟩,
  ⟨.none, none, (.fields #[(.int (Int.ofNat 4) 0), (.int (Int.ofNat 0) 0), (.ref 67), (.int (Int.ofNat 10) 0), (.int (Int.ofNat 0) 0), (.ref 80), (.int (Int.ofNat 92) 0), (.int (Int.ofNat 0) 0), (.ref 266), (.int (Int.ofNat 222) 0), (.int (Int.ofNat 0) 0), (.ref 480)]), #[]⟩]
noncomputable def Sy2 (P : Params) : List Obj := [B21 P,
  ⟨(.type "frame"), none, .plain, #[(some (.ref 60)), (some (.ref 3)), (some (.ref 3)), none, (some (.str (Str.ofString "__main__") 164)), none, (some (.ref 0))]⟩,
  ⟨(.type "tuple"), none, (.seq #[] 0), #[]⟩,
  ⟨.none, none, (.fields #[]), #[]⟩,
  ⟨(.type "tuple"), none, (.seq #[(.str (Str.ofString "k") 501)] 0), #[]⟩,
  ⟨(.type "tuple"), none, (.seq #[] 0), #[]⟩,
  ⟨.none, none, (.func (fD (sAt 3) (Str.ofString "_wall") 0 [] .none .none .none .none none .none .none 0)), #[]⟩,
  B22 P,
  ⟨(.type "function"), none, (.func (fD (sAt 3) (Str.ofString "_wall") 3 [] .none .none .none (.str (Str.ofString "__main__") 164) none (.ref 67) .none 0)), #[]⟩,
  ⟨(.type "list"), none, (.seq (toksL codeLit 508).toArray 0), #[]⟩,
  ⟨(.type "dict"), none, (.dict #[] 0), #[]⟩,
  ⟨(.type "tuple"), none, (.seq #[.none, .none] 0), #[]⟩,
  ⟨(.type "tuple"), none, (.seq (codeLit.map rawN).toArray 0), #[]⟩,
  ⟨(.type "re.Pattern"), none, (.fields #[(.str patLit 506), (.int (Int.ofNat 32) 1154), (.int (Int.ofNat 1) 0), .none, .none, (.ref 72), (.int (Int.ofNat 0) 0)]), #[]⟩,
  ⟨(.type "tuple"), none, (.seq #[(.str (Str.ofString "_written_out_") 1158), (.str (Str.ofString "_is_flag_") 1159), (.str (Str.ofString "_given_values_") 1160), (.str (Str.ofString "_held_init_") 1161), (.str (Str.ofString "_making_") 1162)] 0), #[]⟩,
  ⟨(.type "tuple"), none, (.seq #[] 0), #[]⟩,
  ⟨(.type "builtin_function_or_method"), none, (.fields #[(.builtin "type.__prepare__"), (.type "type")]), #[]⟩,
  B23 P,
  ⟨(.type "tuple"), none, (.seq #[] 0), #[]⟩,
  B24 P,
  B25 P,
  ⟨(.type "frame"), none, .plain, #[(some (.ref 80)), (some (.ref 3)), (some (.ref 77)), none, (some (.str (Str.ofString "enum") 1156)), none, (some (.ref 0))]⟩,
  ⟨(.type "tuple"), none, (.seq #[(.str (Str.ofString "_mapping") 1178)] 0), #[]⟩,
  ⟨(.type "tuple"), none, (.seq #[] 0), #[]⟩,
  ⟨.none, none, (.fields #[]), #[]⟩,
  ⟨(.type "tuple"), none, (.seq #[(.str (Str.ofString "cls") 1183), (.str (Str.ofString "mapping") 1184), (.str (Str.ofString "self") 1185)] 0), #[]⟩,
  ⟨(.type "tuple"), none, (.seq #[] 0), #[]⟩,
  ⟨.none, none, (.func (fD (mAt 7 2) (Str.ofString "mappingproxy.__new__") 0 [] .none .none .none .none none .none .none 0)), #[]⟩,
  B26 P,
  ⟨(.type "function"), none, (.func (fD (mAt 7 2) (Str.ofString "mappingproxy.__new__") 3 [] .none .none .none (.str (Str.ofString "enum") 1156) none (.ref 88) .none 0)), #[]⟩]
noncomputable def Sy3 (P : Params) : List Obj := [⟨(.type "tuple"), none, (.seq #[] 0), #[]⟩,
  ⟨.none, none, (.fields #[]), #[]⟩,
  ⟨(.type "tuple"), none, (.seq #[(.str (Str.ofString "self") 1192), (.str (Str.ofString "protocol") 1193)] 0), #[]⟩,
  ⟨(.type "tuple"), none, (.seq #[] 0), #[]⟩,
  ⟨.none, none, (.func (fD (mAt 7 3) (Str.ofString "mappingproxy.__reduce_ex__") 0 [] .none .none .none .none none .none .none 0)), #[]⟩,
  B27 P,
  ⟨(.type "function"), none, (.func (fD (mAt 7 3) (Str.ofString "mappingproxy.__reduce_ex__") 3 [] .none .none .none (.str (Str.ofString "enum") 1156) none (.ref 95) .none 0)), #[]⟩,
  ⟨(.type "tuple"), none, (.seq #[] 0), #[]⟩,
  ⟨.none, none, (.fields #[]), #[]⟩,
  ⟨(.type "tuple"), none, (.seq #[(.str (Str.ofString "self") 1200), (.str (Str.ofString "key") 1201)] 0), #[]⟩,
  ⟨(.type "tuple"), none, (.seq #[] 0), #[]⟩,
  ⟨.none, none, (.func (fD (mAt 7 4) (Str.ofString "mappingproxy.__getitem__") 0 [] .none .none .none .none none .none .none 0)), #[]⟩,
  B28 P,
  ⟨(.type "function"), none, (.func (fD (mAt 7 4) (Str.ofString "mappingproxy.__getitem__") 3 [] .none .none .none (.str (Str.ofString "enum") 1156) none (.ref 102) .none 0)), #[]⟩,
  ⟨(.type "tuple"), none, (.seq #[] 0), #[]⟩,
  ⟨.none, none, (.fields #[]), #[]⟩,
  ⟨(.type "tuple"), none, (.seq #[(.str (Str.ofString "self") 1208)] 0), #[]⟩,
  ⟨(.type "tuple"), none, (.seq #[] 0), #[]⟩,
  ⟨.none, none, (.func (fD (mAt 7 5) (Str.ofString "mappingproxy.__len__") 0 [] .none .none .none .none none .none .none 0)), #[]⟩,
  B29 P,
  ⟨(.type "function"), none, (.func (fD (mAt 7 5) (Str.ofString "mappingproxy.__len__") 3 [] .none .none .none (.str (Str.ofString "enum") 1156) none (.ref 109) .none 0)), #[]⟩,
  ⟨(.type "tuple"), none, (.seq #[] 0), #[]⟩,
  ⟨.none, none, (.fields #[]), #[]⟩,
  ⟨(.type "tuple"), none, (.seq #[(.str (Str.ofString "self") 1215)] 0), #[]⟩,
  ⟨(.type "tuple"), none, (.seq #[] 0), #[]⟩,
  ⟨.none, none, (.func (fD (mAt 7 6) (Str.ofString "mappingproxy.__iter__") 0 [] .none .none .none .none none .none .none 0)), #[]⟩,
  B30 P,
  ⟨(.type "function"), none, (.func (fD (mAt 7 6) (Str.ofString "mappingproxy.__iter__") 3 [] .none .none .none (.str (Str.ofString "enum") 1156) none (.ref 116) .none 0)), #[]⟩,
  ⟨(.type "tuple"), none, (.seq #[] 0), #[]⟩,
  ⟨.none, none, (.fields #[]), #[]⟩]
noncomputable def Sy4 (P : Params) : List Obj := [⟨(.type "tuple"), none, (.seq #[(.str (Str.ofString "self") 1222)] 0), #[]⟩,
  ⟨(.type "tuple"), none, (.seq #[] 0), #[]⟩,
  ⟨.none, none, (.func (fD (mAt 7 7) (Str.ofString "mappingproxy.__reversed__") 0 [] .none .none .none .none none .none .none 0)), #[]⟩,
  B31 P,
  ⟨(.type "function"), none, (.func (fD (mAt 7 7) (Str.ofString "mappingproxy.__reversed__") 3 [] .none .none .none (.str (Str.ofString "enum") 1156) none (.ref 123) .none 0)), #[]⟩,
  ⟨(.type "tuple"), none, (.seq #[] 0), #[]⟩,
  ⟨.none, none, (.fields #[]), #[]⟩,
  ⟨(.type "tuple"), none, (.seq #[(.str (Str.ofString "self") 1229), (.str (Str.ofString "key") 1230)] 0), #[]⟩,
  ⟨(.type "tuple"), none, (.seq #[] 0), #[]⟩,
  ⟨.none, none, (.func (fD (mAt 7 8) (Str.ofString "mappingproxy.__contains__") 0 [] .none .none .none .none none .none .none 0)), #[]⟩,
  B32 P,
  ⟨(.type "function"), none, (.func (fD (mAt 7 8) (Str.ofString "mappingproxy.__contains__") 3 [] .none .none .none (.str (Str.ofString "enum") 1156) none (.ref 130) .none 0)), #[]⟩,
  ⟨(.type "tuple"), none, (.seq #[] 0), #[]⟩,
  ⟨.none, none, (.fields #[]), #[]⟩,
  ⟨(.type "tuple"), none, (.seq #[(.str (Str.ofString "self") 1237)] 0), #[]⟩,
  ⟨(.type "tuple"), none, (.seq #[] 0), #[]⟩,
  ⟨.none, none, (.func (fD (mAt 7 9) (Str.ofString "mappingproxy.__repr__") 0 [] .none .none .none .none none .none .none 0)), #[]⟩,
  B33 P,
  ⟨(.type "function"), none, (.func (fD (mAt 7 9) (Str.ofString "mappingproxy.__repr__") 3 [] .none .none .none (.str (Str.ofString "enum") 1156) none (.ref 137) .none 0)), #[]⟩,
  ⟨(.type "tuple"), none, (.seq #[] 0), #[]⟩,
  ⟨.none, none, (.fields #[]), #[]⟩,
  ⟨(.type "tuple"), none, (.seq #[(.str (Str.ofString "self") 1244)] 0), #[]⟩,
  ⟨(.type "tuple"), none, (.seq #[] 0), #[]⟩,
  ⟨.none, none, (.func (fD (mAt 7 10) (Str.ofString "mappingproxy.__str__") 0 [] .none .none .none .none none .none .none 0)), #[]⟩,
  B34 P,
  ⟨(.type "function"), none, (.func (fD (mAt 7 10) (Str.ofString "mappingproxy.__str__") 3 [] .none .none .none (.str (Str.ofString "enum") 1156) none (.ref 144) .none 0)), #[]⟩,
  ⟨(.type "tuple"), none, (.seq #[] 0), #[]⟩,
  ⟨.none, none, (.fields #[]), #[]⟩,
  ⟨(.type "tuple"), none, (.seq #[(.str (Str.ofString "self") 1251), (.str (Str.ofString "other") 1252)] 0), #[]⟩,
  ⟨(.type "tuple"), none, (.seq #[] 0), #[]⟩]
noncomputable def Sy5 (P : Params) : List Obj := [⟨.none, none, (.func (fD (mAt 7 11) (Str.ofString "mappingproxy.__eq__") 0 [] .none .none .none .none none .none .none 0)), #[]⟩,
  B35 P,
  ⟨(.type "function"), none, (.func (fD (mAt 7 11) (Str.ofString "mappingproxy.__eq__") 3 [] .none .none .none (.str (Str.ofString "enum") 1156) none (.ref 151) .none 0)), #[]⟩,
  ⟨(.type "tuple"), none, (.seq #[] 0), #[]⟩,
  ⟨.none, none, (.fields #[]), #[]⟩,
  ⟨(.type "tuple"), none, (.seq #[(.str (Str.ofString "self") 1259), (.str (Str.ofString "other") 1260)] 0), #[]⟩,
  ⟨(.type "tuple"), none, (.seq #[] 0), #[]⟩,
  ⟨.none, none, (.func (fD (mAt 7 12) (Str.ofString "mappingproxy.__ne__") 0 [] .none .none .none .none none .none .none 0)), #[]⟩,
  B36 P,
  ⟨(.type "function"), none, (.func (fD (mAt 7 12) (Str.ofString "mappingproxy.__ne__") 3 [] .none .none .none (.str (Str.ofString "enum") 1156) none (.ref 158) .none 0)), #[]⟩,
  ⟨(.type "tuple"), none, (.seq #[] 0), #[]⟩,
  ⟨.none, none, (.fields #[]), #[]⟩,
  ⟨(.type "tuple"), none, (.seq #[(.str (Str.ofString "self") 1267), (.str (Str.ofString "other") 1268)] 0), #[]⟩,
  ⟨(.type "tuple"), none, (.seq #[] 0), #[]⟩,
  ⟨.none, none, (.func (fD (mAt 7 13) (Str.ofString "mappingproxy.__lt__") 0 [] .none .none .none .none none .none .none 0)), #[]⟩,
  B37 P,
  ⟨(.type "function"), none, (.func (fD (mAt 7 13) (Str.ofString "mappingproxy.__lt__") 3 [] .none .none .none (.str (Str.ofString "enum") 1156) none (.ref 165) .none 0)), #[]⟩,
  ⟨(.type "tuple"), none, (.seq #[] 0), #[]⟩,
  ⟨.none, none, (.fields #[]), #[]⟩,
  ⟨(.type "tuple"), none, (.seq #[(.str (Str.ofString "self") 1275), (.str (Str.ofString "other") 1276)] 0), #[]⟩,
  ⟨(.type "tuple"), none, (.seq #[] 0), #[]⟩,
  ⟨.none, none, (.func (fD (mAt 7 14) (Str.ofString "mappingproxy.__le__") 0 [] .none .none .none .none none .none .none 0)), #[]⟩,
  B38 P,
  ⟨(.type "function"), none, (.func (fD (mAt 7 14) (Str.ofString "mappingproxy.__le__") 3 [] .none .none .none (.str (Str.ofString "enum") 1156) none (.ref 172) .none 0)), #[]⟩,
  ⟨(.type "tuple"), none, (.seq #[] 0), #[]⟩,
  ⟨.none, none, (.fields #[]), #[]⟩,
  ⟨(.type "tuple"), none, (.seq #[(.str (Str.ofString "self") 1283), (.str (Str.ofString "other") 1284)] 0), #[]⟩,
  ⟨(.type "tuple"), none, (.seq #[] 0), #[]⟩,
  ⟨.none, none, (.func (fD (mAt 7 15) (Str.ofString "mappingproxy.__gt__") 0 [] .none .none .none .none none .none .none 0)), #[]⟩,
  B39 P]
noncomputable def Sy6 (P : Params) : List Obj := [⟨(.type "function"), none, (.func (fD (mAt 7 15) (Str.ofString "mappingproxy.__gt__") 3 [] .none .none .none (.str (Str.ofString "enum") 1156) none (.ref 179) .none 0)), #[]⟩,
  ⟨(.type "tuple"), none, (.seq #[] 0), #[]⟩,
  ⟨.none, none, (.fields #[]), #[]⟩,
  ⟨(.type "tuple"), none, (.seq #[(.str (Str.ofString "self") 1291), (.str (Str.ofString "other") 1292)] 0), #[]⟩,
  ⟨(.type "tuple"), none, (.seq #[] 0), #[]⟩,
  ⟨.none, none, (.func (fD (mAt 7 16) (Str.ofString "mappingproxy.__ge__") 0 [] .none .none .none .none none .none .none 0)), #[]⟩,
  B40 P,
  ⟨(.type "function"), none, (.func (fD (mAt 7 16) (Str.ofString "mappingproxy.__ge__") 3 [] .none .none .none (.str (Str.ofString "enum") 1156) none (.ref 186) .none 0)), #[]⟩,
  ⟨(.type "tuple"), none, (.seq #[] 0), #[]⟩,
  ⟨.none, none, (.fields #[]), #[]⟩,
  ⟨(.type "tuple"), none, (.seq #[(.str (Str.ofString "self") 1299)] 0), #[]⟩,
  ⟨(.type "tuple"), none, (.seq #[] 0), #[]⟩,
  ⟨.none, none, (.func (fD (mAt 7 17) (Str.ofString "mappingproxy.__hash__") 0 [] .none .none .none .none none .none .none 0)), #[]⟩,
  B41 P,
  ⟨(.type "function"), none, (.func (fD (mAt 7 17) (Str.ofString "mappingproxy.__hash__") 3 [] .none .none .none (.str (Str.ofString "enum") 1156) none (.ref 193) .none 0)), #[]⟩,
  ⟨(.type "tuple"), none, (.seq #[] 0), #[]⟩,
  ⟨.none, none, (.fields #[]), #[]⟩,
  ⟨(.type "tuple"), none, (.seq #[(.str (Str.ofString "self") 1306), (.str (Str.ofString "other") 1307)] 0), #[]⟩,
  ⟨(.type "tuple"), none, (.seq #[] 0), #[]⟩,
  ⟨.none, none, (.func (fD (mAt 7 18) (Str.ofString "mappingproxy.__or__") 0 [] .none .none .none .none none .none .none 0)), #[]⟩,
  B42 P,
  ⟨(.type "function"), none, (.func (fD (mAt 7 18) (Str.ofString "mappingproxy.__or__") 3 [] .none .none .none (.str (Str.ofString "enum") 1156) none (.ref 200) .none 0)), #[]⟩,
  ⟨(.type "tuple"), none, (.seq #[] 0), #[]⟩,
  ⟨.none, none, (.fields #[]), #[]⟩,
  ⟨(.type "tuple"), none, (.seq #[(.str (Str.ofString "self") 1314), (.str (Str.ofString "other") 1315)] 0), #[]⟩,
  ⟨(.type "tuple"), none, (.seq #[] 0), #[]⟩,
  ⟨.none, none, (.func (fD (mAt 7 19) (Str.ofString "mappingproxy.__ror__") 0 [] .none .none .none .none none .none .none 0)), #[]⟩,
  B43 P,
  ⟨(.type "function"), none, (.func (fD (mAt 7 19) (Str.ofString "mappingproxy.__ror__") 3 [] .none .none .none (.str (Str.ofString "enum") 1156) none (.ref 207) .none 0)), #[]⟩,
  ⟨(.type "tuple"), none, (.seq #[] 0), #[]⟩]
noncomputable def Sy7 (P : Params) : List Obj := [⟨.none, none, (.fields #[]), #[]⟩,
  ⟨(.type "tuple"), none, (.seq #[(.str (Str.ofString "self") 1322), (.str (Str.ofString "other") 1323)] 0), #[]⟩,
  ⟨(.type "tuple"), none, (.seq #[] 0), #[]⟩,
  ⟨.none, none, (.func (fD (mAt 7 20) (Str.ofString "mappingproxy.__ior__") 0 [] .none .none .none .none none .none .none 0)), #[]⟩,
  B44 P,
  ⟨(.type "function"), none, (.func (fD (mAt 7 20) (Str.ofString "mappingproxy.__ior__") 3 [] .none .none .none (.str (Str.ofString "enum") 1156) none (.ref 214) .none 0)), #[]⟩,
  ⟨(.type "tuple"), none, (.seq #[.none] 0), #[]⟩,
  ⟨(.type "tuple"), none, (.seq #[] 0), #[]⟩,
  ⟨.none, none, (.fields #[]), #[]⟩,
  ⟨(.type "tuple"), none, (.seq #[(.str (Str.ofString "self") 1330), (.str (Str.ofString "key") 1331), (.str (Str.ofString "default") 1332)] 0), #[]⟩,
  ⟨(.type "tuple"), none, (.seq #[] 0), #[]⟩,
  ⟨.none, none, (.func (fD (mAt 7 21) (Str.ofString "mappingproxy.get") 0 [] .none .none .none .none none .none .none 0)), #[]⟩,
  B45 P,
  ⟨(.type "function"), none, (.func (fD (mAt 7 21) (Str.ofString "mappingproxy.get") 3 [] (.ref 216) .none .none (.str (Str.ofString "enum") 1156) none (.ref 222) .none 0)), #[]⟩,
  ⟨(.type "tuple"), none, (.seq #[] 0), #[]⟩,
  ⟨.none, none, (.fields #[]), #[]⟩,
  ⟨(.type "tuple"), none, (.seq #[(.str (Str.ofString "self") 1339)] 0), #[]⟩,
  ⟨(.type "tuple"), none, (.seq #[] 0), #[]⟩,
  ⟨.none, none, (.func (fD (mAt 7 22) (Str.ofString "mappingproxy.keys") 0 [] .none .none .none .none none .none .none 0)), #[]⟩,
  B46 P,
  ⟨(.type "function"), none, (.func (fD (mAt 7 22) (Str.ofString "mappingproxy.keys") 3 [] .none .none .none (.str (Str.ofString "enum") 1156) none (.ref 229) .none 0)), #[]⟩,
  ⟨(.type "tuple"), none, (.seq #[] 0), #[]⟩,
  ⟨.none, none, (.fields #[]), #[]⟩,
  ⟨(.type "tuple"), none, (.seq #[(.str (Str.ofString "self") 1346)] 0), #[]⟩,
  ⟨(.type "tuple"), none, (.seq #[] 0), #[]⟩,
  ⟨.none, none, (.func (fD (mAt 7 23) (Str.ofString "mappingproxy.values") 0 [] .none .none .none .none none .none .none 0)), #[]⟩,
  B47 P,
  ⟨(.type "function"), none, (.func (fD (mAt 7 23) (Str.ofString "mappingproxy.values") 3 [] .none .none .none (.str (Str.ofString "enum") 1156) none (.ref 236) .none 0)), #[]⟩,
  ⟨(.type "tuple"), none, (.seq #[] 0), #[]⟩,
  ⟨.none, none, (.fields #[]), #[]⟩]
noncomputable def Sy8 (P : Params) : List Obj := [⟨(.type "tuple"), none, (.seq #[(.str (Str.ofString "self") 1353)] 0), #[]⟩,
  ⟨(.type "tuple"), none, (.seq #[] 0), #[]⟩,
  ⟨.none, none, (.func (fD (mAt 7 24) (Str.ofString "mappingproxy.items") 0 [] .none .none .none .none none .none .none 0)), #[]⟩,
  B48 P,
  ⟨(.type "function"), none, (.func (fD (mAt 7 24) (Str.ofString "mappingproxy.items") 3 [] .none .none .none (.str (Str.ofString "enum") 1156) none (.ref 243) .none 0)), #[]⟩,
  ⟨(.type "tuple"), none, (.seq #[] 0), #[]⟩,
  ⟨.none, none, (.fields #[]), #[]⟩,
  ⟨(.type "tuple"), none, (.seq #[(.str (Str.ofString "self") 1360)] 0), #[]⟩,
  ⟨(.type "tuple"), none, (.seq #[] 0), #[]⟩,
  ⟨.none, none, (.func (fD (mAt 7 25) (Str.ofString "mappingproxy.copy") 0 [] .none .none .none .none none .none .none 0)), #[]⟩,
  B49 P,
  ⟨(.type "function"), none, (.func (fD (mAt 7 25) (Str.ofString "mappingproxy.copy") 3 [] .none .none .none (.str (Str.ofString "enum") 1156) none (.ref 250) .none 0)), #[]⟩,
  ⟨(.type "tuple"), none, (.seq #[(.str (Str.ofString "_mapping") 1364)] 0), #[]⟩,
  ⟨(.type "list"), none, (.seq #[(.str (Str.ofString "_mapping") 1178)] 1), #[]⟩,
  B50 P,
  B51 P,
  ⟨(.type "staticmethod"), none, (.fields #[(.ref 89)]), #[]⟩,
  ⟨(.type "member_descriptor"), none, (.fields #[(.str (Str.ofString "_mapping") 1367), (.ref 255), (.builtin "proto.slot"), (.builtin "proto.slot#set"), (.int (Int.ofNat 0) 0)]), #[]⟩,
  ⟨(.type "super"), none, (.fields #[(.ref 255), (.ref 255), (.ref 255)]), #[]⟩,
  ⟨(.type "builtin_function_or_method"), none, (.fields #[(.builtin "object.__init_subclass__"), (.ref 255)]), #[]⟩,
  ⟨(.type "tuple"), none, (.seq #[(.type "type")] 0), #[]⟩,
  ⟨(.type "builtin_function_or_method"), none, (.fields #[(.builtin "type.__prepare__"), (.type "type")]), #[]⟩,
  B52 P,
  ⟨(.type "cell"), none, (.cell (some (.ref 471))), #[]⟩,
  ⟨(.type "tuple"), none, (.seq #[] 0), #[]⟩,
  B53 P,
  B54 P,
  ⟨(.type "frame"), none, .plain, #[(some (.ref 266)), (some (.ref 3)), (some (.ref 262)), none, (some (.str (Str.ofString "enum") 1156)), none, (some (.ref 0))]⟩,
  ⟨(.type "tuple"), none, (.seq #[(.ref 263)] 0), #[]⟩,
  ⟨(.type "tuple"), none, (.seq #[(.str (Str.ofString "__class__") 1392)] 0), #[]⟩]
noncomputable def Sy9 (P : Params) : List Obj := [⟨.none, none, (.fields #[]), #[]⟩,
  B55 P,
  ⟨(.type "tuple"), none, (.seq #[] 0), #[]⟩,
  ⟨.none, none, (.func (fD (mAt 9 2) (Str.ofString "EnumType.__new__") 0 [] .none .none .none .none none .none .none 0)), #[]⟩,
  B56 P,
  ⟨(.type "function"), none, (.func (fD (mAt 9 2) (Str.ofString "EnumType.__new__") 3 [((Str.ofString "__class__"), 263)] .none .none .none (.str (Str.ofString "enum") 1156) none (.ref 274) (.ref 268) 0)), #[]⟩,
  ⟨(.type "tuple"), none, (.seq #[] 0), #[]⟩,
  ⟨.none, none, (.fields #[]), #[]⟩,
  ⟨(.type "tuple"), none, (.seq #[(.str (Str.ofString "cls") 1405), (.str (Str.ofString "own_init") 1406), (.str (Str.ofString "asks_new") 1407)] 0), #[]⟩,
  ⟨(.type "tuple"), none, (.seq #[] 0), #[]⟩,
  ⟨.none, none, (.func (fD (mAt 9 3) (Str.ofString "EnumType._planted_") 0 [] .none .none .none .none none .none .none 0)), #[]⟩,
  B57 P,
  ⟨(.type "function"), none, (.func (fD (mAt 9 3) (Str.ofString "EnumType._planted_") 3 [] .none .none .none (.str (Str.ofString "enum") 1156) none (.ref 281) .none 0)), #[]⟩,
  ⟨(.type "tuple"), none, (.seq #[] 0), #[]⟩,
  ⟨.none, none, (.fields #[]), #[]⟩,
  ⟨(.type "tuple"), none, (.seq #[(.str (Str.ofString "cls") 1414)] 0), #[]⟩,
  ⟨(.type "tuple"), none, (.seq #[] 0), #[]⟩,
  ⟨.none, none, (.func (fD (mAt 9 4) (Str.ofString "EnumType._planted_at_") 0 [] .none .none .none .none none .none .none 0)), #[]⟩,
  B58 P,
  ⟨(.type "function"), none, (.func (fD (mAt 9 4) (Str.ofString "EnumType._planted_at_") 3 [] .none .none .none (.str (Str.ofString "enum") 1156) none (.ref 288) .none 0)), #[]⟩,
  ⟨(.type "tuple"), none, (.seq #[] 0), #[]⟩,
  ⟨.none, none, (.fields #[]), #[]⟩,
  ⟨(.type "tuple"), none, (.seq #[(.str (Str.ofString "cls") 1421), (.str (Str.ofString "value") 1422), (.str (Str.ofString "name") 1423), (.str (Str.ofString "data") 1424)] 0), #[]⟩,
  ⟨(.type "tuple"), none, (.seq #[] 0), #[]⟩,
  ⟨.none, none, (.func (fD (mAt 9 5) (Str.ofString "EnumType._held_value_") 0 [] .none .none .none .none none .none .none 0)), #[]⟩,
  B59 P,
  ⟨(.type "function"), none, (.func (fD (mAt 9 5) (Str.ofString "EnumType._held_value_") 3 [] .none .none .none (.str (Str.ofString "enum") 1156) none (.ref 295) .none 0)), #[]⟩,
  ⟨(.type "tuple"), none, (.seq #[] 0), #[]⟩,
  ⟨.none, none, (.fields #[]), #[]⟩,
  ⟨(.type "tuple"), none, (.seq #[(.str (Str.ofString "cls") 1431), (.str (Str.ofString "value") 1432), (.str (Str.ofString "member") 1433), (.str (Str.ofString "name") 1434)] 0), #[]⟩]
noncomputable def Sy10 (P : Params) : List Obj := [⟨(.type "tuple"), none, (.seq #[] 0), #[]⟩,
  ⟨.none, none, (.func (fD (mAt 9 6) (Str.ofString "EnumType._canonical_") 0 [] .none .none .none .none none .none .none 0)), #[]⟩,
  B60 P,
  ⟨(.type "function"), none, (.func (fD (mAt 9 6) (Str.ofString "EnumType._canonical_") 3 [] .none .none .none (.str (Str.ofString "enum") 1156) none (.ref 302) .none 0)), #[]⟩,
  ⟨(.type "tuple"), none, (.seq #[] 0), #[]⟩,
  ⟨.none, none, (.fields #[]), #[]⟩,
  ⟨(.type "tuple"), none, (.seq #[(.str (Str.ofString "cls") 1441), (.str (Str.ofString "value") 1442), (.str (Str.ofString "member") 1443), (.str (Str.ofString "name") 1444)] 0), #[]⟩,
  ⟨(.type "tuple"), none, (.seq #[] 0), #[]⟩,
  ⟨.none, none, (.func (fD (mAt 9 7) (Str.ofString "EnumType._book_value_") 0 [] .none .none .none .none none .none .none 0)), #[]⟩,
  B61 P,
  ⟨(.type "function"), none, (.func (fD (mAt 9 7) (Str.ofString "EnumType._book_value_") 3 [] .none .none .none (.str (Str.ofString "enum") 1156) none (.ref 309) .none 0)), #[]⟩,
  ⟨(.type "tuple"), none, (.seq #[] 0), #[]⟩,
  ⟨.none, none, (.fields #[]), #[]⟩,
  ⟨(.type "tuple"), none, (.seq #[(.str (Str.ofString "cls") 1451), (.str (Str.ofString "mixins") 1452)] 0), #[]⟩,
  ⟨(.type "tuple"), none, (.seq #[] 0), #[]⟩,
  ⟨.none, none, (.func (fD (mAt 9 8) (Str.ofString "EnumType._mixed_") 0 [] .none .none .none .none none .none .none 0)), #[]⟩,
  B62 P,
  ⟨(.type "function"), none, (.func (fD (mAt 9 8) (Str.ofString "EnumType._mixed_") 3 [] .none .none .none (.str (Str.ofString "enum") 1156) none (.ref 316) .none 0)), #[]⟩,
  ⟨(.type "tuple"), none, (.seq #[] 0), #[]⟩,
  ⟨.none, none, (.fields #[]), #[]⟩,
  ⟨(.type "tuple"), none, (.seq #[(.str (Str.ofString "cls") 1459), (.str (Str.ofString "value") 1460), (.str (Str.ofString "maker") 1461)] 0), #[]⟩,
  ⟨(.type "tuple"), none, (.seq #[] 0), #[]⟩,
  ⟨.none, none, (.func (fD (mAt 9 9) (Str.ofString "EnumType._held_def_") 0 [] .none .none .none .none none .none .none 0)), #[]⟩,
  B63 P,
  ⟨(.type "function"), none, (.func (fD (mAt 9 9) (Str.ofString "EnumType._held_def_") 3 [] .none .none .none (.str (Str.ofString "enum") 1156) none (.ref 323) .none 0)), #[]⟩,
  ⟨(.type "tuple"), none, (.seq #[] 0), #[]⟩,
  ⟨.none, none, (.fields #[]), #[]⟩,
  ⟨(.type "tuple"), none, (.seq #[(.str (Str.ofString "cls") 1468)] 0), #[]⟩,
  ⟨(.type "tuple"), none, (.seq #[] 0), #[]⟩,
  ⟨.none, none, (.func (fD (mAt 9 10) (Str.ofString "EnumType._closed_") 0 [] .none .none .none .none none .none .none 0)), #[]⟩]
noncomputable def Sy11 (P : Params) : List Obj := [B64 P,
  ⟨(.type "function"), none, (.func (fD (mAt 9 10) (Str.ofString "EnumType._closed_") 3 [] .none .none .none (.str (Str.ofString "enum") 1156) none (.ref 330) .none 0)), #[]⟩,
  ⟨(.type "tuple"), none, (.seq #[] 0), #[]⟩,
  ⟨.none, none, (.fields #[]), #[]⟩,
  ⟨(.type "tuple"), none, (.seq #[(.str (Str.ofString "cls") 1475), (.str (Str.ofString "value") 1476), (.str (Str.ofString "data") 1477)] 0), #[]⟩,
  ⟨(.type "tuple"), none, (.seq #[] 0), #[]⟩,
  ⟨.none, none, (.func (fD (mAt 9 11) (Str.ofString "EnumType._held_auto_") 0 [] .none .none .none .none none .none .none 0)), #[]⟩,
  B65 P,
  ⟨(.type "function"), none, (.func (fD (mAt 9 11) (Str.ofString "EnumType._held_auto_") 3 [] .none .none .none (.str (Str.ofString "enum") 1156) none (.ref 337) .none 0)), #[]⟩,
  ⟨(.type "tuple"), none, (.seq #[] 0), #[]⟩,
  ⟨.none, none, (.fields #[]), #[]⟩,
  ⟨(.type "tuple"), none, (.seq #[(.str (Str.ofString "cls") 1484)] 0), #[]⟩,
  ⟨(.type "tuple"), none, (.seq #[] 0), #[]⟩,
  ⟨.none, none, (.func (fD (mAt 9 12) (Str.ofString "EnumType._unique_") 0 [] .none .none .none .none none .none .none 0)), #[]⟩,
  B66 P,
  ⟨(.type "function"), none, (.func (fD (mAt 9 12) (Str.ofString "EnumType._unique_") 3 [] .none .none .none (.str (Str.ofString "enum") 1156) none (.ref 344) .none 0)), #[]⟩,
  ⟨(.type "tuple"), none, (.seq #[] 0), #[]⟩,
  ⟨.none, none, (.fields #[]), #[]⟩,
  ⟨(.type "tuple"), none, (.seq #[(.str (Str.ofString "cls") 1491)] 0), #[]⟩,
  ⟨(.type "tuple"), none, (.seq #[] 0), #[]⟩,
  ⟨.none, none, (.func (fD (mAt 9 13) (Str.ofString "EnumType._close_") 0 [] .none .none .none .none none .none .none 0)), #[]⟩,
  B67 P,
  ⟨(.type "function"), none, (.func (fD (mAt 9 13) (Str.ofString "EnumType._close_") 3 [] .none .none .none (.str (Str.ofString "enum") 1156) none (.ref 351) .none 0)), #[]⟩,
  ⟨(.type "tuple"), none, (.seq #[] 0), #[]⟩,
  ⟨.none, none, (.fields #[]), #[]⟩,
  ⟨(.type "tuple"), none, (.seq #[(.str (Str.ofString "cls") 1498), (.str (Str.ofString "names") 1499)] 0), #[]⟩,
  ⟨(.type "tuple"), none, (.seq #[] 0), #[]⟩,
  ⟨.none, none, (.func (fD (mAt 9 14) (Str.ofString "EnumType._expect_") 0 [] .none .none .none .none none .none .none 0)), #[]⟩,
  B68 P,
  ⟨(.type "function"), none, (.func (fD (mAt 9 14) (Str.ofString "EnumType._expect_") 3 [] .none .none .none (.str (Str.ofString "enum") 1156) none (.ref 358) .none 0)), #[]⟩]
noncomputable def Sy12 (P : Params) : List Obj := [⟨(.type "tuple"), none, (.seq #[] 0), #[]⟩,
  ⟨.none, none, (.fields #[]), #[]⟩,
  ⟨(.type "tuple"), none, (.seq #[(.str (Str.ofString "cls") 1506), (.str (Str.ofString "data") 1507), (.str (Str.ofString "args") 1508)] 0), #[]⟩,
  ⟨(.type "tuple"), none, (.seq #[] 0), #[]⟩,
  ⟨.none, none, (.func (fD (mAt 9 15) (Str.ofString "EnumType._value_of_") 0 [] .none .none .none .none none .none .none 0)), #[]⟩,
  B69 P,
  ⟨(.type "function"), none, (.func (fD (mAt 9 15) (Str.ofString "EnumType._value_of_") 3 [] .none .none .none (.str (Str.ofString "enum") 1156) none (.ref 365) .none 0)), #[]⟩,
  ⟨(.type "tuple"), none, (.seq #[] 0), #[]⟩,
  ⟨.none, none, (.fields #[]), #[]⟩,
  ⟨(.type "tuple"), none, (.seq #[(.str (Str.ofString "cls") 1515), (.str (Str.ofString "value") 1516)] 0), #[]⟩,
  ⟨(.type "tuple"), none, (.seq #[] 0), #[]⟩,
  ⟨.none, none, (.func (fD (mAt 9 16) (Str.ofString "EnumType._args_of_") 0 [] .none .none .none .none none .none .none 0)), #[]⟩,
  B70 P,
  ⟨(.type "function"), none, (.func (fD (mAt 9 16) (Str.ofString "EnumType._args_of_") 3 [] .none .none .none (.str (Str.ofString "enum") 1156) none (.ref 372) .none 0)), #[]⟩,
  ⟨(.type "tuple"), none, (.seq #[] 0), #[]⟩,
  ⟨.none, none, (.fields #[]), #[]⟩,
  ⟨(.type "tuple"), none, (.seq #[(.str (Str.ofString "cls") 1523)] 0), #[]⟩,
  ⟨(.type "tuple"), none, (.seq #[] 0), #[]⟩,
  ⟨.none, none, (.func (fD (mAt 9 17) (Str.ofString "EnumType.__bool__") 0 [] .none .none .none .none none .none .none 0)), #[]⟩,
  B71 P,
  ⟨(.type "function"), none, (.func (fD (mAt 9 17) (Str.ofString "EnumType.__bool__") 3 [] .none .none .none (.str (Str.ofString "enum") 1156) none (.ref 379) .none 0)), #[]⟩,
  ⟨(.type "tuple"), none, (.seq #[] 0), #[]⟩,
  ⟨.none, none, (.fields #[]), #[]⟩,
  ⟨(.type "tuple"), none, (.seq #[(.str (Str.ofString "cls") 1530), (.str (Str.ofString "values") 1531), (.str (Str.ofString "kwds") 1532)] 0), #[]⟩,
  ⟨(.type "tuple"), none, (.seq #[] 0), #[]⟩,
  ⟨.none, none, (.func (fD (mAt 9 18) (Str.ofString "EnumType.__call__") 0 [] .none .none .none .none none .none .none 0)), #[]⟩,
  B72 P,
  ⟨(.type "function"), none, (.func (fD (mAt 9 18) (Str.ofString "EnumType.__call__") 3 [] .none .none .none (.str (Str.ofString "enum") 1156) none (.ref 386) .none 0)), #[]⟩,
  ⟨(.type "tuple"), none, (.seq #[] 0), #[]⟩,
  ⟨.none, none, (.fields #[]), #[]⟩]
noncomputable def Sy13 (P : Params) : List Obj := [⟨(.type "tuple"), none, (.seq #[(.str (Str.ofString "cls") 1539), (.str (Str.ofString "value") 1540), (.str (Str.ofString "result") 1541)] 0), #[]⟩,
  ⟨(.type "tuple"), none, (.seq #[] 0), #[]⟩,
  ⟨.none, none, (.func (fD (mAt 9 19) (Str.ofString "EnumType.__contains__") 0 [] .none .none .none .none none .none .none 0)), #[]⟩,
  B73 P,
  ⟨(.type "function"), none, (.func (fD (mAt 9 19) (Str.ofString "EnumType.__contains__") 3 [] .none .none .none (.str (Str.ofString "enum") 1156) none (.ref 393) .none 0)), #[]⟩,
  ⟨(.type "tuple"), none, (.seq #[] 0), #[]⟩,
  ⟨.none, none, (.fields #[]), #[]⟩,
  ⟨(.type "tuple"), none, (.seq #[(.str (Str.ofString "cls") 1548), (.str (Str.ofString "name") 1549)] 0), #[]⟩,
  ⟨(.type "tuple"), none, (.seq #[] 0), #[]⟩,
  ⟨.none, none, (.func (fD (mAt 9 20) (Str.ofString "EnumType.__getitem__") 0 [] .none .none .none .none none .none .none 0)), #[]⟩,
  B74 P,
  ⟨(.type "function"), none, (.func (fD (mAt 9 20) (Str.ofString "EnumType.__getitem__") 3 [] .none .none .none (.str (Str.ofString "enum") 1156) none (.ref 400) .none 0)), #[]⟩,
  ⟨(.type "tuple"), none, (.seq #[] 0), #[]⟩,
  ⟨.none, none, (.fields #[]), #[]⟩,
  ⟨(.type "tuple"), none, (.seq #[(.str (Str.ofString "cls") 1556)] 0), #[]⟩,
  ⟨(.type "tuple"), none, (.seq #[(.str (Str.ofString "cls") 1557)] 0), #[]⟩,
  ⟨.none, none, (.func (fD (mAt 9 21) (Str.ofString "EnumType.__iter__") 0 [] .none .none .none .none none .none .none 0)), #[]⟩,
  B75 P,
  ⟨(.type "function"), none, (.func (fD (mAt 9 21) (Str.ofString "EnumType.__iter__") 3 [] .none .none .none (.str (Str.ofString "enum") 1156) none (.ref 407) .none 0)), #[]⟩,
  ⟨(.type "tuple"), none, (.seq #[] 0), #[]⟩,
  ⟨.none, none, (.fields #[]), #[]⟩,
  ⟨(.type "tuple"), none, (.seq #[(.str (Str.ofString "cls") 1564)] 0), #[]⟩,
  ⟨(.type "tuple"), none, (.seq #[] 0), #[]⟩,
  ⟨.none, none, (.func (fD (mAt 9 22) (Str.ofString "EnumType.__len__") 0 [] .none .none .none .none none .none .none 0)), #[]⟩,
  B76 P,
  ⟨(.type "function"), none, (.func (fD (mAt 9 22) (Str.ofString "EnumType.__len__") 3 [] .none .none .none (.str (Str.ofString "enum") 1156) none (.ref 414) .none 0)), #[]⟩,
  ⟨(.type "tuple"), none, (.seq #[] 0), #[]⟩,
  ⟨.none, none, (.fields #[]), #[]⟩,
  ⟨(.type "tuple"), none, (.seq #[(.str (Str.ofString "cls") 1571)] 0), #[]⟩,
  ⟨(.type "tuple"), none, (.seq #[] 0), #[]⟩]
noncomputable def Sy14 (P : Params) : List Obj := [⟨.none, none, (.func (fD (mAt 9 23) (Str.ofString "EnumType.__members__") 0 [] .none .none .none .none none .none .none 0)), #[]⟩,
  B77 P,
  ⟨(.type "function"), none, (.func (fD (mAt 9 23) (Str.ofString "EnumType.__members__") 3 [] .none .none .none (.str (Str.ofString "enum") 1156) none (.ref 421) .none 0)), #[]⟩,
  ⟨(.type "property"), none, (.fields #[(.ref 422), .none, .none, .none, (.str (Str.ofString "__members__") 1575), (.bool false)]), #[]⟩,
  ⟨(.type "tuple"), none, (.seq #[] 0), #[]⟩,
  ⟨.none, none, (.fields #[]), #[]⟩,
  ⟨(.type "tuple"), none, (.seq #[(.str (Str.ofString "cls") 1579)] 0), #[]⟩,
  ⟨(.type "tuple"), none, (.seq #[] 0), #[]⟩,
  ⟨.none, none, (.func (fD (mAt 9 24) (Str.ofString "EnumType.__repr__") 0 [] .none .none .none .none none .none .none 0)), #[]⟩,
  B78 P,
  ⟨(.type "function"), none, (.func (fD (mAt 9 24) (Str.ofString "EnumType.__repr__") 3 [] .none .none .none (.str (Str.ofString "enum") 1156) none (.ref 429) .none 0)), #[]⟩,
  ⟨(.type "tuple"), none, (.seq #[] 0), #[]⟩,
  ⟨.none, none, (.fields #[]), #[]⟩,
  ⟨(.type "tuple"), none, (.seq #[(.str (Str.ofString "cls") 1586)] 0), #[]⟩,
  ⟨(.type "tuple"), none, (.seq #[(.str (Str.ofString "cls") 1587)] 0), #[]⟩,
  ⟨.none, none, (.func (fD (mAt 9 25) (Str.ofString "EnumType.__reversed__") 0 [] .none .none .none .none none .none .none 0)), #[]⟩,
  B79 P,
  ⟨(.type "function"), none, (.func (fD (mAt 9 25) (Str.ofString "EnumType.__reversed__") 3 [] .none .none .none (.str (Str.ofString "enum") 1156) none (.ref 436) .none 0)), #[]⟩,
  ⟨(.type "tuple"), none, (.seq #[(.ref 263)] 0), #[]⟩,
  ⟨(.type "tuple"), none, (.seq #[(.str (Str.ofString "__class__") 1594)] 0), #[]⟩,
  ⟨.none, none, (.fields #[]), #[]⟩,
  ⟨(.type "tuple"), none, (.seq #[(.str (Str.ofString "cls") 1595), (.str (Str.ofString "name") 1596), (.str (Str.ofString "value") 1597)] 0), #[]⟩,
  ⟨(.type "tuple"), none, (.seq #[] 0), #[]⟩,
  ⟨.none, none, (.func (fD (mAt 9 26) (Str.ofString "EnumType.__setattr__") 0 [] .none .none .none .none none .none .none 0)), #[]⟩,
  B80 P,
  ⟨(.type "function"), none, (.func (fD (mAt 9 26) (Str.ofString "EnumType.__setattr__") 3 [((Str.ofString "__class__"), 263)] .none .none .none (.str (Str.ofString "enum") 1156) none (.ref 444) (.ref 438) 0)), #[]⟩,
  ⟨(.type "tuple"), none, (.seq #[(.ref 263)] 0), #[]⟩,
  ⟨(.type "tuple"), none, (.seq #[(.str (Str.ofString "__class__") 1604)] 0), #[]⟩,
  ⟨.none, none, (.fields #[]), #[]⟩,
  ⟨(.type "tuple"), none, (.seq #[(.str (Str.ofString "cls") 1605), (.str (Str.ofString "attr") 1606)] 0), #[]⟩]
noncomputable def Sy15 (P : Params) : List Obj := [⟨(.type "tuple"), none, (.seq #[] 0), #[]⟩,
  ⟨.none, none, (.func (fD (mAt 9 27) (Str.ofString "EnumType.__delattr__") 0 [] .none .none .none .none none .none .none 0)), #[]⟩,
  B81 P,
  ⟨(.type "function"), none, (.func (fD (mAt 9 27) (Str.ofString "EnumType.__delattr__") 3 [((Str.ofString "__class__"), 263)] .none .none .none (.str (Str.ofString "enum") 1156) none (.ref 452) (.ref 446) 0)), #[]⟩,
  ⟨(.type "tuple"), none, (.seq #[(.ref 263)] 0), #[]⟩,
  ⟨(.type "tuple"), none, (.seq #[(.str (Str.ofString "__class__") 1613)] 0), #[]⟩,
  ⟨.none, none, (.fields #[]), #[]⟩,
  ⟨(.type "tuple"), none, (.seq #[(.str (Str.ofString "cls") 1614), (.str (Str.ofString "name") 1615), (.str (Str.ofString "value") 1616)] 0), #[]⟩,
  ⟨(.type "tuple"), none, (.seq #[] 0), #[]⟩,
  ⟨.none, none, (.func (fD (mAt 9 28) (Str.ofString "EnumType._store_") 0 [] .none .none .none .none none .none .none 0)), #[]⟩,
  B82 P,
  ⟨(.type "function"), none, (.func (fD (mAt 9 28) (Str.ofString "EnumType._store_") 3 [((Str.ofString "__class__"), 263)] .none .none .none (.str (Str.ofString "enum") 1156) none (.ref 460) (.ref 454) 0)), #[]⟩,
  ⟨(.type "tuple"), none, (.seq #[] 0), #[]⟩,
  ⟨.none, none, (.fields #[]), #[]⟩,
  ⟨(.type "tuple"), none, (.seq #[(.str (Str.ofString "cls") 1623)] 0), #[]⟩,
  ⟨(.type "tuple"), none, (.seq #[] 0), #[]⟩,
  ⟨.none, none, (.func (fD (mAt 9 29) (Str.ofString "EnumType.__dir__") 0 [] .none .none .none .none none .none .none 0)), #[]⟩,
  B83 P,
  ⟨(.type "function"), none, (.func (fD (mAt 9 29) (Str.ofString "EnumType.__dir__") 3 [] .none .none .none (.str (Str.ofString "enum") 1156) none (.ref 467) .none 0)), #[]⟩,
  ⟨(.type "tuple"), none, (.seq #[] 0), #[]⟩,
  B84 P,
  B85 P,
  ⟨(.type "staticmethod"), none, (.fields #[(.ref 275)]), #[]⟩,
  ⟨(.type "super"), none, (.fields #[(.ref 471), (.ref 471), (.ref 471)]), #[]⟩,
  ⟨(.type "builtin_function_or_method"), none, (.fields #[(.builtin "object.__init_subclass__"), (.ref 471)]), #[]⟩,
  ⟨(.type "tuple"), none, (.seq #[] 0), #[]⟩,
  ⟨(.type "builtin_function_or_method"), none, (.fields #[(.builtin "type.__prepare__"), (.type "type")]), #[]⟩,
  B86 P,
  ⟨(.type "tuple"), none, (.seq #[] 0), #[]⟩,
  B87 P]
noncomputable def Sy16 (P : Params) : List Obj := [B88 P,
  ⟨(.type "frame"), none, .plain, #[(some (.ref 480)), (some (.ref 3)), (some (.ref 477)), none, (some (.str (Str.ofString "enum") 1156)), none, (some (.ref 0))]⟩,
  ⟨(.type "tuple"), none, (.seq #[] 0), #[]⟩,
  ⟨.none, none, (.fields #[]), #[]⟩,
  ⟨(.type "tuple"), none, (.seq #[(.str (Str.ofString "self") 1648), (.str (Str.ofString "name") 1649)] 0), #[]⟩,
  ⟨(.type "tuple"), none, (.seq #[] 0), #[]⟩,
  ⟨.none, none, (.func (fD (mAt 10 0) (Str.ofString "_EnumField.__init__") 0 [] .none .none .none .none none .none .none 0)), #[]⟩,
  B89 P,
  ⟨(.type "function"), none, (.func (fD (mAt 10 0) (Str.ofString "_EnumField.__init__") 3 [] .none .none .none (.str (Str.ofString "enum") 1156) none (.ref 487) .none 0)), #[]⟩,
  ⟨(.type "tuple"), none, (.seq #[.none] 0), #[]⟩,
  ⟨(.type "tuple"), none, (.seq #[] 0), #[]⟩,
  ⟨.none, none, (.fields #[]), #[]⟩,
  ⟨(.type "tuple"), none, (.seq #[(.str (Str.ofString "self") 1656), (.str (Str.ofString "instance") 1657), (.str (Str.ofString "ownerclass") 1658)] 0), #[]⟩,
  ⟨(.type "tuple"), none, (.seq #[] 0), #[]⟩,
  ⟨.none, none, (.func (fD (mAt 10 1) (Str.ofString "_EnumField.__get__") 0 [] .none .none .none .none none .none .none 0)), #[]⟩,
  B90 P,
  ⟨(.type "function"), none, (.func (fD (mAt 10 1) (Str.ofString "_EnumField.__get__") 3 [] (.ref 489) .none .none (.str (Str.ofString "enum") 1156) none (.ref 495) .none 0)), #[]⟩,
  ⟨(.type "tuple"), none, (.seq #[] 0), #[]⟩,
  ⟨.none, none, (.fields #[]), #[]⟩,
  ⟨(.type "tuple"), none, (.seq #[(.str (Str.ofString "self") 1665), (.str (Str.ofString "instance") 1666), (.str (Str.ofString "value") 1667)] 0), #[]⟩,
  ⟨(.type "tuple"), none, (.seq #[] 0), #[]⟩,
  ⟨.none, none, (.func (fD (mAt 10 2) (Str.ofString "_EnumField.__set__") 0 [] .none .none .none .none none .none .none 0)), #[]⟩,
  B91 P,
  ⟨(.type "function"), none, (.func (fD (mAt 10 2) (Str.ofString "_EnumField.__set__") 3 [] .none .none .none (.str (Str.ofString "enum") 1156) none (.ref 502) .none 0)), #[]⟩,
  ⟨(.type "tuple"), none, (.seq #[] 0), #[]⟩,
  ⟨.none, none, (.fields #[]), #[]⟩,
  ⟨(.type "tuple"), none, (.seq #[(.str (Str.ofString "self") 1674), (.str (Str.ofString "instance") 1675)] 0), #[]⟩,
  ⟨(.type "tuple"), none, (.seq #[] 0), #[]⟩,
  ⟨.none, none, (.func (fD (mAt 10 3) (Str.ofString "_EnumField.__delete__") 0 [] .none .none .none .none none .none .none 0)), #[]⟩,
  B92 P]
noncomputable def Sy17 (P : Params) : List Obj := [⟨(.type "function"), none, (.func (fD (mAt 10 3) (Str.ofString "_EnumField.__delete__") 3 [] .none .none .none (.str (Str.ofString "enum") 1156) none (.ref 509) .none 0)), #[]⟩,
  ⟨(.type "tuple"), none, (.seq #[(.str (Str.ofString "name") 1679)] 0), #[]⟩,
  B93 P,
  B94 P,
  ⟨(.type "getset_descriptor"), none, (.fields #[(.str (Str.ofString "__dict__") 1681), (.ref 513), (.builtin "function.__dict__"), (.builtin "function.__dict__#set")]), #[]⟩,
  ⟨(.type "getset_descriptor"), none, (.fields #[(.str (Str.ofString "__weakref__") 1683), (.ref 513), (.builtin "ExceptionGroup.__weakref__"), .none]), #[]⟩,
  ⟨(.type "super"), none, (.fields #[(.ref 513), (.ref 513), (.ref 513)]), #[]⟩,
  ⟨(.type "builtin_function_or_method"), none, (.fields #[(.builtin "object.__init_subclass__"), (.ref 513)]), #[]⟩]
noncomputable def Ty (P : Params) : BT := treeOf (Sy0 P ++ Sy1 P ++ Sy2 P ++ Sy3 P ++ Sy4 P ++ Sy5 P ++ Sy6 P ++ Sy7 P ++ Sy8 P ++ Sy9 P ++ Sy10 P ++ Sy11 P ++ Sy12 P ++ Sy13 P ++ Sy14 P ++ Sy15 P ++ Sy16 P ++ Sy17 P)
noncomputable def Su0 (P : Params) : List Obj := [B0 P,
  B1 P,
  B2 P,
  ⟨(.type "dict"), none, (.dict #[(eK P (Str.ofString "__name__") 165 (.str (Str.ofString "json5.lib") 1875)), (eK P (Str.ofString "__doc__") 166 .none), (eK P (Str.ofString "__package__") 167 .none), (eK P (Str.ofString "__loader__") 168 (.builtin "__main__.__loader__#opaque")), (eK P (Str.ofString "__spec__") 169 .none), (eK P (Str.ofString "__annotations__") 170 (.ref 6)), (eK P (Str.ofString "__builtins__") 171 (.ref 4)), (eK P (Str.ofString "__file__") 173 (.str (Str.ofString "/claim/cut.py") 172)), (eK P (Str.ofString "__cached__") 174 .none), (eK P (Str.ofString "_sre") 275 (.ref 12)), (eK P (Str.ofString "isnan") 435 (.builtin "math.isnan")), (eK P (Str.ofString "category") 491 (.builtin "unicodedata.category")), (eK P (Str.ofString "_wall") 504 (.ref 68)), (eK P (Str.ofString "_reserved_word_re") 1155 (.ref 73)), (eK P (Str.ofString "_OWN_NAMES") 1163 (.ref 74)), (eK P (Str.ofString "mappingproxy") 1371 (.ref 255)), (eK P (Str.ofString "_MEMBERS_VIEW") 1372 (.ref 255)), (eK P (Str.ofString "EnumType") 1632 (.ref 471)), (eK P (Str.ofString "_EnumField") 1687 (.ref 513)), (eK P (Str.ofString "Enum") 1874 (.ref 637)), (eK P (Str.ofString "QuoteStyle") 1921 (.ref 660)), (eK P (Str.ofString "_lay_QuoteStyle") 1935 (.ref 673))] 22), #[]⟩,
  ⟨(.type "module"), (some 0), .plain, #[]⟩,
  ⟨(.type "module"), (some 3), .plain, #[]⟩,
  ⟨(.type "dict"), none, (.dict #[] 0), #[]⟩,
  ⟨(.type "tuple"), none, (.seq #[] 0), #[]⟩,
  ⟨.none, none, (.fields #[]), #[]⟩,
  B4 P,
  ⟨(.type "frame"), none, .plain, #[(some (.ref 9)), (some (.ref 3)), (some (.ref 3)), none, (some (.str (Str.ofString "__main__") 164)), none, (some (.ref 0))]⟩,
  B5 P,
  ⟨(.type "module"), (some 11), .plain, #[]⟩,
  B6 P,
  ⟨(.type "type"), none, (.cls ⟨(Str.ofString "BuiltinImporter"), [(.type "object")], [(.ref 14), (.type "object")], 13, (Str.ofString "BuiltinImporter"), true, [], [], false, none, false⟩), #[]⟩,
  ⟨(.type "tuple"), none, (.seq #[] 0), #[]⟩,
  ⟨(.type "getset_descriptor"), none, (.fields #[(.str (Str.ofString "__dict__") 201), (.ref 14), (.builtin "function.__dict__"), (.builtin "function.__dict__#set")]), #[]⟩,
  ⟨(.type "getset_descriptor"), none, (.fields #[(.str (Str.ofString "__weakref__") 203), (.ref 14), (.builtin "ExceptionGroup.__weakref__"), .none]), #[]⟩,
  B7 P,
  ⟨(.type "list"), none, (.seq #[] 0), #[]⟩,
  B8 P,
  B9 P,
  ⟨(.type "type"), none, (.cls ⟨(Str.ofString "ModuleSpec"), [(.type "object")], [(.ref 22), (.type "object")], 21, (Str.ofString "ModuleSpec"), true, [], [], false, none, false⟩), #[]⟩,
  B10 P,
  ⟨(.type "getset_descriptor"), none, (.fields #[(.str (Str.ofString "__dict__") 237), (.ref 22), (.builtin "function.__dict__"), (.builtin "function.__dict__#set")]), #[]⟩,
  ⟨(.type "getset_descriptor"), none, (.fields #[(.str (Str.ofString "__weakref__") 239), (.ref 22), (.builtin "ExceptionGroup.__weakref__"), .none]), #[]⟩,
  ⟨(.ref 22), (some 20), .plain, #[]⟩,
  B11 P,
  ⟨(.type "tuple"), none, (.seq #[(.str (Str.ofString "isnan") 277)] 0), #[]⟩,
  B12 P]
noncomputable def Su1 (P : Params) : List Obj := [⟨(.type "module"), (some 29), .plain, #[]⟩,
  B13 P,
  B14 P,
  ⟨(.type "type"), none, (.cls ⟨(Str.ofString "_LoaderBasics"), [(.type "object")], [(.ref 33), (.type "object")], 32, (Str.ofString "_LoaderBasics"), true, [], [(.ref 43)], false, none, false⟩), #[]⟩,
  ⟨(.type "tuple"), none, (.seq #[] 0), #[]⟩,
  ⟨(.type "getset_descriptor"), none, (.fields #[(.str (Str.ofString "__dict__") 296), (.ref 33), (.builtin "function.__dict__"), (.builtin "function.__dict__#set")]), #[]⟩,
  ⟨(.type "getset_descriptor"), none, (.fields #[(.str (Str.ofString "__weakref__") 298), (.ref 33), (.builtin "ExceptionGroup.__weakref__"), .none]), #[]⟩,
  B15 P,
  ⟨(.type "type"), none, (.cls ⟨(Str.ofString "FileLoader"), [(.type "object")], [(.ref 38), (.type "object")], 37, (Str.ofString "FileLoader"), true, [], [(.ref 43)], false, none, false⟩), #[]⟩,
  ⟨(.type "tuple"), none, (.seq #[(.str (Str.ofString "name") 304), (.str (Str.ofString "path") 305)] 0), #[]⟩,
  ⟨(.type "getset_descriptor"), none, (.fields #[(.str (Str.ofString "__dict__") 317), (.ref 38), (.builtin "function.__dict__"), (.builtin "function.__dict__#set")]), #[]⟩,
  ⟨(.type "getset_descriptor"), none, (.fields #[(.str (Str.ofString "__weakref__") 319), (.ref 38), (.builtin "ExceptionGroup.__weakref__"), .none]), #[]⟩,
  B16 P,
  ⟨(.type "type"), none, (.cls ⟨(Str.ofString "ExtensionFileLoader"), [(.ref 38), (.ref 33)], [(.ref 43), (.ref 38), (.ref 33), (.type "object")], 42, (Str.ofString "ExtensionFileLoader"), true, [], [], false, none, false⟩), #[]⟩,
  ⟨(.type "tuple"), none, (.seq #[(.str (Str.ofString "name") 325), (.str (Str.ofString "path") 326)] 0), #[]⟩,
  ⟨(.ref 43), (some 31), .plain, #[]⟩,
  ⟨(.type "list"), none, (.seq #[] 0), #[]⟩,
  B17 P,
  ⟨(.ref 22), (some 47), .plain, #[]⟩,
  ⟨(.type "tuple"), none, (.seq #[(.str (Str.ofString "category") 437)] 0), #[]⟩,
  B18 P,
  ⟨(.type "module"), (some 50), .plain, #[]⟩,
  B19 P,
  ⟨(.ref 43), (some 52), .plain, #[]⟩,
  ⟨(.type "list"), none, (.seq #[] 0), #[]⟩,
  B20 P,
  ⟨(.ref 22), (some 55), .plain, #[]⟩,
  ⟨(.type "unicodedata.UCD"), none, (.fields #[]), #[]⟩,
  ⟨(.type "tuple"), none, (.seq #[] 0), #[]⟩,
  ⟨.none, none, (.fields #[(.int (Int.ofNat 4) 0), (.int (Int.ofNat 0) 0), (.ref 67), (.int (Int.ofNat 10) 0), (.int (Int.ofNat 0) 0), (.ref 80), (.int (Int.ofNat 92) 0), (.int (Int.ofNat 0) 0), (.ref 266), (.int (Int.ofNat 222) 0), (.int (Int.ofNat 0) 0), (.ref 480), (.int (Int.ofNat 239) 0), (.int (Int.ofNat 0) 0), (.ref 523), (.int (Int.ofNat 333) 0), (.int (Int.ofNat 0) 0), (.ref 652), (.int (Int.ofNat 337) 0), (.int (Int.ofNat 0) 0), (.ref 672)]), #[]⟩]
noncomputable def Su17 (P : Params) : List Obj := [⟨(.type "function"), none, (.func (fD (mAt 10 3) (Str.ofString "_EnumField.__delete__") 3 [] .none .none .none (.str (Str.ofString "enum") 1156) none (.ref 509) .none 0)), #[]⟩,
  ⟨(.type "tuple"), none, (.seq #[(.str (Str.ofString "name") 1679)] 0), #[]⟩,
  B93 P,
  B94 P,
  ⟨(.type "getset_descriptor"), none, (.fields #[(.str (Str.ofString "__dict__") 1681), (.ref 513), (.builtin "function.__dict__"), (.builtin "function.__dict__#set")]), #[]⟩,
  ⟨(.type "getset_descriptor"), none, (.fields #[(.str (Str.ofString "__weakref__") 1683), (.ref 513), (.builtin "ExceptionGroup.__weakref__"), .none]), #[]⟩,
  ⟨(.type "super"), none, (.fields #[(.ref 513), (.ref 513), (.ref 513)]), #[]⟩,
  ⟨(.type "builtin_function_or_method"), none, (.fields #[(.builtin "object.__init_subclass__"), (.ref 513)]), #[]⟩,
  ⟨(.type "tuple"), none, (.seq #[] 0), #[]⟩,
  ⟨(.type "builtin_function_or_method"), none, (.fields #[(.builtin "type.__prepare__"), (.ref 471)]), #[]⟩,
  ⟨(.type "dict"), none, (.dict #[(eK P (Str.ofString "__module__") 1695 (.str (Str.ofString "enum") 1700)), (eK P (Str.ofString "__qualname__") 1697 (.str (Str.ofString "Enum") 1696)), (eK P (Str.ofString "__firstlineno__") 1699 (.int (Int.ofNat 239) 1698)), (eK P (Str.ofString "_written_out_") 1703 (.int (Int.ofNat 4) 1702)), (eK P (Str.ofString "_member_names_") 1704 (.ref 525)), (eK P (Str.ofString "_member_map_") 1705 (.ref 526)), (eK P (Str.ofString "_value2member_map_") 1706 (.ref 527)), (eK P (Str.ofString "_hashable_values_") 1707 (.ref 528)), (eK P (Str.ofString "_unhashable_values_") 1708 (.ref 529)), (eK P (Str.ofString "_unhashable_values_map_") 1709 (.ref 530)), (eK P (Str.ofString "_members_") 1710 (.ref 531)), (eK P (Str.ofString "_value_repr_") 1711 .none), (eK P (Str.ofString "_is_flag_") 1712 (.bool false)), (eK P (Str.ofString "_making_") 1713 (.bool false)), (eK P (Str.ofString "__new__") 1728 (.ref 538)), (eK P (Str.ofString "_missing_") 1748 (.ref 547)), (eK P (Str.ofString "__init__") 1757 (.ref 555)), (eK P (Str.ofString "__repr__") 1765 (.ref 562)), (eK P (Str.ofString "__str__") 1772 (.ref 569)), (eK P (Str.ofString "__format__") 1780 (.ref 576)), (eK P (Str.ofString "__hash__") 1787 (.ref 583)), (eK P (Str.ofString "__reduce_ex__") 1795 (.ref 590)), (eK P (Str.ofString "__deepcopy__") 1803 (.ref 597)), (eK P (Str.ofString "__copy__") 1810 (.ref 604)), (eK P (Str.ofString "__dir__") 1817 (.ref 611)), (eK P (Str.ofString "_add_alias_") 1825 (.ref 618)), (eK P (Str.ofString "_add_value_alias_") 1833 (.ref 625)), (eK P (Str.ofString "name") 1839 (.ref 627)), (eK P (Str.ofString "value") 1845 (.ref 630)), (eK P (Str.ofString "__static_attributes__") 1846 (.ref 632))] 30), #[]⟩,
  ⟨(.type "tuple"), none, (.seq #[] 0), #[]⟩,
  ⟨.none, none, (.fields #[(.int (Int.ofNat 253) 0), (.int (Int.ofNat 4) 0), (.ref 537), (.int (Int.ofNat 294) 0), (.int (Int.ofNat 4) 0), (.ref 544), (.int (Int.ofNat 297) 0), (.int (Int.ofNat 4) 0), (.ref 554), (.int (Int.ofNat 300) 0), (.int (Int.ofNat 4) 0), (.ref 561), (.int (Int.ofNat 304) 0), (.int (Int.ofNat 4) 0), (.ref 568), (.int (Int.ofNat 307) 0), (.int (Int.ofNat 4) 0), (.ref 575), (.int (Int.ofNat 310) 0), (.int (Int.ofNat 4) 0), (.ref 582), (.int (Int.ofNat 313) 0), (.int (Int.ofNat 4) 0), (.ref 589), (.int (Int.ofNat 316) 0), (.int (Int.ofNat 4) 0), (.ref 596), (.int (Int.ofNat 319) 0), (.int (Int.ofNat 4) 0), (.ref 603), (.int (Int.ofNat 322) 0), (.int (Int.ofNat 4) 0), (.ref 610), (.int (Int.ofNat 325) 0), (.int (Int.ofNat 4) 0), (.ref 617), (.int (Int.ofNat 328) 0), (.int (Int.ofNat 4) 0), (.ref 624)]), #[]⟩,
  ⟨(.type "code"), none, (.fields #[(.str (Str.ofString "Enum") 1690), (.str (Str.ofString "Enum") 1691), (.str (Str.ofString "/claim/cut.py") 1692), (.int (Int.ofNat 239) 0), (.int (Int.ofNat 0) 0), (.int (Int.ofNat 0) 0), (.int (Int.ofNat 0) 0), (.int (Int.ofNat 0) 0), (.ref 521), (.bool false), (.int (Int.ofNat 492) 0), (.ref 522), .none, .none, .none, .none, (.int (Int.ofNat 1693) 0), (.int (Int.ofNat 239) 0), (.str (Str.ofString "/claim/cut.py") 1694)]), #[]⟩,
  ⟨(.type "frame"), none, .plain, #[(some (.ref 523)), (some (.ref 3)), (some (.ref 520)), none, (some (.str (Str.ofString "enum") 1156)), none, (some (.ref 0))]⟩,
  ⟨(.type "list"), none, (.seq #[] 0), #[]⟩,
  ⟨(.type "dict"), none, (.dict #[] 0), #[]⟩,
  ⟨(.type "dict"), none, (.dict #[] 0), #[]⟩,
  ⟨(.type "list"), none, (.seq #[] 0), #[]⟩,
  ⟨(.type "list"), none, (.seq #[] 0), #[]⟩,
  ⟨(.type "dict"), none, (.dict #[] 0), #[]⟩,
  ⟨(.type "tuple"), none, (.seq #[] 0), #[]⟩,
  ⟨(.type "tuple"), none, (.seq #[] 0), #[]⟩,
  ⟨.none, none, (.fields #[]), #[]⟩,
  ⟨(.type "tuple"), none, (.seq #[(.str (Str.ofString "cls") 1717), (.str (Str.ofString "value") 1718), (.str (Str.ofString "name") 1719), (.str (Str.ofString "unhashable_values") 1720), (.str (Str.ofString "member") 1721), (.str (Str.ofString "exc") 1722), (.str (Str.ofString "result") 1723), (.str (Str.ofString "e") 1724), (.str (Str.ofString "ve_exc") 1725)] 0), #[]⟩,
  ⟨(.type "tuple"), none, (.seq #[] 0), #[]⟩,
  ⟨.none, none, (.func (fD (mAt 11 12) (Str.ofString "Enum.__new__") 0 [] .none .none .none .none none .none .none 0)), #[]⟩,
  ⟨(.type "code"), none, (.fields #[(.str (Str.ofString "__new__") 1714), (.str (Str.ofString "Enum.__new__") 1715), (.str (Str.ofString "/claim/cut.py") 1716), (.int (Int.ofNat 253) 0), (.int (Int.ofNat 2) 0), (.int (Int.ofNat 0) 0), (.int (Int.ofNat 0) 0), (.int (Int.ofNat 3) 0), (.ref 532), (.bool true), (.int (Int.ofNat 492) 0), (.ref 533), .none, (.ref 534), (.ref 535), (.ref 536), (.int (Int.ofNat 1726) 0), (.int (Int.ofNat 253) 0), (.str (Str.ofString "/claim/cut.py") 1727)]), #[]⟩,
  ⟨(.type "function"), none, (.func (fD (mAt 11 12) (Str.ofString "Enum.__new__") 3 [] .none .none .none (.str (Str.ofString "enum") 1156) none (.ref 537) .none 0)), #[]⟩,
  ⟨(.type "tuple"), none, (.seq #[] 0), #[]⟩]
noncomputable def Su18 (P : Params) : List Obj := [⟨.none, none, (.fields #[]), #[]⟩,
  ⟨(.type "tuple"), none, (.seq #[(.str (Str.ofString "cls") 1732), (.str (Str.ofString "value") 1733)] 0), #[]⟩,
  ⟨(.type "tuple"), none, (.seq #[] 0), #[]⟩,
  ⟨.none, none, (.func (fD (mAt 11 13) (Str.ofString "Enum._missing_") 0 [] .none .none .none .none none .none .none 0)), #[]⟩,
  ⟨(.type "code"), none, (.fields #[(.str (Str.ofString "_missing_") 1729), (.str (Str.ofString "Enum._missing_") 1730), (.str (Str.ofString "/claim/cut.py") 1731), (.int (Int.ofNat 293) 0), (.int (Int.ofNat 2) 0), (.int (Int.ofNat 0) 0), (.int (Int.ofNat 0) 0), (.int (Int.ofNat 3) 0), (.ref 539), (.bool true), (.int (Int.ofNat 492) 0), (.ref 540), .none, (.ref 541), (.ref 542), (.ref 543), (.int (Int.ofNat 1734) 0), (.int (Int.ofNat 293) 0), (.str (Str.ofString "/claim/cut.py") 1735)]), #[]⟩,
  ⟨(.type "function"), none, (.func (fD (mAt 11 13) (Str.ofString "Enum._missing_") 3 [] .none .none .none (.str (Str.ofString "enum") 1156) (some 548) (.ref 544) .none 0)), #[]⟩,
  ⟨(.type "dict"), none, (.dict #[(eK P (Str.ofString "__module__") 1737 (.str (Str.ofString "enum") 1156)), (eK P (Str.ofString "__name__") 1740 (.str (Str.ofString "_missing_") 1739)), (eK P (Str.ofString "__qualname__") 1743 (.str (Str.ofString "Enum._missing_") 1742)), (eK P (Str.ofString "__doc__") 1745 .none), (eK P (Str.ofString "__annotations__") 1747 (.ref 548))] 5), #[]⟩,
  ⟨(.type "classmethod"), (some 546), (.fields #[(.ref 545), (.bool false)]), #[]⟩,
  ⟨(.type "dict"), none, (.dict #[] 0), #[]⟩,
  ⟨(.type "tuple"), none, (.seq #[] 0), #[]⟩,
  ⟨.none, none, (.fields #[]), #[]⟩,
  ⟨(.type "tuple"), none, (.seq #[(.str (Str.ofString "self") 1752), (.str (Str.ofString "args") 1753), (.str (Str.ofString "kwds") 1754)] 0), #[]⟩,
  ⟨(.type "tuple"), none, (.seq #[] 0), #[]⟩,
  ⟨.none, none, (.func (fD (mAt 11 14) (Str.ofString "Enum.__init__") 0 [] .none .none .none .none none .none .none 0)), #[]⟩,
  ⟨(.type "code"), none, (.fields #[(.str (Str.ofString "__init__") 1749), (.str (Str.ofString "Enum.__init__") 1750), (.str (Str.ofString "/claim/cut.py") 1751), (.int (Int.ofNat 297) 0), (.int (Int.ofNat 1) 0), (.int (Int.ofNat 0) 0), (.int (Int.ofNat 0) 0), (.int (Int.ofNat 15) 0), (.ref 549), (.bool true), (.int (Int.ofNat 492) 0), (.ref 550), .none, (.ref 551), (.ref 552), (.ref 553), (.int (Int.ofNat 1755) 0), (.int (Int.ofNat 297) 0), (.str (Str.ofString "/claim/cut.py") 1756)]), #[]⟩,
  ⟨(.type "function"), none, (.func (fD (mAt 11 14) (Str.ofString "Enum.__init__") 3 [] .none .none .none (.str (Str.ofString "enum") 1156) none (.ref 554) .none 0)), #[]⟩,
  ⟨(.type "tuple"), none, (.seq #[] 0), #[]⟩,
  ⟨.none, none, (.fields #[]), #[]⟩,
  ⟨(.type "tuple"), none, (.seq #[(.str (Str.ofString "self") 1761), (.str (Str.ofString "v_repr") 1762)] 0), #[]⟩,
  ⟨(.type "tuple"), none, (.seq #[] 0), #[]⟩,
  ⟨.none, none, (.func (fD (mAt 11 15) (Str.ofString "Enum.__repr__") 0 [] .none .none .none .none none .none .none 0)), #[]⟩,
  ⟨(.type "code"), none, (.fields #[(.str (Str.ofString "__repr__") 1758), (.str (Str.ofString "Enum.__repr__") 1759), (.str (Str.ofString "/claim/cut.py") 1760), (.int (Int.ofNat 300) 0), (.int (Int.ofNat 1) 0), (.int (Int.ofNat 0) 0), (.int (Int.ofNat 0) 0), (.int (Int.ofNat 3) 0), (.ref 556), (.bool true), (.int (Int.ofNat 492) 0), (.ref 557), .none, (.ref 558), (.ref 559), (.ref 560), (.int (Int.ofNat 1763) 0), (.int (Int.ofNat 300) 0), (.str (Str.ofString "/claim/cut.py") 1764)]), #[]⟩,
  ⟨(.type "function"), none, (.func (fD (mAt 11 15) (Str.ofString "Enum.__repr__") 3 [] .none .none .none (.str (Str.ofString "enum") 1156) none (.ref 561) .none 0)), #[]⟩,
  ⟨(.type "tuple"), none, (.seq #[] 0), #[]⟩,
  ⟨.none, none, (.fields #[]), #[]⟩,
  ⟨(.type "tuple"), none, (.seq #[(.str (Str.ofString "self") 1769)] 0), #[]⟩,
  ⟨(.type "tuple"), none, (.seq #[] 0), #[]⟩,
  ⟨.none, none, (.func (fD (mAt 11 16) (Str.ofString "Enum.__str__") 0 [] .none .none .none .none none .none .none 0)), #[]⟩,
  ⟨(.type "code"), none, (.fields #[(.str (Str.ofString "__str__") 1766), (.str (Str.ofString "Enum.__str__") 1767), (.str (Str.ofString "/claim/cut.py") 1768), (.int (Int.ofNat 304) 0), (.int (Int.ofNat 1) 0), (.int (Int.ofNat 0) 0), (.int (Int.ofNat 0) 0), (.int (Int.ofNat 3) 0), (.ref 563), (.bool true), (.int (Int.ofNat 492) 0), (.ref 564), .none, (.ref 565), (.ref 566), (.ref 567), (.int (Int.ofNat 1770) 0), (.int (Int.ofNat 304) 0), (.str (Str.ofString "/claim/cut.py") 1771)]), #[]⟩,
  ⟨(.type "function"), none, (.func (fD (mAt 11 16) (Str.ofString "Enum.__str__") 3 [] .none .none .none (.str (Str.ofString "enum") 1156) none (.ref 568) .none 0)), #[]⟩]
noncomputable def Su19 (P : Params) : List Obj := [⟨(.type "tuple"), none, (.seq #[] 0), #[]⟩,
  ⟨.none, none, (.fields #[]), #[]⟩,
  ⟨(.type "tuple"), none, (.seq #[(.str (Str.ofString "self") 1776), (.str (Str.ofString "format_spec") 1777)] 0), #[]⟩,
  ⟨(.type "tuple"), none, (.seq #[] 0), #[]⟩,
  ⟨.none, none, (.func (fD (mAt 11 17) (Str.ofString "Enum.__format__") 0 [] .none .none .none .none none .none .none 0)), #[]⟩,
  ⟨(.type "code"), none, (.fields #[(.str (Str.ofString "__format__") 1773), (.str (Str.ofString "Enum.__format__") 1774), (.str (Str.ofString "/claim/cut.py") 1775), (.int (Int.ofNat 307) 0), (.int (Int.ofNat 2) 0), (.int (Int.ofNat 0) 0), (.int (Int.ofNat 0) 0), (.int (Int.ofNat 3) 0), (.ref 570), (.bool true), (.int (Int.ofNat 492) 0), (.ref 571), .none, (.ref 572), (.ref 573), (.ref 574), (.int (Int.ofNat 1778) 0), (.int (Int.ofNat 307) 0), (.str (Str.ofString "/claim/cut.py") 1779)]), #[]⟩,
  ⟨(.type "function"), none, (.func (fD (mAt 11 17) (Str.ofString "Enum.__format__") 3 [] .none .none .none (.str (Str.ofString "enum") 1156) none (.ref 575) .none 0)), #[]⟩,
  ⟨(.type "tuple"), none, (.seq #[] 0), #[]⟩,
  ⟨.none, none, (.fields #[]), #[]⟩,
  ⟨(.type "tuple"), none, (.seq #[(.str (Str.ofString "self") 1784)] 0), #[]⟩,
  ⟨(.type "tuple"), none, (.seq #[] 0), #[]⟩,
  ⟨.none, none, (.func (fD (mAt 11 18) (Str.ofString "Enum.__hash__") 0 [] .none .none .none .none none .none .none 0)), #[]⟩,
  ⟨(.type "code"), none, (.fields #[(.str (Str.ofString "__hash__") 1781), (.str (Str.ofString "Enum.__hash__") 1782), (.str (Str.ofString "/claim/cut.py") 1783), (.int (Int.ofNat 310) 0), (.int (Int.ofNat 1) 0), (.int (Int.ofNat 0) 0), (.int (Int.ofNat 0) 0), (.int (Int.ofNat 3) 0), (.ref 577), (.bool true), (.int (Int.ofNat 492) 0), (.ref 578), .none, (.ref 579), (.ref 580), (.ref 581), (.int (Int.ofNat 1785) 0), (.int (Int.ofNat 310) 0), (.str (Str.ofString "/claim/cut.py") 1786)]), #[]⟩,
  ⟨(.type "function"), none, (.func (fD (mAt 11 18) (Str.ofString "Enum.__hash__") 3 [] .none .none .none (.str (Str.ofString "enum") 1156) none (.ref 582) .none 0)), #[]⟩,
  ⟨(.type "tuple"), none, (.seq #[] 0), #[]⟩,
  ⟨.none, none, (.fields #[]), #[]⟩,
  ⟨(.type "tuple"), none, (.seq #[(.str (Str.ofString "self") 1791), (.str (Str.ofString "proto") 1792)] 0), #[]⟩,
  ⟨(.type "tuple"), none, (.seq #[] 0), #[]⟩,
  ⟨.none, none, (.func (fD (mAt 11 19) (Str.ofString "Enum.__reduce_ex__") 0 [] .none .none .none .none none .none .none 0)), #[]⟩,
  ⟨(.type "code"), none, (.fields #[(.str (Str.ofString "__reduce_ex__") 1788), (.str (Str.ofString "Enum.__reduce_ex__") 1789), (.str (Str.ofString "/claim/cut.py") 1790), (.int (Int.ofNat 313) 0), (.int (Int.ofNat 2) 0), (.int (Int.ofNat 0) 0), (.int (Int.ofNat 0) 0), (.int (Int.ofNat 3) 0), (.ref 584), (.bool true), (.int (Int.ofNat 492) 0), (.ref 585), .none, (.ref 586), (.ref 587), (.ref 588), (.int (Int.ofNat 1793) 0), (.int (Int.ofNat 313) 0), (.str (Str.ofString "/claim/cut.py") 1794)]), #[]⟩,
  ⟨(.type "function"), none, (.func (fD (mAt 11 19) (Str.ofString "Enum.__reduce_ex__") 3 [] .none .none .none (.str (Str.ofString "enum") 1156) none (.ref 589) .none 0)), #[]⟩,
  ⟨(.type "tuple"), none, (.seq #[] 0), #[]⟩,
  ⟨.none, none, (.fields #[]), #[]⟩,
  ⟨(.type "tuple"), none, (.seq #[(.str (Str.ofString "self") 1799), (.str (Str.ofString "memo") 1800)] 0), #[]⟩,
  ⟨(.type "tuple"), none, (.seq #[] 0), #[]⟩,
  ⟨.none, none, (.func (fD (mAt 11 20) (Str.ofString "Enum.__deepcopy__") 0 [] .none .none .none .none none .none .none 0)), #[]⟩,
  ⟨(.type "code"), none, (.fields #[(.str (Str.ofString "__deepcopy__") 1796), (.str (Str.ofString "Enum.__deepcopy__") 1797), (.str (Str.ofString "/claim/cut.py") 1798), (.int (Int.ofNat 316) 0), (.int (Int.ofNat 2) 0), (.int (Int.ofNat 0) 0), (.int (Int.ofNat 0) 0), (.int (Int.ofNat 3) 0), (.ref 591), (.bool true), (.int (Int.ofNat 492) 0), (.ref 592), .none, (.ref 593), (.ref 594), (.ref 595), (.int (Int.ofNat 1801) 0), (.int (Int.ofNat 316) 0), (.str (Str.ofString "/claim/cut.py") 1802)]), #[]⟩,
  ⟨(.type "function"), none, (.func (fD (mAt 11 20) (Str.ofString "Enum.__deepcopy__") 3 [] .none .none .none (.str (Str.ofString "enum") 1156) none (.ref 596) .none 0)), #[]⟩,
  ⟨(.type "tuple"), none, (.seq #[] 0), #[]⟩,
  ⟨.none, none, (.fields #[]), #[]⟩]
noncomputable def Su20 (P : Params) : List Obj := [⟨(.type "tuple"), none, (.seq #[(.str (Str.ofString "self") 1807)] 0), #[]⟩,
  ⟨(.type "tuple"), none, (.seq #[] 0), #[]⟩,
  ⟨.none, none, (.func (fD (mAt 11 21) (Str.ofString "Enum.__copy__") 0 [] .none .none .none .none none .none .none 0)), #[]⟩,
  ⟨(.type "code"), none, (.fields #[(.str (Str.ofString "__copy__") 1804), (.str (Str.ofString "Enum.__copy__") 1805), (.str (Str.ofString "/claim/cut.py") 1806), (.int (Int.ofNat 319) 0), (.int (Int.ofNat 1) 0), (.int (Int.ofNat 0) 0), (.int (Int.ofNat 0) 0), (.int (Int.ofNat 3) 0), (.ref 598), (.bool true), (.int (Int.ofNat 492) 0), (.ref 599), .none, (.ref 600), (.ref 601), (.ref 602), (.int (Int.ofNat 1808) 0), (.int (Int.ofNat 319) 0), (.str (Str.ofString "/claim/cut.py") 1809)]), #[]⟩,
  ⟨(.type "function"), none, (.func (fD (mAt 11 21) (Str.ofString "Enum.__copy__") 3 [] .none .none .none (.str (Str.ofString "enum") 1156) none (.ref 603) .none 0)), #[]⟩,
  ⟨(.type "tuple"), none, (.seq #[] 0), #[]⟩,
  ⟨.none, none, (.fields #[]), #[]⟩,
  ⟨(.type "tuple"), none, (.seq #[(.str (Str.ofString "self") 1814)] 0), #[]⟩,
  ⟨(.type "tuple"), none, (.seq #[] 0), #[]⟩,
  ⟨.none, none, (.func (fD (mAt 11 22) (Str.ofString "Enum.__dir__") 0 [] .none .none .none .none none .none .none 0)), #[]⟩,
  ⟨(.type "code"), none, (.fields #[(.str (Str.ofString "__dir__") 1811), (.str (Str.ofString "Enum.__dir__") 1812), (.str (Str.ofString "/claim/cut.py") 1813), (.int (Int.ofNat 322) 0), (.int (Int.ofNat 1) 0), (.int (Int.ofNat 0) 0), (.int (Int.ofNat 0) 0), (.int (Int.ofNat 3) 0), (.ref 605), (.bool true), (.int (Int.ofNat 492) 0), (.ref 606), .none, (.ref 607), (.ref 608), (.ref 609), (.int (Int.ofNat 1815) 0), (.int (Int.ofNat 322) 0), (.str (Str.ofString "/claim/cut.py") 1816)]), #[]⟩,
  ⟨(.type "function"), none, (.func (fD (mAt 11 22) (Str.ofString "Enum.__dir__") 3 [] .none .none .none (.str (Str.ofString "enum") 1156) none (.ref 610) .none 0)), #[]⟩,
  ⟨(.type "tuple"), none, (.seq #[] 0), #[]⟩,
  ⟨.none, none, (.fields #[]), #[]⟩,
  ⟨(.type "tuple"), none, (.seq #[(.str (Str.ofString "self") 1821), (.str (Str.ofString "name") 1822)] 0), #[]⟩,
  ⟨(.type "tuple"), none, (.seq #[] 0), #[]⟩,
  ⟨.none, none, (.func (fD (mAt 11 23) (Str.ofString "Enum._add_alias_") 0 [] .none .none .none .none none .none .none 0)), #[]⟩,
  ⟨(.type "code"), none, (.fields #[(.str (Str.ofString "_add_alias_") 1818), (.str (Str.ofString "Enum._add_alias_") 1819), (.str (Str.ofString "/claim/cut.py") 1820), (.int (Int.ofNat 325) 0), (.int (Int.ofNat 2) 0), (.int (Int.ofNat 0) 0), (.int (Int.ofNat 0) 0), (.int (Int.ofNat 3) 0), (.ref 612), (.bool true), (.int (Int.ofNat 492) 0), (.ref 613), .none, (.ref 614), (.ref 615), (.ref 616), (.int (Int.ofNat 1823) 0), (.int (Int.ofNat 325) 0), (.str (Str.ofString "/claim/cut.py") 1824)]), #[]⟩,
  ⟨(.type "function"), none, (.func (fD (mAt 11 23) (Str.ofString "Enum._add_alias_") 3 [] .none .none .none (.str (Str.ofString "enum") 1156) none (.ref 617) .none 0)), #[]⟩,
  ⟨(.type "tuple"), none, (.seq #[] 0), #[]⟩,
  ⟨.none, none, (.fields #[]), #[]⟩,
  ⟨(.type "tuple"), none, (.seq #[(.str (Str.ofString "self") 1829), (.str (Str.ofString "value") 1830)] 0), #[]⟩,
  ⟨(.type "tuple"), none, (.seq #[] 0), #[]⟩,
  ⟨.none, none, (.func (fD (mAt 11 24) (Str.ofString "Enum._add_value_alias_") 0 [] .none .none .none .none none .none .none 0)), #[]⟩,
  ⟨(.type "code"), none, (.fields #[(.str (Str.ofString "_add_value_alias_") 1826), (.str (Str.ofString "Enum._add_value_alias_") 1827), (.str (Str.ofString "/claim/cut.py") 1828), (.int (Int.ofNat 328) 0), (.int (Int.ofNat 2) 0), (.int (Int.ofNat 0) 0), (.int (Int.ofNat 0) 0), (.int (Int.ofNat 3) 0), (.ref 619), (.bool true), (.int (Int.ofNat 492) 0), (.ref 620), .none, (.ref 621), (.ref 622), (.ref 623), (.int (Int.ofNat 1831) 0), (.int (Int.ofNat 328) 0), (.str (Str.ofString "/claim/cut.py") 1832)]), #[]⟩,
  ⟨(.type "function"), none, (.func (fD (mAt 11 24) (Str.ofString "Enum._add_value_alias_") 3 [] .none .none .none (.str (Str.ofString "enum") 1156) none (.ref 624) .none 0)), #[]⟩,
  ⟨(.type "dict"), none, (.dict #[(eK P (Str.ofString "name") 1838 (.str (Str.ofString "name") 1834))] 1), #[]⟩,
  ⟨(.ref 513), (some 626), .plain, #[]⟩,
  ⟨(.type "frame"), none, (.dict #[(eK P (Str.ofString "self") 1835 (.ref 627)), (eK P (Str.ofString "name") 1836 (.str (Str.ofString "name") 1834))] 2), #[]⟩,
  ⟨(.type "dict"), none, (.dict #[(eK P (Str.ofString "name") 1844 (.str (Str.ofString "value") 1840))] 1), #[]⟩]
noncomputable def Su21 (P : Params) : List Obj := [⟨(.ref 513), (some 629), .plain, #[]⟩,
  ⟨(.type "frame"), none, (.dict #[(eK P (Str.ofString "self") 1841 (.ref 630)), (eK P (Str.ofString "name") 1842 (.str (Str.ofString "value") 1840))] 2), #[]⟩,
  ⟨(.type "tuple"), none, (.seq #[] 0), #[]⟩,
  ⟨(.type "dict"), none, (.dict #[] 0), #[]⟩,
  ⟨(.type "frame"), none, (.dict #[(eK P (Str.ofString "metacls") 1848 (.ref 471)), (eK P (Str.ofString "cls") 1849 (.str (Str.ofString "Enum") 1688)), (eK P (Str.ofString "bases") 1850 (.ref 518)), (eK P (Str.ofString "classdict") 1851 (.ref 520)), (eK P (Str.ofString "kwds") 1852 (.ref 633)), (eK P (Str.ofString "made") 1863 (.ref 637))] 6), #[]⟩,
  ⟨(.type "super"), none, (.fields #[(.ref 471), (.ref 471), (.ref 471)]), #[]⟩,
  ⟨(.type "dict"), none, (.dict #[(eK P (Str.ofString "__module__") 1695 (.str (Str.ofString "enum") 1700)), (eK P (Str.ofString "__firstlineno__") 1699 (.int (Int.ofNat 239) 1698)), (eK P (Str.ofString "_written_out_") 1703 (.int (Int.ofNat 0) 1868)), (eK P (Str.ofString "_member_names_") 1704 (.ref 525)), (eK P (Str.ofString "_member_map_") 1705 (.ref 526)), (eK P (Str.ofString "_value2member_map_") 1706 (.ref 527)), (eK P (Str.ofString "_hashable_values_") 1707 (.ref 528)), (eK P (Str.ofString "_unhashable_values_") 1708 (.ref 529)), (eK P (Str.ofString "_unhashable_values_map_") 1709 (.ref 530)), (eK P (Str.ofString "_members_") 1710 (.ref 531)), (eK P (Str.ofString "_value_repr_") 1711 .none), (eK P (Str.ofString "_is_flag_") 1712 (.bool false)), (eK P (Str.ofString "_making_") 1713 (.bool false)), (eK P (Str.ofString "__new__") 1728 (.ref 638)), (eK P (Str.ofString "_missing_") 1748 (.ref 547)), (eK P (Str.ofString "__init__") 1757 (.ref 555)), (eK P (Str.ofString "__repr__") 1765 (.ref 562)), (eK P (Str.ofString "__str__") 1772 (.ref 569)), (eK P (Str.ofString "__format__") 1780 (.ref 576)), (eK P (Str.ofString "__hash__") 1787 (.ref 583)), (eK P (Str.ofString "__reduce_ex__") 1795 (.ref 590)), (eK P (Str.ofString "__deepcopy__") 1803 (.ref 597)), (eK P (Str.ofString "__copy__") 1810 (.ref 604)), (eK P (Str.ofString "__dir__") 1817 (.ref 611)), (eK P (Str.ofString "_add_alias_") 1825 (.ref 618)), (eK P (Str.ofString "_add_value_alias_") 1833 (.ref 625)), (eK P (Str.ofString "name") 1839 (.ref 627)), (eK P (Str.ofString "value") 1845 (.ref 630)), (eK P (Str.ofString "__static_attributes__") 1846 (.ref 632)), (eK P (Str.ofString "__dict__") 1858 (.ref 639)), (eK P (Str.ofString "__weakref__") 1860 (.ref 640)), (eK P (Str.ofString "__doc__") 1861 .none)] 4), #[]⟩,
  ⟨(.ref 471), none, (.cls ⟨(Str.ofString "Enum"), [(.type "object")], [(.ref 637), (.type "object")], 636, (Str.ofString "Enum"), true, [], [(.ref 660)], false, none, false⟩), #[none, none, (some (.str (Str.ofString "Enum") 1688)), (some (.str (Str.ofString "Enum") 1696)), (some .none), (some (.bool true))]⟩,
  ⟨(.type "staticmethod"), none, (.fields #[(.ref 538)]), #[]⟩,
  ⟨(.type "getset_descriptor"), none, (.fields #[(.str (Str.ofString "__dict__") 1857), (.ref 637), (.builtin "function.__dict__"), (.builtin "function.__dict__#set")]), #[]⟩,
  ⟨(.type "getset_descriptor"), none, (.fields #[(.str (Str.ofString "__weakref__") 1859), (.ref 637), (.builtin "ExceptionGroup.__weakref__"), .none]), #[]⟩,
  ⟨(.type "super"), none, (.fields #[(.ref 637), (.ref 637), (.ref 637)]), #[]⟩,
  ⟨(.type "builtin_function_or_method"), none, (.fields #[(.builtin "object.__init_subclass__"), (.ref 637)]), #[]⟩,
  ⟨(.type "method"), none, (.fields #[(.ref 461), (.ref 637)]), #[]⟩,
  ⟨(.type "frame"), none, (.dict #[(eK P (Str.ofString "cls") 1869 (.ref 637)), (eK P (Str.ofString "name") 1870 (.str (Str.ofString "_written_out_") 1867)), (eK P (Str.ofString "value") 1871 (.int (Int.ofNat 0) 1868))] 3), #[]⟩,
  ⟨(.type "super"), none, (.fields #[(.ref 471), (.ref 637), (.ref 471)]), #[]⟩,
  ⟨(.type "method-wrapper"), none, (.fields #[(.builtin "type.__setattr__"), (.ref 637)]), #[]⟩,
  ⟨(.type "tuple"), none, (.seq #[(.ref 637)] 0), #[]⟩,
  ⟨(.type "builtin_function_or_method"), none, (.fields #[(.builtin "type.__prepare__"), (.ref 471)]), #[]⟩,
  ⟨(.type "dict"), none, (.dict #[(eK P (Str.ofString "__module__") 1884 (.str (Str.ofString "json5.lib") 1875)), (eK P (Str.ofString "__qualname__") 1886 (.str (Str.ofString "QuoteStyle") 1885)), (eK P (Str.ofString "__firstlineno__") 1888 (.int (Int.ofNat 333) 1887)), (eK P (Str.ofString "_written_out_") 1890 (.int (Int.ofNat 4) 1889)), (eK P (Str.ofString "_member_names_") 1895 (.ref 654)), (eK P (Str.ofString "_value_repr_") 1897 .none), (eK P (Str.ofString "__static_attributes__") 1898 (.ref 655))] 7), #[]⟩,
  ⟨(.type "tuple"), none, (.seq #[] 0), #[]⟩,
  ⟨.none, none, (.fields #[]), #[]⟩,
  ⟨(.type "code"), none, (.fields #[(.str (Str.ofString "QuoteStyle") 1879), (.str (Str.ofString "QuoteStyle") 1880), (.str (Str.ofString "/claim/cut.py") 1881), (.int (Int.ofNat 333) 0), (.int (Int.ofNat 0) 0), (.int (Int.ofNat 0) 0), (.int (Int.ofNat 0) 0), (.int (Int.ofNat 0) 0), (.ref 650), (.bool false), (.int (Int.ofNat 492) 0), (.ref 651), .none, .none, .none, .none, (.int (Int.ofNat 1882) 0), (.int (Int.ofNat 333) 0), (.str (Str.ofString "/claim/cut.py") 1883)]), #[]⟩,
  ⟨(.type "frame"), none, .plain, #[(some (.ref 652)), (some (.ref 3)), (some (.ref 649)), none, (some (.str (Str.ofString "json5.lib") 1875)), none, (some (.ref 0))]⟩,
  ⟨(.type "list"), none, (.seq #[(.str (Str.ofString "ALWAYS_DOUBLE") 1891), (.str (Str.ofString "ALWAYS_SINGLE") 1892), (.str (Str.ofString "PREFER_DOUBLE") 1893), (.str (Str.ofString "PREFER_SINGLE") 1894)] 0), #[]⟩,
  ⟨(.type "tuple"), none, (.seq #[] 0), #[]⟩,
  ⟨(.type "dict"), none, (.dict #[] 0), #[]⟩,
  ⟨(.type "frame"), none, (.dict #[(eK P (Str.ofString "metacls") 1900 (.ref 471)), (eK P (Str.ofString "cls") 1901 (.str (Str.ofString "QuoteStyle") 1877)), (eK P (Str.ofString "bases") 1902 (.ref 647)), (eK P (Str.ofString "classdict") 1903 (.ref 649)), (eK P (Str.ofString "kwds") 1904 (.ref 656)), (eK P (Str.ofString "made") 1910 (.ref 660))] 6), #[]⟩,
  ⟨(.type "super"), none, (.fields #[(.ref 471), (.ref 471), (.ref 471)]), #[]⟩,
  ⟨(.type "dict"), none, (.dict #[(eK P (Str.ofString "__module__") 1884 (.str (Str.ofString "json5.lib") 1875)), (eK P (Str.ofString "__firstlineno__") 1888 (.int (Int.ofNat 333) 1887)), (eK P (Str.ofString "_written_out_") 1890 (.int (Int.ofNat 0) 1915)), (eK P (Str.ofString "_member_names_") 1895 (.ref 654)), (eK P (Str.ofString "_value_repr_") 1897 .none), (eK P (Str.ofString "__static_attributes__") 1898 (.ref 655)), (eK P (Str.ofString "__doc__") 1908 .none), (eK P (Str.ofString "__new__") 1956 (.ref 538)), (eK P (Str.ofString "ALWAYS_DOUBLE") 2020 (.ref 685)), (eK P (Str.ofString "ALWAYS_SINGLE") 2028 (.ref 687)), (eK P (Str.ofString "PREFER_DOUBLE") 2036 (.ref 689)), (eK P (Str.ofString "PREFER_SINGLE") 2044 (.ref 691)), (eK P (Str.ofString "_member_map_") 2060 (.ref 704)), (eK P (Str.ofString "_value2member_map_") 2072 (.ref 708)), (eK P (Str.ofString "_hashable_values_") 2080 (.ref 712))] 10), #[]⟩]
noncomputable def Su22 (P : Params) : List Obj := [⟨(.ref 471), none, (.cls ⟨(Str.ofString "QuoteStyle"), [(.ref 637)], [(.ref 660), (.ref 637), (.type "object")], 659, (Str.ofString "QuoteStyle"), true, [], [], false, none, false⟩), #[(some (.ref 647)), none, (some (.str (Str.ofString "QuoteStyle") 1877)), (some (.str (Str.ofString "QuoteStyle") 1885)), (some .none), (some (.bool true))]⟩,
  ⟨(.type "super"), none, (.fields #[(.ref 660), (.ref 660), (.ref 660)]), #[]⟩,
  ⟨(.type "builtin_function_or_method"), none, (.fields #[(.builtin "object.__init_subclass__"), (.ref 660)]), #[]⟩,
  ⟨(.type "method"), none, (.fields #[(.ref 461), (.ref 660)]), #[]⟩,
  ⟨(.type "frame"), none, (.dict #[(eK P (Str.ofString "cls") 1916 (.ref 660)), (eK P (Str.ofString "name") 1917 (.str (Str.ofString "_written_out_") 1914)), (eK P (Str.ofString "value") 1918 (.int (Int.ofNat 0) 1915))] 3), #[]⟩,
  ⟨(.type "super"), none, (.fields #[(.ref 471), (.ref 660), (.ref 471)]), #[]⟩,
  ⟨(.type "method-wrapper"), none, (.fields #[(.builtin "type.__setattr__"), (.ref 660)]), #[]⟩,
  ⟨(.type "tuple"), none, (.seq #[] 0), #[]⟩,
  ⟨.none, none, (.fields #[]), #[]⟩,
  ⟨(.type "tuple"), none, (.seq #[(.str (Str.ofString "_v0") 1925), (.str (Str.ofString "_m0") 1926), (.str (Str.ofString "_v1") 1927), (.str (Str.ofString "_m1") 1928), (.str (Str.ofString "_v2") 1929), (.str (Str.ofString "_m2") 1930), (.str (Str.ofString "_v3") 1931), (.str (Str.ofString "_m3") 1932)] 0), #[]⟩,
  ⟨(.type "tuple"), none, (.seq #[] 0), #[]⟩,
  ⟨.none, none, (.func (fD (sAt 14) (Str.ofString "_lay_QuoteStyle") 0 [] .none .none .none .none none .none .none 0)), #[]⟩,
  ⟨(.type "code"), none, (.fields #[(.str (Str.ofString "_lay_QuoteStyle") 1922), (.str (Str.ofString "_lay_QuoteStyle") 1923), (.str (Str.ofString "/claim/cut.py") 1924), (.int (Int.ofNat 337) 0), (.int (Int.ofNat 0) 0), (.int (Int.ofNat 0) 0), (.int (Int.ofNat 0) 0), (.int (Int.ofNat 3) 0), (.ref 667), (.bool true), (.int (Int.ofNat 492) 0), (.ref 668), .none, (.ref 669), (.ref 670), (.ref 671), (.int (Int.ofNat 1933) 0), (.int (Int.ofNat 337) 0), (.str (Str.ofString "/claim/cut.py") 1934)]), #[]⟩,
  ⟨(.type "function"), none, (.func (fD (sAt 14) (Str.ofString "_lay_QuoteStyle") 3 [] .none .none .none (.str (Str.ofString "json5.lib") 1875) none (.ref 672) .none 0)), #[]⟩,
  ⟨(.type "frame"), none, (.dict #[(eK P (Str.ofString "_v0") 1958 (.str (Str.ofString "always_double") 1957)), (eK P (Str.ofString "_m0") 1960 (.ref 685)), (eK P (Str.ofString "_v1") 1972 (.str (Str.ofString "always_single") 1971)), (eK P (Str.ofString "_m1") 1974 (.ref 687)), (eK P (Str.ofString "_v2") 1986 (.str (Str.ofString "prefer_double") 1985)), (eK P (Str.ofString "_m2") 1988 (.ref 689)), (eK P (Str.ofString "_v3") 2000 (.str (Str.ofString "prefer_single") 1999)), (eK P (Str.ofString "_m3") 2002 (.ref 691))] 8), #[]⟩,
  ⟨(.type "method"), none, (.fields #[(.ref 282), (.ref 660)]), #[]⟩,
  ⟨(.type "frame"), none, (.dict #[(eK P (Str.ofString "cls") 1937 (.ref 660)), (eK P (Str.ofString "own_init") 1938 (.bool false)), (eK P (Str.ofString "asks_new") 1939 (.bool true))] 3), #[]⟩,
  ⟨(.type "builtin_function_or_method"), none, (.fields #[(.builtin "object.__init_subclass__"), (.ref 660)]), #[]⟩,
  ⟨(.type "builtin_function_or_method"), none, (.fields #[(.builtin "object.__init_subclass__"), (.type "object")]), #[]⟩,
  ⟨(.type "tuple"), none, (.seq #[(.str (Str.ofString "type object 'QuoteStyle' has no attribute '_value_'") 1947)] 0), #[]⟩,
  ⟨(.type "AttributeError"), none, (.fields #[(.ref 679), .none, .none, .none, (.bool false), .none, (.int (Int.ofNat 0) 0), (.int (Int.ofNat 0) 0)]), #[]⟩,
  ⟨(.type "frame"), none, (.dict #[(eK P (Str.ofString "cls") 1950 (.ref 660)), (eK P (Str.ofString "name") 1951 (.str (Str.ofString "__new__") 1949)), (eK P (Str.ofString "value") 1952 (.ref 538))] 3), #[]⟩,
  ⟨(.type "super"), none, (.fields #[(.ref 471), (.ref 660), (.ref 471)]), #[]⟩,
  ⟨(.type "method-wrapper"), none, (.fields #[(.builtin "type.__setattr__"), (.ref 660)]), #[]⟩,
  ⟨(.type "dict"), none, (.dict #[(eK P (Str.ofString "_value_") 1962 (.str (Str.ofString "always_double") 1957)), (eK P (Str.ofString "_name_") 1965 (.str (Str.ofString "ALWAYS_DOUBLE") 1963)), (eK P (Str.ofString "__objclass__") 1967 (.ref 660)), (eK P (Str.ofString "_sort_order_") 1970 (.int (Int.ofNat 0) 1968))] 4), #[]⟩,
  ⟨(.ref 660), (some 684), .plain, #[]⟩,
  ⟨(.type "dict"), none, (.dict #[(eK P (Str.ofString "_value_") 1976 (.str (Str.ofString "always_single") 1971)), (eK P (Str.ofString "_name_") 1979 (.str (Str.ofString "ALWAYS_SINGLE") 1977)), (eK P (Str.ofString "__objclass__") 1981 (.ref 660)), (eK P (Str.ofString "_sort_order_") 1984 (.int (Int.ofNat 1) 1982))] 4), #[]⟩,
  ⟨(.ref 660), (some 686), .plain, #[]⟩,
  ⟨(.type "dict"), none, (.dict #[(eK P (Str.ofString "_value_") 1990 (.str (Str.ofString "prefer_double") 1985)), (eK P (Str.ofString "_name_") 1993 (.str (Str.ofString "PREFER_DOUBLE") 1991)), (eK P (Str.ofString "__objclass__") 1995 (.ref 660)), (eK P (Str.ofString "_sort_order_") 1998 (.int (Int.ofNat 2) 1996))] 4), #[]⟩,
  ⟨(.ref 660), (some 688), .plain, #[]⟩]
noncomputable def Su23 (P : Params) : List Obj := [⟨(.type "dict"), none, (.dict #[(eK P (Str.ofString "_value_") 2004 (.str (Str.ofString "prefer_single") 1999)), (eK P (Str.ofString "_name_") 2007 (.str (Str.ofString "PREFER_SINGLE") 2005)), (eK P (Str.ofString "__objclass__") 2009 (.ref 660)), (eK P (Str.ofString "_sort_order_") 2012 (.int (Int.ofNat 3) 2010))] 4), #[]⟩,
  ⟨(.ref 660), (some 690), .plain, #[]⟩,
  ⟨(.type "frame"), none, (.dict #[(eK P (Str.ofString "cls") 2014 (.ref 660)), (eK P (Str.ofString "name") 2015 (.str (Str.ofString "ALWAYS_DOUBLE") 2013)), (eK P (Str.ofString "value") 2016 (.ref 685))] 3), #[]⟩,
  ⟨(.type "super"), none, (.fields #[(.ref 471), (.ref 660), (.ref 471)]), #[]⟩,
  ⟨(.type "method-wrapper"), none, (.fields #[(.builtin "type.__setattr__"), (.ref 660)]), #[]⟩,
  ⟨(.type "frame"), none, (.dict #[(eK P (Str.ofString "cls") 2022 (.ref 660)), (eK P (Str.ofString "name") 2023 (.str (Str.ofString "ALWAYS_SINGLE") 2021)), (eK P (Str.ofString "value") 2024 (.ref 687))] 3), #[]⟩,
  ⟨(.type "super"), none, (.fields #[(.ref 471), (.ref 660), (.ref 471)]), #[]⟩,
  ⟨(.type "method-wrapper"), none, (.fields #[(.builtin "type.__setattr__"), (.ref 660)]), #[]⟩,
  ⟨(.type "frame"), none, (.dict #[(eK P (Str.ofString "cls") 2030 (.ref 660)), (eK P (Str.ofString "name") 2031 (.str (Str.ofString "PREFER_DOUBLE") 2029)), (eK P (Str.ofString "value") 2032 (.ref 689))] 3), #[]⟩,
  ⟨(.type "super"), none, (.fields #[(.ref 471), (.ref 660), (.ref 471)]), #[]⟩,
  ⟨(.type "method-wrapper"), none, (.fields #[(.builtin "type.__setattr__"), (.ref 660)]), #[]⟩,
  ⟨(.type "frame"), none, (.dict #[(eK P (Str.ofString "cls") 2038 (.ref 660)), (eK P (Str.ofString "name") 2039 (.str (Str.ofString "PREFER_SINGLE") 2037)), (eK P (Str.ofString "value") 2040 (.ref 691))] 3), #[]⟩,
  ⟨(.type "super"), none, (.fields #[(.ref 471), (.ref 660), (.ref 471)]), #[]⟩,
  ⟨(.type "method-wrapper"), none, (.fields #[(.builtin "type.__setattr__"), (.ref 660)]), #[]⟩,
  ⟨(.type "dict"), none, (.dict #[(eK P (Str.ofString "ALWAYS_DOUBLE") 2045 (.ref 685)), (eK P (Str.ofString "ALWAYS_SINGLE") 2046 (.ref 687)), (eK P (Str.ofString "PREFER_DOUBLE") 2047 (.ref 689)), (eK P (Str.ofString "PREFER_SINGLE") 2048 (.ref 691))] 4), #[]⟩,
  ⟨(.type "frame"), none, (.dict #[(eK P (Str.ofString "cls") 2054 (.ref 660)), (eK P (Str.ofString "name") 2055 (.str (Str.ofString "_member_map_") 2053)), (eK P (Str.ofString "value") 2056 (.ref 704))] 3), #[]⟩,
  ⟨(.type "super"), none, (.fields #[(.ref 471), (.ref 660), (.ref 471)]), #[]⟩,
  ⟨(.type "method-wrapper"), none, (.fields #[(.builtin "type.__setattr__"), (.ref 660)]), #[]⟩,
  ⟨(.type "dict"), none, (.dict #[(eK P (Str.ofString "always_double") 1957 (.ref 685)), (eK P (Str.ofString "always_single") 1971 (.ref 687)), (eK P (Str.ofString "prefer_double") 1985 (.ref 689)), (eK P (Str.ofString "prefer_single") 1999 (.ref 691))] 4), #[]⟩,
  ⟨(.type "frame"), none, (.dict #[(eK P (Str.ofString "cls") 2066 (.ref 660)), (eK P (Str.ofString "name") 2067 (.str (Str.ofString "_value2member_map_") 2065)), (eK P (Str.ofString "value") 2068 (.ref 708))] 3), #[]⟩,
  ⟨(.type "super"), none, (.fields #[(.ref 471), (.ref 660), (.ref 471)]), #[]⟩,
  ⟨(.type "method-wrapper"), none, (.fields #[(.builtin "type.__setattr__"), (.ref 660)]), #[]⟩,
  ⟨(.type "list"), none, (.seq #[(.str (Str.ofString "always_double") 1957), (.str (Str.ofString "always_single") 1971), (.str (Str.ofString "prefer_double") 1985), (.str (Str.ofString "prefer_single") 1999)] 0), #[]⟩,
  ⟨(.type "frame"), none, (.dict #[(eK P (Str.ofString "cls") 2074 (.ref 660)), (eK P (Str.ofString "name") 2075 (.str (Str.ofString "_hashable_values_") 2073)), (eK P (Str.ofString "value") 2076 (.ref 712))] 3), #[]⟩,
  ⟨(.type "super"), none, (.fields #[(.ref 471), (.ref 660), (.ref 471)]), #[]⟩,
  ⟨(.type "method-wrapper"), none, (.fields #[(.builtin "type.__setattr__"), (.ref 660)]), #[]⟩]
noncomputable def Tu (P : Params) : BT := treeOf (Su0 P ++ Su1 P ++ Sy2 P ++ Sy3 P ++ Sy4 P ++ Sy5 P ++ Sy6 P ++ Sy7 P ++ Sy8 P ++ Sy9 P ++ Sy10 P ++ Sy11 P ++ Sy12 P ++ Sy13 P ++ Sy14 P ++ Sy15 P ++ Sy16 P ++ Su17 P ++ Su18 P ++ Su19 P ++ Su20 P ++ Su21 P ++ Su22 P ++ Su23 P)
noncomputable def Kp (P : Params) : Frag :=
  (nat_lit 2, ⟨.none, none, (.dict #[(DictEntry.mk (PyData.keyHash P (Str.ofString "\x69mport.loaded._sre")) (.str (Str.ofString "\x69mport.loaded._sre") 183) (.bool true)), (DictEntry.mk (PyData.keyHash P (Str.ofString "class._frozen_importlib.BuiltinImporter")) (.str (Str.ofString "class._frozen_importlib.BuiltinImporter") 185) (.ref 14)), (DictEntry.mk (PyData.keyHash P (Str.ofString "watched.\x69mport")) (.str (Str.ofString "watched.\x69mport") 206) (.ref 18)), (DictEntry.mk (PyData.keyHash P (Str.ofString "class._frozen_importlib.ModuleSpec")) (.str (Str.ofString "class._frozen_importlib.ModuleSpec") 216) (.ref 22)), (DictEntry.mk (PyData.keyHash P (Str.ofString "sys.modules.booked-epoch")) (.str (Str.ofString "sys.modules.booked-epoch") 245) (.int (Int.ofNat 5) 0)), (DictEntry.mk (PyData.keyHash P (Str.ofString "\x69mport.later-laid._sre")) (.str (Str.ofString "\x69mport.later-laid._sre") 270) (.bool true)), (DictEntry.mk (PyData.keyHash P (Str.ofString "watched.library")) (.str (Str.ofString "watched.library") 272) (.ref 27)), (DictEntry.mk (PyData.keyHash P (Str.ofString "watched.library-objects")) (.str (Str.ofString "watched.library-objects") 0) (.str (Str.ofString "\u000c\u001e3") 0)), (DictEntry.mk (PyData.keyHash P (Str.ofString "watched.library-deep._sre")) (.str (Str.ofString "watched.library-deep._sre") 273) (.str (Str.ofString "\u0004\u0000\u0000\u000b\u0004\u0000\u0000\u000b\u0004\u0000\u0000\u0003\u0004\u0000\u0000\u000b\u0008\u0004dict\u0002") 0)), (DictEntry.mk (PyData.keyHash P (Str.ofString "\x69mport.loaded.math")) (.str (Str.ofString "\x69mport.loaded.math") 280) (.bool true)), (DictEntry.mk (PyData.keyHash P (Str.ofString "class._frozen_importlib_external._LoaderBasics")) (.str (Str.ofString "class._frozen_importlib_external._LoaderBasics") 285) (.ref 33)), (DictEntry.mk (PyData.keyHash P (Str.ofString "class._frozen_importlib_external.FileLoader")) (.str (Str.ofString "class._frozen_importlib_external.FileLoader") 301) (.ref 38)), (DictEntry.mk (PyData.keyHash P (Str.ofString "class._frozen_importlib_external.ExtensionFileLoader")) (.str (Str.ofString "class._frozen_importlib_external.ExtensionFileLoader") 322) (.ref 43)), (DictEntry.mk (PyData.keyHash P (Str.ofString "\x69mport.later-laid.math")) (.str (Str.ofString "\x69mport.later-laid.math") 428) (.bool true)), (DictEntry.mk (PyData.keyHash P (Str.ofString "\x69mport.loaded.unicodedata")) (.str (Str.ofString "\x69mport.loaded.unicodedata") 440) (.bool true)), (DictEntry.mk (PyData.keyHash P (Str.ofString "\x69mport.later-laid.unicodedata")) (.str (Str.ofString "\x69mport.later-laid.unicodedata") 483) (.bool true)), (DictEntry.mk (PyData.keyHash P (Str.ofString "watched.library-deep.unicodedata")) (.str (Str.ofString "watched.library-deep.unicodedata") 485) (.str (Str.ofString "\u0004\u0000\u00002\u0004\u0000\u00009\u0004\u0000\u0000\u0006\u0004\u0000\u00002\u0008\u0004dict\u0002\u0004\u0000\u00009\u0008\u000funicodedata.UCD\u0002") 0))] 17), #[]⟩) ::
  (nat_lit 3, ⟨(.type "dict"), none, (.dict #[(DictEntry.mk (PyData.keyHash P (Str.ofString "__name__")) (.str (Str.ofString "__name__") 165) (.str (Str.ofString "law_az6014_02") 2330)), (DictEntry.mk (PyData.keyHash P (Str.ofString "__doc__")) (.str (Str.ofString "__doc__") 166) .none), (DictEntry.mk (PyData.keyHash P (Str.ofString "__package__")) (.str (Str.ofString "__package__") 167) .none), (DictEntry.mk (PyData.keyHash P (Str.ofString "__loader__")) (.str (Str.ofString "__loader__") 168) (.builtin "__main__.__loader__#opaque")), (DictEntry.mk (PyData.keyHash P (Str.ofString "__spec__")) (.str (Str.ofString "__spec__") 169) .none), (DictEntry.mk (PyData.keyHash P (Str.ofString "__annotations__")) (.str (Str.ofString "__annotations__") 170) (.ref 6)), (DictEntry.mk (PyData.keyHash P (Str.ofString "__builtins__")) (.str (Str.ofString "__builtins__") 171) (.ref 4)), (DictEntry.mk (PyData.keyHash P (Str.ofString "__file__")) (.str (Str.ofString "__file__") 173) (.str (Str.ofString "/claim/cut.py") 172)), (DictEntry.mk (PyData.keyHash P (Str.ofString "__cached__")) (.str (Str.ofString "__cached__") 174) .none), (DictEntry.mk (PyData.keyHash P (Str.ofString "_sre")) (.str (Str.ofString "_sre") 275) (.ref 12)), (DictEntry.mk (PyData.keyHash P (Str.ofString "isnan")) (.str (Str.ofString "isnan") 435) (.builtin "math.isnan")), (DictEntry.mk (PyData.keyHash P (Str.ofString "category")) (.str (Str.ofString "category") 491) (.builtin "unicodedata.category")), (DictEntry.mk (PyData.keyHash P (Str.ofString "_wall")) (.str (Str.ofString "_wall") 504) (.ref 68)), (DictEntry.mk (PyData.keyHash P (Str.ofString "_reserved_word_re")) (.str (Str.ofString "_reserved_word_re") 1155) (.ref 73)), (DictEntry.mk (PyData.keyHash P (Str.ofString "_OWN_NAMES")) (.str (Str.ofString "_OWN_NAMES") 1163) (.ref 74)), (DictEntry.mk (PyData.keyHash P (Str.ofString "mappingproxy")) (.str (Str.ofString "mappingproxy") 1371) (.ref 255)), (DictEntry.mk (PyData.keyHash P (Str.ofString "_MEMBERS_VIEW")) (.str (Str.ofString "_MEMBERS_VIEW") 1372) (.ref 255)), (DictEntry.mk (PyData.keyHash P (Str.ofString "EnumType")) (.str (Str.ofString "EnumType") 1632) (.ref 471)), (DictEntry.mk (PyData.keyHash P (Str.ofString "_EnumField")) (.str (Str.ofString "_EnumField") 1687) (.ref 513)), (DictEntry.mk (PyData.keyHash P (Str.ofString "Enum")) (.str (Str.ofString "Enum") 1874) (.ref 637)), (DictEntry.mk (PyData.keyHash P (Str.ofString "QuoteStyle")) (.str (Str.ofString "QuoteStyle") 1921) (.ref 660)), (DictEntry.mk (PyData.keyHash P (Str.ofString "_lay_QuoteStyle")) (.str (Str.ofString "_lay_QuoteStyle") 1935) (.ref 673)), (DictEntry.mk (PyData.keyHash P (Str.ofString "JSON5Encoder")) (.str (Str.ofString "JSON5Encoder") 2322) (.ref 845)), (DictEntry.mk (PyData.keyHash P (Str.ofString "_raise_type_error")) (.str (Str.ofString "_raise_type_error") 2329) (.ref 856)), (DictEntry.mk (PyData.keyHash P (Str.ofString "_LAW_TEXTS")) (.str (Str.ofString "_LAW_TEXTS") 2336) (.ref 857)), (DictEntry.mk (PyData.keyHash P (Str.ofString "_LAW_CUTS")) (.str (Str.ofString "_LAW_CUTS") 2343) (.ref 861)), (DictEntry.mk (PyData.keyHash P (Str.ofString "_law_number")) (.str (Str.ofString "_law_number") 2351) (.ref 868)), (DictEntry.mk (PyData.keyHash P (Str.ofString "_law_indent")) (.str (Str.ofString "_law_indent") 2359) (.ref 875)), (DictEntry.mk (PyData.keyHash P (Str.ofString "_law_unit")) (.str (Str.ofString "_law_unit") 2366) (.ref 882)), (DictEntry.mk (PyData.keyHash P (Str.ofString "_law_pair")) (.str (Str.ofString "_law_pair") 2377) (.ref 889)), (DictEntry.mk (PyData.keyHash P (Str.ofString "_law_holds")) (.str (Str.ofString "_law_holds") 2392) (.ref 896)), (DictEntry.mk (PyData.keyHash P (Str.ofString "law")) (.str (Str.ofString "law") 2405) (.ref 903))] 32), #[]⟩) ::
  (nat_lit 723, ⟨(.type "dict"), none, (.dict #[(DictEntry.mk (PyData.keyHash P (Str.ofString "skipkeys")) (.str (Str.ofString "skipkeys") 2094) (.bool false)), (DictEntry.mk (PyData.keyHash P (Str.ofString "ensure_ascii")) (.str (Str.ofString "ensure_ascii") 2095) (.bool true)), (DictEntry.mk (PyData.keyHash P (Str.ofString "allow_nan")) (.str (Str.ofString "allow_nan") 2096) (.bool true)), (DictEntry.mk (PyData.keyHash P (Str.ofString "indent")) (.str (Str.ofString "indent") 2097) .none), (DictEntry.mk (PyData.keyHash P (Str.ofString "separators")) (.str (Str.ofString "separators") 2098) .none), (DictEntry.mk (PyData.keyHash P (Str.ofString "default")) (.str (Str.ofString "default") 2099) .none), (DictEntry.mk (PyData.keyHash P (Str.ofString "sort_keys")) (.str (Str.ofString "sort_keys") 2100) (.bool false)), (DictEntry.mk (PyData.keyHash P (Str.ofString "quote_keys")) (.str (Str.ofString "quote_keys") 2101) (.bool false)), (DictEntry.mk (PyData.keyHash P (Str.ofString "trailing_commas")) (.str (Str.ofString "trailing_commas") 2102) (.bool true)), (DictEntry.mk (PyData.keyHash P (Str.ofString "allow_duplicate_keys")) (.str (Str.ofString "allow_duplicate_keys") 2103) (.bool true)), (DictEntry.mk (PyData.keyHash P (Str.ofString "quote_style")) (.str (Str.ofString "quote_style") 2104) (.ref 685))] 11), #[]⟩) ::
  (nat_lit 724, ⟨(.type "tuple"), none, (.seq #[] 0), #[]⟩) ::
  (nat_lit 726, ⟨(.type "tuple"), none, (.seq #[(.str (Str.ofString "self") 2108), (.str (Str.ofString "skipkeys") 2109), (.str (Str.ofString "ensure_ascii") 2110), (.str (Str.ofString "allow_nan") 2111), (.str (Str.ofString "indent") 2112), (.str (Str.ofString "separators") 2113), (.str (Str.ofString "default") 2114), (.str (Str.ofString "sort_keys") 2115), (.str (Str.ofString "quote_keys") 2116), (.str (Str.ofString "trailing_commas") 2117), (.str (Str.ofString "allow_duplicate_keys") 2118), (.str (Str.ofString "quote_style") 2119)] 0), #[]⟩) ::
  (nat_lit 727, ⟨(.type "tuple"), none, (.seq #[] 0), #[]⟩) ::
  (nat_lit 729, ⟨(.type "code"), none, (.fields #[(.str (Str.ofString "__init__") 2105), (.str (Str.ofString "JSON5Encoder.__init__") 2106), (.str (Str.ofString "/claim/cut.py") 2107), (.int (Int.ofNat 373) 0), (.int (Int.ofNat 1) 0), (.int (Int.ofNat 0) 0), (.int (Int.ofNat 11) 0), (.int (Int.ofNat 3) 0), (.ref 724), (.bool true), (.int (Int.ofNat 492) 0), (.ref 725), .none, (.ref 726), (.ref 727), (.ref 728), (.int (Int.ofNat 2120) 0), (.int (Int.ofNat 373) 0), (.str (Str.ofString "/claim/cut.py") 2121)]), #[]⟩) ::
  (nat_lit 730, ⟨(.type "function"), none, (.func (fD (mAt 16 0) (Str.ofString "JSON5Encoder.__init__") 3 [] .none (.ref 723) .none (.str (Str.ofString "json5.lib") 1875) none (.ref 729) .none 0)), #[]⟩) ::
  (nat_lit 731, ⟨(.type "tuple"), none, (.seq #[] 0), #[]⟩) ::
  (nat_lit 733, ⟨(.type "tuple"), none, (.seq #[(.str (Str.ofString "self") 2126), (.str (Str.ofString "obj") 2127)] 0), #[]⟩) ::
  (nat_lit 734, ⟨(.type "tuple"), none, (.seq #[] 0), #[]⟩) ::
  (nat_lit 736, ⟨(.type "code"), none, (.fields #[(.str (Str.ofString "default") 2123), (.str (Str.ofString "JSON5Encoder.default") 2124), (.str (Str.ofString "/claim/cut.py") 2125), (.int (Int.ofNat 389) 0), (.int (Int.ofNat 2) 0), (.int (Int.ofNat 0) 0), (.int (Int.ofNat 0) 0), (.int (Int.ofNat 3) 0), (.ref 731), (.bool true), (.int (Int.ofNat 492) 0), (.ref 732), .none, (.ref 733), (.ref 734), (.ref 735), (.int (Int.ofNat 2128) 0), (.int (Int.ofNat 389) 0), (.str (Str.ofString "/claim/cut.py") 2129)]), #[]⟩) ::
  (nat_lit 737, ⟨(.type "function"), none, (.func (fD (mAt 16 1) (Str.ofString "JSON5Encoder.default") 3 [] .none .none .none (.str (Str.ofString "json5.lib") 1875) none (.ref 736) .none 0)), #[]⟩) ::
  (nat_lit 738, ⟨(.type "tuple"), none, (.seq #[] 0), #[]⟩) ::
  (nat_lit 740, ⟨(.type "tuple"), none, (.seq #[(.str (Str.ofString "self") 2134), (.str (Str.ofString "obj") 2135), (.str (Str.ofString "seen") 2136), (.str (Str.ofString "level") 2137), (.str (Str.ofString "as_key") 2138), (.str (Str.ofString "s") 2139)] 0), #[]⟩) ::
  (nat_lit 741, ⟨(.type "tuple"), none, (.seq #[] 0), #[]⟩) ::
  (nat_lit 743, ⟨(.type "code"), none, (.fields #[(.str (Str.ofString "encoded") 2131), (.str (Str.ofString "JSON5Encoder.encoded") 2132), (.str (Str.ofString "/claim/cut.py") 2133), (.int (Int.ofNat 392) 0), (.int (Int.ofNat 4) 0), (.int (Int.ofNat 0) 0), (.int (Int.ofNat 1) 0), (.int (Int.ofNat 3) 0), (.ref 738), (.bool true), (.int (Int.ofNat 492) 0), (.ref 739), .none, (.ref 740), (.ref 741), (.ref 742), (.int (Int.ofNat 2140) 0), (.int (Int.ofNat 392) 0), (.str (Str.ofString "/claim/cut.py") 2141)]), #[]⟩) ::
  (nat_lit 744, ⟨(.type "function"), none, (.func (fD (mAt 16 2) (Str.ofString "JSON5Encoder.encoded") 3 [] .none .none .none (.str (Str.ofString "json5.lib") 1875) none (.ref 743) .none 0)), #[]⟩) ::
  (nat_lit 745, ⟨(.type "tuple"), none, (.seq #[] 0), #[]⟩) ::
  (nat_lit 747, ⟨(.type "tuple"), none, (.seq #[(.str (Str.ofString "self") 2146), (.str (Str.ofString "obj") 2147), (.str (Str.ofString "as_key") 2148)] 0), #[]⟩) ::
  (nat_lit 748, ⟨(.type "tuple"), none, (.seq #[] 0), #[]⟩) ::
  (nat_lit 750, ⟨(.type "code"), none, (.fields #[(.str (Str.ofString "_encode_basic_type") 2143), (.str (Str.ofString "JSON5Encoder._encode_basic_type") 2144), (.str (Str.ofString "/claim/cut.py") 2145), (.int (Int.ofNat 401) 0), (.int (Int.ofNat 2) 0), (.int (Int.ofNat 0) 0), (.int (Int.ofNat 1) 0), (.int (Int.ofNat 3) 0), (.ref 745), (.bool true), (.int (Int.ofNat 492) 0), (.ref 746), .none, (.ref 747), (.ref 748), (.ref 749), (.int (Int.ofNat 2149) 0), (.int (Int.ofNat 401) 0), (.str (Str.ofString "/claim/cut.py") 2150)]), #[]⟩) ::
  (nat_lit 751, ⟨(.type "function"), none, (.func (fD (mAt 16 3) (Str.ofString "JSON5Encoder._encode_basic_type") 3 [] .none .none .none (.str (Str.ofString "json5.lib") 1875) none (.ref 750) .none 0)), #[]⟩) ::
  (nat_lit 752, ⟨(.type "tuple"), none, (.seq #[] 0), #[]⟩) ::
  (nat_lit 754, ⟨(.type "tuple"), none, (.seq #[(.str (Str.ofString "self") 2155), (.str (Str.ofString "obj") 2156), (.str (Str.ofString "as_key") 2157), (.str (Str.ofString "s") 2158)] 0), #[]⟩) ::
  (nat_lit 755, ⟨(.type "tuple"), none, (.seq #[] 0), #[]⟩) ::
  (nat_lit 757, ⟨(.type "code"), none, (.fields #[(.str (Str.ofString "_encode_int") 2152), (.str (Str.ofString "JSON5Encoder._encode_int") 2153), (.str (Str.ofString "/claim/cut.py") 2154), (.int (Int.ofNat 416) 0), (.int (Int.ofNat 2) 0), (.int (Int.ofNat 0) 0), (.int (Int.ofNat 1) 0), (.int (Int.ofNat 3) 0), (.ref 752), (.bool true), (.int (Int.ofNat 492) 0), (.ref 753), .none, (.ref 754), (.ref 755), (.ref 756), (.int (Int.ofNat 2159) 0), (.int (Int.ofNat 416) 0), (.str (Str.ofString "/claim/cut.py") 2160)]), #[]⟩) ::
  (nat_lit 758, ⟨(.type "function"), none, (.func (fD (mAt 16 4) (Str.ofString "JSON5Encoder._encode_int") 3 [] .none .none .none (.str (Str.ofString "json5.lib") 1875) none (.ref 757) .none 0)), #[]⟩) ::
  (nat_lit 759, ⟨(.type "tuple"), none, (.seq #[] 0), #[]⟩) ::
  (nat_lit 761, ⟨(.type "tuple"), none, (.seq #[(.str (Str.ofString "self") 2165), (.str (Str.ofString "obj") 2166), (.str (Str.ofString "as_key") 2167), (.str (Str.ofString "allowed") 2168), (.str (Str.ofString "s") 2169)] 0), #[]⟩) ::
  (nat_lit 762, ⟨(.type "tuple"), none, (.seq #[] 0), #[]⟩) ::
  (nat_lit 764, ⟨(.type "code"), none, (.fields #[(.str (Str.ofString "_encode_float") 2162), (.str (Str.ofString "JSON5Encoder._encode_float") 2163), (.str (Str.ofString "/claim/cut.py") 2164), (.int (Int.ofNat 420) 0), (.int (Int.ofNat 2) 0), (.int (Int.ofNat 0) 0), (.int (Int.ofNat 1) 0), (.int (Int.ofNat 3) 0), (.ref 759), (.bool true), (.int (Int.ofNat 492) 0), (.ref 760), .none, (.ref 761), (.ref 762), (.ref 763), (.int (Int.ofNat 2170) 0), (.int (Int.ofNat 420) 0), (.str (Str.ofString "/claim/cut.py") 2171)]), #[]⟩) ::
  (nat_lit 765, ⟨(.type "function"), none, (.func (fD (mAt 16 5) (Str.ofString "JSON5Encoder._encode_float") 3 [] .none .none .none (.str (Str.ofString "json5.lib") 1875) none (.ref 764) .none 0)), #[]⟩) ::
  (nat_lit 766, ⟨(.type "tuple"), none, (.seq #[] 0), #[]⟩) ::
  (nat_lit 768, ⟨(.type "tuple"), none, (.seq #[(.str (Str.ofString "self") 2176), (.str (Str.ofString "obj") 2177), (.str (Str.ofString "as_key") 2178)] 0), #[]⟩) ::
  (nat_lit 769, ⟨(.type "tuple"), none, (.seq #[] 0), #[]⟩) ::
  (nat_lit 771, ⟨(.type "code"), none, (.fields #[(.str (Str.ofString "_encode_str") 2173), (.str (Str.ofString "JSON5Encoder._encode_str") 2174), (.str (Str.ofString "/claim/cut.py") 2175), (.int (Int.ofNat 437) 0), (.int (Int.ofNat 2) 0), (.int (Int.ofNat 0) 0), (.int (Int.ofNat 1) 0), (.int (Int.ofNat 3) 0), (.ref 766), (.bool true), (.int (Int.ofNat 492) 0), (.ref 767), .none, (.ref 768), (.ref 769), (.ref 770), (.int (Int.ofNat 2179) 0), (.int (Int.ofNat 437) 0), (.str (Str.ofString "/claim/cut.py") 2180)]), #[]⟩) ::
  (nat_lit 772, ⟨(.type "function"), none, (.func (fD (mAt 16 6) (Str.ofString "JSON5Encoder._encode_str") 3 [] .none .none .none (.str (Str.ofString "json5.lib") 1875) none (.ref 771) .none 0)), #[]⟩) ::
  (nat_lit 773, ⟨(.type "tuple"), none, (.seq #[] 0), #[]⟩) ::
  (nat_lit 775, ⟨(.type "tuple"), none, (.seq #[(.str (Str.ofString "self") 2185), (.str (Str.ofString "obj") 2186), (.str (Str.ofString "quote_style") 2187), (.str (Str.ofString "ret") 2188), (.str (Str.ofString "double_quotes_seen") 2189), (.str (Str.ofString "single_quotes_seen") 2190), (.str (Str.ofString "sq") 2191), (.str (Str.ofString "dq") 2192), (.str (Str.ofString "ch") 2193), (.str (Str.ofString "encoded_ch") 2194), (.str (Str.ofString "o") 2195)] 0), #[]⟩) ::
  (nat_lit 776, ⟨(.type "tuple"), none, (.seq #[] 0), #[]⟩) ::
  (nat_lit 778, ⟨(.type "code"), none, (.fields #[(.str (Str.ofString "_encode_quoted_str") 2182), (.str (Str.ofString "JSON5Encoder._encode_quoted_str") 2183), (.str (Str.ofString "/claim/cut.py") 2184), (.int (Int.ofNat 442) 0), (.int (Int.ofNat 3) 0), (.int (Int.ofNat 0) 0), (.int (Int.ofNat 0) 0), (.int (Int.ofNat 3) 0), (.ref 773), (.bool true), (.int (Int.ofNat 492) 0), (.ref 774), .none, (.ref 775), (.ref 776), (.ref 777), (.int (Int.ofNat 2196) 0), (.int (Int.ofNat 442) 0), (.str (Str.ofString "/claim/cut.py") 2197)]), #[]⟩) ::
  (nat_lit 779, ⟨(.type "function"), none, (.func (fD (mAt 16 7) (Str.ofString "JSON5Encoder._encode_quoted_str") 3 [] .none .none .none (.str (Str.ofString "json5.lib") 1875) none (.ref 778) .none 0)), #[]⟩) ::
  (nat_lit 780, ⟨(.type "tuple"), none, (.seq #[] 0), #[]⟩) ::
  (nat_lit 782, ⟨(.type "tuple"), none, (.seq #[(.str (Str.ofString "self") 2202), (.str (Str.ofString "ch") 2203), (.str (Str.ofString "o") 2204), (.str (Str.ofString "val") 2205), (.str (Str.ofString "high") 2206), (.str (Str.ofString "low") 2207)] 0), #[]⟩) ::
  (nat_lit 783, ⟨(.type "tuple"), none, (.seq #[] 0), #[]⟩) ::
  (nat_lit 785, ⟨(.type "code"), none, (.fields #[(.str (Str.ofString "_escape_ch") 2199), (.str (Str.ofString "JSON5Encoder._escape_ch") 2200), (.str (Str.ofString "/claim/cut.py") 2201), (.int (Int.ofNat 480) 0), (.int (Int.ofNat 2) 0), (.int (Int.ofNat 0) 0), (.int (Int.ofNat 0) 0), (.int (Int.ofNat 3) 0), (.ref 780), (.bool true), (.int (Int.ofNat 492) 0), (.ref 781), .none, (.ref 782), (.ref 783), (.ref 784), (.int (Int.ofNat 2208) 0), (.int (Int.ofNat 480) 0), (.str (Str.ofString "/claim/cut.py") 2209)]), #[]⟩) ::
  (nat_lit 786, ⟨(.type "function"), none, (.func (fD (mAt 16 8) (Str.ofString "JSON5Encoder._escape_ch") 3 [] .none .none .none (.str (Str.ofString "json5.lib") 1875) none (.ref 785) .none 0)), #[]⟩) ::
  (nat_lit 787, ⟨(.type "tuple"), none, (.seq #[] 0), #[]⟩) ::
  (nat_lit 789, ⟨(.type "tuple"), none, (.seq #[(.str (Str.ofString "self") 2214), (.str (Str.ofString "obj") 2215), (.str (Str.ofString "seen") 2216), (.str (Str.ofString "level") 2217), (.str (Str.ofString "s") 2218)] 0), #[]⟩) ::
  (nat_lit 790, ⟨(.type "tuple"), none, (.seq #[] 0), #[]⟩) ::
  (nat_lit 792, ⟨(.type "code"), none, (.fields #[(.str (Str.ofString "_encode_non_basic_type") 2211), (.str (Str.ofString "JSON5Encoder._encode_non_basic_type") 2212), (.str (Str.ofString "/claim/cut.py") 2213), (.int (Int.ofNat 509) 0), (.int (Int.ofNat 4) 0), (.int (Int.ofNat 0) 0), (.int (Int.ofNat 0) 0), (.int (Int.ofNat 3) 0), (.ref 787), (.bool true), (.int (Int.ofNat 492) 0), (.ref 788), .none, (.ref 789), (.ref 790), (.ref 791), (.int (Int.ofNat 2219) 0), (.int (Int.ofNat 509) 0), (.str (Str.ofString "/claim/cut.py") 2220)]), #[]⟩) ::
  (nat_lit 793, ⟨(.type "function"), none, (.func (fD (mAt 16 9) (Str.ofString "JSON5Encoder._encode_non_basic_type") 3 [] .none .none .none (.str (Str.ofString "json5.lib") 1875) none (.ref 792) .none 0)), #[]⟩) ::
  (nat_lit 794, ⟨(.type "tuple"), none, (.seq #[] 0), #[]⟩) ::
  (nat_lit 796, ⟨(.type "tuple"), none, (.seq #[(.str (Str.ofString "self") 2225), (.str (Str.ofString "obj") 2226), (.str (Str.ofString "seen") 2227), (.str (Str.ofString "level") 2228), (.str (Str.ofString "indent_str") 2229), (.str (Str.ofString "end_str") 2230), (.str (Str.ofString "item_sep") 2231), (.str (Str.ofString "kv_sep") 2232), (.str (Str.ofString "keys") 2233), (.str (Str.ofString "s") 2234), (.str (Str.ofString "first_key") 2235), (.str (Str.ofString "new_keys") 2236), (.str (Str.ofString "key") 2237), (.str (Str.ofString "key_str") 2238), (.str (Str.ofString "val_str") 2239)] 0), #[]⟩) ::
  (nat_lit 797, ⟨(.type "tuple"), none, (.seq #[] 0), #[]⟩) ::
  (nat_lit 799, ⟨(.type "code"), none, (.fields #[(.str (Str.ofString "_encode_dict") 2222), (.str (Str.ofString "JSON5Encoder._encode_dict") 2223), (.str (Str.ofString "/claim/cut.py") 2224), (.int (Int.ofNat 519) 0), (.int (Int.ofNat 4) 0), (.int (Int.ofNat 0) 0), (.int (Int.ofNat 0) 0), (.int (Int.ofNat 3) 0), (.ref 794), (.bool true), (.int (Int.ofNat 492) 0), (.ref 795), .none, (.ref 796), (.ref 797), (.ref 798), (.int (Int.ofNat 2240) 0), (.int (Int.ofNat 519) 0), (.str (Str.ofString "/claim/cut.py") 2241)]), #[]⟩) ::
  (nat_lit 800, ⟨(.type "function"), none, (.func (fD (mAt 16 10) (Str.ofString "JSON5Encoder._encode_dict") 3 [] .none .none .none (.str (Str.ofString "json5.lib") 1875) none (.ref 799) .none 0)), #[]⟩) ::
  (nat_lit 801, ⟨(.type "tuple"), none, (.seq #[] 0), #[]⟩) ::
  (nat_lit 803, ⟨(.type "tuple"), none, (.seq #[(.str (Str.ofString "self") 2246), (.str (Str.ofString "obj") 2247), (.str (Str.ofString "seen") 2248), (.str (Str.ofString "level") 2249), (.str (Str.ofString "indent_str") 2250), (.str (Str.ofString "end_str") 2251), (.str (Str.ofString "item_sep") 2252)] 0), #[]⟩) ::
  (nat_lit 804, ⟨(.type "tuple"), none, (.seq #[(.str (Str.ofString "self") 2253), (.str (Str.ofString "seen") 2254), (.str (Str.ofString "level") 2255)] 0), #[]⟩) ::
  (nat_lit 806, ⟨(.type "code"), none, (.fields #[(.str (Str.ofString "_encode_array") 2243), (.str (Str.ofString "JSON5Encoder._encode_array") 2244), (.str (Str.ofString "/claim/cut.py") 2245), (.int (Int.ofNat 552) 0), (.int (Int.ofNat 4) 0), (.int (Int.ofNat 0) 0), (.int (Int.ofNat 0) 0), (.int (Int.ofNat 3) 0), (.ref 801), (.bool true), (.int (Int.ofNat 492) 0), (.ref 802), .none, (.ref 803), (.ref 804), (.ref 805), (.int (Int.ofNat 2256) 0), (.int (Int.ofNat 552) 0), (.str (Str.ofString "/claim/cut.py") 2257)]), #[]⟩) ::
  (nat_lit 807, ⟨(.type "function"), none, (.func (fD (mAt 16 11) (Str.ofString "JSON5Encoder._encode_array") 3 [] .none .none .none (.str (Str.ofString "json5.lib") 1875) none (.ref 806) .none 0)), #[]⟩) ::
  (nat_lit 808, ⟨(.type "tuple"), none, (.seq #[] 0), #[]⟩) ::
  (nat_lit 810, ⟨(.type "tuple"), none, (.seq #[(.str (Str.ofString "self") 2262), (.str (Str.ofString "level") 2263), (.str (Str.ofString "end_str") 2264), (.str (Str.ofString "indent_str") 2265)] 0), #[]⟩) ::
  (nat_lit 811, ⟨(.type "tuple"), none, (.seq #[] 0), #[]⟩) ::
  (nat_lit 813, ⟨(.type "code"), none, (.fields #[(.str (Str.ofString "_spacers") 2259), (.str (Str.ofString "JSON5Encoder._spacers") 2260), (.str (Str.ofString "/claim/cut.py") 2261), (.int (Int.ofNat 559) 0), (.int (Int.ofNat 2) 0), (.int (Int.ofNat 0) 0), (.int (Int.ofNat 0) 0), (.int (Int.ofNat 3) 0), (.ref 808), (.bool true), (.int (Int.ofNat 492) 0), (.ref 809), .none, (.ref 810), (.ref 811), (.ref 812), (.int (Int.ofNat 2266) 0), (.int (Int.ofNat 559) 0), (.str (Str.ofString "/claim/cut.py") 2267)]), #[]⟩) ::
  (nat_lit 814, ⟨(.type "function"), none, (.func (fD (mAt 16 12) (Str.ofString "JSON5Encoder._spacers") 3 [] .none .none .none (.str (Str.ofString "json5.lib") 1875) none (.ref 813) .none 0)), #[]⟩) ::
  (nat_lit 815, ⟨(.type "tuple"), none, (.seq #[] 0), #[]⟩) ::
  (nat_lit 817, ⟨(.type "tuple"), none, (.seq #[(.str (Str.ofString "self") 2272), (.str (Str.ofString "key") 2273), (.str (Str.ofString "ch") 2274)] 0), #[]⟩) ::
  (nat_lit 818, ⟨(.type "tuple"), none, (.seq #[] 0), #[]⟩) ::
  (nat_lit 820, ⟨(.type "code"), none, (.fields #[(.str (Str.ofString "is_identifier") 2269), (.str (Str.ofString "JSON5Encoder.is_identifier") 2270), (.str (Str.ofString "/claim/cut.py") 2271), (.int (Int.ofNat 579) 0), (.int (Int.ofNat 2) 0), (.int (Int.ofNat 0) 0), (.int (Int.ofNat 0) 0), (.int (Int.ofNat 3) 0), (.ref 815), (.bool true), (.int (Int.ofNat 492) 0), (.ref 816), .none, (.ref 817), (.ref 818), (.ref 819), (.int (Int.ofNat 2275) 0), (.int (Int.ofNat 579) 0), (.str (Str.ofString "/claim/cut.py") 2276)]), #[]⟩) ::
  (nat_lit 821, ⟨(.type "function"), none, (.func (fD (mAt 16 13) (Str.ofString "JSON5Encoder.is_identifier") 3 [] .none .none .none (.str (Str.ofString "json5.lib") 1875) none (.ref 820) .none 0)), #[]⟩) ::
  (nat_lit 822, ⟨(.type "tuple"), none, (.seq #[] 0), #[]⟩) ::
  (nat_lit 824, ⟨(.type "tuple"), none, (.seq #[(.str (Str.ofString "self") 2281), (.str (Str.ofString "ch") 2282)] 0), #[]⟩) ::
  (nat_lit 825, ⟨(.type "tuple"), none, (.seq #[] 0), #[]⟩) ::
  (nat_lit 827, ⟨(.type "code"), none, (.fields #[(.str (Str.ofString "_is_id_start") 2278), (.str (Str.ofString "JSON5Encoder._is_id_start") 2279), (.str (Str.ofString "/claim/cut.py") 2280), (.int (Int.ofNat 587) 0), (.int (Int.ofNat 2) 0), (.int (Int.ofNat 0) 0), (.int (Int.ofNat 0) 0), (.int (Int.ofNat 3) 0), (.ref 822), (.bool true), (.int (Int.ofNat 492) 0), (.ref 823), .none, (.ref 824), (.ref 825), (.ref 826), (.int (Int.ofNat 2283) 0), (.int (Int.ofNat 587) 0), (.str (Str.ofString "/claim/cut.py") 2284)]), #[]⟩) ::
  (nat_lit 828, ⟨(.type "function"), none, (.func (fD (mAt 16 14) (Str.ofString "JSON5Encoder._is_id_start") 3 [] .none .none .none (.str (Str.ofString "json5.lib") 1875) none (.ref 827) .none 0)), #[]⟩) ::
  (nat_lit 829, ⟨(.type "tuple"), none, (.seq #[] 0), #[]⟩) ::
  (nat_lit 831, ⟨(.type "tuple"), none, (.seq #[(.str (Str.ofString "self") 2289), (.str (Str.ofString "ch") 2290)] 0), #[]⟩) ::
  (nat_lit 832, ⟨(.type "tuple"), none, (.seq #[] 0), #[]⟩) ::
  (nat_lit 834, ⟨(.type "code"), none, (.fields #[(.str (Str.ofString "_is_id_continue") 2286), (.str (Str.ofString "JSON5Encoder._is_id_continue") 2287), (.str (Str.ofString "/claim/cut.py") 2288), (.int (Int.ofNat 590) 0), (.int (Int.ofNat 2) 0), (.int (Int.ofNat 0) 0), (.int (Int.ofNat 0) 0), (.int (Int.ofNat 3) 0), (.ref 829), (.bool true), (.int (Int.ofNat 492) 0), (.ref 830), .none, (.ref 831), (.ref 832), (.ref 833), (.int (Int.ofNat 2291) 0), (.int (Int.ofNat 590) 0), (.str (Str.ofString "/claim/cut.py") 2292)]), #[]⟩) ::
  (nat_lit 835, ⟨(.type "function"), none, (.func (fD (mAt 16 15) (Str.ofString "JSON5Encoder._is_id_continue") 3 [] .none .none .none (.str (Str.ofString "json5.lib") 1875) none (.ref 834) .none 0)), #[]⟩) ::
  (nat_lit 836, ⟨(.type "tuple"), none, (.seq #[] 0), #[]⟩) ::
  (nat_lit 838, ⟨(.type "tuple"), none, (.seq #[(.str (Str.ofString "self") 2297), (.str (Str.ofString "key") 2298)] 0), #[]⟩) ::
  (nat_lit 839, ⟨(.type "tuple"), none, (.seq #[] 0), #[]⟩) ::
  (nat_lit 841, ⟨(.type "code"), none, (.fields #[(.str (Str.ofString "is_reserved_word") 2294), (.str (Str.ofString "JSON5Encoder.is_reserved_word") 2295), (.str (Str.ofString "/claim/cut.py") 2296), (.int (Int.ofNat 593) 0), (.int (Int.ofNat 2) 0), (.int (Int.ofNat 0) 0), (.int (Int.ofNat 0) 0), (.int (Int.ofNat 3) 0), (.ref 836), (.bool true), (.int (Int.ofNat 492) 0), (.ref 837), .none, (.ref 838), (.ref 839), (.ref 840), (.int (Int.ofNat 2299) 0), (.int (Int.ofNat 593) 0), (.str (Str.ofString "/claim/cut.py") 2300)]), #[]⟩) ::
  (nat_lit 842, ⟨(.type "function"), none, (.func (fD (mAt 16 16) (Str.ofString "JSON5Encoder.is_reserved_word") 3 [] .none .none .none (.str (Str.ofString "json5.lib") 1875) none (.ref 841) .none 0)), #[]⟩) ::
  (nat_lit 843, ⟨(.type "tuple"), none, (.seq #[(.str (Str.ofString "allow_duplicate_keys") 2302), (.str (Str.ofString "allow_nan") 2303), (.str (Str.ofString "default_fn") 2304), (.str (Str.ofString "ensure_ascii") 2305), (.str (Str.ofString "indent") 2306), (.str (Str.ofString "item_separator") 2307), (.str (Str.ofString "kv_separator") 2308), (.str (Str.ofString "quote_keys") 2309), (.str (Str.ofString "quote_style") 2310), (.str (Str.ofString "separators") 2311), (.str (Str.ofString "skipkeys") 2312), (.str (Str.ofString "sort_keys") 2313), (.str (Str.ofString "trailing_commas") 2314)] 0), #[]⟩) ::
  (nat_lit 844, ⟨(.type "dict"), none, (.dict #[(DictEntry.mk (PyData.keyHash P (Str.ofString "__module__")) (.str (Str.ofString "__module__") 2088) (.str (Str.ofString "json5.lib") 1875)), (DictEntry.mk (PyData.keyHash P (Str.ofString "__firstlineno__")) (.str (Str.ofString "__firstlineno__") 2092) (.int (Int.ofNat 371) 2091)), (DictEntry.mk (PyData.keyHash P (Str.ofString "__init__")) (.str (Str.ofString "__init__") 2122) (.ref 730)), (DictEntry.mk (PyData.keyHash P (Str.ofString "default")) (.str (Str.ofString "default") 2130) (.ref 737)), (DictEntry.mk (PyData.keyHash P (Str.ofString "encoded")) (.str (Str.ofString "encoded") 2142) (.ref 744)), (DictEntry.mk (PyData.keyHash P (Str.ofString "_encode_basic_type")) (.str (Str.ofString "_encode_basic_type") 2151) (.ref 751)), (DictEntry.mk (PyData.keyHash P (Str.ofString "_encode_int")) (.str (Str.ofString "_encode_int") 2161) (.ref 758)), (DictEntry.mk (PyData.keyHash P (Str.ofString "_encode_float")) (.str (Str.ofString "_encode_float") 2172) (.ref 765)), (DictEntry.mk (PyData.keyHash P (Str.ofString "_encode_str")) (.str (Str.ofString "_encode_str") 2181) (.ref 772)), (DictEntry.mk (PyData.keyHash P (Str.ofString "_encode_quoted_str")) (.str (Str.ofString "_encode_quoted_str") 2198) (.ref 779)), (DictEntry.mk (PyData.keyHash P (Str.ofString "_escape_ch")) (.str (Str.ofString "_escape_ch") 2210) (.ref 786)), (DictEntry.mk (PyData.keyHash P (Str.ofString "_encode_non_basic_type")) (.str (Str.ofString "_encode_non_basic_type") 2221) (.ref 793)), (DictEntry.mk (PyData.keyHash P (Str.ofString "_encode_dict")) (.str (Str.ofString "_encode_dict") 2242) (.ref 800)), (DictEntry.mk (PyData.keyHash P (Str.ofString "_encode_array")) (.str (Str.ofString "_encode_array") 2258) (.ref 807)), (DictEntry.mk (PyData.keyHash P (Str.ofString "_spacers")) (.str (Str.ofString "_spacers") 2268) (.ref 814)), (DictEntry.mk (PyData.keyHash P (Str.ofString "is_identifier")) (.str (Str.ofString "is_identifier") 2277) (.ref 821)), (DictEntry.mk (PyData.keyHash P (Str.ofString "_is_id_start")) (.str (Str.ofString "_is_id_start") 2285) (.ref 828)), (DictEntry.mk (PyData.keyHash P (Str.ofString "_is_id_continue")) (.str (Str.ofString "_is_id_continue") 2293) (.ref 835)), (DictEntry.mk (PyData.keyHash P (Str.ofString "is_reserved_word")) (.str (Str.ofString "is_reserved_word") 2301) (.ref 842)), (DictEntry.mk (PyData.keyHash P (Str.ofString "__static_attributes__")) (.str (Str.ofString "__static_attributes__") 2315) (.ref 843)), (DictEntry.mk (PyData.keyHash P (Str.ofString "__dict__")) (.str (Str.ofString "__dict__") 2317) (.ref 846)), (DictEntry.mk (PyData.keyHash P (Str.ofString "__weakref__")) (.str (Str.ofString "__weakref__") 2319) (.ref 847)), (DictEntry.mk (PyData.keyHash P (Str.ofString "__doc__")) (.str (Str.ofString "__doc__") 2320) .none)] 4), #[]⟩) ::
  (nat_lit 845, ⟨(.type "type"), none, (.cls ⟨(Str.ofString "JSON5Encoder"), [(.type "object")], [(.ref 845), (.type "object")], 844, (Str.ofString "JSON5Encoder"), true, [], [], false, none, false⟩), #[none, none, (some (.str (Str.ofString "JSON5Encoder") 2081)), (some (.str (Str.ofString "JSON5Encoder") 2089)), (some (.builtin "object.__new__")), (some (.bool true))]⟩) ::
  (nat_lit 846, ⟨(.type "getset_descriptor"), none, (.fields #[(.str (Str.ofString "__dict__") 2316), (.ref 845), (.builtin "function.__dict__"), (.builtin "function.__dict__#set")]), #[]⟩) ::
  (nat_lit 847, ⟨(.type "getset_descriptor"), none, (.fields #[(.str (Str.ofString "__weakref__") 2318), (.ref 845), (.builtin "ExceptionGroup.__weakref__"), .none]), #[]⟩) ::
  (nat_lit 850, ⟨(.type "tuple"), none, (.seq #[] 0), #[]⟩) ::
  (nat_lit 852, ⟨(.type "tuple"), none, (.seq #[(.str (Str.ofString "obj") 2326)] 0), #[]⟩) ::
  (nat_lit 853, ⟨(.type "tuple"), none, (.seq #[] 0), #[]⟩) ::
  (nat_lit 855, ⟨(.type "code"), none, (.fields #[(.str (Str.ofString "_raise_type_error") 2323), (.str (Str.ofString "_raise_type_error") 2324), (.str (Str.ofString "/claim/cut.py") 2325), (.int (Int.ofNat 595) 0), (.int (Int.ofNat 1) 0), (.int (Int.ofNat 0) 0), (.int (Int.ofNat 0) 0), (.int (Int.ofNat 3) 0), (.ref 850), (.bool true), (.int (Int.ofNat 492) 0), (.ref 851), .none, (.ref 852), (.ref 853), (.ref 854), (.int (Int.ofNat 2327) 0), (.int (Int.ofNat 595) 0), (.str (Str.ofString "/claim/cut.py") 2328)]), #[]⟩) ::
  (nat_lit 856, ⟨(.type "function"), none, (.func (fD (sAt 17) (Str.ofString "_raise_type_error") 3 [] .none .none .none (.str (Str.ofString "json5.lib") 1875) none (.ref 855) .none 0)), #[]⟩) ::
  (nat_lit 857, ⟨(.type "tuple"), none, (.seq #[(.str (Str.ofString "\t") 2332), (.str (Str.ofString "") 2333), (.str (Str.ofString "--") 2334), (.str (Str.ofString " ") 2335)] 0), #[]⟩) ::
  (nat_lit 858, ⟨(.type "tuple"), none, (.seq #[(.str (Str.ofString ",") 2337), (.str (Str.ofString ":") 2338)] 0), #[]⟩) ::
  (nat_lit 859, ⟨(.type "tuple"), none, (.seq #[(.str (Str.ofString " ; ") 2339), (.str (Str.ofString " = ") 2340)] 0), #[]⟩) ::
  (nat_lit 860, ⟨(.type "tuple"), none, (.seq #[(.str (Str.ofString "") 2341), (.str (Str.ofString "") 2342)] 0), #[]⟩) ::
  (nat_lit 861, ⟨(.type "tuple"), none, (.seq #[.none, (.ref 858), (.ref 859), (.ref 860)] 0), #[]⟩) ::
  (nat_lit 862, ⟨(.type "tuple"), none, (.seq #[] 0), #[]⟩) ::
  (nat_lit 864, ⟨(.type "tuple"), none, (.seq #[(.str (Str.ofString "script") 2347), (.str (Str.ofString "place") 2348)] 0), #[]⟩) ::
  (nat_lit 865, ⟨(.type "tuple"), none, (.seq #[] 0), #[]⟩) ::
  (nat_lit 867, ⟨(.type "code"), none, (.fields #[(.str (Str.ofString "_law_number") 2344), (.str (Str.ofString "_law_number") 2345), (.str (Str.ofString "/claim/cut.py") 2346), (.int (Int.ofNat 600) 0), (.int (Int.ofNat 2) 0), (.int (Int.ofNat 0) 0), (.int (Int.ofNat 0) 0), (.int (Int.ofNat 3) 0), (.ref 862), (.bool true), (.int (Int.ofNat 492) 0), (.ref 863), .none, (.ref 864), (.ref 865), (.ref 866), (.int (Int.ofNat 2349) 0), (.int (Int.ofNat 600) 0), (.str (Str.ofString "/claim/cut.py") 2350)]), #[]⟩) ::
  (nat_lit 868, ⟨(.type "function"), none, (.func (fD (sAt 21) (Str.ofString "_law_number") 3 [] .none .none .none (.str (Str.ofString "law_az6014_02") 2330) none (.ref 867) .none 0)), #[]⟩) ::
  (nat_lit 869, ⟨(.type "tuple"), none, (.seq #[] 0), #[]⟩) ::
  (nat_lit 871, ⟨(.type "tuple"), none, (.seq #[(.str (Str.ofString "pick") 2355), (.str (Str.ofString "kind") 2356)] 0), #[]⟩) ::
  (nat_lit 872, ⟨(.type "tuple"), none, (.seq #[] 0), #[]⟩) ::
  (nat_lit 874, ⟨(.type "code"), none, (.fields #[(.str (Str.ofString "_law_indent") 2352), (.str (Str.ofString "_law_indent") 2353), (.str (Str.ofString "/claim/cut.py") 2354), (.int (Int.ofNat 602) 0), (.int (Int.ofNat 1) 0), (.int (Int.ofNat 0) 0), (.int (Int.ofNat 0) 0), (.int (Int.ofNat 3) 0), (.ref 869), (.bool true), (.int (Int.ofNat 492) 0), (.ref 870), .none, (.ref 871), (.ref 872), (.ref 873), (.int (Int.ofNat 2357) 0), (.int (Int.ofNat 602) 0), (.str (Str.ofString "/claim/cut.py") 2358)]), #[]⟩) ::
  (nat_lit 875, ⟨(.type "function"), none, (.func (fD (sAt 22) (Str.ofString "_law_indent") 3 [] .none .none .none (.str (Str.ofString "law_az6014_02") 2330) none (.ref 874) .none 0)), #[]⟩) ::
  (nat_lit 876, ⟨(.type "tuple"), none, (.seq #[] 0), #[]⟩) ::
  (nat_lit 878, ⟨(.type "tuple"), none, (.seq #[(.str (Str.ofString "indent") 2363)] 0), #[]⟩) ::
  (nat_lit 879, ⟨(.type "tuple"), none, (.seq #[] 0), #[]⟩) ::
  (nat_lit 881, ⟨(.type "code"), none, (.fields #[(.str (Str.ofString "_law_unit") 2360), (.str (Str.ofString "_law_unit") 2361), (.str (Str.ofString "/claim/cut.py") 2362), (.int (Int.ofNat 613) 0), (.int (Int.ofNat 1) 0), (.int (Int.ofNat 0) 0), (.int (Int.ofNat 0) 0), (.int (Int.ofNat 3) 0), (.ref 876), (.bool true), (.int (Int.ofNat 492) 0), (.ref 877), .none, (.ref 878), (.ref 879), (.ref 880), (.int (Int.ofNat 2364) 0), (.int (Int.ofNat 613) 0), (.str (Str.ofString "/claim/cut.py") 2365)]), #[]⟩) ::
  (nat_lit 882, ⟨(.type "function"), none, (.func (fD (sAt 23) (Str.ofString "_law_unit") 3 [] .none .none .none (.str (Str.ofString "law_az6014_02") 2330) none (.ref 881) .none 0)), #[]⟩) ::
  (nat_lit 883, ⟨(.type "tuple"), none, (.seq #[] 0), #[]⟩) ::
  (nat_lit 885, ⟨(.type "tuple"), none, (.seq #[(.str (Str.ofString "indent") 2370), (.str (Str.ofString "trailing") 2371), (.str (Str.ofString "level") 2372), (.str (Str.ofString "unit") 2373), (.str (Str.ofString "steps") 2374)] 0), #[]⟩) ::
  (nat_lit 886, ⟨(.type "tuple"), none, (.seq #[] 0), #[]⟩) ::
  (nat_lit 888, ⟨(.type "code"), none, (.fields #[(.str (Str.ofString "_law_pair") 2367), (.str (Str.ofString "_law_pair") 2368), (.str (Str.ofString "/claim/cut.py") 2369), (.int (Int.ofNat 617) 0), (.int (Int.ofNat 3) 0), (.int (Int.ofNat 0) 0), (.int (Int.ofNat 0) 0), (.int (Int.ofNat 3) 0), (.ref 883), (.bool true), (.int (Int.ofNat 492) 0), (.ref 884), .none, (.ref 885), (.ref 886), (.ref 887), (.int (Int.ofNat 2375) 0), (.int (Int.ofNat 617) 0), (.str (Str.ofString "/claim/cut.py") 2376)]), #[]⟩) ::
  (nat_lit 889, ⟨(.type "function"), none, (.func (fD (sAt 24) (Str.ofString "_law_pair") 3 [] .none .none .none (.str (Str.ofString "law_az6014_02") 2330) none (.ref 888) .none 0)), #[]⟩) ::
  (nat_lit 890, ⟨(.type "tuple"), none, (.seq #[] 0), #[]⟩) ::
  (nat_lit 892, ⟨(.type "tuple"), none, (.seq #[(.str (Str.ofString "writer") 2381), (.str (Str.ofString "indent") 2382), (.str (Str.ofString "trailing") 2383), (.str (Str.ofString "cuts") 2384), (.str (Str.ofString "script") 2385), (.str (Str.ofString "place") 2386), (.str (Str.ofString "level") 2387), (.str (Str.ofString "told") 2388), (.str (Str.ofString "item") 2389)] 0), #[]⟩) ::
  (nat_lit 893, ⟨(.type "tuple"), none, (.seq #[] 0), #[]⟩) ::
  (nat_lit 895, ⟨(.type "code"), none, (.fields #[(.str (Str.ofString "_law_holds") 2378), (.str (Str.ofString "_law_holds") 2379), (.str (Str.ofString "/claim/cut.py") 2380), (.int (Int.ofNat 623) 0), (.int (Int.ofNat 6) 0), (.int (Int.ofNat 0) 0), (.int (Int.ofNat 0) 0), (.int (Int.ofNat 3) 0), (.ref 890), (.bool true), (.int (Int.ofNat 492) 0), (.ref 891), .none, (.ref 892), (.ref 893), (.ref 894), (.int (Int.ofNat 2390) 0), (.int (Int.ofNat 623) 0), (.str (Str.ofString "/claim/cut.py") 2391)]), #[]⟩) ::
  (nat_lit 896, ⟨(.type "function"), none, (.func (fD (sAt 25) (Str.ofString "_law_holds") 3 [] .none .none .none (.str (Str.ofString "law_az6014_02") 2330) none (.ref 895) .none 0)), #[]⟩) ::
  (nat_lit 897, ⟨(.type "tuple"), none, (.seq #[] 0), #[]⟩) ::
  (nat_lit 899, ⟨(.type "tuple"), none, (.seq #[(.str (Str.ofString "script") 2396), (.str (Str.ofString "ways") 2397), (.str (Str.ofString "writers") 2398), (.str (Str.ofString "k") 2399), (.str (Str.ofString "pick") 2400), (.str (Str.ofString "more") 2401), (.str (Str.ofString "good") 2402)] 0), #[]⟩) ::
  (nat_lit 900, ⟨(.type "tuple"), none, (.seq #[] 0), #[]⟩) ::
  (nat_lit 902, ⟨(.type "code"), none, (.fields #[(.str (Str.ofString "law") 2393), (.str (Str.ofString "law") 2394), (.str (Str.ofString "/claim/cut.py") 2395), (.int (Int.ofNat 630) 0), (.int (Int.ofNat 1) 0), (.int (Int.ofNat 0) 0), (.int (Int.ofNat 0) 0), (.int (Int.ofNat 3) 0), (.ref 897), (.bool true), (.int (Int.ofNat 492) 0), (.ref 898), .none, (.ref 899), (.ref 900), (.ref 901), (.int (Int.ofNat 2403) 0), (.int (Int.ofNat 630) 0), (.str (Str.ofString "/claim/cut.py") 2404)]), #[]⟩) ::
  (nat_lit 903, ⟨(.type "function"), none, (.func (fD (sAt 26) (Str.ofString "law") 3 [] .none .none .none (.str (Str.ofString "law_az6014_02") 2330) none (.ref 902) .none 0)), #[]⟩) :: []
noncomputable def KK (P : Params) : Frag :=
  (nat_lit 2, ⟨.none, none, (.dict #[(DictEntry.mk (PyData.keyHash P (Str.ofString "\x69mport.loaded._sre")) (.str (Str.ofString "\x69mport.loaded._sre") 183) (.bool true)), (DictEntry.mk (PyData.keyHash P (Str.ofString "class._frozen_importlib.BuiltinImporter")) (.str (Str.ofString "class._frozen_importlib.BuiltinImporter") 185) (.ref 14)), (DictEntry.mk (PyData.keyHash P (Str.ofString "watched.\x69mport")) (.str (Str.ofString "watched.\x69mport") 206) (.ref 18)), (DictEntry.mk (PyData.keyHash P (Str.ofString "class._frozen_importlib.ModuleSpec")) (.str (Str.ofString "class._frozen_importlib.ModuleSpec") 216) (.ref 22)), (DictEntry.mk (PyData.keyHash P (Str.ofString "sys.modules.booked-epoch")) (.str (Str.ofString "sys.modules.booked-epoch") 245) (.int (Int.ofNat 5) 0)), (DictEntry.mk (PyData.keyHash P (Str.ofString "\x69mport.later-laid._sre")) (.str (Str.ofString "\x69mport.later-laid._sre") 270) (.bool true)), (DictEntry.mk (PyData.keyHash P (Str.ofString "watched.library")) (.str (Str.ofString "watched.library") 272) (.ref 27)), (DictEntry.mk (PyData.keyHash P (Str.ofString "watched.library-objects")) (.str (Str.ofString "watched.library-objects") 0) (.str (Str.ofString "\u000c\u001e3") 0)), (DictEntry.mk (PyData.keyHash P (Str.ofString "watched.library-deep._sre")) (.str (Str.ofString "watched.library-deep._sre") 273) (.str (Str.ofString "\u0004\u0000\u0000\u000b\u0004\u0000\u0000\u000b\u0004\u0000\u0000\u0003\u0004\u0000\u0000\u000b\u0008\u0004dict\u0002") 0)), (DictEntry.mk (PyData.keyHash P (Str.ofString "\x69mport.loaded.math")) (.str (Str.ofString "\x69mport.loaded.math") 280) (.bool true)), (DictEntry.mk (PyData.keyHash P (Str.ofString "class._frozen_importlib_external._LoaderBasics")) (.str (Str.ofString "class._frozen_importlib_external._LoaderBasics") 285) (.ref 33)), (DictEntry.mk (PyData.keyHash P (Str.ofString "class._frozen_importlib_external.FileLoader")) (.str (Str.ofString "class._frozen_importlib_external.FileLoader") 301) (.ref 38)), (DictEntry.mk (PyData.keyHash P (Str.ofString "class._frozen_importlib_external.ExtensionFileLoader")) (.str (Str.ofString "class._frozen_importlib_external.ExtensionFileLoader") 322) (.ref 43)), (DictEntry.mk (PyData.keyHash P (Str.ofString "\x69mport.later-laid.math")) (.str (Str.ofString "\x69mport.later-laid.math") 428) (.bool true)), (DictEntry.mk (PyData.keyHash P (Str.ofString "\x69mport.loaded.unicodedata")) (.str (Str.ofString "\x69mport.loaded.unicodedata") 440) (.bool true)), (DictEntry.mk (PyData.keyHash P (Str.ofString "\x69mport.later-laid.unicodedata")) (.str (Str.ofString "\x69mport.later-laid.unicodedata") 483) (.bool true)), (DictEntry.mk (PyData.keyHash P (Str.ofString "watched.library-deep.unicodedata")) (.str (Str.ofString "watched.library-deep.unicodedata") 485) (.str (Str.ofString "\u0004\u0000\u00002\u0004\u0000\u00009\u0004\u0000\u0000\u0006\u0004\u0000\u00002\u0008\u0004dict\u0002\u0004\u0000\u00009\u0008\u000funicodedata.UCD\u0002") 0))] 17), #[]⟩) ::
  (nat_lit 3, ⟨(.type "dict"), none, (.dict #[(DictEntry.mk (PyData.keyHash P (Str.ofString "__name__")) (.str (Str.ofString "__name__") 165) (.str (Str.ofString "law_az6014_02") 2330)), (DictEntry.mk (PyData.keyHash P (Str.ofString "__doc__")) (.str (Str.ofString "__doc__") 166) .none), (DictEntry.mk (PyData.keyHash P (Str.ofString "__package__")) (.str (Str.ofString "__package__") 167) .none), (DictEntry.mk (PyData.keyHash P (Str.ofString "__loader__")) (.str (Str.ofString "__loader__") 168) (.builtin "__main__.__loader__#opaque")), (DictEntry.mk (PyData.keyHash P (Str.ofString "__spec__")) (.str (Str.ofString "__spec__") 169) .none), (DictEntry.mk (PyData.keyHash P (Str.ofString "__annotations__")) (.str (Str.ofString "__annotations__") 170) (.ref 6)), (DictEntry.mk (PyData.keyHash P (Str.ofString "__builtins__")) (.str (Str.ofString "__builtins__") 171) (.ref 4)), (DictEntry.mk (PyData.keyHash P (Str.ofString "__file__")) (.str (Str.ofString "__file__") 173) (.str (Str.ofString "/claim/cut.py") 172)), (DictEntry.mk (PyData.keyHash P (Str.ofString "__cached__")) (.str (Str.ofString "__cached__") 174) .none), (DictEntry.mk (PyData.keyHash P (Str.ofString "_sre")) (.str (Str.ofString "_sre") 275) (.ref 12)), (DictEntry.mk (PyData.keyHash P (Str.ofString "isnan")) (.str (Str.ofString "isnan") 435) (.builtin "math.isnan")), (DictEntry.mk (PyData.keyHash P (Str.ofString "category")) (.str (Str.ofString "category") 491) (.builtin "unicodedata.category")), (DictEntry.mk (PyData.keyHash P (Str.ofString "_wall")) (.str (Str.ofString "_wall") 504) (.ref 68)), (DictEntry.mk (PyData.keyHash P (Str.ofString "_reserved_word_re")) (.str (Str.ofString "_reserved_word_re") 1155) (.ref 73)), (DictEntry.mk (PyData.keyHash P (Str.ofString "_OWN_NAMES")) (.str (Str.ofString "_OWN_NAMES") 1163) (.ref 74)), (DictEntry.mk (PyData.keyHash P (Str.ofString "mappingproxy")) (.str (Str.ofString "mappingproxy") 1371) (.ref 255)), (DictEntry.mk (PyData.keyHash P (Str.ofString "_MEMBERS_VIEW")) (.str (Str.ofString "_MEMBERS_VIEW") 1372) (.ref 255)), (DictEntry.mk (PyData.keyHash P (Str.ofString "EnumType")) (.str (Str.ofString "EnumType") 1632) (.ref 471)), (DictEntry.mk (PyData.keyHash P (Str.ofString "_EnumField")) (.str (Str.ofString "_EnumField") 1687) (.ref 513)), (DictEntry.mk (PyData.keyHash P (Str.ofString "Enum")) (.str (Str.ofString "Enum") 1874) (.ref 637)), (DictEntry.mk (PyData.keyHash P (Str.ofString "QuoteStyle")) (.str (Str.ofString "QuoteStyle") 1921) (.ref 660)), (DictEntry.mk (PyData.keyHash P (Str.ofString "_lay_QuoteStyle")) (.str (Str.ofString "_lay_QuoteStyle") 1935) (.ref 673)), (DictEntry.mk (PyData.keyHash P (Str.ofString "JSON5Encoder")) (.str (Str.ofString "JSON5Encoder") 2322) (.ref 845)), (DictEntry.mk (PyData.keyHash P (Str.ofString "_raise_type_error")) (.str (Str.ofString "_raise_type_error") 2329) (.ref 856)), (DictEntry.mk (PyData.keyHash P (Str.ofString "_LAW_TEXTS")) (.str (Str.ofString "_LAW_TEXTS") 2336) (.ref 857)), (DictEntry.mk (PyData.keyHash P (Str.ofString "_LAW_CUTS")) (.str (Str.ofString "_LAW_CUTS") 2343) (.ref 861)), (DictEntry.mk (PyData.keyHash P (Str.ofString "_law_number")) (.str (Str.ofString "_law_number") 2351) (.ref 868)), (DictEntry.mk (PyData.keyHash P (Str.ofString "_law_indent")) (.str (Str.ofString "_law_indent") 2359) (.ref 875)), (DictEntry.mk (PyData.keyHash P (Str.ofString "_law_unit")) (.str (Str.ofString "_law_unit") 2366) (.ref 882)), (DictEntry.mk (PyData.keyHash P (Str.ofString "_law_pair")) (.str (Str.ofString "_law_pair") 2377) (.ref 889)), (DictEntry.mk (PyData.keyHash P (Str.ofString "_law_holds")) (.str (Str.ofString "_law_holds") 2392) (.ref 896)), (DictEntry.mk (PyData.keyHash P (Str.ofString "law")) (.str (Str.ofString "law") 2405) (.ref 903))] 32), #[]⟩) ::
  (nat_lit 723, ⟨(.type "dict"), none, (.dict #[(DictEntry.mk (PyData.keyHash P (Str.ofString "skipkeys")) (.str (Str.ofString "skipkeys") 2094) (.bool false)), (DictEntry.mk (PyData.keyHash P (Str.ofString "ensure_ascii")) (.str (Str.ofString "ensure_ascii") 2095) (.bool true)), (DictEntry.mk (PyData.keyHash P (Str.ofString "allow_nan")) (.str (Str.ofString "allow_nan") 2096) (.bool true)), (DictEntry.mk (PyData.keyHash P (Str.ofString "indent")) (.str (Str.ofString "indent") 2097) .none), (DictEntry.mk (PyData.keyHash P (Str.ofString "separators")) (.str (Str.ofString "separators") 2098) .none), (DictEntry.mk (PyData.keyHash P (Str.ofString "default")) (.str (Str.ofString "default") 2099) .none), (DictEntry.mk (PyData.keyHash P (Str.ofString "sort_keys")) (.str (Str.ofString "sort_keys") 2100) (.bool false)), (DictEntry.mk (PyData.keyHash P (Str.ofString "quote_keys")) (.str (Str.ofString "quote_keys") 2101) (.bool false)), (DictEntry.mk (PyData.keyHash P (Str.ofString "trailing_commas")) (.str (Str.ofString "trailing_commas") 2102) (.bool true)), (DictEntry.mk (PyData.keyHash P (Str.ofString "allow_duplicate_keys")) (.str (Str.ofString "allow_duplicate_keys") 2103) (.bool true)), (DictEntry.mk (PyData.keyHash P (Str.ofString "quote_style")) (.str (Str.ofString "quote_style") 2104) (.ref 685))] 11), #[]⟩) ::
  (nat_lit 724, ⟨(.type "tuple"), none, (.seq #[] 0), #[]⟩) ::
  (nat_lit 726, ⟨(.type "tuple"), none, (.seq #[(.str (Str.ofString "self") 2108), (.str (Str.ofString "skipkeys") 2109), (.str (Str.ofString "ensure_ascii") 2110), (.str (Str.ofString "allow_nan") 2111), (.str (Str.ofString "indent") 2112), (.str (Str.ofString "separators") 2113), (.str (Str.ofString "default") 2114), (.str (Str.ofString "sort_keys") 2115), (.str (Str.ofString "quote_keys") 2116), (.str (Str.ofString "trailing_commas") 2117), (.str (Str.ofString "allow_duplicate_keys") 2118), (.str (Str.ofString "quote_style") 2119)] 0), #[]⟩) ::
  (nat_lit 727, ⟨(.type "tuple"), none, (.seq #[] 0), #[]⟩) ::
  (nat_lit 729, ⟨(.type "code"), none, (.fields #[(.str (Str.ofString "__init__") 2105), (.str (Str.ofString "JSON5Encoder.__init__") 2106), (.str (Str.ofString "/claim/cut.py") 2107), (.int (Int.ofNat 373) 0), (.int (Int.ofNat 1) 0), (.int (Int.ofNat 0) 0), (.int (Int.ofNat 11) 0), (.int (Int.ofNat 3) 0), (.ref 724), (.bool true), (.int (Int.ofNat 492) 0), (.ref 725), .none, (.ref 726), (.ref 727), (.ref 728), (.int (Int.ofNat 2120) 0), (.int (Int.ofNat 373) 0), (.str (Str.ofString "/claim/cut.py") 2121)]), #[]⟩) ::
  (nat_lit 730, ⟨(.type "function"), none, (.func (fX (st := (mAt 16 0)) rfl (Str.ofString "JSON5Encoder.__init__") 3 [] .none (.ref 723) .none (.str (Str.ofString "json5.lib") 1875) none (.ref 729) .none 0)), #[]⟩) ::
  (nat_lit 731, ⟨(.type "tuple"), none, (.seq #[] 0), #[]⟩) ::
  (nat_lit 733, ⟨(.type "tuple"), none, (.seq #[(.str (Str.ofString "self") 2126), (.str (Str.ofString "obj") 2127)] 0), #[]⟩) ::
  (nat_lit 734, ⟨(.type "tuple"), none, (.seq #[] 0), #[]⟩) ::
  (nat_lit 736, ⟨(.type "code"), none, (.fields #[(.str (Str.ofString "default") 2123), (.str (Str.ofString "JSON5Encoder.default") 2124), (.str (Str.ofString "/claim/cut.py") 2125), (.int (Int.ofNat 389) 0), (.int (Int.ofNat 2) 0), (.int (Int.ofNat 0) 0), (.int (Int.ofNat 0) 0), (.int (Int.ofNat 3) 0), (.ref 731), (.bool true), (.int (Int.ofNat 492) 0), (.ref 732), .none, (.ref 733), (.ref 734), (.ref 735), (.int (Int.ofNat 2128) 0), (.int (Int.ofNat 389) 0), (.str (Str.ofString "/claim/cut.py") 2129)]), #[]⟩) ::
  (nat_lit 737, ⟨(.type "function"), none, (.func (fX (st := (mAt 16 1)) rfl (Str.ofString "JSON5Encoder.default") 3 [] .none .none .none (.str (Str.ofString "json5.lib") 1875) none (.ref 736) .none 0)), #[]⟩) ::
  (nat_lit 738, ⟨(.type "tuple"), none, (.seq #[] 0), #[]⟩) ::
  (nat_lit 740, ⟨(.type "tuple"), none, (.seq #[(.str (Str.ofString "self") 2134), (.str (Str.ofString "obj") 2135), (.str (Str.ofString "seen") 2136), (.str (Str.ofString "level") 2137), (.str (Str.ofString "as_key") 2138), (.str (Str.ofString "s") 2139)] 0), #[]⟩) ::
  (nat_lit 741, ⟨(.type "tuple"), none, (.seq #[] 0), #[]⟩) ::
  (nat_lit 743, ⟨(.type "code"), none, (.fields #[(.str (Str.ofString "encoded") 2131), (.str (Str.ofString "JSON5Encoder.encoded") 2132), (.str (Str.ofString "/claim/cut.py") 2133), (.int (Int.ofNat 392) 0), (.int (Int.ofNat 4) 0), (.int (Int.ofNat 0) 0), (.int (Int.ofNat 1) 0), (.int (Int.ofNat 3) 0), (.ref 738), (.bool true), (.int (Int.ofNat 492) 0), (.ref 739), .none, (.ref 740), (.ref 741), (.ref 742), (.int (Int.ofNat 2140) 0), (.int (Int.ofNat 392) 0), (.str (Str.ofString "/claim/cut.py") 2141)]), #[]⟩) ::
  (nat_lit 744, ⟨(.type "function"), none, (.func (fX (st := (mAt 16 2)) rfl (Str.ofString "JSON5Encoder.encoded") 3 [] .none .none .none (.str (Str.ofString "json5.lib") 1875) none (.ref 743) .none 0)), #[]⟩) ::
  (nat_lit 745, ⟨(.type "tuple"), none, (.seq #[] 0), #[]⟩) ::
  (nat_lit 747, ⟨(.type "tuple"), none, (.seq #[(.str (Str.ofString "self") 2146), (.str (Str.ofString "obj") 2147), (.str (Str.ofString "as_key") 2148)] 0), #[]⟩) ::
  (nat_lit 748, ⟨(.type "tuple"), none, (.seq #[] 0), #[]⟩) ::
  (nat_lit 750, ⟨(.type "code"), none, (.fields #[(.str (Str.ofString "_encode_basic_type") 2143), (.str (Str.ofString "JSON5Encoder._encode_basic_type") 2144), (.str (Str.ofString "/claim/cut.py") 2145), (.int (Int.ofNat 401) 0), (.int (Int.ofNat 2) 0), (.int (Int.ofNat 0) 0), (.int (Int.ofNat 1) 0), (.int (Int.ofNat 3) 0), (.ref 745), (.bool true), (.int (Int.ofNat 492) 0), (.ref 746), .none, (.ref 747), (.ref 748), (.ref 749), (.int (Int.ofNat 2149) 0), (.int (Int.ofNat 401) 0), (.str (Str.ofString "/claim/cut.py") 2150)]), #[]⟩) ::
  (nat_lit 751, ⟨(.type "function"), none, (.func (fX (st := (mAt 16 3)) rfl (Str.ofString "JSON5Encoder._encode_basic_type") 3 [] .none .none .none (.str (Str.ofString "json5.lib") 1875) none (.ref 750) .none 0)), #[]⟩) ::
  (nat_lit 752, ⟨(.type "tuple"), none, (.seq #[] 0), #[]⟩) ::
  (nat_lit 754, ⟨(.type "tuple"), none, (.seq #[(.str (Str.ofString "self") 2155), (.str (Str.ofString "obj") 2156), (.str (Str.ofString "as_key") 2157), (.str (Str.ofString "s") 2158)] 0), #[]⟩) ::
  (nat_lit 755, ⟨(.type "tuple"), none, (.seq #[] 0), #[]⟩) ::
  (nat_lit 757, ⟨(.type "code"), none, (.fields #[(.str (Str.ofString "_encode_int") 2152), (.str (Str.ofString "JSON5Encoder._encode_int") 2153), (.str (Str.ofString "/claim/cut.py") 2154), (.int (Int.ofNat 416) 0), (.int (Int.ofNat 2) 0), (.int (Int.ofNat 0) 0), (.int (Int.ofNat 1) 0), (.int (Int.ofNat 3) 0), (.ref 752), (.bool true), (.int (Int.ofNat 492) 0), (.ref 753), .none, (.ref 754), (.ref 755), (.ref 756), (.int (Int.ofNat 2159) 0), (.int (Int.ofNat 416) 0), (.str (Str.ofString "/claim/cut.py") 2160)]), #[]⟩) ::
  (nat_lit 758, ⟨(.type "function"), none, (.func (fX (st := (mAt 16 4)) rfl (Str.ofString "JSON5Encoder._encode_int") 3 [] .none .none .none (.str (Str.ofString "json5.lib") 1875) none (.ref 757) .none 0)), #[]⟩) ::
  (nat_lit 759, ⟨(.type "tuple"), none, (.seq #[] 0), #[]⟩) ::
  (nat_lit 761, ⟨(.type "tuple"), none, (.seq #[(.str (Str.ofString "self") 2165), (.str (Str.ofString "obj") 2166), (.str (Str.ofString "as_key") 2167), (.str (Str.ofString "allowed") 2168), (.str (Str.ofString "s") 2169)] 0), #[]⟩) ::
  (nat_lit 762, ⟨(.type "tuple"), none, (.seq #[] 0), #[]⟩) ::
  (nat_lit 764, ⟨(.type "code"), none, (.fields #[(.str (Str.ofString "_encode_float") 2162), (.str (Str.ofString "JSON5Encoder._encode_float") 2163), (.str (Str.ofString "/claim/cut.py") 2164), (.int (Int.ofNat 420) 0), (.int (Int.ofNat 2) 0), (.int (Int.ofNat 0) 0), (.int (Int.ofNat 1) 0), (.int (Int.ofNat 3) 0), (.ref 759), (.bool true), (.int (Int.ofNat 492) 0), (.ref 760), .none, (.ref 761), (.ref 762), (.ref 763), (.int (Int.ofNat 2170) 0), (.int (Int.ofNat 420) 0), (.str (Str.ofString "/claim/cut.py") 2171)]), #[]⟩) ::
  (nat_lit 765, ⟨(.type "function"), none, (.func (fX (st := (mAt 16 5)) rfl (Str.ofString "JSON5Encoder._encode_float") 3 [] .none .none .none (.str (Str.ofString "json5.lib") 1875) none (.ref 764) .none 0)), #[]⟩) ::
  (nat_lit 766, ⟨(.type "tuple"), none, (.seq #[] 0), #[]⟩) ::
  (nat_lit 768, ⟨(.type "tuple"), none, (.seq #[(.str (Str.ofString "self") 2176), (.str (Str.ofString "obj") 2177), (.str (Str.ofString "as_key") 2178)] 0), #[]⟩) ::
  (nat_lit 769, ⟨(.type "tuple"), none, (.seq #[] 0), #[]⟩) ::
  (nat_lit 771, ⟨(.type "code"), none, (.fields #[(.str (Str.ofString "_encode_str") 2173), (.str (Str.ofString "JSON5Encoder._encode_str") 2174), (.str (Str.ofString "/claim/cut.py") 2175), (.int (Int.ofNat 437) 0), (.int (Int.ofNat 2) 0), (.int (Int.ofNat 0) 0), (.int (Int.ofNat 1) 0), (.int (Int.ofNat 3) 0), (.ref 766), (.bool true), (.int (Int.ofNat 492) 0), (.ref 767), .none, (.ref 768), (.ref 769), (.ref 770), (.int (Int.ofNat 2179) 0), (.int (Int.ofNat 437) 0), (.str (Str.ofString "/claim/cut.py") 2180)]), #[]⟩) ::
  (nat_lit 772, ⟨(.type "function"), none, (.func (fX (st := (mAt 16 6)) rfl (Str.ofString "JSON5Encoder._encode_str") 3 [] .none .none .none (.str (Str.ofString "json5.lib") 1875) none (.ref 771) .none 0)), #[]⟩) ::
  (nat_lit 773, ⟨(.type "tuple"), none, (.seq #[] 0), #[]⟩) ::
  (nat_lit 775, ⟨(.type "tuple"), none, (.seq #[(.str (Str.ofString "self") 2185), (.str (Str.ofString "obj") 2186), (.str (Str.ofString "quote_style") 2187), (.str (Str.ofString "ret") 2188), (.str (Str.ofString "double_quotes_seen") 2189), (.str (Str.ofString "single_quotes_seen") 2190), (.str (Str.ofString "sq") 2191), (.str (Str.ofString "dq") 2192), (.str (Str.ofString "ch") 2193), (.str (Str.ofString "encoded_ch") 2194), (.str (Str.ofString "o") 2195)] 0), #[]⟩) ::
  (nat_lit 776, ⟨(.type "tuple"), none, (.seq #[] 0), #[]⟩) ::
  (nat_lit 778, ⟨(.type "code"), none, (.fields #[(.str (Str.ofString "_encode_quoted_str") 2182), (.str (Str.ofString "JSON5Encoder._encode_quoted_str") 2183), (.str (Str.ofString "/claim/cut.py") 2184), (.int (Int.ofNat 442) 0), (.int (Int.ofNat 3) 0), (.int (Int.ofNat 0) 0), (.int (Int.ofNat 0) 0), (.int (Int.ofNat 3) 0), (.ref 773), (.bool true), (.int (Int.ofNat 492) 0), (.ref 774), .none, (.ref 775), (.ref 776), (.ref 777), (.int (Int.ofNat 2196) 0), (.int (Int.ofNat 442) 0), (.str (Str.ofString "/claim/cut.py") 2197)]), #[]⟩) ::
  (nat_lit 779, ⟨(.type "function"), none, (.func (fX (st := (mAt 16 7)) rfl (Str.ofString "JSON5Encoder._encode_quoted_str") 3 [] .none .none .none (.str (Str.ofString "json5.lib") 1875) none (.ref 778) .none 0)), #[]⟩) ::
  (nat_lit 780, ⟨(.type "tuple"), none, (.seq #[] 0), #[]⟩) ::
  (nat_lit 782, ⟨(.type "tuple"), none, (.seq #[(.str (Str.ofString "self") 2202), (.str (Str.ofString "ch") 2203), (.str (Str.ofString "o") 2204), (.str (Str.ofString "val") 2205), (.str (Str.ofString "high") 2206), (.str (Str.ofString "low") 2207)] 0), #[]⟩) ::
  (nat_lit 783, ⟨(.type "tuple"), none, (.seq #[] 0), #[]⟩) ::
  (nat_lit 785, ⟨(.type "code"), none, (.fields #[(.str (Str.ofString "_escape_ch") 2199), (.str (Str.ofString "JSON5Encoder._escape_ch") 2200), (.str (Str.ofString "/claim/cut.py") 2201), (.int (Int.ofNat 480) 0), (.int (Int.ofNat 2) 0), (.int (Int.ofNat 0) 0), (.int (Int.ofNat 0) 0), (.int (Int.ofNat 3) 0), (.ref 780), (.bool true), (.int (Int.ofNat 492) 0), (.ref 781), .none, (.ref 782), (.ref 783), (.ref 784), (.int (Int.ofNat 2208) 0), (.int (Int.ofNat 480) 0), (.str (Str.ofString "/claim/cut.py") 2209)]), #[]⟩) ::
  (nat_lit 786, ⟨(.type "function"), none, (.func (fX (st := (mAt 16 8)) rfl (Str.ofString "JSON5Encoder._escape_ch") 3 [] .none .none .none (.str (Str.ofString "json5.lib") 1875) none (.ref 785) .none 0)), #[]⟩) ::
  (nat_lit 787, ⟨(.type "tuple"), none, (.seq #[] 0), #[]⟩) ::
  (nat_lit 789, ⟨(.type "tuple"), none, (.seq #[(.str (Str.ofString "self") 2214), (.str (Str.ofString "obj") 2215), (.str (Str.ofString "seen") 2216), (.str (Str.ofString "level") 2217), (.str (Str.ofString "s") 2218)] 0), #[]⟩) ::
  (nat_lit 790, ⟨(.type "tuple"), none, (.seq #[] 0), #[]⟩) ::
  (nat_lit 792, ⟨(.type "code"), none, (.fields #[(.str (Str.ofString "_encode_non_basic_type") 2211), (.str (Str.ofString "JSON5Encoder._encode_non_basic_type") 2212), (.str (Str.ofString "/claim/cut.py") 2213), (.int (Int.ofNat 509) 0), (.int (Int.ofNat 4) 0), (.int (Int.ofNat 0) 0), (.int (Int.ofNat 0) 0), (.int (Int.ofNat 3) 0), (.ref 787), (.bool true), (.int (Int.ofNat 492) 0), (.ref 788), .none, (.ref 789), (.ref 790), (.ref 791), (.int (Int.ofNat 2219) 0), (.int (Int.ofNat 509) 0), (.str (Str.ofString "/claim/cut.py") 2220)]), #[]⟩) ::
  (nat_lit 793, ⟨(.type "function"), none, (.func (fX (st := (mAt 16 9)) rfl (Str.ofString "JSON5Encoder._encode_non_basic_type") 3 [] .none .none .none (.str (Str.ofString "json5.lib") 1875) none (.ref 792) .none 0)), #[]⟩) ::
  (nat_lit 794, ⟨(.type "tuple"), none, (.seq #[] 0), #[]⟩) ::
  (nat_lit 796, ⟨(.type "tuple"), none, (.seq #[(.str (Str.ofString "self") 2225), (.str (Str.ofString "obj") 2226), (.str (Str.ofString "seen") 2227), (.str (Str.ofString "level") 2228), (.str (Str.ofString "indent_str") 2229), (.str (Str.ofString "end_str") 2230), (.str (Str.ofString "item_sep") 2231), (.str (Str.ofString "kv_sep") 2232), (.str (Str.ofString "keys") 2233), (.str (Str.ofString "s") 2234), (.str (Str.ofString "first_key") 2235), (.str (Str.ofString "new_keys") 2236), (.str (Str.ofString "key") 2237), (.str (Str.ofString "key_str") 2238), (.str (Str.ofString "val_str") 2239)] 0), #[]⟩) ::
  (nat_lit 797, ⟨(.type "tuple"), none, (.seq #[] 0), #[]⟩) ::
  (nat_lit 799, ⟨(.type "code"), none, (.fields #[(.str (Str.ofString "_encode_dict") 2222), (.str (Str.ofString "JSON5Encoder._encode_dict") 2223), (.str (Str.ofString "/claim/cut.py") 2224), (.int (Int.ofNat 519) 0), (.int (Int.ofNat 4) 0), (.int (Int.ofNat 0) 0), (.int (Int.ofNat 0) 0), (.int (Int.ofNat 3) 0), (.ref 794), (.bool true), (.int (Int.ofNat 492) 0), (.ref 795), .none, (.ref 796), (.ref 797), (.ref 798), (.int (Int.ofNat 2240) 0), (.int (Int.ofNat 519) 0), (.str (Str.ofString "/claim/cut.py") 2241)]), #[]⟩) ::
  (nat_lit 800, ⟨(.type "function"), none, (.func (fX (st := (mAt 16 10)) rfl (Str.ofString "JSON5Encoder._encode_dict") 3 [] .none .none .none (.str (Str.ofString "json5.lib") 1875) none (.ref 799) .none 0)), #[]⟩) ::
  (nat_lit 801, ⟨(.type "tuple"), none, (.seq #[] 0), #[]⟩) ::
  (nat_lit 803, ⟨(.type "tuple"), none, (.seq #[(.str (Str.ofString "self") 2246), (.str (Str.ofString "obj") 2247), (.str (Str.ofString "seen") 2248), (.str (Str.ofString "level") 2249), (.str (Str.ofString "indent_str") 2250), (.str (Str.ofString "end_str") 2251), (.str (Str.ofString "item_sep") 2252)] 0), #[]⟩) ::
  (nat_lit 804, ⟨(.type "tuple"), none, (.seq #[(.str (Str.ofString "self") 2253), (.str (Str.ofString "seen") 2254), (.str (Str.ofString "level") 2255)] 0), #[]⟩) ::
  (nat_lit 806, ⟨(.type "code"), none, (.fields #[(.str (Str.ofString "_encode_array") 2243), (.str (Str.ofString "JSON5Encoder._encode_array") 2244), (.str (Str.ofString "/claim/cut.py") 2245), (.int (Int.ofNat 552) 0), (.int (Int.ofNat 4) 0), (.int (Int.ofNat 0) 0), (.int (Int.ofNat 0) 0), (.int (Int.ofNat 3) 0), (.ref 801), (.bool true), (.int (Int.ofNat 492) 0), (.ref 802), .none, (.ref 803), (.ref 804), (.ref 805), (.int (Int.ofNat 2256) 0), (.int (Int.ofNat 552) 0), (.str (Str.ofString "/claim/cut.py") 2257)]), #[]⟩) ::
  (nat_lit 807, ⟨(.type "function"), none, (.func (fX (st := (mAt 16 11)) rfl (Str.ofString "JSON5Encoder._encode_array") 3 [] .none .none .none (.str (Str.ofString "json5.lib") 1875) none (.ref 806) .none 0)), #[]⟩) ::
  (nat_lit 808, ⟨(.type "tuple"), none, (.seq #[] 0), #[]⟩) ::
  (nat_lit 810, ⟨(.type "tuple"), none, (.seq #[(.str (Str.ofString "self") 2262), (.str (Str.ofString "level") 2263), (.str (Str.ofString "end_str") 2264), (.str (Str.ofString "indent_str") 2265)] 0), #[]⟩) ::
  (nat_lit 811, ⟨(.type "tuple"), none, (.seq #[] 0), #[]⟩) ::
  (nat_lit 813, ⟨(.type "code"), none, (.fields #[(.str (Str.ofString "_spacers") 2259), (.str (Str.ofString "JSON5Encoder._spacers") 2260), (.str (Str.ofString "/claim/cut.py") 2261), (.int (Int.ofNat 559) 0), (.int (Int.ofNat 2) 0), (.int (Int.ofNat 0) 0), (.int (Int.ofNat 0) 0), (.int (Int.ofNat 3) 0), (.ref 808), (.bool true), (.int (Int.ofNat 492) 0), (.ref 809), .none, (.ref 810), (.ref 811), (.ref 812), (.int (Int.ofNat 2266) 0), (.int (Int.ofNat 559) 0), (.str (Str.ofString "/claim/cut.py") 2267)]), #[]⟩) ::
  (nat_lit 814, ⟨(.type "function"), none, (.func (fX (st := (mAt 16 12)) rfl (Str.ofString "JSON5Encoder._spacers") 3 [] .none .none .none (.str (Str.ofString "json5.lib") 1875) none (.ref 813) .none 0)), #[]⟩) ::
  (nat_lit 815, ⟨(.type "tuple"), none, (.seq #[] 0), #[]⟩) ::
  (nat_lit 817, ⟨(.type "tuple"), none, (.seq #[(.str (Str.ofString "self") 2272), (.str (Str.ofString "key") 2273), (.str (Str.ofString "ch") 2274)] 0), #[]⟩) ::
  (nat_lit 818, ⟨(.type "tuple"), none, (.seq #[] 0), #[]⟩) ::
  (nat_lit 820, ⟨(.type "code"), none, (.fields #[(.str (Str.ofString "is_identifier") 2269), (.str (Str.ofString "JSON5Encoder.is_identifier") 2270), (.str (Str.ofString "/claim/cut.py") 2271), (.int (Int.ofNat 579) 0), (.int (Int.ofNat 2) 0), (.int (Int.ofNat 0) 0), (.int (Int.ofNat 0) 0), (.int (Int.ofNat 3) 0), (.ref 815), (.bool true), (.int (Int.ofNat 492) 0), (.ref 816), .none, (.ref 817), (.ref 818), (.ref 819), (.int (Int.ofNat 2275) 0), (.int (Int.ofNat 579) 0), (.str (Str.ofString "/claim/cut.py") 2276)]), #[]⟩) ::
  (nat_lit 821, ⟨(.type "function"), none, (.func (fX (st := (mAt 16 13)) rfl (Str.ofString "JSON5Encoder.is_identifier") 3 [] .none .none .none (.str (Str.ofString "json5.lib") 1875) none (.ref 820) .none 0)), #[]⟩) ::
  (nat_lit 822, ⟨(.type "tuple"), none, (.seq #[] 0), #[]⟩) ::
  (nat_lit 824, ⟨(.type "tuple"), none, (.seq #[(.str (Str.ofString "self") 2281), (.str (Str.ofString "ch") 2282)] 0), #[]⟩) ::
  (nat_lit 825, ⟨(.type "tuple"), none, (.seq #[] 0), #[]⟩) ::
  (nat_lit 827, ⟨(.type "code"), none, (.fields #[(.str (Str.ofString "_is_id_start") 2278), (.str (Str.ofString "JSON5Encoder._is_id_start") 2279), (.str (Str.ofString "/claim/cut.py") 2280), (.int (Int.ofNat 587) 0), (.int (Int.ofNat 2) 0), (.int (Int.ofNat 0) 0), (.int (Int.ofNat 0) 0), (.int (Int.ofNat 3) 0), (.ref 822), (.bool true), (.int (Int.ofNat 492) 0), (.ref 823), .none, (.ref 824), (.ref 825), (.ref 826), (.int (Int.ofNat 2283) 0), (.int (Int.ofNat 587) 0), (.str (Str.ofString "/claim/cut.py") 2284)]), #[]⟩) ::
  (nat_lit 828, ⟨(.type "function"), none, (.func (fX (st := (mAt 16 14)) rfl (Str.ofString "JSON5Encoder._is_id_start") 3 [] .none .none .none (.str (Str.ofString "json5.lib") 1875) none (.ref 827) .none 0)), #[]⟩) ::
  (nat_lit 829, ⟨(.type "tuple"), none, (.seq #[] 0), #[]⟩) ::
  (nat_lit 831, ⟨(.type "tuple"), none, (.seq #[(.str (Str.ofString "self") 2289), (.str (Str.ofString "ch") 2290)] 0), #[]⟩) ::
  (nat_lit 832, ⟨(.type "tuple"), none, (.seq #[] 0), #[]⟩) ::
  (nat_lit 834, ⟨(.type "code"), none, (.fields #[(.str (Str.ofString "_is_id_continue") 2286), (.str (Str.ofString "JSON5Encoder._is_id_continue") 2287), (.str (Str.ofString "/claim/cut.py") 2288), (.int (Int.ofNat 590) 0), (.int (Int.ofNat 2) 0), (.int (Int.ofNat 0) 0), (.int (Int.ofNat 0) 0), (.int (Int.ofNat 3) 0), (.ref 829), (.bool true), (.int (Int.ofNat 492) 0), (.ref 830), .none, (.ref 831), (.ref 832), (.ref 833), (.int (Int.ofNat 2291) 0), (.int (Int.ofNat 590) 0), (.str (Str.ofString "/claim/cut.py") 2292)]), #[]⟩) ::
  (nat_lit 835, ⟨(.type "function"), none, (.func (fX (st := (mAt 16 15)) rfl (Str.ofString "JSON5Encoder._is_id_continue") 3 [] .none .none .none (.str (Str.ofString "json5.lib") 1875) none (.ref 834) .none 0)), #[]⟩) ::
  (nat_lit 836, ⟨(.type "tuple"), none, (.seq #[] 0), #[]⟩) ::
  (nat_lit 838, ⟨(.type "tuple"), none, (.seq #[(.str (Str.ofString "self") 2297), (.str (Str.ofString "key") 2298)] 0), #[]⟩) ::
  (nat_lit 839, ⟨(.type "tuple"), none, (.seq #[] 0), #[]⟩) ::
  (nat_lit 841, ⟨(.type "code"), none, (.fields #[(.str (Str.ofString "is_reserved_word") 2294), (.str (Str.ofString "JSON5Encoder.is_reserved_word") 2295), (.str (Str.ofString "/claim/cut.py") 2296), (.int (Int.ofNat 593) 0), (.int (Int.ofNat 2) 0), (.int (Int.ofNat 0) 0), (.int (Int.ofNat 0) 0), (.int (Int.ofNat 3) 0), (.ref 836), (.bool true), (.int (Int.ofNat 492) 0), (.ref 837), .none, (.ref 838), (.ref 839), (.ref 840), (.int (Int.ofNat 2299) 0), (.int (Int.ofNat 593) 0), (.str (Str.ofString "/claim/cut.py") 2300)]), #[]⟩) ::
  (nat_lit 842, ⟨(.type "function"), none, (.func (fX (st := (mAt 16 16)) rfl (Str.ofString "JSON5Encoder.is_reserved_word") 3 [] .none .none .none (.str (Str.ofString "json5.lib") 1875) none (.ref 841) .none 0)), #[]⟩) ::
  (nat_lit 843, ⟨(.type "tuple"), none, (.seq #[(.str (Str.ofString "allow_duplicate_keys") 2302), (.str (Str.ofString "allow_nan") 2303), (.str (Str.ofString "default_fn") 2304), (.str (Str.ofString "ensure_ascii") 2305), (.str (Str.ofString "indent") 2306), (.str (Str.ofString "item_separator") 2307), (.str (Str.ofString "kv_separator") 2308), (.str (Str.ofString "quote_keys") 2309), (.str (Str.ofString "quote_style") 2310), (.str (Str.ofString "separators") 2311), (.str (Str.ofString "skipkeys") 2312), (.str (Str.ofString "sort_keys") 2313), (.str (Str.ofString "trailing_commas") 2314)] 0), #[]⟩) ::
  (nat_lit 844, ⟨(.type "dict"), none, (.dict #[(DictEntry.mk (PyData.keyHash P (Str.ofString "__module__")) (.str (Str.ofString "__module__") 2088) (.str (Str.ofString "json5.lib") 1875)), (DictEntry.mk (PyData.keyHash P (Str.ofString "__firstlineno__")) (.str (Str.ofString "__firstlineno__") 2092) (.int (Int.ofNat 371) 2091)), (DictEntry.mk (PyData.keyHash P (Str.ofString "__init__")) (.str (Str.ofString "__init__") 2122) (.ref 730)), (DictEntry.mk (PyData.keyHash P (Str.ofString "default")) (.str (Str.ofString "default") 2130) (.ref 737)), (DictEntry.mk (PyData.keyHash P (Str.ofString "encoded")) (.str (Str.ofString "encoded") 2142) (.ref 744)), (DictEntry.mk (PyData.keyHash P (Str.ofString "_encode_basic_type")) (.str (Str.ofString "_encode_basic_type") 2151) (.ref 751)), (DictEntry.mk (PyData.keyHash P (Str.ofString "_encode_int")) (.str (Str.ofString "_encode_int") 2161) (.ref 758)), (DictEntry.mk (PyData.keyHash P (Str.ofString "_encode_float")) (.str (Str.ofString "_encode_float") 2172) (.ref 765)), (DictEntry.mk (PyData.keyHash P (Str.ofString "_encode_str")) (.str (Str.ofString "_encode_str") 2181) (.ref 772)), (DictEntry.mk (PyData.keyHash P (Str.ofString "_encode_quoted_str")) (.str (Str.ofString "_encode_quoted_str") 2198) (.ref 779)), (DictEntry.mk (PyData.keyHash P (Str.ofString "_escape_ch")) (.str (Str.ofString "_escape_ch") 2210) (.ref 786)), (DictEntry.mk (PyData.keyHash P (Str.ofString "_encode_non_basic_type")) (.str (Str.ofString "_encode_non_basic_type") 2221) (.ref 793)), (DictEntry.mk (PyData.keyHash P (Str.ofString "_encode_dict")) (.str (Str.ofString "_encode_dict") 2242) (.ref 800)), (DictEntry.mk (PyData.keyHash P (Str.ofString "_encode_array")) (.str (Str.ofString "_encode_array") 2258) (.ref 807)), (DictEntry.mk (PyData.keyHash P (Str.ofString "_spacers")) (.str (Str.ofString "_spacers") 2268) (.ref 814)), (DictEntry.mk (PyData.keyHash P (Str.ofString "is_identifier")) (.str (Str.ofString "is_identifier") 2277) (.ref 821)), (DictEntry.mk (PyData.keyHash P (Str.ofString "_is_id_start")) (.str (Str.ofString "_is_id_start") 2285) (.ref 828)), (DictEntry.mk (PyData.keyHash P (Str.ofString "_is_id_continue")) (.str (Str.ofString "_is_id_continue") 2293) (.ref 835)), (DictEntry.mk (PyData.keyHash P (Str.ofString "is_reserved_word")) (.str (Str.ofString "is_reserved_word") 2301) (.ref 842)), (DictEntry.mk (PyData.keyHash P (Str.ofString "__static_attributes__")) (.str (Str.ofString "__static_attributes__") 2315) (.ref 843)), (DictEntry.mk (PyData.keyHash P (Str.ofString "__dict__")) (.str (Str.ofString "__dict__") 2317) (.ref 846)), (DictEntry.mk (PyData.keyHash P (Str.ofString "__weakref__")) (.str (Str.ofString "__weakref__") 2319) (.ref 847)), (DictEntry.mk (PyData.keyHash P (Str.ofString "__doc__")) (.str (Str.ofString "__doc__") 2320) .none)] 4), #[]⟩) ::
  (nat_lit 845, ⟨(.type "type"), none, (.cls ⟨(Str.ofString "JSON5Encoder"), [(.type "object")], [(.ref 845), (.type "object")], 844, (Str.ofString "JSON5Encoder"), true, [], [], false, none, false⟩), #[none, none, (some (.str (Str.ofString "JSON5Encoder") 2081)), (some (.str (Str.ofString "JSON5Encoder") 2089)), (some (.builtin "object.__new__")), (some (.bool true))]⟩) ::
  (nat_lit 846, ⟨(.type "getset_descriptor"), none, (.fields #[(.str (Str.ofString "__dict__") 2316), (.ref 845), (.builtin "function.__dict__"), (.builtin "function.__dict__#set")]), #[]⟩) ::
  (nat_lit 847, ⟨(.type "getset_descriptor"), none, (.fields #[(.str (Str.ofString "__weakref__") 2318), (.ref 845), (.builtin "ExceptionGroup.__weakref__"), .none]), #[]⟩) ::
  (nat_lit 850, ⟨(.type "tuple"), none, (.seq #[] 0), #[]⟩) ::
  (nat_lit 852, ⟨(.type "tuple"), none, (.seq #[(.str (Str.ofString "obj") 2326)] 0), #[]⟩) ::
  (nat_lit 853, ⟨(.type "tuple"), none, (.seq #[] 0), #[]⟩) ::
  (nat_lit 855, ⟨(.type "code"), none, (.fields #[(.str (Str.ofString "_raise_type_error") 2323), (.str (Str.ofString "_raise_type_error") 2324), (.str (Str.ofString "/claim/cut.py") 2325), (.int (Int.ofNat 595) 0), (.int (Int.ofNat 1) 0), (.int (Int.ofNat 0) 0), (.int (Int.ofNat 0) 0), (.int (Int.ofNat 3) 0), (.ref 850), (.bool true), (.int (Int.ofNat 492) 0), (.ref 851), .none, (.ref 852), (.ref 853), (.ref 854), (.int (Int.ofNat 2327) 0), (.int (Int.ofNat 595) 0), (.str (Str.ofString "/claim/cut.py") 2328)]), #[]⟩) ::
  (nat_lit 856, ⟨(.type "function"), none, (.func (fX (st := (sAt 17)) rfl (Str.ofString "_raise_type_error") 3 [] .none .none .none (.str (Str.ofString "json5.lib") 1875) none (.ref 855) .none 0)), #[]⟩) ::
  (nat_lit 857, ⟨(.type "tuple"), none, (.seq #[(.str (Str.ofString "\t") 2332), (.str (Str.ofString "") 2333), (.str (Str.ofString "--") 2334), (.str (Str.ofString " ") 2335)] 0), #[]⟩) ::
  (nat_lit 858, ⟨(.type "tuple"), none, (.seq #[(.str (Str.ofString ",") 2337), (.str (Str.ofString ":") 2338)] 0), #[]⟩) ::
  (nat_lit 859, ⟨(.type "tuple"), none, (.seq #[(.str (Str.ofString " ; ") 2339), (.str (Str.ofString " = ") 2340)] 0), #[]⟩) ::
  (nat_lit 860, ⟨(.type "tuple"), none, (.seq #[(.str (Str.ofString "") 2341), (.str (Str.ofString "") 2342)] 0), #[]⟩) ::
  (nat_lit 861, ⟨(.type "tuple"), none, (.seq #[.none, (.ref 858), (.ref 859), (.ref 860)] 0), #[]⟩) ::
  (nat_lit 862, ⟨(.type "tuple"), none, (.seq #[] 0), #[]⟩) ::
  (nat_lit 864, ⟨(.type "tuple"), none, (.seq #[(.str (Str.ofString "script") 2347), (.str (Str.ofString "place") 2348)] 0), #[]⟩) ::
  (nat_lit 865, ⟨(.type "tuple"), none, (.seq #[] 0), #[]⟩) ::
  (nat_lit 867, ⟨(.type "code"), none, (.fields #[(.str (Str.ofString "_law_number") 2344), (.str (Str.ofString "_law_number") 2345), (.str (Str.ofString "/claim/cut.py") 2346), (.int (Int.ofNat 600) 0), (.int (Int.ofNat 2) 0), (.int (Int.ofNat 0) 0), (.int (Int.ofNat 0) 0), (.int (Int.ofNat 3) 0), (.ref 862), (.bool true), (.int (Int.ofNat 492) 0), (.ref 863), .none, (.ref 864), (.ref 865), (.ref 866), (.int (Int.ofNat 2349) 0), (.int (Int.ofNat 600) 0), (.str (Str.ofString "/claim/cut.py") 2350)]), #[]⟩) ::
  (nat_lit 868, ⟨(.type "function"), none, (.func (fX (st := (sAt 21)) rfl (Str.ofString "_law_number") 3 [] .none .none .none (.str (Str.ofString "law_az6014_02") 2330) none (.ref 867) .none 0)), #[]⟩) ::
  (nat_lit 869, ⟨(.type "tuple"), none, (.seq #[] 0), #[]⟩) ::
  (nat_lit 871, ⟨(.type "tuple"), none, (.seq #[(.str (Str.ofString "pick") 2355), (.str (Str.ofString "kind") 2356)] 0), #[]⟩) ::
  (nat_lit 872, ⟨(.type "tuple"), none, (.seq #[] 0), #[]⟩) ::
  (nat_lit 874, ⟨(.type "code"), none, (.fields #[(.str (Str.ofString "_law_indent") 2352), (.str (Str.ofString "_law_indent") 2353), (.str (Str.ofString "/claim/cut.py") 2354), (.int (Int.ofNat 602) 0), (.int (Int.ofNat 1) 0), (.int (Int.ofNat 0) 0), (.int (Int.ofNat 0) 0), (.int (Int.ofNat 3) 0), (.ref 869), (.bool true), (.int (Int.ofNat 492) 0), (.ref 870), .none, (.ref 871), (.ref 872), (.ref 873), (.int (Int.ofNat 2357) 0), (.int (Int.ofNat 602) 0), (.str (Str.ofString "/claim/cut.py") 2358)]), #[]⟩) ::
  (nat_lit 875, ⟨(.type "function"), none, (.func (fX (st := (sAt 22)) rfl (Str.ofString "_law_indent") 3 [] .none .none .none (.str (Str.ofString "law_az6014_02") 2330) none (.ref 874) .none 0)), #[]⟩) ::
  (nat_lit 876, ⟨(.type "tuple"), none, (.seq #[] 0), #[]⟩) ::
  (nat_lit 878, ⟨(.type "tuple"), none, (.seq #[(.str (Str.ofString "indent") 2363)] 0), #[]⟩) ::
  (nat_lit 879, ⟨(.type "tuple"), none, (.seq #[] 0), #[]⟩) ::
  (nat_lit 881, ⟨(.type "code"), none, (.fields #[(.str (Str.ofString "_law_unit") 2360), (.str (Str.ofString "_law_unit") 2361), (.str (Str.ofString "/claim/cut.py") 2362), (.int (Int.ofNat 613) 0), (.int (Int.ofNat 1) 0), (.int (Int.ofNat 0) 0), (.int (Int.ofNat 0) 0), (.int (Int.ofNat 3) 0), (.ref 876), (.bool true), (.int (Int.ofNat 492) 0), (.ref 877), .none, (.ref 878), (.ref 879), (.ref 880), (.int (Int.ofNat 2364) 0), (.int (Int.ofNat 613) 0), (.str (Str.ofString "/claim/cut.py") 2365)]), #[]⟩) ::
  (nat_lit 882, ⟨(.type "function"), none, (.func (fX (st := (sAt 23)) rfl (Str.ofString "_law_unit") 3 [] .none .none .none (.str (Str.ofString "law_az6014_02") 2330) none (.ref 881) .none 0)), #[]⟩) ::
  (nat_lit 883, ⟨(.type "tuple"), none, (.seq #[] 0), #[]⟩) ::
  (nat_lit 885, ⟨(.type "tuple"), none, (.seq #[(.str (Str.ofString "indent") 2370), (.str (Str.ofString "trailing") 2371), (.str (Str.ofString "level") 2372), (.str (Str.ofString "unit") 2373), (.str (Str.ofString "steps") 2374)] 0), #[]⟩) ::
  (nat_lit 886, ⟨(.type "tuple"), none, (.seq #[] 0), #[]⟩) ::
  (nat_lit 888, ⟨(.type "code"), none, (.fields #[(.str (Str.ofString "_law_pair") 2367), (.str (Str.ofString "_law_pair") 2368), (.str (Str.ofString "/claim/cut.py") 2369), (.int (Int.ofNat 617) 0), (.int (Int.ofNat 3) 0), (.int (Int.ofNat 0) 0), (.int (Int.ofNat 0) 0), (.int (Int.ofNat 3) 0), (.ref 883), (.bool true), (.int (Int.ofNat 492) 0), (.ref 884), .none, (.ref 885), (.ref 886), (.ref 887), (.int (Int.ofNat 2375) 0), (.int (Int.ofNat 617) 0), (.str (Str.ofString "/claim/cut.py") 2376)]), #[]⟩) ::
  (nat_lit 889, ⟨(.type "function"), none, (.func (fX (st := (sAt 24)) rfl (Str.ofString "_law_pair") 3 [] .none .none .none (.str (Str.ofString "law_az6014_02") 2330) none (.ref 888) .none 0)), #[]⟩) ::
  (nat_lit 890, ⟨(.type "tuple"), none, (.seq #[] 0), #[]⟩) ::
  (nat_lit 892, ⟨(.type "tuple"), none, (.seq #[(.str (Str.ofString "writer") 2381), (.str (Str.ofString "indent") 2382), (.str (Str.ofString "trailing") 2383), (.str (Str.ofString "cuts") 2384), (.str (Str.ofString "script") 2385), (.str (Str.ofString "place") 2386), (.str (Str.ofString "level") 2387), (.str (Str.ofString "told") 2388), (.str (Str.ofString "item") 2389)] 0), #[]⟩) ::
  (nat_lit 893, ⟨(.type "tuple"), none, (.seq #[] 0), #[]⟩) ::
  (nat_lit 895, ⟨(.type "code"), none, (.fields #[(.str (Str.ofString "_law_holds") 2378), (.str (Str.ofString "_law_holds") 2379), (.str (Str.ofString "/claim/cut.py") 2380), (.int (Int.ofNat 623) 0), (.int (Int.ofNat 6) 0), (.int (Int.ofNat 0) 0), (.int (Int.ofNat 0) 0), (.int (Int.ofNat 3) 0), (.ref 890), (.bool true), (.int (Int.ofNat 492) 0), (.ref 891), .none, (.ref 892), (.ref 893), (.ref 894), (.int (Int.ofNat 2390) 0), (.int (Int.ofNat 623) 0), (.str (Str.ofString "/claim/cut.py") 2391)]), #[]⟩) ::
  (nat_lit 896, ⟨(.type "function"), none, (.func (fX (st := (sAt 25)) rfl (Str.ofString "_law_holds") 3 [] .none .none .none (.str (Str.ofString "law_az6014_02") 2330) none (.ref 895) .none 0)), #[]⟩) ::
  (nat_lit 897, ⟨(.type "tuple"), none, (.seq #[] 0), #[]⟩) ::
  (nat_lit 899, ⟨(.type "tuple"), none, (.seq #[(.str (Str.ofString "script") 2396), (.str (Str.ofString "ways") 2397), (.str (Str.ofString "writers") 2398), (.str (Str.ofString "k") 2399), (.str (Str.ofString "pick") 2400), (.str (Str.ofString "more") 2401), (.str (Str.ofString "good") 2402)] 0), #[]⟩) ::
  (nat_lit 900, ⟨(.type "tuple"), none, (.seq #[] 0), #[]⟩) ::
  (nat_lit 902, ⟨(.type "code"), none, (.fields #[(.str (Str.ofString "law") 2393), (.str (Str.ofString "law") 2394), (.str (Str.ofString "/claim/cut.py") 2395), (.int (Int.ofNat 630) 0), (.int (Int.ofNat 1) 0), (.int (Int.ofNat 0) 0), (.int (Int.ofNat 0) 0), (.int (Int.ofNat 3) 0), (.ref 897), (.bool true), (.int (Int.ofNat 492) 0), (.ref 898), .none, (.ref 899), (.ref 900), (.ref 901), (.int (Int.ofNat 2403) 0), (.int (Int.ofNat 630) 0), (.str (Str.ofString "/claim/cut.py") 2404)]), #[]⟩) ::
  (nat_lit 903, ⟨(.type "function"), none, (.func (fX (st := (sAt 26)) rfl (Str.ofString "law") 3 [] .none .none .none (.str (Str.ofString "law_az6014_02") 2330) none (.ref 902) .none 0)), #[]⟩) :: []
def asK : List Addr := nat_lit 2 :: nat_lit 3 :: nat_lit 723 :: nat_lit 724 :: nat_lit 726 :: nat_lit 727 :: nat_lit 729 :: nat_lit 730 :: nat_lit 731 :: nat_lit 733 :: nat_lit 734 :: nat_lit 736 :: nat_lit 737 :: nat_lit 738 :: nat_lit 740 :: nat_lit 741 :: nat_lit 743 :: nat_lit 744 :: nat_lit 745 :: nat_lit 747 :: nat_lit 748 :: nat_lit 750 :: nat_lit 751 :: nat_lit 752 :: nat_lit 754 :: nat_lit 755 :: nat_lit 757 :: nat_lit 758 :: nat_lit 759 :: nat_lit 761 :: nat_lit 762 :: nat_lit 764 :: nat_lit 765 :: nat_lit 766 :: nat_lit 768 :: nat_lit 769 :: nat_lit 771 :: nat_lit 772 :: nat_lit 773 :: nat_lit 775 :: nat_lit 776 :: nat_lit 778 :: nat_lit 779 :: nat_lit 780 :: nat_lit 782 :: nat_lit 783 :: nat_lit 785 :: nat_lit 786 :: nat_lit 787 :: nat_lit 789 :: nat_lit 790 :: nat_lit 792 :: nat_lit 793 :: nat_lit 794 :: nat_lit 796 :: nat_lit 797 :: nat_lit 799 :: nat_lit 800 :: nat_lit 801 :: nat_lit 803 :: nat_lit 804 :: nat_lit 806 :: nat_lit 807 :: nat_lit 808 :: nat_lit 810 :: nat_lit 811 :: nat_lit 813 :: nat_lit 814 :: nat_lit 815 :: nat_lit 817 :: nat_lit 818 :: nat_lit 820 :: nat_lit 821 :: nat_lit 822 :: nat_lit 824 :: nat_lit 825 :: nat_lit 827 :: nat_lit 828 :: nat_lit 829 :: nat_lit 831 :: nat_lit 832 :: nat_lit 834 :: nat_lit 835 :: nat_lit 836 :: nat_lit 838 :: nat_lit 839 :: nat_lit 841 :: nat_lit 842 :: nat_lit 843 :: nat_lit 844 :: nat_lit 845 :: nat_lit 846 :: nat_lit 847 :: nat_lit 850 :: nat_lit 852 :: nat_lit 853 :: nat_lit 855 :: nat_lit 856 :: nat_lit 857 :: nat_lit 858 :: nat_lit 859 :: nat_lit 860 :: nat_lit 861 :: nat_lit 862 :: nat_lit 864 :: nat_lit 865 :: nat_lit 867 :: nat_lit 868 :: nat_lit 869 :: nat_lit 871 :: nat_lit 872 :: nat_lit 874 :: nat_lit 875 :: nat_lit 876 :: nat_lit 878 :: nat_lit 879 :: nat_lit 881 :: nat_lit 882 :: nat_lit 883 :: nat_lit 885 :: nat_lit 886 :: nat_lit 888 :: nat_lit 889 :: nat_lit 890 :: nat_lit 892 :: nat_lit 893 :: nat_lit 895 :: nat_lit 896 :: nat_lit 897 :: nat_lit 899 :: nat_lit 900 :: nat_lit 902 :: nat_lit 903 :: []

noncomputable def envT : Env := { scope := pw.main.scope, locals := mainNs, globals := mainNs, cells := [], code := .ref 60, frame := some 61 }
noncomputable def bT : List Stmt := behindTheImports pw
noncomputable def cT : Code := .body bT envT
def qT : Pos := ⟨0, 0, 0, 0⟩
def pA : Pos := ⟨9, 0, 9, 10⟩
def pB : Pos := ⟨222, 0, 238, 90⟩
def pU : Pos := ⟨370, 0, 370, 17⟩
def pZ : Pos := ⟨630, 0, 642, 20⟩
def lf : Life := {}
def dr : Drawn := {}
noncomputable def hO (P : Params) : Heap := absHeap (To P) 58 lf
noncomputable def thr (l : List Stmt) : Sem PySem.Fin := (execs l envT).wrap doneF deadEnd id id
-- the opening and the fence
noncomputable def opL (w : World) : Option (Heap × Array GenState × Drawn × Nat) := opF tbF pw w 2000
noncomputable def opR (w : World) : Option (Heap × Array GenState × Drawn × Nat) := some (hO w.params, #[], dr, 492)
noncomputable def szL (w : World) : Bool × Nat × Option Value := szF (hO w.params)
noncomputable def szR : Bool × Nat × Option Value := (true, 58, some (.ref 6))
noncomputable def prL (w : World) (os : OsState) : Option (Shared × Thread) := topGo tbF pw w 58 (some (.ref 6)) 12 ⟨hO w.params, #[], dr, 492, os⟩ (topStub pw)
noncomputable def prR (w : World) (os : OsState) : Option (Shared × Thread) := some (shF lf #[] dr os (Ta w.params) 62 498, ⟨denote tbF cT, cT, qT, [topFrame qT]⟩)
noncomputable def runA (w : World) : Option Res := runF 1 tbF ⟨pw, w.params⟩ 58 (some (.ref 6)) 760 (Ta w.params) 62 498 (thr (bT.take 4)) cT qT [topFrame qT]
noncomputable def endA (w : World) : Option Res := some (.next, Tx w.params, 75, 1164, cT, pA)
noncomputable def runB (w : World) : Option Res := runF 1 tbF ⟨pw, w.params⟩ 58 (some (.ref 6)) 2520 (Tx w.params) 75 1164 (thr ((bT.drop 4).take 4)) cT pA [topFrame qT]
noncomputable def endB (w : World) : Option Res := some (.next, Ty w.params, 518, 1688, cT, pB)
noncomputable def runC (w : World) : Option Res := runF 1 tbF ⟨pw, w.params⟩ 58 (some (.ref 6)) 4910 (Ty w.params) 518 1688 (thr (((bT.drop 4).drop 4).take 5)) cT pB [topFrame qT]
noncomputable def endC' (w : World) : Option Res := some (.next, Tu w.params, 716, 2081, cT, pU)
noncomputable def wayC (b : Bool) (w : World) : Option Res := runC (w.withFollow "special-get-raises" b)
noncomputable def endC (b : Bool) (w : World) : Option Res := endC' (w.withFollow "special-get-raises" b)
noncomputable def runD (w : World) : Option Res := runF 1 tbF ⟨pw, w.params⟩ 58 (some (.ref 6)) 1240 (Tu w.params) 716 2081 (thr (((bT.drop 4).drop 4).drop 5)) cT pU [topFrame qT]
noncomputable def q₀ : Program := view pw [0, 1, 2, 26]
def loose₀ : List Str := [Str.ofString "_wall", Str.ofString "_reserved_word_re", Str.ofString "_OWN_NAMES", Str.ofString "mappingproxy", Str.ofString "_MEMBERS_VIEW", Str.ofString "EnumType", Str.ofString "_EnumField", Str.ofString "Enum", Str.ofString "QuoteStyle", Str.ofString "_lay_QuoteStyle", Str.ofString "JSON5Encoder", Str.ofString "_raise_type_error", Str.ofString "_LAW_TEXTS", Str.ofString "_LAW_CUTS", Str.ofString "_law_number", Str.ofString "_law_indent", Str.ofString "_law_unit", Str.ofString "_law_pair", Str.ofString "_law_holds"]
noncomputable def Xt₀ (s : Shared) : Bool := xlAt q₀ [] s && recOk (RowW.records PySem.Challenge.rw_az6014_02.row.toRowW) s
noncomputable def Yo (s : Shared) : List (Option Obj) := asK.map s.heap.get?
noncomputable def Yp (w : World) : List (Option Obj) := (Kp w.params).map fun p => some p.2
noncomputable def blL (w : World) (os : OsState) : Option (Flow × Shared × Code × Pos) := segRun tbF pw w 58 (some (.ref 6)) 1 1 (shF lf #[] dr os (Ta w.params) 62 498) (blockOf bT envT cT qT [topFrame qT])
noncomputable def blR (w : World) (os : OsState) : Option (Flow × Shared × Code × Pos) := some (.next, shF lf #[] dr os (Ta w.params) 62 498, cT, qT)
noncomputable def outD (w : World) (os : OsState) := outF pw q₀ loose₀ Xt₀ Yo (hO w.params) lf dr os (runD w)
noncomputable def endD (w : World) := some (Flow.next, cT, pZ, (true, openGood q₀ loose₀, Yp w))
theorem prim : (ktrue opL && ktrue opR && ktrue szL && ktrue szR && ktrue prL && ktrue prR && ktrue runA && ktrue endA && ktrue runB && ktrue endB && ktrue wayC && ktrue endC && ktrue blL && ktrue blR && ktrue outD && ktrue endD) = true := by k_qdec
end Mine

end
section
open PySem PySem.W PyProof.Rows PySem.Calls
set_option maxHeartbeats 0
namespace Mine
theorem opQ (w : World) : PySem.W.Fast.tw11217192665457525573 w = PySem.W.Fast.tw10878962113691490226 w := by kernel_rfl
theorem szQ (w : World) : PySem.W.Fast.tw8678296325885592993 w = szR := by kernel_rfl
theorem prQ (w : World) (os : OsState) : PySem.W.Fast.tw9221607220596113746 w os = PySem.W.Fast.tw8215781771129891544 w os := by kernel_rfl
theorem blQ (w : World) (os : OsState) : PySem.W.Fast.tw17268284130642441625 w os = PySem.W.Fast.tw12672537797925404112 w os := by kernel_rfl
end Mine

end
section
open PySem PySem.W PyProof.Rows PySem.Calls
set_option maxHeartbeats 0
namespace Mine
theorem aQ (w : World) : PySem.W.Fast.tw6347087643196178181 w = PySem.W.Fast.tw2807579036846917317 w := by kernel_rfl
end Mine

end
section
open PySem PySem.W PyProof.Rows PySem.Calls
set_option maxHeartbeats 0
namespace Mine
theorem bQ (w : World) : PySem.W.Fast.tw7016275957249574054 w = PySem.W.Fast.tw2465960442173569058 w := by kernel_rfl
end Mine

end
section
open PySem PySem.W PyProof.Rows PySem.Calls
set_option maxHeartbeats 0
namespace Mine
theorem cQ (w : World) : PySem.W.Fast.tw12910067558929354837 false w = PySem.W.Fast.tw3413559777210677218 false w := by kernel_rfl
end Mine

end
section
open PySem PySem.W PyProof.Rows PySem.Calls
set_option maxHeartbeats 0
namespace Mine
theorem dQ (w : World) : PySem.W.Fast.tw12910067558929354837 true w = PySem.W.Fast.tw3413559777210677218 true w := by kernel_rfl
end Mine

end
section
open PySem PySem.W PyProof.Rows PySem.Calls
set_option maxHeartbeats 0
namespace Mine
theorem eQ (w : World) (os : OsState) : PySem.W.Fast.tw12331004220154721684 w os = PySem.W.Fast.tw17533845344581212123 w := by kernel_rfl
end Mine

end
section
open PySem PySem.W PyProof.Rows PySem.Calls
set_option maxHeartbeats 0
namespace Mine
theorem op_ok (w : World) : opL w = opR w := (congrFun PySem.W.Fast.te11217192665457525573 w).trans ((opQ w).trans (congrFun PySem.W.Fast.te10878962113691490226 w).symm)
theorem sz_ok (w : World) : szL w = szR := (congrFun PySem.W.Fast.te8678296325885592993 w).trans (szQ w)
theorem pr_ok (w : World) (os : OsState) : prL w os = prR w os := (congrFun (congrFun PySem.W.Fast.te9221607220596113746 w) os).trans ((prQ w os).trans (congrFun (congrFun PySem.W.Fast.te8215781771129891544 w) os).symm)
theorem bl_ok (w : World) (os : OsState) : blL w os = blR w os := (congrFun (congrFun PySem.W.Fast.te17268284130642441625 w) os).trans ((blQ w os).trans (congrFun (congrFun PySem.W.Fast.te12672537797925404112 w) os).symm)
theorem a_ok (w : World) : runA w = endA w := (congrFun PySem.W.Fast.te6347087643196178181 w).trans ((aQ w).trans (congrFun PySem.W.Fast.te2807579036846917317 w).symm)
theorem b_ok (w : World) : runB w = endB w := (congrFun PySem.W.Fast.te7016275957249574054 w).trans ((bQ w).trans (congrFun PySem.W.Fast.te2465960442173569058 w).symm)
theorem cf_ok (w : World) : wayC false w = endC false w := (congrFun (congrFun PySem.W.Fast.te12910067558929354837 false) w).trans ((cQ w).trans (congrFun (congrFun PySem.W.Fast.te3413559777210677218 false) w).symm)
theorem ct_ok (w : World) : wayC true w = endC true w := (congrFun (congrFun PySem.W.Fast.te12910067558929354837 true) w).trans ((dQ w).trans (congrFun (congrFun PySem.W.Fast.te3413559777210677218 true) w).symm)
theorem c_ok (w : World) : runC w = endC' w := byRow2 "special-get-raises" (P := fun w => runC w = endC' w) cf_ok ct_ok w
theorem d_ok (w : World) (os : OsState) : outD w os = endD w := (congrFun (congrFun PySem.W.Fast.te12331004220154721684 w) os).trans ((eQ w os).trans (congrFun PySem.W.Fast.te17533845344581212123 w).symm)
theorem KK_eq (P : Params) : KK P = Kp P := by kernel_rfl
theorem left : LeftO pw q₀ loose₀ Xt₀ Yo Yp 12000 :=
  left_parts (T0 := fun w => To w.params) (Ta := fun w => Ta w.params) (Tx := fun w => Tx w.params) (Ty := fun w => Ty w.params) (Tu := fun w => Tu w.params) (env := envT) (b := bT) (lf := lf) (dr := dr) (N0 := 2000)
    tbF_eq rfl op_ok sz_ok pr_ok bl_ok a_ok b_ok c_ok d_ok rfl rfl
theorem kk_e (P : Params) : asK = (KK P).map (·.1) := rfl
noncomputable abbrev hk : Hook := kHook KK asK kk_e
theorem left' : LeftO pw q₀ loose₀ Xt₀ hk.obs hk.val 12000 := by
  have e : hk.val = Yp := funext fun w => by show List.map (fun p : Addr × Obj => some p.2) (KK w.params) = List.map (fun p : Addr × Obj => some p.2) (Kp w.params); rw [KK_eq]
  rw [e]
  exact left
theorem hd {d : DefRec} {kwd : List (Str × PySem.Expr)} (hdef : defOf q₀ PySem.Challenge.rw_az6014_02.row.name = some (d, kwd)) (hp : PySem.Challenge.rw_az6014_02.row.prog.theDef PySem.Challenge.rw_az6014_02.row.name = some (d.params, d.body, d.scope)) (hk9 : kwWritten? d.params.kwonlyargs d.params.kw_defaults = some kwd)
    (walk : WalkO q₀ loose₀ (XL q₀ []) (kHook KK asK kk_e).says PySem.Challenge.rw_az6014_02.row.toRowW d kwd (fun f vs => PySem.call f vs)) : PySem.Challenge.rw_az6014_02.Holds := by
  w_on
  o_law
  refine holds_open (q := q₀) (loose := loose₀) (Xt := Xt₀) (XP := XL q₀ []) (Yf := hk.obs) (Ya := hk.val) (YP := hk.says) (N := 12000) left' hk.of hk.keeps (fun s e => xl_of s (Bool.and_eq_true_iff.mp e).1) XL.keeps hdef hp hk9 (fun s e => recFacts_of (Bool.and_eq_true_iff.mp e).2) (by rfl) (by assumption) (by decide +kernel) ⟨rfl, rfl, rfl, rfl, rfl, by decide +kernel⟩ ?hw ?hc
  case hw => w_witness2
  case hc => exact walk
end Mine

end
section
open PySem PySem.W PyProof.Rows PySem.Spec PySem.Calls
namespace Mine
noncomputable abbrev LS : List Str := looseW q₀ loose₀

def numF (ns : List Int) (p : Int) : Int := (if ns = [] then 0 else ns.getD (p % ns.length).toNat 0) + 11 * p

theorem num_ret1 {ns : List Int} {i : Int} (h0 : 0 ≤ i) (h : 0 < ns.length) : ns.getD (i.fmod (ns.length : Int)).toNat 0 + 11 * i = numF ns i := by
  unfold numF
  rw [if_neg (by intro e; subst e; exact absurd h (by decide)), Int.fmod_eq_emod_of_nonneg i (by omega)]
theorem num_ret2 {ns : List Int} {i : Int} (h : ¬ 0 < ns.length) : 0 + 11 * i = numF ns i := by
  unfold numF
  rw [if_pos (List.eq_nil_of_length_eq_zero (by omega))]

set_option maxHeartbeats 4000000 in
theorem num_call : ∀ (w : World) (mean : ExcName → Option Value) (mg mb : Str → Option Value) (dp un : Nat) (gd : Option (List Code)) (cn : Str) (cs : Scope) (a : Addr) (ccd : Value) (cl : List (Str × Addr)) (outer : List Env) (A₀ : Around) (base h₀ : Heap) (L : Addr) (m : Str → Option Value) (news : List (Addr × Obj)) (s : Shared) (l : Addr) (vs : List Value) (ns : List Int) (i : Int) (tk : Tok)
    (Q E : Value → Shared → Prop)
    (B : Below A₀ base outer h₀) (F : Fr h₀ L s.heap m) (X : (KK w.params).In h₀) (N : News h₀ L s.heap news) (T : Top q₀ LS mean mg mb h₀) (hk : cs.kind = .function) (hl : base.IsList l vs.toArray) (hi : IntsAre vs ns) (hfit : ns.length < 2 ^ 62) (h0 : 0 ≤ i) (h9 : i ≤ 9) (hd : dp + 1 < recursionLimit) (hu : un + 8 < cLine)
    (ret : ∀ t h' tk', Fr h₀ L h' m → News h₀ L h' news → Q (.int (numF ns i) t) { s with heap := h', toks := tk' }),
    wpAny (model PySem.Challenge.rw_az6014_02.row.prog w) (ktrTop dp un gd cn cs L a ccd cl outer) (call (.ref 868) [.ref l, .int i tk]) Q E s := by
  k_fill
  intro w mean mg mb dp un gd cn cs a ccd cl outer A₀ base h₀ L m news s l vs ns i tk Q E B F X N T hk hl hi hfit h0 h9 hd hu ret
  refine wpAny_call ?_
  k_dflt cell_enter
  k_steps
  · rw [num_ret1 h0 (by assumption)]; exact ret _ _ _ (by k_asm) (by k_asm)
  · rw [num_ret2 (by assumption)]; exact ret _ _ _ (by k_asm) (by k_asm)
end Mine

end
section
open PySem PySem.W PyProof.Rows PySem.Spec PySem.Calls
namespace Mine
inductive Ind : Value → Prop
  | none : Ind .none
  | str (x : Str) (t : Tok) : x.cps.size ≤ 2 → PyData.strOk x = true → Ind (.str x t)
  | bool (b : Bool) : Ind (.bool b)
  | int (n : Int) (t : Tok) : -40 ≤ n → n ≤ 40 → Ind (.int n t)
theorem mod41 (x : Int) : 0 ≤ x.fmod 41 ∧ x.fmod 41 ≤ 40 := by
  rw [Int.fmod_eq_emod_of_nonneg x (by decide)]
  omega
set_option maxHeartbeats 8000000 in
theorem indent_call : ∀ (w : World) (mean : ExcName → Option Value) (mg mb : Str → Option Value) (dp un : Nat) (gd : Option (List Code)) (cn : Str) (cs : Scope) (a : Addr) (ccd : Value) (cl : List (Str × Addr)) (outer : List Env) (A₀ : Around) (base h₀ : Heap) (L : Addr) (m : Str → Option Value) (news : List (Addr × Obj)) (s : Shared) (i : Int) (tk : Tok)
    (Q E : Value → Shared → Prop)
    (B : Below A₀ base outer h₀) (F : Fr h₀ L s.heap m) (X : (KK w.params).In h₀) (N : News h₀ L s.heap news) (T : Top q₀ LS mean mg mb h₀) (hk : cs.kind = .function)  (hd : dp + 12 < recursionLimit) (hu : un + 120 < cLine)
    (ret : ∀ v h' tk', Ind v → Fr h₀ L h' m → News h₀ L h' news → Q v { s with heap := h', toks := tk' }),
    wpAny (model PySem.Challenge.rw_az6014_02.row.prog w) (ktrTop dp un gd cn cs L a ccd cl outer) (call (.ref 875) [.int i tk]) Q E s := by
  k_fill
  intros w mean mg mb dp un gd cn cs a ccd cl outer A₀ base h₀ L m news s
  intro i tk Q E B F X N T hk hd hu ret
  refine wpAny_call ?_
  k_dflt cell_enter
  k_steps
  all_goals (refine ret _ _ _ ?_ (by k_asm) (by k_asm))
  all_goals first
    | exact Ind.none
    | exact Ind.bool _
    | exact Ind.str _ _ (by decide +kernel) (by decide +kernel)
    | exact Ind.int _ _ (by decide) (by decide)
    | exact Ind.int _ _ (by have := mod41 (i.fdiv 6); omega) (by have := mod41 (i.fdiv 6); omega)

end Mine

end
section
open PySem PySem.W PyProof.Rows PySem.Spec PySem.Calls
namespace Mine
section
variable {prog : Program} {w : World} {A : Around} {E : Value → Shared → Prop} {s : Shared} {Q : Value → Shared → Prop}
theorem gives_gt_bi (p : Bool) (b : Int) (u : Tok) : Gives (Builtin.«int.__gt__» ⟨[.bool p, .int b u], []⟩) (.val (Value.bool (decide ((if p = true then (1 : Int) else 0) > b)))) :=
  .of_wp fun M A E s Q h => by obtain ⟨hp, g, d, tk, os⟩ := s; wp_walk; exact ⟨_, rfl, h⟩
theorem gt_bool_int {p : Bool} {b : Int} {u : Tok} (h : Q (.bool (decide ((if p = true then (1 : Int) else 0) > b))) s) : wpAny (model prog w) A (compareOp .Gt (.bool p) (.int b u)) Q E s := by
  show wpAny _ A (richCompare .Gt _ _) Q E s
  exact wpAny_richCompare_left rfl (typeIs_int s b u) (by decide) F.sub_int_bool F.slot_bool_gt
    (call_gives F.slot_bool_gt rfl F.entry_int_gt (F.args_int_gt_2 _ _) (gives_gt_bi p b u) ⟨nofun, h⟩)
theorem gives_rmul_bs (p : Bool) (x : Str) (u : Tok) : Gives (Builtin.«int.__rmul__» ⟨[.bool p, .str x u], []⟩) (.val .notImplemented) :=
  .of_wp fun M A E s Q h => by obtain ⟨hp, g, d, tk, os⟩ := s; wp_walk; exact ⟨_, rfl, h⟩
theorem gives_mul_true (x : Str) (t : Tok) : Gives (Builtin.«str.__mul__» ⟨[.str x t, .bool true], []⟩) (.val (.str x t)) :=
  .of_wp fun M A E s Q h => by
    obtain ⟨hp, g, d, tk, os⟩ := s
    wp_walk
    exact ⟨_, rfl, h⟩
theorem mul_true {x : Str} {t : Tok} (h : Q (.str x t) s) : wpAny (model prog w) A (binaryOp .Mult (.str x t) (.bool true)) Q E s :=
  wpAny_binaryOp_repeat (T := "str") (U := "bool") (by decide) (fun s' => typeIs_str s' x t) (fun _ => rfl) noFill_str_mul F.fills_bool_mul F.slot_bool_rmul repeat_str F.slot_bool_index.lookup
    (call_gives F.slot_bool_rmul rfl F.entry_int_rmul (F.args_int_rmul_2 _ _) (gives_rmul_bs true x t)
      ⟨rfl, call_gives F.slot_str_mul (typeIs_str s x t) F.entry_str_mul (F.args_str_mul_2 _ _) (gives_mul_true x t) h⟩)
theorem mul_len2 {x : Str} {n : Int} (L : Nat) (hx : x.length ≤ L) (hn : n ≤ 50) : (Txt.mul x n).length ≤ L * 50 := by
  have e := len_mul x n
  by_cases h : n < 0
  · rw [if_pos (by simpa using h)] at e
    have : (Txt.mul x n).length = 0 := by omega
    omega
  · rw [if_neg (by simpa using h)] at e
    have a : (x.length : Int) * n ≤ L * 50 := Int.mul_le_mul (by omega) hn (by omega) (by omega)
    omega
theorem mul_rule {x : Str} {t u : Tok} {n : Int} (L : Nat) (hL : L ≤ 2000) (hx : x.length ≤ L) (h1 : n ≤ 50) (h2 : -50 ≤ n) (h : ∀ t' k, (Txt.mul x n).length ≤ L * 50 → Q (.str (Txt.mul x n) t') { s with toks := k }) : wpAny (model prog w) A (binaryOp .Mult (.str x t) (.int n u)) Q E s :=
  SB.mul (mulOk_of L 50 hx h1 (by omega) (by decide) (by omega)) fun t' k => h t' k (mul_len2 L hx h1)
end
theorem str_eq {x y : Str} (h : x.cps = y.cps) : x = y := by cases x; cases y; cases h; rfl
theorem app_nil (x : Str) : x ++ Str.ofString "" = x := str_eq (by show x.cps ++ #[] = x.cps; exact Array.append_empty)
theorem nil_app (x : Str) : Str.ofString "" ++ x = x := str_eq (by show #[] ++ x.cps = x.cps; exact Array.empty_append)
theorem app_assoc (x y z : Str) : (x ++ y) ++ z = x ++ (y ++ z) := str_eq (by show x.cps ++ y.cps ++ z.cps = x.cps ++ (y.cps ++ z.cps); exact Array.append_assoc)
theorem mul_lt1 {x : Str} {n : Int} (h : n < 1) : Txt.mul x n = Str.ofString "" := by unfold Txt.mul; rw [if_pos h]; rfl
theorem mul_empty {n : Int} : Txt.mul (Str.ofString "") n = Str.ofString "" := by
  unfold Txt.mul
  by_cases h : n < 1
  · rw [if_pos h]; rfl
  · rw [if_neg h, if_pos (by rw [show (Str.ofString "").length = 0 from rfl]; simp)]
theorem ok_app {x y : Str} (h1 : PyData.strOk x = true) (h2 : PyData.strOk y = true) : PyData.strOk (x ++ y) = true := by
  unfold PyData.strOk at *
  rw [show (x ++ y).cps = x.cps ++ y.cps from rfl, Array.all_append, h1, h2]; rfl
theorem ok_reps {c : Array Nat} (h : PyData.strOk ⟨c⟩ = true) : ∀ (k : Nat) (acc : Array Nat), PyData.strOk ⟨acc⟩ = true → PyData.strOk ⟨(List.replicate k c).foldl (· ++ ·) acc⟩ = true
  | 0, acc, ha => ha
  | k + 1, acc, ha => by
    rw [List.replicate_succ, List.foldl_cons]
    exact ok_reps h k _ (ok_app (x := ⟨acc⟩) (y := ⟨c⟩) ha h)
theorem ok_mul {x : Str} {n : Int} (h : PyData.strOk x = true) : PyData.strOk (Txt.mul x n) = true := by
  unfold Txt.mul
  split
  · decide +kernel
  · split
    · exact h
    · exact ok_reps h _ _ (by decide +kernel)
end Mine

end
section
open PySem PySem.W PyProof.Rows PySem.Spec PySem.Calls
namespace Mine
theorem all_ne1 {news : List (Addr × Obj)} {d : Addr} (h : ∀ p ∈ news, p.1 < d) : ∀ p ∈ news, p.1 ≠ d := fun p hp => Nat.ne_of_lt (h p hp)
theorem all_ne2 {news : List (Addr × Obj)} {d x : Addr} (h : ∀ p ∈ news, p.1 < d) (l : d < x) : ∀ p ∈ news, p.1 ≠ x := fun p hp => Nat.ne_of_lt (Nat.lt_trans (h p hp) l)
local macro_rules | `(tactic| k_all) => `(tactic| first | exact all_ne1 (by assumption) | exact all_ne2 (by assumption) (by assumption))
structure Wr (es : List DictEntry) (v : Value) (b : Bool) (i k : Str) : Prop where
  ind : getL (Str.ofString "indent") es = some (some v)
  tra : getL (Str.ofString "trailing_commas") es = some (some (.bool b))
  ite : ∃ t, getL (Str.ofString "item_separator") es = some (some (.str i t))
  kvs : ∃ t, getL (Str.ofString "kv_separator") es = some (some (.str k t))
  spa : getL (Str.ofString "_spacers") es = some none
theorem wrOf {es v b i k t u} (h1 : getL (Str.ofString "indent") es = some (some v)) (h2 : getL (Str.ofString "trailing_commas") es = some (some (.bool b))) (h3 : getL (Str.ofString "item_separator") es = some (some (.str i t))) (h4 : getL (Str.ofString "kv_separator") es = some (some (.str k u))) (h5 : getL (Str.ofString "_spacers") es = some none) : Wr es v b i k := ⟨h1, h2, ⟨t, h3⟩, ⟨u, h4⟩, h5⟩
theorem drop1 {g h : Heap} {L : Addr} {a b c : Addr × Obj} {news} (N : News g L h (a :: b :: c :: news)) : News g L h (b :: c :: news) := N.perm fun _ hp => List.Mem.tail _ hp
set_option maxHeartbeats 8000000 in
theorem call_none : ∀ (w : World) (mean : ExcName → Option Value) (mg mb : Str → Option Value) (dp un : Nat) (gd : Option (List Code)) (cn : Str) (cs : Scope) (a : Addr) (ccd : Value) (cl : List (Str × Addr)) (outer : List Env) (A₀ : Around) (base h₀ : Heap) (L : Addr) (m : Str → Option Value) (news : List (Addr × Obj)) (s : Shared)  (b : Bool)
    (Q E : Value → Shared → Prop)
    (B : Below A₀ base outer h₀) (F : Fr h₀ L s.heap m) (X : (KK w.params).In h₀) (N : News h₀ L s.heap news) (T : Top q₀ LS mean mg mb h₀) (hk : cs.kind = .function)  (hd : dp + 12 < recursionLimit) (hu : un + 120 < cLine)
    (ret : ∀ x' d' h' tk' es n, Wr es (.none) b (Str.ofString ", ") (Str.ofString ": ") → (∀ p ∈ news, p.1 < d') → d' < x' → Fr h₀ L h' m → News h₀ L h' ((x', instObj 845 d') :: (d', dictOf es n) :: news) → Q (.ref x') { s with heap := h', toks := tk' }),
    wpAny (model PySem.Challenge.rw_az6014_02.row.prog w) (ktrTop dp un gd cn cs L a ccd cl outer) (call (.ref 845) [] [(Str.ofString "indent", .none), (Str.ofString "trailing_commas", .bool b), (Str.ofString "separators", .none)]) Q E s := by
  k_fill
  intros w mean mg mb dp un gd cn cs a ccd cl outer A₀ base h₀ L m news s
  intro  b Q E B F X N T hk hd hu ret
  k_dflt (refine' call_cls ?k1 ?k2 ?k3 ?k4 ?k5 ?k6 ?_)
  case k1 => k_asm
  case k2 => k_asm
  case k3 => k_asm
  case k4 => k_is
  case k5 => k_is
  case k6 => k_is
  intro x' d' h' F' N' l1 l2
  k_lt2 l2
  k_dflt (refine' code_def (binds := ((Str.ofString "self"), .ref x') :: ((Str.ofString "skipkeys"), .bool false) :: ((Str.ofString "ensure_ascii"), .bool true) :: ((Str.ofString "allow_nan"), .bool true) :: ((Str.ofString "indent"), .none) :: ((Str.ofString "separators"), .none) :: ((Str.ofString "default"), .none) :: ((Str.ofString "sort_keys"), .bool false) :: ((Str.ofString "quote_keys"), .bool false) :: ((Str.ofString "trailing_commas"), .bool b) :: ((Str.ofString "allow_duplicate_keys"), .bool true) :: ((Str.ofString "quote_style"), .ref 685) :: []) ?k1 ?k2 ?k3 ?k4 ?k5 ?kA ?kF ?kK ?k6 ?k7 ?k8 ?k9 ?kB ?_ ?c2 ?c3 ?c4 ?c5)
  case kA => exact rfl
  case kF => exact rfl
  case kK => assumption
  case k1 => k_asm
  case k2 => k_asm
  case k3 => k_asm
  case k4 => k_asm
  case k5 => k_asm
  case k6 => k_is
  case k7 => k_is
  case k8 => ktr_room
  case k9 => (k_dflt (refine' kp_binds ?kx ?ke)); (case kx => k_in); (case ke => k_dflt (exact fun _ => rfl))
  case c5 => decide
  case kB => k_dflt (exact locs rfl)
  case c2 => exact rfl
  case c3 => exact rfl
  case c4 => exact rfl
  intro g' L' h1' FG' F' N' B' X' T'
  (try dsimp only)
  (try dsimp only at F')
  (try k_lift B')
  (try k_fold)
  k_steps
  all_goals (refine' ret _ _ _ _ _ _ (wrOf ?ww1 ?ww2 ?ww3 ?ww4 ?ww5) l1 l2 (by k_asm) (drop1 (by k_asm)))
  all_goals first | k_get | skip

end Mine

end
section
open PySem PySem.W PyProof.Rows PySem.Spec PySem.Calls
namespace Mine
local macro_rules | `(tactic| k_all) => `(tactic| first | exact all_ne1 (by assumption) | exact all_ne2 (by assumption) (by assumption))
local macro_rules | `(tactic| k_is) => `(tactic| assumption)
set_option maxHeartbeats 8000000 in
theorem call_cut : ∀ (w : World) (mean : ExcName → Option Value) (mg mb : Str → Option Value) (dp un : Nat) (gd : Option (List Code)) (cn : Str) (cs : Scope) (a : Addr) (ccd : Value) (cl : List (Str × Addr)) (outer : List Env) (A₀ : Around) (base h₀ : Heap) (L : Addr) (m : Str → Option Value) (news : List (Addr × Obj)) (s : Shared) (v : Value) (b : Bool) (ca : Addr) (i k : Str) (t u : Tok) (hc : (KK w.params).lookup ca = some ⟨.type "tuple", none, .seq #[.str i t, .str k u] 0, #[]⟩)
    (Q E : Value → Shared → Prop)
    (B : Below A₀ base outer h₀) (F : Fr h₀ L s.heap m) (X : (KK w.params).In h₀) (N : News h₀ L s.heap news) (T : Top q₀ LS mean mg mb h₀) (hk : cs.kind = .function)  (hd : dp + 12 < recursionLimit) (hu : un + 120 < cLine)
    (ret : ∀ x' d' h' tk' es n, Wr es v b i k → (∀ p ∈ news, p.1 < d') → d' < x' → Fr h₀ L h' m → News h₀ L h' ((x', instObj 845 d') :: (d', dictOf es n) :: news) → Q (.ref x') { s with heap := h', toks := tk' }),
    wpAny (model PySem.Challenge.rw_az6014_02.row.prog w) (ktrTop dp un gd cn cs L a ccd cl outer) (call (.ref 845) [] [(Str.ofString "indent", v), (Str.ofString "trailing_commas", .bool b), (Str.ofString "separators", .ref ca)]) Q E s := by
  k_fill
  intros w mean mg mb dp un gd cn cs a ccd cl outer A₀ base h₀ L m news s
  intro v b ca i k t u hc Q E B F X N T hk hd hu ret
  k_dflt (refine' call_cls ?k1 ?k2 ?k3 ?k4 ?k5 ?k6 ?_)
  case k1 => k_asm
  case k2 => k_asm
  case k3 => k_asm
  case k4 => k_is
  case k5 => k_is
  case k6 => k_is
  intro x' d' h' F' N' l1 l2
  k_lt2 l2
  k_dflt (refine' code_def (binds := ((Str.ofString "self"), .ref x') :: ((Str.ofString "skipkeys"), .bool false) :: ((Str.ofString "ensure_ascii"), .bool true) :: ((Str.ofString "allow_nan"), .bool true) :: ((Str.ofString "indent"), v) :: ((Str.ofString "separators"), .ref ca) :: ((Str.ofString "default"), .none) :: ((Str.ofString "sort_keys"), .bool false) :: ((Str.ofString "quote_keys"), .bool false) :: ((Str.ofString "trailing_commas"), .bool b) :: ((Str.ofString "allow_duplicate_keys"), .bool true) :: ((Str.ofString "quote_style"), .ref 685) :: []) ?k1 ?k2 ?k3 ?k4 ?k5 ?kA ?kF ?kK ?k6 ?k7 ?k8 ?k9 ?kB ?_ ?c2 ?c3 ?c4 ?c5)
  case kA => exact rfl
  case kF => exact rfl
  case kK => assumption
  case k1 => k_asm
  case k2 => k_asm
  case k3 => k_asm
  case k4 => k_asm
  case k5 => k_asm
  case k6 => k_is
  case k7 => k_is
  case k8 => ktr_room
  case k9 => (k_dflt (refine' kp_binds ?kx ?ke)); (case kx => k_in); (case ke => k_dflt (exact fun _ => rfl))
  case c5 => decide
  case kB => k_dflt (exact locs rfl)
  case c2 => exact rfl
  case c3 => exact rfl
  case c4 => exact rfl
  intro g' L' h1' FG' F' N' B' X' T'
  (try dsimp only)
  (try dsimp only at F')
  (try k_lift B')
  (try k_fold)
  k_steps
  all_goals (refine' ret _ _ _ _ _ _ (wrOf ?ww1 ?ww2 ?ww3 ?ww4 ?ww5) l1 l2 (by k_asm) (by k_asm))
  all_goals first | k_get | skip

end Mine

end
section
open PySem PySem.W PyProof.Rows PySem.Spec PySem.Calls
namespace Mine
local macro_rules | `(tactic| k_all) => `(tactic| first | exact all_ne1 (by assumption) | exact all_ne2 (by assumption) (by assumption))
local macro_rules | `(tactic| walk_at "compareOp Is") => `(tactic| refine wpAny_is_other (by assumption) (by assumption) ?_)
set_option maxHeartbeats 8000000 in
theorem call_some : ∀ (w : World) (mean : ExcName → Option Value) (mg mb : Str → Option Value) (dp un : Nat) (gd : Option (List Code)) (cn : Str) (cs : Scope) (a : Addr) (ccd : Value) (cl : List (Str × Addr)) (outer : List Env) (A₀ : Around) (base h₀ : Heap) (L : Addr) (m : Str → Option Value) (news : List (Addr × Obj)) (s : Shared) (v : Value) (b : Bool) (hp : plainIs v .none = true) (hv : v ≠ .none)
    (Q E : Value → Shared → Prop)
    (B : Below A₀ base outer h₀) (F : Fr h₀ L s.heap m) (X : (KK w.params).In h₀) (N : News h₀ L s.heap news) (T : Top q₀ LS mean mg mb h₀) (hk : cs.kind = .function)  (hd : dp + 12 < recursionLimit) (hu : un + 120 < cLine)
    (ret : ∀ x' d' h' tk' es n, Wr es v b (Str.ofString ",") (Str.ofString ": ") → (∀ p ∈ news, p.1 < d') → d' < x' → Fr h₀ L h' m → News h₀ L h' ((x', instObj 845 d') :: (d', dictOf es n) :: news) → Q (.ref x') { s with heap := h', toks := tk' }),
    wpAny (model PySem.Challenge.rw_az6014_02.row.prog w) (ktrTop dp un gd cn cs L a ccd cl outer) (call (.ref 845) [] [(Str.ofString "indent", v), (Str.ofString "trailing_commas", .bool b), (Str.ofString "separators", .none)]) Q E s := by
  k_fill
  intros w mean mg mb dp un gd cn cs a ccd cl outer A₀ base h₀ L m news s
  intro v b hp hv Q E B F X N T hk hd hu ret
  k_dflt (refine' call_cls ?k1 ?k2 ?k3 ?k4 ?k5 ?k6 ?_)
  case k1 => k_asm
  case k2 => k_asm
  case k3 => k_asm
  case k4 => k_is
  case k5 => k_is
  case k6 => k_is
  intro x' d' h' F' N' l1 l2
  k_lt2 l2
  k_dflt (refine' code_def (binds := ((Str.ofString "self"), .ref x') :: ((Str.ofString "skipkeys"), .bool false) :: ((Str.ofString "ensure_ascii"), .bool true) :: ((Str.ofString "allow_nan"), .bool true) :: ((Str.ofString "indent"), v) :: ((Str.ofString "separators"), .none) :: ((Str.ofString "default"), .none) :: ((Str.ofString "sort_keys"), .bool false) :: ((Str.ofString "quote_keys"), .bool false) :: ((Str.ofString "trailing_commas"), .bool b) :: ((Str.ofString "allow_duplicate_keys"), .bool true) :: ((Str.ofString "quote_style"), .ref 685) :: []) ?k1 ?k2 ?k3 ?k4 ?k5 ?kA ?kF ?kK ?k6 ?k7 ?k8 ?k9 ?kB ?_ ?c2 ?c3 ?c4 ?c5)
  case kA => exact rfl
  case kF => exact rfl
  case kK => assumption
  case k1 => k_asm
  case k2 => k_asm
  case k3 => k_asm
  case k4 => k_asm
  case k5 => k_asm
  case k6 => k_is
  case k7 => k_is
  case k8 => ktr_room
  case k9 => (k_dflt (refine' kp_binds ?kx ?ke)); (case kx => k_in); (case ke => k_dflt (exact fun _ => rfl))
  case c5 => decide
  case kB => k_dflt (exact locs rfl)
  case c2 => exact rfl
  case c3 => exact rfl
  case c4 => exact rfl
  intro g' L' h1' FG' F' N' B' X' T'
  (try dsimp only)
  (try dsimp only at F')
  (try k_lift B')
  (try k_fold)
  k_steps
  all_goals (refine' ret _ _ _ _ _ _ (wrOf ?ww1 ?ww2 ?ww3 ?ww4 ?ww5) l1 l2 (by k_asm) (drop1 (by k_asm)))
  all_goals first | k_get | skip

end Mine

end
section
open PySem PySem.W PyProof.Rows PySem.Spec PySem.Calls
namespace Mine
abbrev tupO (l : List Value) : Obj := { cls := .type "tuple", data := .seq l.toArray }
def unitF : Value → Str
  | .str x _ => x
  | .bool b => if b then Str.ofString " " else Str.ofString ""
  | .int n _ => Txt.mul (Str.ofString " ") n
  | _ => Str.ofString ""
def sepI (v : Value) (lev : Int) : Str := if v = .none then Str.ofString "" else Str.ofString "\n" ++ Txt.mul (unitF v) lev
def sepE (v : Value) (b : Bool) (lev : Int) : Str := if v = .none then Str.ofString "" else (if b then Str.ofString "," else Str.ofString "") ++ (Str.ofString "\n" ++ Txt.mul (unitF v) (lev - 1))
theorem mulSmall {x : Str} {n : Int} (h1 : (x.length : Int) ≤ 300) (h2 : n ≤ 300) (h3 : -300 ≤ n) : MulOk x n := mulOk_of 300 300 (by omega) h2 (by omega) (by decide) (by decide)
theorem pair_end {h₀ h' : Heap} {L q : Addr} {m : Str → Option Value} {news : List (Addr × Obj)} {s : Shared} {Q : Value → Shared → Prop} {v : Value} {b : Bool} {lev : Int} {x y : Str} {t1 t2 : Tok} {tk' : Nat}
    (ret : ∀ q h' tk' t1 t2, (∀ p ∈ news, p.1 < q) → Fr h₀ L h' m → News h₀ L h' ((q, tupO [.str (sepI v lev) t1, .str (sepE v b lev) t2]) :: news) → Q (.ref q) { s with heap := h', toks := tk' })
    (l : ∀ p ∈ news, p.1 < q) (F : Fr h₀ L h' m) (N : News h₀ L h' ((q, tupO [.str x t1, .str y t2]) :: news)) (e1 : x = sepI v lev) (e2 : y = sepE v b lev) : Q (.ref q) { s with heap := h', toks := tk' } := by
  subst e1 e2
  exact ret q h' tk' t1 t2 l F N
theorem sepI_none {lev : Int} : Str.ofString "" = sepI .none lev := by unfold sepI; rw [if_pos rfl]
theorem sepE_none {b : Bool} {lev : Int} : Str.ofString "" = sepE .none b lev := by unfold sepE; rw [if_pos rfl]
theorem sepI_some {v : Value} {lev : Int} {x : Str} (h : v ≠ .none) (e : x = Txt.mul (unitF v) lev) : Str.ofString "\n" ++ x = sepI v lev := by unfold sepI; rw [if_neg h, e]
theorem sepI_bare {v : Value} {lev : Int} (h : v ≠ .none) (e : unitF v = Str.ofString "") : Str.ofString "\n" = sepI v lev := by unfold sepI; rw [if_neg h, e, mul_empty, app_nil]
theorem sepE_t {v : Value} {lev : Int} {b : Bool} {x : Str} (h : v ≠ .none) (hb : b = true) (e : x = Txt.mul (unitF v) (lev - 1)) : Str.ofString "," ++ (Str.ofString "\n" ++ x) = sepE v b lev := by unfold sepE; rw [if_neg h, hb, if_pos rfl, e]
theorem sepE_tb {v : Value} {lev : Int} {b : Bool} (h : v ≠ .none) (hb : b = true) (e : unitF v = Str.ofString "") : Str.ofString ",\n" = sepE v b lev := by unfold sepE; rw [if_neg h, hb, if_pos rfl, e, mul_empty, app_nil]; rfl
theorem sepE_f {v : Value} {lev : Int} {b : Bool} {x : Str} (h : v ≠ .none) (hb : b = false) (e : x = Txt.mul (unitF v) (lev - 1)) : Str.ofString "" ++ (Str.ofString "\n" ++ x) = sepE v b lev := by unfold sepE; rw [if_neg h, hb, if_neg (by decide), e]
theorem sepE_fb {v : Value} {lev : Int} {b : Bool} (h : v ≠ .none) (hb : b = false) (e : unitF v = Str.ofString "") : Str.ofString "\n" = sepE v b lev := by unfold sepE; rw [if_neg h, hb, if_neg (by decide), e, mul_empty, app_nil, nil_app]
local macro_rules | `(tactic| k_get) => `(tactic| assumption)
local macro_rules | `(tactic| walk_at "compareOp Gt bool int") => `(tactic| refine gt_bool_int ?_)
local macro_rules | `(tactic| walk_at "binaryOp Mult str bool") => `(tactic| refine mul_true ?_)
local macro_rules | `(tactic| walk_at "binaryOp Mult str int") => `(tactic| (refine mul_rule 50 (by decide) (by first | assumption | decide +kernel | exact ‹_ ≤ 2›) (by omega) (by omega) ?_; intro _ _ hln))
local macro_rules | `(tactic| walk_at "binaryOp Mult str int") => `(tactic| (refine mul_rule 2 (by decide) (by first | assumption | decide +kernel | exact ‹_ ≤ 2›) (by omega) (by omega) ?_; intro _ _ hln))
local macro_rules | `(tactic| walk_at "binaryOp Mult str int") => `(tactic| (refine mul_rule 1 (by decide) (by first | assumption | decide +kernel | exact ‹_ ≤ 2›) (by omega) (by omega) ?_; intro _ _ hln))
local macro_rules | `(tactic| walk_at "binaryOp Add str str") => `(tactic| (refine SBL.add (hsz := by simp only [PySem.sizeLine_eq, show (Str.ofString "\n").length = 1 from rfl, show (Str.ofString ",").length = 1 from rfl, show (Str.ofString "").length = 0 from rfl] at *; omega) ?_; intro _ _ _))
set_option maxHeartbeats 8000000 in
theorem spac_call : ∀ (w : World) (mean : ExcName → Option Value) (mg mb : Str → Option Value) (dp un : Nat) (gd : Option (List Code)) (cn : Str) (cs : Scope) (a : Addr) (ccd : Value) (cl : List (Str × Addr)) (outer : List Env) (A₀ : Around) (base h₀ : Heap) (L : Addr) (m : Str → Option Value) (news : List (Addr × Obj)) (s : Shared) (v : Value) (b : Bool) (lev : Int) (t : Tok) (x d : Addr) (es : List DictEntry) (n : Nat) (i k : Str)
    (Q E : Value → Shared → Prop)
    (B : Below A₀ base outer h₀) (F : Fr h₀ L s.heap m) (X : (KK w.params).In h₀) (N : News h₀ L s.heap news) (T : Top q₀ LS mean mg mb h₀) (hk : cs.kind = .function) (hv : Ind v) (hw : Wr es v b i k) (hx : (x, instObj 845 d) ∈ news) (hdd : (d, dictOf es n) ∈ news) (h0 : 0 ≤ lev) (h7 : lev ≤ 7) (hd : dp + 12 < recursionLimit) (hu : un + 120 < cLine)
    (ret : ∀ q h' tk' t1 t2, (∀ p ∈ news, p.1 < q) → Fr h₀ L h' m → News h₀ L h' ((q, tupO [.str (sepI v lev) t1, .str (sepE v b lev) t2]) :: news) → Q (.ref q) { s with heap := h', toks := tk' }),
    wpAny (model PySem.Challenge.rw_az6014_02.row.prog w) (ktrTop dp un gd cn cs L a ccd cl outer) (call (.ref 814) [.ref x, .int lev t]) Q E s := by
  k_fill
  intros w mean mg mb dp un gd cn cs a ccd cl outer A₀ base h₀ L m news s
  intro v b lev t x d es n i k Q E B F X N T hk hv hw hx hdd h0 h7 hd hu ret
  obtain ⟨hw1, hw2, ⟨u1, hw3⟩, ⟨u2, hw4⟩, hw5⟩ := hw
  refine wpAny_call ?_
  rcases hv with _ | ⟨x1, t1, hl, hso⟩ | ⟨_ | _⟩ | ⟨n1, t2, ha, hb⟩
  all_goals k_dflt cell_enter
  all_goals k_steps
  all_goals (refine' pair_end ret (by with_reducible assumption) (by with_reducible assumption) (by with_reducible assumption) ?_ ?_)
  all_goals first | with_reducible exact sepI_none | with_reducible exact sepE_none | ((with_reducible refine sepI_some ?_ ?_) <;> first | (intro h; cases h; done) | rfl) | ((with_reducible refine sepI_bare ?_ ?_) <;> first | (intro h; cases h; done) | exact mul_lt1 (by omega) | rfl) | ((with_reducible refine sepE_t ?_ ?_ ?_) <;> first | (intro h; cases h; done) | assumption | rfl) | ((with_reducible refine sepE_tb ?_ ?_ ?_) <;> first | (intro h; cases h; done) | assumption | exact mul_lt1 (by omega) | rfl) | ((with_reducible refine sepE_f ?_ ?_ ?_) <;> first | (intro h; cases h; done) | assumption | rfl) | ((with_reducible refine sepE_fb ?_ ?_ ?_) <;> first | (intro h; cases h; done) | assumption | exact mul_lt1 (by omega) | rfl)

end Mine

end
section
open PySem PySem.W PyProof.Rows PySem.Spec PySem.Calls
namespace Mine
local macro_rules | `(tactic| k_get) => `(tactic| assumption)
local macro_rules | `(tactic| walk_at "compareOp Gt bool int") => `(tactic| refine gt_bool_int ?_)
local macro_rules | `(tactic| walk_at "binaryOp Mult str bool") => `(tactic| refine mul_true ?_)
local macro_rules | `(tactic| walk_at "binaryOp Mult str int") => `(tactic| (refine mul_rule 50 (by decide) (by first | assumption | decide +kernel | exact ‹_ ≤ 2›) (by omega) (by omega) ?_; intro _ _ hln))
local macro_rules | `(tactic| walk_at "binaryOp Mult str int") => `(tactic| (refine mul_rule 2 (by decide) (by first | assumption | decide +kernel | exact ‹_ ≤ 2›) (by omega) (by omega) ?_; intro _ _ hln))
local macro_rules | `(tactic| walk_at "binaryOp Mult str int") => `(tactic| (refine mul_rule 1 (by decide) (by first | assumption | decide +kernel | exact ‹_ ≤ 2›) (by omega) (by omega) ?_; intro _ _ hln))
local macro_rules | `(tactic| walk_at "binaryOp Add str str") => `(tactic| (refine SBL.add (hsz := by simp only [PySem.sizeLine_eq, show (Str.ofString "\n").length = 1 from rfl, show (Str.ofString ",\n").length = 2 from rfl, show (Str.ofString ",").length = 1 from rfl, show (Str.ofString "").length = 0 from rfl] at *; omega) ?_; intro _ _ _))
theorem unit_end {h₀ h' : Heap} {L : Addr} {m : Str → Option Value} {news : List (Addr × Obj)} {s : Shared} {Q : Value → Shared → Prop} {v : Value} {x : Str} {t1 : Tok} {tk' : Nat}
    (ret : ∀ h' tk' t1, (unitF v).length ≤ 50 → Fr h₀ L h' m → News h₀ L h' news → Q (.str (unitF v) t1) { s with heap := h', toks := tk' })
    (F : Fr h₀ L h' m) (N : News h₀ L h' news) (e1 : x = unitF v) (e2 : x.length ≤ 50) : Q (.str x t1) { s with heap := h', toks := tk' } := by
  subst e1
  exact ret h' tk' t1 e2 F N
theorem mul_one {x : Str} : Txt.mul x 1 = x := by unfold Txt.mul; rw [if_neg (by decide), if_pos (by rfl)]
set_option maxHeartbeats 8000000 in
theorem unit_call : ∀ (w : World) (mean : ExcName → Option Value) (mg mb : Str → Option Value) (dp un : Nat) (gd : Option (List Code)) (cn : Str) (cs : Scope) (a : Addr) (ccd : Value) (cl : List (Str × Addr)) (outer : List Env) (A₀ : Around) (base h₀ : Heap) (L : Addr) (m : Str → Option Value) (news : List (Addr × Obj)) (s : Shared) (v : Value)
    (Q E : Value → Shared → Prop)
    (B : Below A₀ base outer h₀) (F : Fr h₀ L s.heap m) (X : (KK w.params).In h₀) (N : News h₀ L s.heap news) (T : Top q₀ LS mean mg mb h₀) (hk : cs.kind = .function) (hv : Ind v) (hn : v ≠ .none) (hd : dp + 12 < recursionLimit) (hu : un + 120 < cLine)
    (ret : ∀ h' tk' t1, (unitF v).length ≤ 50 → Fr h₀ L h' m → News h₀ L h' news → Q (.str (unitF v) t1) { s with heap := h', toks := tk' }),
    wpAny (model PySem.Challenge.rw_az6014_02.row.prog w) (ktrTop dp un gd cn cs L a ccd cl outer) (call (.ref 882) [v]) Q E s := by
  k_fill
  intros w mean mg mb dp un gd cn cs a ccd cl outer A₀ base h₀ L m news s
  intro v Q E B F X N T hk hv hn hd hu ret
  refine wpAny_call ?_
  rcases hv with _ | ⟨x1, t1, hl, hso⟩ | ⟨_ | _⟩ | ⟨n1, t2, ha, hb⟩
  · exact absurd rfl hn
  all_goals k_dflt cell_enter
  all_goals k_steps
  all_goals (refine' unit_end ret (by with_reducible assumption) (by with_reducible assumption) ?_ ?_)
  · rfl
  · exact Nat.le_trans hl (by decide)
  · exact mul_lt1 (by decide)
  · decide +kernel
  · exact mul_one
  · decide +kernel
  · rfl
  · exact mul_len2 1 (by decide +kernel) (by omega)
  · exact (mul_lt1 (by decide)).trans (mul_lt1 (by omega)).symm
  · decide +kernel

theorem pairI {v : Value} {lev : Int} (h : v ≠ .none) : Str.ofString "\n" ++ Txt.mul (unitF v) lev = sepI v lev := sepI_some h rfl
theorem pairE1 {v : Value} {lev x : Int} {b : Bool} (h : v ≠ .none) (hb : b = true) (e : x = lev - 1 ∨ x < 1 ∧ lev - 1 < 1) : Str.ofString ",\n" ++ Txt.mul (unitF v) x = sepE v b lev := by
  have e' : Txt.mul (unitF v) x = Txt.mul (unitF v) (lev - 1) := e.elim (fun e => by rw [e]) fun e => by rw [mul_lt1 e.1, mul_lt1 e.2]
  rw [← sepE_t h hb e', ← app_assoc]; rfl
theorem pairE2 {v : Value} {lev x : Int} {b : Bool} (h : v ≠ .none) (hb : b = false) (e : x = lev - 1 ∨ x < 1 ∧ lev - 1 < 1) : Str.ofString "\n" ++ Txt.mul (unitF v) x = sepE v b lev := by
  have e' : Txt.mul (unitF v) x = Txt.mul (unitF v) (lev - 1) := e.elim (fun e => by rw [e]) fun e => by rw [mul_lt1 e.1, mul_lt1 e.2]
  rw [← sepE_f h hb e', ← app_assoc]; rfl
theorem Ind.plain {v : Value} (h : Ind v) : PySem.plainIs v .none = true := by cases h <;> rfl
local macro_rules | `(tactic| walk_at "compareOp Is") => `(tactic| refine wpAny_is_other (by assumption) (by assumption) ?_)
local macro_rules | `(tactic| walk_at "call ref") => `(tactic| (k_here; k_dflt (refine' unit_call _ _ _ _ _ _ _ _ _ _ _ _ _ _ _ _ _ _ _ _ _ _ _ ?k1 ?k2 ?k3 ?k4 ?k5 ?k6 ?y0 ?y1 ?k7 ?k8 ?_; (case k1 => k_asm); (case k2 => k_asm); (case k3 => k_asm); (case k4 => k_asm); (case k5 => k_asm); (case k6 => first | exact rfl | assumption); (case y0 => assumption); (case y1 => assumption); (case k7 => ktr_room); (case k8 => ktr_units)); intro h9 tk9 t9 hu9 F9 N9; (try dsimp only); (try k_fold)))
set_option maxHeartbeats 8000000 in
theorem pair_call : ∀ (w : World) (mean : ExcName → Option Value) (mg mb : Str → Option Value) (dp un : Nat) (gd : Option (List Code)) (cn : Str) (cs : Scope) (a : Addr) (ccd : Value) (cl : List (Str × Addr)) (outer : List Env) (A₀ : Around) (base h₀ : Heap) (L : Addr) (m : Str → Option Value) (news : List (Addr × Obj)) (s : Shared) (v : Value) (b : Bool) (lev : Int) (t : Tok)
    (Q E : Value → Shared → Prop)
    (B : Below A₀ base outer h₀) (F : Fr h₀ L s.heap m) (X : (KK w.params).In h₀) (N : News h₀ L s.heap news) (T : Top q₀ LS mean mg mb h₀) (hk : cs.kind = .function) (hv : Ind v) (h0 : 0 ≤ lev) (h7 : lev ≤ 7) (hd : dp + 20 < recursionLimit) (hu : un + 300 < cLine)
    (ret : ∀ q h' tk' t1 t2, (∀ p ∈ news, p.1 < q) → Fr h₀ L h' m → News h₀ L h' ((q, tupO [.str (sepI v lev) t1, .str (sepE v b lev) t2]) :: news) → Q (.ref q) { s with heap := h', toks := tk' }),
    wpAny (model PySem.Challenge.rw_az6014_02.row.prog w) (ktrTop dp un gd cn cs L a ccd cl outer) (call (.ref 889) [v, .bool b, .int lev t]) Q E s := by
  k_fill
  intros w mean mg mb dp un gd cn cs a ccd cl outer A₀ base h₀ L m news s
  intro v b lev t Q E B F X N T hk hv h0 h7 hd hu ret
  refine wpAny_call ?_
  have hp : PySem.plainIs v .none = true := hv.plain
  by_cases hn : v = .none
  · subst hn
    k_dflt cell_enter
    k_steps
    exact pair_end ret (by with_reducible assumption) (by with_reducible assumption) (by with_reducible assumption) sepI_none sepE_none
  · k_dflt cell_enter
    k_steps
    all_goals (refine' pair_end ret (by with_reducible assumption) (by with_reducible assumption) (by with_reducible assumption) (pairI hn) ?_)
    all_goals first | exact pairE1 hn (by assumption) (.inl rfl) | exact pairE1 hn (by assumption) (.inr ⟨by decide, by omega⟩) | exact pairE2 hn (by assumption) (.inl rfl) | exact pairE2 hn (by assumption) (.inr ⟨by decide, by omega⟩)

end Mine

end
section
open PySem PySem.W PyProof.Rows PySem.Spec PySem.Calls
namespace Mine
inductive Cut (P : Params) : Value → Option (Str × Str) → Prop
  | none : Cut P .none none
  | some (ca : Addr) (i k : Str) (t u : Tok) : (KK P).lookup ca = some ⟨.type "tuple", none, .seq #[.str i t, .str k u] 0, #[]⟩ → Cut P (.ref ca) (some (i, k))
def itemOf (v : Value) : Option (Str × Str) → Str
  | none => if v = .none then Str.ofString ", " else Str.ofString ","
  | some p => p.1
def kvOf : Option (Str × Str) → Str
  | none => Str.ofString ": "
  | some p => p.2
theorem mod8 (x : Int) : 0 ≤ x.fmod 8 ∧ x.fmod 8 ≤ 7 := by
  rw [Int.fmod_eq_emod_of_nonneg x (by decide)]
  omega
theorem ind_ok {v : Value} (h : Ind v) : PyData.strOk (unitF v) = true := by
  cases h with
  | none => decide +kernel
  | str x t _ h => exact h
  | bool b => cases b <;> decide +kernel
  | int n t _ _ => exact ok_mul (by decide +kernel)
theorem sepI_ok {v : Value} {lev : Int} (h : Ind v) : PyData.strOk (sepI v lev) = true := by
  unfold sepI
  split
  · decide +kernel
  · exact ok_app (by decide +kernel) (ok_mul (ind_ok h))
theorem sepE_ok {v : Value} {b : Bool} {lev : Int} (h : Ind v) : PyData.strOk (sepE v b lev) = true := by
  unfold sepE
  split
  · decide +kernel
  · exact ok_app (by split <;> decide +kernel) (ok_app (by decide +kernel) (ok_mul (ind_ok h)))
theorem pair_shaped {v : Value} {b : Bool} {lev : Int} (h : Ind v) : SeqAt.shaped (PyData.tuple [PyData.str (sepI v lev), PyData.str (sepE v b lev)]) = true := by
  unfold SeqAt.shaped
  simp only [PyData.canLay0, PyData.canLayAll0, sepI_ok h, sepE_ok h, PyData.depth, PyData.depthAll]
  rfl
theorem holds_end {h₀ h' : Heap} {L : Addr} {m : Str → Option Value} {news : List (Addr × Obj)} {s : Shared} {Q : Value → Shared → Prop} {r : Bool} {tk' : Nat}
    (ret : ∀ h' tk', Fr h₀ L h' m → News h₀ L h' news → Q (.bool true) { s with heap := h', toks := tk' })
    (F : Fr h₀ L h' m) (N : News h₀ L h' news) (e : r = true) : Q (.bool r) { s with heap := h', toks := tk' } := by
  subst e
  exact ret h' tk' F N
theorem drop2 {g h : Heap} {L : Addr} {a b : Addr × Obj} {news} (N : News g L h (a :: b :: news)) : News g L h news := N.perm fun _ hp => List.Mem.tail _ (List.Mem.tail _ hp)
local macro_rules | `(tactic| k_mem) => `(tactic| first | (with_reducible assumption) | assumption | exact List.Mem.head _ | (refine' List.Mem.tail _ ?_; k_mem))
local macro_rules | `(tactic| k_get) => `(tactic| assumption)
local macro_rules | `(tactic| walk_at "compareOp Is") => `(tactic| refine wpAny_is_other (by assumption) (by assumption) ?_)
local macro_rules | `(tactic| walk_at "subscriptTail") => `(tactic| (k_here; (with_reducible show wpAny _ _ (subscriptTail _ _ (Value.ref _) (Value.int _ _)) _ _ _); k_dflt (refine' topTup_K ?F ?X ?l ?a ?b ?c ?d ?_; (case F => k_asm); (case X => k_asm); (case l => assumption); (case a => decide); (case b => decide); (case c => rfl); (case d => rfl); k_whole)))
local macro_rules | `(tactic| ked_shaped) => `(tactic| exact pair_shaped (by assumption))
local macro_rules | `(tactic| walk_at "call ref") => `(tactic| (k_here; k_dflt (refine' num_call _ _ _ _ _ _ _ _ _ _ _ _ _ _ _ _ _ _ _ _ _ _ _ _ _ _ _ ?k1 ?k2 ?k3 ?k4 ?k5 ?k6 ?y0 ?y1 ?y2 ?y3 ?y4 ?k7 ?k8 ?_; (case k1 => k_asm); (case k2 => k_asm); (case k3 => k_asm); (case k4 => k_asm); (case k5 => k_asm); (case k6 => first | exact rfl | assumption); (case y0 => k_asm); (case y1 => l_ints); (case y2 => l_fit); (case y3 => omega); (case y4 => omega); (case k7 => ktr_room); (case k8 => ktr_units)); intro t9 h9 tk9 F9 N9; (try dsimp only); (try k_fold)))
local macro_rules | `(tactic| walk_at "call ref") => `(tactic| (k_here; k_dflt (refine' spac_call _ _ _ _ _ _ _ _ _ _ _ _ _ _ _ _ _ _ _ _ _ _ _ _ _ _ _ _ _ _ _ _ ?k1 ?k2 ?k3 ?k4 ?k5 ?k6 ?y0 ?y1 ?y2 ?y3 ?y4 ?y5 ?k7 ?k8 ?_; (case k1 => k_asm); (case k2 => k_asm); (case k3 => k_asm); (case k4 => k_asm); (case k5 => k_asm); (case k6 => first | exact rfl | assumption); (case y0 => assumption); (case y1 => assumption); (case y2 => (first | with_reducible assumption | assumption | k_mem)); (case y3 => (first | with_reducible assumption | assumption | k_mem)); (case y4 => exact (mod8 _).1); (case y5 => exact (mod8 _).2); (case k7 => ktr_room); (case k8 => ktr_units)); intro q9 h9 tk9 t91 t92 l9 F9 N9; (try k_lt l9); (try dsimp only); (try k_fold)))
local macro_rules | `(tactic| walk_at "call ref") => `(tactic| (k_here; k_dflt (refine' pair_call _ _ _ _ _ _ _ _ _ _ _ _ _ _ _ _ _ _ _ _ _ _ _ _ _ _ ?k1 ?k2 ?k3 ?k4 ?k5 ?k6 ?y0 ?y1 ?y2 ?k7 ?k8 ?_; (case k1 => k_asm); (case k2 => k_asm); (case k3 => k_asm); (case k4 => k_asm); (case k5 => k_asm); (case k6 => first | exact rfl | assumption); (case y0 => assumption); (case y1 => exact (mod8 _).1); (case y2 => exact (mod8 _).2); (case k7 => ktr_room); (case k8 => ktr_units)); intro q9 h9 tk9 t91 t92 l9 F9 N9; (try k_lt l9); (try dsimp only); (try k_fold)))
set_option maxHeartbeats 8000000 in
theorem holds_call : ∀ (w : World) (mean : ExcName → Option Value) (mg mb : Str → Option Value) (dp un : Nat) (gd : Option (List Code)) (cn : Str) (cs : Scope) (a : Addr) (ccd : Value) (cl : List (Str × Addr)) (outer : List Env) (A₀ : Around) (base h₀ : Heap) (L : Addr) (m : Str → Option Value) (news : List (Addr × Obj)) (s : Shared) (x d : Addr) (es : List DictEntry) (n : Nat) (v : Value) (b : Bool) (c : Value) (o : Option (Str × Str)) (l : Addr) (vs : List Value) (ns : List Int) (p : Int) (t : Tok)
    (Q E : Value → Shared → Prop)
    (B : Below A₀ base outer h₀) (F : Fr h₀ L s.heap m) (X : (KK w.params).In h₀) (N : News h₀ L s.heap news) (T : Top q₀ LS mean mg mb h₀) (hk : cs.kind = .function) (hv : Ind v) (hc : Cut w.params c o) (hw : Wr es v b (itemOf v o) (kvOf o)) (hx : (x, instObj 845 d) ∈ news) (hdd : (d, dictOf es n) ∈ news) (hl : base.IsList l vs.toArray) (hi : IntsAre vs ns) (hfit : ns.length < 2 ^ 62) (h0 : 0 ≤ p) (h9 : p ≤ 9) (hd : dp + 40 < recursionLimit) (hu : un + 600 < cLine)
    (ret : ∀ h' tk', Fr h₀ L h' m → News h₀ L h' news → Q (.bool true) { s with heap := h', toks := tk' }),
    wpAny (model PySem.Challenge.rw_az6014_02.row.prog w) (ktrTop dp un gd cn cs L a ccd cl outer) (call (.ref 896) [.ref x, v, .bool b, c, .ref l, .int p t]) Q E s := by
  k_fill
  intros w mean mg mb dp un gd cn cs a ccd cl outer A₀ base h₀ L m news s
  intro x d es n v b c o l vs ns p t Q E B F X N T hk hv hc hw hx hdd hl hi hfit h0 h9 hd hu ret
  have hw' := hw
  obtain ⟨hw1, hw2, ⟨u1, hw3⟩, ⟨u2, hw4⟩, hw5⟩ := hw'
  have hp : PySem.plainIs v .none = true := hv.plain
  refine wpAny_call ?_
  rcases hc with _ | ⟨ca, i, k, t1, t2, hca⟩
  · by_cases hn : v = .none
    · subst hn
      k_dflt cell_enter
      k_steps
      exact holds_end ret (by with_reducible assumption) (drop2 (by with_reducible assumption)) (by decide +kernel)
    · have e : itemOf v none = Str.ofString "," := if_neg hn
      rw [e] at hw hw3
      k_dflt cell_enter
      k_steps
      exact holds_end ret (by with_reducible assumption) (drop2 (by with_reducible assumption)) (by decide +kernel)
  · change Wr es v b i k at hw
    change getL (Str.ofString "item_separator") es = some (some (.str i u1)) at hw3
    change getL (Str.ofString "kv_separator") es = some (some (.str k u2)) at hw4
    k_dflt cell_enter
    k_steps
    all_goals exact holds_end ret (by with_reducible assumption) (drop2 (by with_reducible assumption)) (beq_self_eq_true _)

end Mine

end
section
open PySem PySem.W PyProof.Rows PySem.Spec PySem.Calls
namespace Mine
set_option maxHeartbeats 8000000 in
theorem call_law : ∀ (w : World) (mean : ExcName → Option Value) (mg mb : Str → Option Value) (dp un : Nat) (gd : Option (List Code)) (cn : Str) (cs : Scope) (a : Addr) (ccd : Value) (cl : List (Str × Addr)) (outer : List Env) (A₀ : Around) (base h₀ : Heap) (L : Addr) (m : Str → Option Value) (news : List (Addr × Obj)) (s : Shared) (v : Value) (b : Bool) (c : Value) (o : Option (Str × Str))
    (Q E : Value → Shared → Prop)
    (B : Below A₀ base outer h₀) (F : Fr h₀ L s.heap m) (X : (KK w.params).In h₀) (N : News h₀ L s.heap news) (T : Top q₀ LS mean mg mb h₀) (hk : cs.kind = .function) (hv : Ind v) (hc : Cut w.params c o) (hd : dp + 12 < recursionLimit) (hu : un + 120 < cLine)
    (ret : ∀ x' d' h' tk' es n, Wr es v b (itemOf v o) (kvOf o) → (∀ p ∈ news, p.1 < d') → d' < x' → Fr h₀ L h' m → News h₀ L h' ((x', instObj 845 d') :: (d', dictOf es n) :: news) → Q (.ref x') { s with heap := h', toks := tk' }),
    wpAny (model PySem.Challenge.rw_az6014_02.row.prog w) (ktrTop dp un gd cn cs L a ccd cl outer) (call (.ref 845) [] [(Str.ofString "indent", v), (Str.ofString "trailing_commas", .bool b), (Str.ofString "separators", c)]) Q E s := by
  intros w mean mg mb dp un gd cn cs a ccd cl outer A₀ base h₀ L m news s
  intro v b c o Q E B F X N T hk hv hc hd hu ret
  rcases hc with _ | ⟨ca, i, k, t1, t2, hca⟩
  · by_cases hn : v = .none
    · subst hn
      exact call_none w mean mg mb dp un gd cn cs a ccd cl outer A₀ base h₀ L m news s b Q E B F X N T hk hd hu ret
    · have e : itemOf v none = Str.ofString "," := if_neg hn
      rw [e] at ret
      exact call_some w mean mg mb dp un gd cn cs a ccd cl outer A₀ base h₀ L m news s v b hv.plain hn Q E B F X N T hk hd hu ret
  · exact call_cut w mean mg mb dp un gd cn cs a ccd cl outer A₀ base h₀ L m news s v b ca i k t1 t2 hca Q E B F X N T hk hd hu ret

theorem cuts_item {prog : Program} {w : World} {A : Around} {E : Value → Shared → Prop} {s : Shared} {h₀ : Heap} {L : Addr} {m : Str → Option Value} {k : Int} {u : Tok} {value slice : PySem.Expr} {Q : Value → Shared → Prop} (F : Fr h₀ L s.heap m) (X : (KK w.params).In h₀)
    (h0 : 0 ≤ k) (h3 : k ≤ 3) (h : ∀ c o, Cut w.params c o → Q c s) (hs : ∀ k : Int, subscripted slice false (.ref 861) (.int k u) = operate [.ref 861, .int k u] (getItem (.ref 861) (.int k u)) := by intro k; with_unfolding_all rfl) : wpAny (model prog w) A (subscriptTail value slice (.ref 861) (.int k u)) Q E s := by
  have e : k = 0 ∨ k = 1 ∨ k = 2 ∨ k = 3 := by omega
  have c0 : Cut w.params .none none := .none
  have c1 := Cut.some (P := w.params) 858 _ _ _ _ rfl
  have c2 := Cut.some (P := w.params) 859 _ _ _ _ rfl
  have c3 := Cut.some (P := w.params) 860 _ _ _ _ rfl
  have hl : (KK w.params).lookup 861 = some ⟨.type "tuple", none, .seq [.none, .ref 858, .ref 859, .ref 860].toArray 0, #[]⟩ := rfl
  rcases e with rfl | rfl | rfl | rfl
  · exact topTup_K F X hl (by decide) (by decide) rfl rfl (h _ _ c0) (hs _)
  · exact topTup_K F X hl (by decide) (by decide) rfl rfl (h _ _ c1) (hs _)
  · exact topTup_K F X hl (by decide) (by decide) rfl rfl (h _ _ c2) (hs _)
  · exact topTup_K F X hl (by decide) (by decide) rfl rfl (h _ _ c3) (hs _)
theorem mod4 (x : Int) : 0 ≤ x.fmod 4 ∧ x.fmod 4 ≤ 3 := by
  rw [Int.fmod_eq_emod_of_nonneg x (by decide)]
  omega
end Mine

end
section
open PySem PySem.W PyProof.Rows PySem.Spec PySem.Calls
namespace Mine
local macro_rules | `(tactic| k_mem) => `(tactic| first | (with_reducible assumption) | assumption | exact List.Mem.head _ | (refine' List.Mem.tail _ ?_; k_mem))
local macro_rules | `(tactic| walk_at "subscriptTail") => `(tactic| (k_here; (with_reducible show wpAny _ _ (subscriptTail _ _ (Value.ref _) (Value.int _ _)) _ _ _); k_dflt (refine' cuts_item ?F ?X ?a ?b ?_; (case F => k_asm); (case X => k_asm); (case a => exact (mod4 _).1); (case b => exact (mod4 _).2); k_whole); intro c9 o9 hc9))
local macro_rules | `(tactic| walk_at "subscriptTail Name Name ref int") => `(tactic| (k_here; (with_reducible show wpAny _ _ (subscriptTail _ _ (Value.ref _) (Value.int _ _)) _ _ _); k_dflt (refine' item_litK ?k1 ?k2 ?k3 ?k4 ?_; (case k1 => exact News.isList (by k_asm) (by k_mem)); (case k2 => decide); (case k3 => decide); (case k4 => rfl); k_whole)))
local macro_rules | `(tactic| walk_at "subscriptTail Name Name") => `(tactic| (k_here; (with_reducible show wpAny _ _ (subscriptTail _ _ (Value.ref _) (Value.int _ _)) _ _ _); k_dflt (refine' item_litK ?k1 ?k2 ?k3 ?k4 ?_; (case k1 => exact News.isList (by k_asm) (by k_mem)); (case k2 => decide); (case k3 => decide); (case k4 => rfl); k_whole)))
local macro_rules | `(tactic| walk_at "subscriptTail Subscript Constant ref int") => `(tactic| (k_here; (with_reducible show wpAny _ _ (subscriptTail _ _ (Value.ref _) (Value.int _ _)) _ _ _); k_dflt (refine' item_tupleT ?t ?a ?b ?c ?d ?_; (case t => exact News.isTup (by k_asm) (by k_mem)); (case a => decide); (case b => decide); (case c => rfl); (case d => rfl); k_whole)))
local macro_rules | `(tactic| walk_at "subscriptTail Subscript Constant") => `(tactic| (k_here; (with_reducible show wpAny _ _ (subscriptTail _ _ (Value.ref _) (Value.int _ _)) _ _ _); k_dflt (refine' item_tupleT ?t ?a ?b ?c ?d ?_; (case t => exact News.isTup (by k_asm) (by k_mem)); (case a => decide); (case b => decide); (case c => rfl); (case d => rfl); k_whole)))
local macro_rules | `(tactic| walk_at "subscriptTail Subscript") => `(tactic| (k_here; (with_reducible show wpAny _ _ (subscriptTail _ _ (Value.ref _) (Value.int _ _)) _ _ _); k_dflt (refine' item_tupleT ?t ?a ?b ?c ?d ?_; (case t => exact News.isTup (by k_asm) (by k_mem)); (case a => decide); (case b => decide); (case c => rfl); (case d => rfl); k_whole)))
local macro_rules | `(tactic| passes_own) => `(tactic| assumption)
local macro_rules | `(tactic| walk_at "callWith ref") => `(tactic| (k_here; (with_reducible show wpAny _ _ (callWith _ (Value.ref 845) _ _ _) _ _ _); k_dflt (refine' callWith_KW0 ?k1 ?k2 ?k3 ?_; (case k1 => k_in); (case k2 => k_is); (case k3 => exact rfl); k_whole)))
local macro_rules | `(tactic| walk_at "call ref") => `(tactic| (k_here; k_dflt (refine' num_call _ _ _ _ _ _ _ _ _ _ _ _ _ _ _ _ _ _ _ _ _ _ _ _ _ _ _ ?k1 ?k2 ?k3 ?k4 ?k5 ?k6 ?y0 ?y1 ?y2 ?y3 ?y4 ?k7 ?k8 ?_; (case k1 => k_asm); (case k2 => k_asm); (case k3 => k_asm); (case k4 => k_asm); (case k5 => k_asm); (case k6 => first | exact rfl | assumption); (case y0 => k_asm); (case y1 => l_ints); (case y2 => l_fit); (case y3 => omega); (case y4 => omega); (case k7 => ktr_room); (case k8 => ktr_units)); intro t9 h9 tk9 F9 N9; (try dsimp only); (try k_fold)))
local macro_rules | `(tactic| walk_at "call ref") => `(tactic| (k_here; k_dflt (refine' indent_call _ _ _ _ _ _ _ _ _ _ _ _ _ _ _ _ _ _ _ _ _ _ _ _ ?k1 ?k2 ?k3 ?k4 ?k5 ?k6  ?k7 ?k8 ?_; (case k1 => k_asm); (case k2 => k_asm); (case k3 => k_asm); (case k4 => k_asm); (case k5 => k_asm); (case k6 => first | exact rfl | assumption);  (case k7 => ktr_room); (case k8 => ktr_units)); intro v9 h9 tk9 hv9 F9 N9; (try dsimp only); (try k_fold)))
local macro_rules | `(tactic| walk_at "call ref") => `(tactic| (k_here; k_dflt (refine' call_law _ _ _ _ _ _ _ _ _ _ _ _ _ _ _ _ _ _ _ _ _ _ _ _ _ _ ?k1 ?k2 ?k3 ?k4 ?k5 ?k6 ?y0 ?y1 ?k7 ?k8 ?_; (case k1 => k_asm); (case k2 => k_asm); (case k3 => k_asm); (case k4 => k_asm); (case k5 => k_asm); (case k6 => first | exact rfl | assumption); (case y0 => assumption); (case y1 => assumption); (case k7 => ktr_room); (case k8 => ktr_units)); intro x9 d9 h9 tk9 es9 n9 hw9 l9 m9 F9 N9; (try k_lt l9); (try k_lt2 m9); (try dsimp only); (try k_fold)))
local macro_rules | `(tactic| walk_at "call ref") => `(tactic| (k_here; k_dflt (refine' holds_call _ _ _ _ _ _ _ _ _ _ _ _ _ _ _ _ _ _ _ _ _ _ _ _ _ _ _ _ _ _ _ _ _ _ _ ?k1 ?k2 ?k3 ?k4 ?k5 ?k6 ?y0 ?y1 ?y2 ?y3 ?y4 ?y5 ?y6 ?y7 ?y8 ?y9 ?k7 ?k8 ?_; (case k1 => k_asm); (case k2 => k_asm); (case k3 => k_asm); (case k4 => k_asm); (case k5 => k_asm); (case k6 => first | exact rfl | assumption); (case y0 => assumption); (case y1 => assumption); (case y2 => assumption); (case y3 => (first | with_reducible assumption | assumption | k_mem)); (case y4 => (first | with_reducible assumption | assumption | k_mem)); (case y5 => k_asm); (case y6 => l_ints); (case y7 => l_fit); (case y8 => decide); (case y9 => decide); (case k7 => ktr_room); (case k8 => ktr_units)); intro h9 tk9 F9 N9; (try dsimp only); (try k_fold)))
abbrev bX {st : Stmt} {n : Str} {a : Arguments} {b : List Stmt} {ds : List PySem.Expr} {re : Option PySem.Expr} {tp : List TypeParam} {sc : Scope} {ts : Option Scope} {bd : Str} {ps : Pos} (_ : st = .FunctionDef n a b ds re tp sc ts bd ps) : List Stmt := b
abbrev sX {st : Stmt} {n : Str} {a : Arguments} {b : List Stmt} {ds : List PySem.Expr} {re : Option PySem.Expr} {tp : List TypeParam} {sc : Scope} {ts : Option Scope} {bd : Str} {ps : Pos} (_ : st = .FunctionDef n a b ds re tp sc ts bd ps) : Scope := sc
set_option maxHeartbeats 8000000 in
theorem law_body : ∀ (w : World) (mean : ExcName → Option Value) (mg mb : Str → Option Value) (h₀ : Heap) (L fa cd : Addr) (s : Shared) (l : Addr) (vs : List Value) (ns : List Int) (Q : Flow → Shared → Prop) (E : Value → Shared → Prop)
    (B : Below callerA h₀ [] h₀) (F : Fr h₀ L s.heap (fun x => List.lookup x [(Str.ofString "script", Value.ref l)].reverse)) (X : (KK w.params).In h₀) (N : News h₀ L s.heap []) (T : Top q₀ LS mean mg mb h₀) (hl : h₀.IsList l vs.toArray) (hi : IntsAre vs ns) (hfit : ns.length ≤ 63)
    (hE : PassesOwn (model PySem.Challenge.rw_az6014_02.row.prog w) (callerA.deeper (envOf (Str.ofString "law") (sX (st := sAt 26) rfl) L fa (.ref cd))) (envOf (Str.ofString "law") (sX (st := sAt 26) rfl) L fa (.ref cd)) E)
    (ret : ∀ h' tk' m' news', Fr h₀ L h' m' → News h₀ L h' news' → Q (.ret (.bool true)) { s with heap := h', toks := tk' }),
    wpAny (model PySem.Challenge.rw_az6014_02.row.prog w) (callerA.deeper (envOf (Str.ofString "law") (sX (st := sAt 26) rfl) L fa (.ref cd))) (execs (bX (st := sAt 26) rfl) (envOf (Str.ofString "law") (sX (st := sAt 26) rfl) L fa (.ref cd))) Q E s := by
  k_fill
  intro w mean mg mb h₀ L fa cd s l vs ns Q E B F X N T hl hi hfit hE ret
  dsimp only [bX, sX] at hE ⊢
  k_steps
  dsimp only
  exact ret _ _ _ _ (by k_asm) (by k_asm)
end Mine

end
open PySem PySem.W PyProof.Rows PySem.Spec PySem.Calls
set_option maxHeartbeats 8000000 in
theorem PySem.Challenge.cw_az6014_02_holds : PySem.Challenge.rw_az6014_02.Holds := by
  refine' Mine.hd ?h1 ?h2 ?h3 ?h4
  case h1 => rfl
  case h2 => rfl
  case h3 => rfl
  k_go0
  dsimp only
  refine Mine.law_body _ _ _ _ _ _ _ _ _ _ _ _ _ _ (by assumption) (by assumption) (by assumption) (by assumption) (by assumption) (by assumption) (by assumption) (by omega) (by passes_own) ?_
  intro h9 tk9 m9 news9 F9 N9
  wrow_close

